import JvmDerived
import JvmDerived.Pilot.@@N@@Statement
import JvmDerived.Pilot.@@N@@Code
set_option linter.unusedVariables false
set_option linter.unusedSimpArgs false
namespace Jvm.Pilot.@@N@@
open Jvm Jvm.ClassFile Sem Op Lib Jvm.Free Jvm.Stand Jvm.LawKit Jvm.RoadKit Bundle Jvm.Pilot.@@N@@.Jvm.D
section OwnKit
variable {p : Program} {l : Launch} {e : Env} {R : Room} {s : State} {m : MethodId} {args : Array Value} {below : List Frame} {meth : Method} {c : Code} {T : State} {locs : List Loc} {cells slots : Nat} {Z : State} {a0 : Array Value} {h : Heap} {G : Outcome → State → Prop}
def oGo (p : Program) (e : Env) (below : List Frame) (G : Outcome → State → Prop) (T : State) (f : JFrame) : Prop :=
  ∃ s₂ o, Steps p.tables e below (T.setTop f) s₂ ∧ s₂.status = .running ∧ Ended s₂ below o ∧ G o s₂
theorem oGo.step {T' : State} {f f' : JFrame} (st : ∀ t, Steps p.tables e below (T'.setTop f') t → Steps p.tables e below (T.setTop f) t) (k : oGo p e below G T' f') : oGo p e below G T f := by
  obtain ⟨s₂, o, h1, h2⟩ := k
  exact ⟨s₂, o, st _ h1, h2⟩
def oG (s : State) (Q : Option Value → Heap → List Loc → Prop) (C N : Nat) : Outcome → State → Prop := fun o U' => ∃ v L, o = .returned v ∧ Q v U'.heap L ∧ FrameEnd s o U' L C N
def oCon (l : Launch) (Z : State) (y : MethodName) (bytes : ByteArray) (maxL : Nat) (ret : Option FieldType) (rm : Room) (as' : Array Value) (h : Heap) (Q : Option Value → Heap → List Loc → Prop) : Prop :=
  ∀ ws, MetFree l y (head1 (Jvm.Cond.code y bytes maxL ret :: ws) rm) (fun a U => a = as' ∧ Z.Warmed39 U.vm ∧ U.heap = h) (fun _ _ _ _ _ => True) (fun _ U o U' => ∃ v L, o = .returned v ∧ Q v U'.heap L ∧ FrameEnd U o U' L rm.cells rm.slots)
theorem oCon.of {y : MethodName} {bytes : ByteArray} {maxL : Nat} {ret : Option FieldType} {rm : Room} {as' : Array Value} {Q : Option Value → Heap → List Loc → Prop} (hpn : plainFor y = true)
    (body : ∀ p e s m below meth c s₁, p.tables.exec = Jvm.exec → c.code = bytes → c.maxLocals = maxL → s.vm.findClass y.cls = some m.cls → meth.name = y.name → meth.sig.returnType = ret → meth.locks = false → Z.Warmed39 s.vm → Stand p l e rm s m as' below meth c s₁ [] 0 0 → s₁.heap = h → oGo p e below (oG s Q rm.cells rm.slots) s₁ (entryFrame m as' maxL)) :
    oCon l Z y bytes maxL ret rm as' h Q := by
  intro ws
  refine MetFree.of_bodySF hpn hisR ?_
  intro p e s m args below meth c s₁ Bd hml0 hP hK
  obtain ⟨rfl, hZ, hh⟩ := hP
  exact body p e s m below meth c s₁ Bd.exec Bd.bytes hml0 (findClass_of_methodNamed Bd.named) (name_of_methodNamed Bd.named Bd.method).1 Bd.returns (BodyLoose.notSynchronized Bd) hZ (Stand.of_body Bd) (by rw [← hh, Bd.state]; rfl)
theorem o_iloadN (X : Stand p l e R s m args below meth c T locs cells slots) (hx : p.tables.exec = Jvm.exec) {pc pc' : Nat} {Ls : Array Slot} {st : List Value} {k : Fin 4} {v : Int32} (hd : decode c.code pc = .ok (.iload_n k, 1)) (hl : Ls[k.val]? = some (.val (.int v))) (hp : pc + 1 = pc') (q : oGo p e below G T (mkF m pc' Ls (.int v :: st))) : oGo p e below G T (mkF m pc Ls (st)) := by
  subst hp; exact q.step fun t r => XS.iloadN X.here hx rfl hd hl r
theorem o_iload (X : Stand p l e R s m args below meth c T locs cells slots) (hx : p.tables.exec = Jvm.exec) {pc pc' : Nat} {Ls : Array Slot} {st : List Value} {k : Nat} {v : Int32} (hd : decode c.code pc = .ok (.iload k, 2)) (hl : Ls[k]? = some (.val (.int v))) (hp : pc + 2 = pc') (q : oGo p e below G T (mkF m pc' Ls (.int v :: st))) : oGo p e below G T (mkF m pc Ls (st)) := by
  subst hp; exact q.step fun t r => XS.iload X.here hx rfl hd hl r
theorem o_istoreN (X : Stand p l e R s m args below meth c T locs cells slots) (hx : p.tables.exec = Jvm.exec) {pc pc' : Nat} {Ls : Array Slot} {st : List Value} {k : Fin 4} {v : Int32} {l' : Array Slot} (hd : decode c.code pc = .ok (.istore_n k, 1)) (hl : storeLocals Ls k.val (.int v) = some l') (hp : pc + 1 = pc') (q : oGo p e below G T (mkF m pc' l' (st))) : oGo p e below G T (mkF m pc Ls (.int v :: st)) := by
  subst hp; exact q.step fun t r => XS.istoreN X.here hx rfl hd rfl hl r
theorem o_istore (X : Stand p l e R s m args below meth c T locs cells slots) (hx : p.tables.exec = Jvm.exec) {pc pc' : Nat} {Ls : Array Slot} {st : List Value} {k : Nat} {v : Int32} {l' : Array Slot} (hd : decode c.code pc = .ok (.istore k, 2)) (hl : storeLocals Ls k (.int v) = some l') (hp : pc + 2 = pc') (q : oGo p e below G T (mkF m pc' l' (st))) : oGo p e below G T (mkF m pc Ls (.int v :: st)) := by
  subst hp; exact q.step fun t r => XS.istore X.here hx rfl hd rfl hl r
theorem o_lloadN (X : Stand p l e R s m args below meth c T locs cells slots) (hx : p.tables.exec = Jvm.exec) {pc pc' : Nat} {Ls : Array Slot} {st : List Value} {k : Fin 4} {v : Int64} (hd : decode c.code pc = .ok (.lload_n k, 1)) (hl : Ls[k.val]? = some (.val (.long v))) (hp : pc + 1 = pc') (q : oGo p e below G T (mkF m pc' Ls (.long v :: st))) : oGo p e below G T (mkF m pc Ls (st)) := by
  subst hp; exact q.step fun t r => XT.lloadN X.here hx rfl hd hl r
theorem o_lload (X : Stand p l e R s m args below meth c T locs cells slots) (hx : p.tables.exec = Jvm.exec) {pc pc' : Nat} {Ls : Array Slot} {st : List Value} {k : Nat} {v : Int64} (hd : decode c.code pc = .ok (.lload k, 2)) (hl : Ls[k]? = some (.val (.long v))) (hp : pc + 2 = pc') (q : oGo p e below G T (mkF m pc' Ls (.long v :: st))) : oGo p e below G T (mkF m pc Ls (st)) := by
  subst hp; exact q.step fun t r => XT.lload X.here hx rfl hd hl r
theorem o_lstoreN (X : Stand p l e R s m args below meth c T locs cells slots) (hx : p.tables.exec = Jvm.exec) {pc pc' : Nat} {Ls : Array Slot} {st : List Value} {k : Fin 4} {v : Int64} {l' : Array Slot} (hd : decode c.code pc = .ok (.lstore_n k, 1)) (hl : storeLocals Ls k.val (.long v) = some l') (hp : pc + 1 = pc') (q : oGo p e below G T (mkF m pc' l' (st))) : oGo p e below G T (mkF m pc Ls (.long v :: st)) := by
  subst hp; exact q.step fun t r => XT.lstoreN X.here hx rfl hd rfl hl r
theorem o_lstore (X : Stand p l e R s m args below meth c T locs cells slots) (hx : p.tables.exec = Jvm.exec) {pc pc' : Nat} {Ls : Array Slot} {st : List Value} {k : Nat} {v : Int64} {l' : Array Slot} (hd : decode c.code pc = .ok (.lstore k, 2)) (hl : storeLocals Ls k (.long v) = some l') (hp : pc + 2 = pc') (q : oGo p e below G T (mkF m pc' l' (st))) : oGo p e below G T (mkF m pc Ls (.long v :: st)) := by
  subst hp; exact q.step fun t r => XT.lstore X.here hx rfl hd rfl hl r
theorem o_aloadN (X : Stand p l e R s m args below meth c T locs cells slots) (hx : p.tables.exec = Jvm.exec) {pc pc' : Nat} {Ls : Array Slot} {st : List Value} {k : Fin 4} {v : Value} (hd : decode c.code pc = .ok (.aload_n k, 1)) (hl : Ls[k.val]? = some (.val v)) (hv : v.isRef = true) (hp : pc + 1 = pc') (q : oGo p e below G T (mkF m pc' Ls (v :: st))) : oGo p e below G T (mkF m pc Ls (st)) := by
  subst hp; exact q.step fun t r => XS.aloadN X.here hx rfl hd hl hv r
theorem o_aload (X : Stand p l e R s m args below meth c T locs cells slots) (hx : p.tables.exec = Jvm.exec) {pc pc' : Nat} {Ls : Array Slot} {st : List Value} {k : Nat} {v : Value} (hd : decode c.code pc = .ok (.aload k, 2)) (hl : Ls[k]? = some (.val v)) (hv : v.isRef = true) (hp : pc + 2 = pc') (q : oGo p e below G T (mkF m pc' Ls (v :: st))) : oGo p e below G T (mkF m pc Ls (st)) := by
  subst hp; exact q.step fun t r => XS.aload X.here hx rfl hd hl hv r
theorem o_astoreN (X : Stand p l e R s m args below meth c T locs cells slots) (hx : p.tables.exec = Jvm.exec) {pc pc' : Nat} {Ls : Array Slot} {st : List Value} {k : Fin 4} {v : Value} {l' : Array Slot} (hd : decode c.code pc = .ok (.astore_n k, 1)) (hv : v.isRef = true) (hl : storeLocals Ls k.val v = some l') (hp : pc + 1 = pc') (q : oGo p e below G T (mkF m pc' l' (st))) : oGo p e below G T (mkF m pc Ls (v :: st)) := by
  subst hp; exact q.step fun t r => XS.astoreN X.here hx rfl hd rfl hv hl r
theorem o_astore (X : Stand p l e R s m args below meth c T locs cells slots) (hx : p.tables.exec = Jvm.exec) {pc pc' : Nat} {Ls : Array Slot} {st : List Value} {k : Nat} {v : Value} {l' : Array Slot} (hd : decode c.code pc = .ok (.astore k, 2)) (hv : v.isRef = true) (hl : storeLocals Ls k v = some l') (hp : pc + 2 = pc') (q : oGo p e below G T (mkF m pc' l' (st))) : oGo p e below G T (mkF m pc Ls (v :: st)) := by
  subst hp; exact q.step fun t r => XS.astore X.here hx rfl hd rfl hv hl r
theorem o_iconst (X : Stand p l e R s m args below meth c T locs cells slots) (hx : p.tables.exec = Jvm.exec) {pc pc' : Nat} {Ls : Array Slot} {st : List Value} {i : Int} (v : Int32) (hd : decode c.code pc = .ok (.iconst i, 1)) (hv : Int32.ofInt i = v) (hp : pc + 1 = pc') (q : oGo p e below G T (mkF m pc' Ls (.int v :: st))) : oGo p e below G T (mkF m pc Ls (st)) := by
  subst hp; exact q.step fun t r => XT.iconstV X.here hx rfl v hd hv r
theorem o_bipush (X : Stand p l e R s m args below meth c T locs cells slots) (hx : p.tables.exec = Jvm.exec) {pc pc' : Nat} {Ls : Array Slot} {st : List Value} {i : Int} (v : Int32) (hd : decode c.code pc = .ok (.bipush i, 2)) (hv : (Int8.ofInt i).toInt32 = v) (hp : pc + 2 = pc') (q : oGo p e below G T (mkF m pc' Ls (.int v :: st))) : oGo p e below G T (mkF m pc Ls (st)) := by
  subst hp; exact q.step fun t r => XT.bipushV X.here hx rfl v hd hv r
theorem o_sipush (X : Stand p l e R s m args below meth c T locs cells slots) (hx : p.tables.exec = Jvm.exec) {pc pc' : Nat} {Ls : Array Slot} {st : List Value} {i : Int} (v : Int32) (hd : decode c.code pc = .ok (.sipush i, 3)) (hv : (Int16.ofInt i).toInt32 = v) (hp : pc + 3 = pc') (q : oGo p e below G T (mkF m pc' Ls (.int v :: st))) : oGo p e below G T (mkF m pc Ls (st)) := by
  subst hp; exact q.step fun t r => XT.sipushV X.here hx rfl v hd hv r
theorem o_lconst (X : Stand p l e R s m args below meth c T locs cells slots) (hx : p.tables.exec = Jvm.exec) {pc pc' : Nat} {Ls : Array Slot} {st : List Value} {k : Fin 2} (v : Int64) (hd : decode c.code pc = .ok (.lconst k, 1)) (hv : Int64.ofNat k = v) (hp : pc + 1 = pc') (q : oGo p e below G T (mkF m pc' Ls (.long v :: st))) : oGo p e below G T (mkF m pc Ls (st)) := by
  subst hp; exact q.step fun t r => XT.lconstV X.here hx rfl v hd hv r
theorem o_anull (X : Stand p l e R s m args below meth c T locs cells slots) (hx : p.tables.exec = Jvm.exec) {pc pc' : Nat} {Ls : Array Slot} {st : List Value} (hd : decode c.code pc = .ok (.aconst_null, 1)) (hp : pc + 1 = pc') (q : oGo p e below G T (mkF m pc' Ls (.null :: st))) : oGo p e below G T (mkF m pc Ls (st)) := by
  subst hp; exact q.step fun t r => XS.aconstNull X.here hx rfl hd r
theorem o_ldc (X : Stand p l e R s m args below meth c T locs cells slots) (hx : p.tables.exec = Jvm.exec) {pc pc' : Nat} {Ls : Array Slot} {st : List Value} {own : String} {index : Nat} {v : Int32} (hZ : Z.Warmed39 s.vm) (hown : s.vm.findClass own = some m.cls) (w : (Jvm.Cond.constant own index v).before a0 Z = true) (hd : decode c.code pc = .ok (.ldc index, 2)) (hp : pc + 2 = pc') (q : oGo p e below G T (mkF m pc' Ls (.int v :: st))) : oGo p e below G T (mkF m pc Ls (st)) := by
  subst hp; exact q.step fun t r => X.ldcI hx hown (mvT hZ w) rfl hd r
theorem o_ldcw (X : Stand p l e R s m args below meth c T locs cells slots) (hx : p.tables.exec = Jvm.exec) {pc pc' : Nat} {Ls : Array Slot} {st : List Value} {own : String} {index : Nat} {v : Int32} (hZ : Z.Warmed39 s.vm) (hown : s.vm.findClass own = some m.cls) (w : (Jvm.Cond.constant own index v).before a0 Z = true) (hd : decode c.code pc = .ok (.ldc_w index, 3)) (hp : pc + 3 = pc') (q : oGo p e below G T (mkF m pc' Ls (.int v :: st))) : oGo p e below G T (mkF m pc Ls (st)) := by
  subst hp; exact q.step fun t r => X.ldcWI hx hown (mvT hZ w) rfl hd r
theorem o_ldc2 (X : Stand p l e R s m args below meth c T locs cells slots) (hx : p.tables.exec = Jvm.exec) {pc pc' : Nat} {Ls : Array Slot} {st : List Value} {own : String} {index : Nat} {v : Int64} (hZ : Z.Warmed39 s.vm) (hown : s.vm.findClass own = some m.cls) (w : (Jvm.Cond.constantLong own index v).before a0 Z = true) (hd : decode c.code pc = .ok (.ldc2_w index, 3)) (hp : pc + 3 = pc') (q : oGo p e below G T (mkF m pc' Ls (.long v :: st))) : oGo p e below G T (mkF m pc Ls (st)) := by
  subst hp; exact q.step fun t r => X.ldc2J hx hown (mvT hZ w) rfl hd r
theorem o_iadd (X : Stand p l e R s m args below meth c T locs cells slots) (hx : p.tables.exec = Jvm.exec) {pc pc' : Nat} {Ls : Array Slot} {st : List Value} {x y : Int32} (hd : decode c.code pc = .ok (.iadd, 1)) (hp : pc + 1 = pc') (q : oGo p e below G T (mkF m pc' Ls (.int (x + y) :: st))) : oGo p e below G T (mkF m pc Ls (.int y :: .int x :: st)) := by
  subst hp; exact q.step fun t r => XS.iadd X.here hx rfl hd rfl r
theorem o_isub (X : Stand p l e R s m args below meth c T locs cells slots) (hx : p.tables.exec = Jvm.exec) {pc pc' : Nat} {Ls : Array Slot} {st : List Value} {x y : Int32} (hd : decode c.code pc = .ok (.isub, 1)) (hp : pc + 1 = pc') (q : oGo p e below G T (mkF m pc' Ls (.int (x - y) :: st))) : oGo p e below G T (mkF m pc Ls (.int y :: .int x :: st)) := by
  subst hp; exact q.step fun t r => XS.isub X.here hx rfl hd rfl r
theorem o_imul (X : Stand p l e R s m args below meth c T locs cells slots) (hx : p.tables.exec = Jvm.exec) {pc pc' : Nat} {Ls : Array Slot} {st : List Value} {x y : Int32} (hd : decode c.code pc = .ok (.imul, 1)) (hp : pc + 1 = pc') (q : oGo p e below G T (mkF m pc' Ls (.int (x * y) :: st))) : oGo p e below G T (mkF m pc Ls (.int y :: .int x :: st)) := by
  subst hp; exact q.step fun t r => XS.imul X.here hx rfl hd rfl r
theorem o_iand (X : Stand p l e R s m args below meth c T locs cells slots) (hx : p.tables.exec = Jvm.exec) {pc pc' : Nat} {Ls : Array Slot} {st : List Value} {x y : Int32} (hd : decode c.code pc = .ok (.iand, 1)) (hp : pc + 1 = pc') (q : oGo p e below G T (mkF m pc' Ls (.int (x &&& y) :: st))) : oGo p e below G T (mkF m pc Ls (.int y :: .int x :: st)) := by
  subst hp; exact q.step fun t r => XS.iand X.here hx rfl hd rfl r
theorem o_ior (X : Stand p l e R s m args below meth c T locs cells slots) (hx : p.tables.exec = Jvm.exec) {pc pc' : Nat} {Ls : Array Slot} {st : List Value} {x y : Int32} (hd : decode c.code pc = .ok (.ior, 1)) (hp : pc + 1 = pc') (q : oGo p e below G T (mkF m pc' Ls (.int (x ||| y) :: st))) : oGo p e below G T (mkF m pc Ls (.int y :: .int x :: st)) := by
  subst hp; exact q.step fun t r => XT.ior X.here hx rfl hd rfl r
theorem o_ixor (X : Stand p l e R s m args below meth c T locs cells slots) (hx : p.tables.exec = Jvm.exec) {pc pc' : Nat} {Ls : Array Slot} {st : List Value} {x y : Int32} (hd : decode c.code pc = .ok (.ixor, 1)) (hp : pc + 1 = pc') (q : oGo p e below G T (mkF m pc' Ls (.int (x ^^^ y) :: st))) : oGo p e below G T (mkF m pc Ls (.int y :: .int x :: st)) := by
  subst hp; exact q.step fun t r => XT.ixor X.here hx rfl hd rfl r
theorem o_ishl (X : Stand p l e R s m args below meth c T locs cells slots) (hx : p.tables.exec = Jvm.exec) {pc pc' : Nat} {Ls : Array Slot} {st : List Value} {x y : Int32} (hd : decode c.code pc = .ok (.ishl, 1)) (hp : pc + 1 = pc') (q : oGo p e below G T (mkF m pc' Ls (.int (x <<< (y &&& 31)) :: st))) : oGo p e below G T (mkF m pc Ls (.int y :: .int x :: st)) := by
  subst hp; exact q.step fun t r => XT.ishl X.here hx rfl hd rfl r
theorem o_ishr (X : Stand p l e R s m args below meth c T locs cells slots) (hx : p.tables.exec = Jvm.exec) {pc pc' : Nat} {Ls : Array Slot} {st : List Value} {x y : Int32} (hd : decode c.code pc = .ok (.ishr, 1)) (hp : pc + 1 = pc') (q : oGo p e below G T (mkF m pc' Ls (.int (x >>> (y &&& 31)) :: st))) : oGo p e below G T (mkF m pc Ls (.int y :: .int x :: st)) := by
  subst hp; exact q.step fun t r => XT.ishr X.here hx rfl hd rfl r
theorem o_iushr (X : Stand p l e R s m args below meth c T locs cells slots) (hx : p.tables.exec = Jvm.exec) {pc pc' : Nat} {Ls : Array Slot} {st : List Value} {x y : Int32} (hd : decode c.code pc = .ok (.iushr, 1)) (hp : pc + 1 = pc') (q : oGo p e below G T (mkF m pc' Ls (.int (XT.ushr x y) :: st))) : oGo p e below G T (mkF m pc Ls (.int y :: .int x :: st)) := by
  subst hp; exact q.step fun t r => XT.iushr X.here hx rfl hd rfl r
theorem o_ladd (X : Stand p l e R s m args below meth c T locs cells slots) (hx : p.tables.exec = Jvm.exec) {pc pc' : Nat} {Ls : Array Slot} {st : List Value} {x y : Int64} (hd : decode c.code pc = .ok (.ladd, 1)) (hp : pc + 1 = pc') (q : oGo p e below G T (mkF m pc' Ls (.long (x + y) :: st))) : oGo p e below G T (mkF m pc Ls (.long y :: .long x :: st)) := by
  subst hp; exact q.step fun t r => XT.ladd X.here hx rfl hd rfl r
theorem o_lsub (X : Stand p l e R s m args below meth c T locs cells slots) (hx : p.tables.exec = Jvm.exec) {pc pc' : Nat} {Ls : Array Slot} {st : List Value} {x y : Int64} (hd : decode c.code pc = .ok (.lsub, 1)) (hp : pc + 1 = pc') (q : oGo p e below G T (mkF m pc' Ls (.long (x - y) :: st))) : oGo p e below G T (mkF m pc Ls (.long y :: .long x :: st)) := by
  subst hp; exact q.step fun t r => XT.lsub X.here hx rfl hd rfl r
theorem o_lmul (X : Stand p l e R s m args below meth c T locs cells slots) (hx : p.tables.exec = Jvm.exec) {pc pc' : Nat} {Ls : Array Slot} {st : List Value} {x y : Int64} (hd : decode c.code pc = .ok (.lmul, 1)) (hp : pc + 1 = pc') (q : oGo p e below G T (mkF m pc' Ls (.long (x * y) :: st))) : oGo p e below G T (mkF m pc Ls (.long y :: .long x :: st)) := by
  subst hp; exact q.step fun t r => XT.lmul X.here hx rfl hd rfl r
theorem o_land (X : Stand p l e R s m args below meth c T locs cells slots) (hx : p.tables.exec = Jvm.exec) {pc pc' : Nat} {Ls : Array Slot} {st : List Value} {x y : Int64} (hd : decode c.code pc = .ok (.land, 1)) (hp : pc + 1 = pc') (q : oGo p e below G T (mkF m pc' Ls (.long (x &&& y) :: st))) : oGo p e below G T (mkF m pc Ls (.long y :: .long x :: st)) := by
  subst hp; exact q.step fun t r => XT.land X.here hx rfl hd rfl r
theorem o_lor (X : Stand p l e R s m args below meth c T locs cells slots) (hx : p.tables.exec = Jvm.exec) {pc pc' : Nat} {Ls : Array Slot} {st : List Value} {x y : Int64} (hd : decode c.code pc = .ok (.lor, 1)) (hp : pc + 1 = pc') (q : oGo p e below G T (mkF m pc' Ls (.long (x ||| y) :: st))) : oGo p e below G T (mkF m pc Ls (.long y :: .long x :: st)) := by
  subst hp; exact q.step fun t r => XT.lor X.here hx rfl hd rfl r
theorem o_lxor (X : Stand p l e R s m args below meth c T locs cells slots) (hx : p.tables.exec = Jvm.exec) {pc pc' : Nat} {Ls : Array Slot} {st : List Value} {x y : Int64} (hd : decode c.code pc = .ok (.lxor, 1)) (hp : pc + 1 = pc') (q : oGo p e below G T (mkF m pc' Ls (.long (x ^^^ y) :: st))) : oGo p e below G T (mkF m pc Ls (.long y :: .long x :: st)) := by
  subst hp; exact q.step fun t r => XT.lxor X.here hx rfl hd rfl r
theorem o_lshl (X : Stand p l e R s m args below meth c T locs cells slots) (hx : p.tables.exec = Jvm.exec) {pc pc' : Nat} {Ls : Array Slot} {st : List Value} {x : Int64} {y : Int32} (hd : decode c.code pc = .ok (.lshl, 1)) (hp : pc + 1 = pc') (q : oGo p e below G T (mkF m pc' Ls (.long (x <<< (y.toInt64 &&& 63)) :: st))) : oGo p e below G T (mkF m pc Ls (.int y :: .long x :: st)) := by
  subst hp; exact q.step fun t r => XT.lshl X.here hx rfl hd rfl r
theorem o_lshr (X : Stand p l e R s m args below meth c T locs cells slots) (hx : p.tables.exec = Jvm.exec) {pc pc' : Nat} {Ls : Array Slot} {st : List Value} {x : Int64} {y : Int32} (hd : decode c.code pc = .ok (.lshr, 1)) (hp : pc + 1 = pc') (q : oGo p e below G T (mkF m pc' Ls (.long (x >>> (y.toInt64 &&& 63)) :: st))) : oGo p e below G T (mkF m pc Ls (.int y :: .long x :: st)) := by
  subst hp; exact q.step fun t r => XT.lshr X.here hx rfl hd rfl r
theorem o_lushr (X : Stand p l e R s m args below meth c T locs cells slots) (hx : p.tables.exec = Jvm.exec) {pc pc' : Nat} {Ls : Array Slot} {st : List Value} {x : Int64} {y : Int32} (hd : decode c.code pc = .ok (.lushr, 1)) (hp : pc + 1 = pc') (q : oGo p e below G T (mkF m pc' Ls (.long (XT.ushrL x y) :: st))) : oGo p e below G T (mkF m pc Ls (.int y :: .long x :: st)) := by
  subst hp; exact q.step fun t r => XT.lushr X.here hx rfl hd rfl r
theorem o_lcmp (X : Stand p l e R s m args below meth c T locs cells slots) (hx : p.tables.exec = Jvm.exec) {pc pc' : Nat} {Ls : Array Slot} {st : List Value} {x y : Int64} (hd : decode c.code pc = .ok (.lcmp, 1)) (hp : pc + 1 = pc') (q : oGo p e below G T (mkF m pc' Ls (.int (XT.cmpL x y) :: st))) : oGo p e below G T (mkF m pc Ls (.long y :: .long x :: st)) := by
  subst hp; exact q.step fun t r => XT.lcmp X.here hx rfl hd rfl r
theorem o_irem (X : Stand p l e R s m args below meth c T locs cells slots) (hx : p.tables.exec = Jvm.exec) {pc pc' : Nat} {Ls : Array Slot} {st : List Value} {x y : Int32} (hd : decode c.code pc = .ok (.irem, 1)) (hy : y ≠ 0) (hp : pc + 1 = pc') (q : oGo p e below G T (mkF m pc' Ls (.int (x % y) :: st))) : oGo p e below G T (mkF m pc Ls (.int y :: .int x :: st)) := by
  subst hp; exact q.step fun t r => iremM X hx rfl hd rfl hy r
theorem o_lrem (X : Stand p l e R s m args below meth c T locs cells slots) (hx : p.tables.exec = Jvm.exec) {pc pc' : Nat} {Ls : Array Slot} {st : List Value} {x y : Int64} (hd : decode c.code pc = .ok (.lrem, 1)) (hy : y ≠ 0) (hp : pc + 1 = pc') (q : oGo p e below G T (mkF m pc' Ls (.long (x % y) :: st))) : oGo p e below G T (mkF m pc Ls (.long y :: .long x :: st)) := by
  subst hp; exact q.step fun t r => XT.lrem X.here hx rfl hd rfl hy (by rw [lrem_mod]; exact r)
theorem o_i2l (X : Stand p l e R s m args below meth c T locs cells slots) (hx : p.tables.exec = Jvm.exec) {pc pc' : Nat} {Ls : Array Slot} {st : List Value} {x : Int32} (hd : decode c.code pc = .ok (.i2l, 1)) (hp : pc + 1 = pc') (q : oGo p e below G T (mkF m pc' Ls (.long (x.toInt64) :: st))) : oGo p e below G T (mkF m pc Ls (.int x :: st)) := by
  subst hp; exact q.step fun t r => XT.i2l X.here hx rfl hd rfl r
theorem o_l2i (X : Stand p l e R s m args below meth c T locs cells slots) (hx : p.tables.exec = Jvm.exec) {pc pc' : Nat} {Ls : Array Slot} {st : List Value} {x : Int64} (hd : decode c.code pc = .ok (.l2i, 1)) (hp : pc + 1 = pc') (q : oGo p e below G T (mkF m pc' Ls (.int (x.toInt32) :: st))) : oGo p e below G T (mkF m pc Ls (.long x :: st)) := by
  subst hp; exact q.step fun t r => XT.l2i X.here hx rfl hd rfl r
theorem o_i2c (X : Stand p l e R s m args below meth c T locs cells slots) (hx : p.tables.exec = Jvm.exec) {pc pc' : Nat} {Ls : Array Slot} {st : List Value} {x : Int32} (hd : decode c.code pc = .ok (.i2c, 1)) (hp : pc + 1 = pc') (q : oGo p e below G T (mkF m pc' Ls (.int (x.toUInt32.toUInt16.toUInt32.toInt32) :: st))) : oGo p e below G T (mkF m pc Ls (.int x :: st)) := by
  subst hp; exact q.step fun t r => XT.i2c X.here hx rfl hd rfl r
theorem o_i2b (X : Stand p l e R s m args below meth c T locs cells slots) (hx : p.tables.exec = Jvm.exec) {pc pc' : Nat} {Ls : Array Slot} {st : List Value} {x : Int32} (hd : decode c.code pc = .ok (.i2b, 1)) (hp : pc + 1 = pc') (q : oGo p e below G T (mkF m pc' Ls (.int (x.toInt8.toInt32) :: st))) : oGo p e below G T (mkF m pc Ls (.int x :: st)) := by
  subst hp; exact q.step fun t r => XT.i2b X.here hx rfl hd rfl r
theorem o_iinc (X : Stand p l e R s m args below meth c T locs cells slots) (hx : p.tables.exec = Jvm.exec) {pc pc' : Nat} {Ls : Array Slot} {st : List Value} {k : Nat} {cst : Int} {x : Int32} {l' : Array Slot} (v : Int32) (hd : decode c.code pc = .ok (.iinc k cst, 3)) (hv : Int32.ofInt cst = v) (hl : Ls[k]? = some (.val (.int x))) (hl' : storeLocals Ls k (.int (x + v)) = some l') (hp : pc + 3 = pc') (q : oGo p e below G T (mkF m pc' l' (st))) : oGo p e below G T (mkF m pc Ls (st)) := by
  subst hp; exact q.step fun t r => XT.iincV X.here hx rfl v hd hv hl hl' r
theorem o_dup (X : Stand p l e R s m args below meth c T locs cells slots) (hx : p.tables.exec = Jvm.exec) {pc pc' : Nat} {Ls : Array Slot} {st : List Value} {v : Value} (hd : decode c.code pc = .ok (.dup, 1)) (hc : v.category = 1) (hp : pc + 1 = pc') (q : oGo p e below G T (mkF m pc' Ls (v :: v :: st))) : oGo p e below G T (mkF m pc Ls (v :: st)) := by
  subst hp; exact q.step fun t r => XS.dup X.here hx rfl hd rfl hc r
theorem o_pop (X : Stand p l e R s m args below meth c T locs cells slots) (hx : p.tables.exec = Jvm.exec) {pc pc' : Nat} {Ls : Array Slot} {st : List Value} {v : Value} (hd : decode c.code pc = .ok (.pop, 1)) (hc : v.category = 1) (hp : pc + 1 = pc') (q : oGo p e below G T (mkF m pc' Ls (st))) : oGo p e below G T (mkF m pc Ls (v :: st)) := by
  subst hp; exact q.step fun t r => XT.pop X.here hx rfl hd rfl hc r
theorem o_goto (X : Stand p l e R s m args below meth c T locs cells slots) (hx : p.tables.exec = Jvm.exec) {pc pc' : Nat} {Ls : Array Slot} {st : List Value} {o : Int} (hd : decode c.code pc = .ok (.goto o, 3)) (ho : 0 ≤ (pc : Int) + o) (hp : ((pc : Int) + o).toNat = pc') (q : oGo p e below G T (mkF m pc' Ls (st))) : oGo p e below G T (mkF m pc Ls (st)) :=
  q.step fun t r => XS.goto X.here hx rfl rfl hd ho hp r
theorem o_icmpT (X : Stand p l e R s m args below meth c T locs cells slots) (hx : p.tables.exec = Jvm.exec) {pc pc' : Nat} {Ls : Array Slot} {st : List Value} {o : Int} {cd : ClassFile.Cond} {x y : Int32} (hd : decode c.code pc = .ok (.if_icmp cd o, 3)) (hc : if_icmp.holds cd x y = true) (ho : 0 ≤ (pc : Int) + o) (hp : ((pc : Int) + o).toNat = pc') (q : oGo p e below G T (mkF m pc' Ls (st))) : oGo p e below G T (mkF m pc Ls (.int y :: .int x :: st)) :=
  q.step fun t r => XS.icmpYes X.here hx rfl rfl hd rfl hc ho hp r
theorem o_icmpF (X : Stand p l e R s m args below meth c T locs cells slots) (hx : p.tables.exec = Jvm.exec) {pc pc' : Nat} {Ls : Array Slot} {st : List Value} {o : Int} {cd : ClassFile.Cond} {x y : Int32} (hd : decode c.code pc = .ok (.if_icmp cd o, 3)) (hc : if_icmp.holds cd x y = false) (hp : pc + 3 = pc') (q : oGo p e below G T (mkF m pc' Ls (st))) : oGo p e below G T (mkF m pc Ls (.int y :: .int x :: st)) := by
  subst hp; exact q.step fun t r => XS.icmpNo X.here hx rfl hd rfl hc r
theorem o_ifT (X : Stand p l e R s m args below meth c T locs cells slots) (hx : p.tables.exec = Jvm.exec) {pc pc' : Nat} {Ls : Array Slot} {st : List Value} {o : Int} {cd : ClassFile.Cond} {x : Int32} (hd : decode c.code pc = .ok (.ifCond cd o, 3)) (hc : ifCond.holds cd x = true) (ho : 0 ≤ (pc : Int) + o) (hp : ((pc : Int) + o).toNat = pc') (q : oGo p e below G T (mkF m pc' Ls (st))) : oGo p e below G T (mkF m pc Ls (.int x :: st)) :=
  q.step fun t r => XS.ifYes X.here hx rfl rfl hd rfl hc ho hp r
theorem o_ifF (X : Stand p l e R s m args below meth c T locs cells slots) (hx : p.tables.exec = Jvm.exec) {pc pc' : Nat} {Ls : Array Slot} {st : List Value} {o : Int} {cd : ClassFile.Cond} {x : Int32} (hd : decode c.code pc = .ok (.ifCond cd o, 3)) (hc : ifCond.holds cd x = false) (hp : pc + 3 = pc') (q : oGo p e below G T (mkF m pc' Ls (st))) : oGo p e below G T (mkF m pc Ls (.int x :: st)) := by
  subst hp; exact q.step fun t r => XS.ifNo X.here hx rfl hd rfl hc r
theorem o_acmpT (X : Stand p l e R s m args below meth c T locs cells slots) (hx : p.tables.exec = Jvm.exec) {pc pc' : Nat} {Ls : Array Slot} {st : List Value} {o : Int} {cd : ClassFile.ACond} {x y : Value} (hd : decode c.code pc = .ok (.if_acmp cd o, 3)) (h1 : x.isRef = true) (h2 : y.isRef = true) (hc : XT.acmp cd x y = true) (ho : 0 ≤ (pc : Int) + o) (hp : ((pc : Int) + o).toNat = pc') (q : oGo p e below G T (mkF m pc' Ls (st))) : oGo p e below G T (mkF m pc Ls (y :: x :: st)) :=
  q.step fun t r => XT.acmpYes X.here hx rfl rfl hd rfl h1 h2 hc ho hp r
theorem o_acmpF (X : Stand p l e R s m args below meth c T locs cells slots) (hx : p.tables.exec = Jvm.exec) {pc pc' : Nat} {Ls : Array Slot} {st : List Value} {o : Int} {cd : ClassFile.ACond} {x y : Value} (hd : decode c.code pc = .ok (.if_acmp cd o, 3)) (h1 : x.isRef = true) (h2 : y.isRef = true) (hc : XT.acmp cd x y = false) (hp : pc + 3 = pc') (q : oGo p e below G T (mkF m pc' Ls (st))) : oGo p e below G T (mkF m pc Ls (y :: x :: st)) := by
  subst hp; exact q.step fun t r => XT.acmpNo X.here hx rfl hd rfl h1 h2 hc r
theorem o_retI (X : Stand p l e R s m args below meth c T locs cells slots) (hx : p.tables.exec = Jvm.exec) (hret : meth.sig.returnType = some .int) (hlk : meth.locks = false) {pc : Nat} {Ls : Array Slot} {st : List Value} {z : Int32} (hd : decode c.code pc = .ok (.ireturn, 1)) {Q : Option Value → Heap → List Loc → Prop} {C N : Nat} (hc : cells ≤ C) (hn : slots ≤ N) (hQ : Q (some (.int z)) T.heap locs) : oGo p e below (oG s Q C N) T (mkF m pc Ls (.int z :: st)) := by
  obtain ⟨fs, hr, hrun, hended, hW, hsame⟩ := X.leave (v := some (.int z)) (fun h => by rw [hret] at h; cases h) hlk
  exact ⟨_, _, retOut X hx hret rfl (Or.inl ⟨rfl, Or.inl rfl, _, rfl⟩) hd hr, hrun, hended, _, _, rfl, hQ, ⟨_, rfl⟩, hW, hsame.mono hc hn⟩
theorem o_retJ (X : Stand p l e R s m args below meth c T locs cells slots) (hx : p.tables.exec = Jvm.exec) (hret : meth.sig.returnType = some .long) (hlk : meth.locks = false) {pc : Nat} {Ls : Array Slot} {st : List Value} {z : Int64} (hd : decode c.code pc = .ok (.lreturn, 1)) {Q : Option Value → Heap → List Loc → Prop} {C N : Nat} (hc : cells ≤ C) (hn : slots ≤ N) (hQ : Q (some (.long z)) T.heap locs) : oGo p e below (oG s Q C N) T (mkF m pc Ls (.long z :: st)) := by
  obtain ⟨fs, hr, hrun, hended, hW, hsame⟩ := X.leave (v := some (.long z)) (fun h => by rw [hret] at h; cases h) hlk
  exact ⟨_, _, retOut X hx hret rfl (Or.inr (Or.inl ⟨rfl, rfl, _, rfl⟩)) hd hr, hrun, hended, _, _, rfl, hQ, ⟨_, rfl⟩, hW, hsame.mono hc hn⟩
theorem o_retD (X : Stand p l e R s m args below meth c T locs cells slots) (hx : p.tables.exec = Jvm.exec) (hret : meth.sig.returnType = some .double) (hlk : meth.locks = false) {pc : Nat} {Ls : Array Slot} {st : List Value} {z : UInt64} (hd : decode c.code pc = .ok (.dreturn, 1)) {Q : Option Value → Heap → List Loc → Prop} {C N : Nat} (hc : cells ≤ C) (hn : slots ≤ N) (hQ : Q (some (.double z)) T.heap locs) : oGo p e below (oG s Q C N) T (mkF m pc Ls (.double z :: st)) := by
  obtain ⟨fs, hr, hrun, hended, hW, hsame⟩ := X.leave (v := some (.double z)) (fun h => by rw [hret] at h; cases h) hlk
  exact ⟨_, _, retOut X hx hret rfl (Or.inr (Or.inr (Or.inl ⟨rfl, rfl, _, rfl⟩))) hd hr, hrun, hended, _, _, rfl, hQ, ⟨_, rfl⟩, hW, hsame.mono hc hn⟩
theorem o_retZ (X : Stand p l e R s m args below meth c T locs cells slots) (hx : p.tables.exec = Jvm.exec) (hret : meth.sig.returnType = some .boolean) (hlk : meth.locks = false) {pc : Nat} {Ls : Array Slot} {st : List Value} {z : Int32} (hd : decode c.code pc = .ok (.ireturn, 1)) (hz : z &&& 1 = z) {Q : Option Value → Heap → List Loc → Prop} {C N : Nat} (hc : cells ≤ C) (hn : slots ≤ N) (hQ : Q (some (.int z)) T.heap locs) : oGo p e below (oG s Q C N) T (mkF m pc Ls (.int z :: st)) := by
  obtain ⟨fs, hr, hrun, hended, hW, hsame⟩ := X.leave (v := some (.int z)) (fun h => by rw [hret] at h; cases h) hlk
  have hz' : nar .boolean z = z := hz
  exact ⟨_, _, retN X hx (t := .boolean) hret (Or.inl rfl) hd (by rw [hz']; exact hr), hrun, hended, _, _, rfl, hQ, ⟨_, rfl⟩, hW, hsame.mono hc hn⟩
theorem o_retA (X : Stand p l e R s m args below meth c T locs cells slots) (hx : p.tables.exec = Jvm.exec) {C1 : FieldType} (hret : meth.sig.returnType = some C1) (ht : C1.isReference = true) (hlk : meth.locks = false) {pc : Nat} {Ls : Array Slot} {st : List Value} {z : Value} (hz : z.isRef = true) (hna : narrow C1 z = z) (hd : decode c.code pc = .ok (.areturn, 1)) {Q : Option Value → Heap → List Loc → Prop} {C N : Nat} (hc : cells ≤ C) (hn : slots ≤ N) (hQ : Q (some z) T.heap locs) : oGo p e below (oG s Q C N) T (mkF m pc Ls (z :: st)) := by
  obtain ⟨fs, hr, hrun, hended, hW, hsame⟩ := X.leave (v := some z) (fun h => by rw [hret] at h; cases h) hlk
  exact ⟨_, _, retOut X hx hret hna (Or.inr (Or.inr (Or.inr (Or.inr ⟨rfl, ht, hz⟩)))) hd hr, hrun, hended, _, _, rfl, hQ, ⟨_, rfl⟩, hW, hsame.mono hc hn⟩
theorem o_retV (X : Stand p l e R s m args below meth c T locs cells slots) (hx : p.tables.exec = Jvm.exec) (hret : meth.sig.returnType = none) (hlk : meth.locks = false) {pc : Nat} {Ls : Array Slot} (hd : decode c.code pc = .ok (.return_, 1)) {Q : Option Value → Heap → List Loc → Prop} {C N : Nat} (hc : cells ≤ C) (hn : slots ≤ N) (hQ : Q none T.heap locs) : oGo p e below (oG s Q C N) T (mkF m pc Ls []) := by
  obtain ⟨fs, hr, hrun, hended, hW, hsame⟩ := X.leave (v := none) (fun _ => rfl) hlk
  exact ⟨_, _, X.returnOut hx hret hd hr, hrun, hended, _, _, rfl, hQ, ⟨_, rfl⟩, hW, hsame.mono hc hn⟩
theorem o_callS (X : Stand p l e R s m args below meth c T locs cells slots) (hx : p.tables.exec = Jvm.exec) (hZ : Z.Warmed39 s.vm) {own : String} {index : Nat} {y : MethodName} {bytes : ByteArray} {maxL : Nat} {ret : Option FieldType} (hown : s.vm.findClass own = some m.cls) (w1 : (Jvm.Cond.methodLink own index y).before a0 Z = true) (w2 : (Jvm.Cond.static y).before a0 Z = true) (w3 : (Jvm.Cond.initialized y.cls).before a0 Z = true) (w4 : (Jvm.Cond.code y bytes maxL ret).before a0 Z = true) (hy : y.cls ≠ "java/lang/invoke/MethodHandle" ∧ y.cls ≠ "java/lang/invoke/VarHandle") {rm : Room} {as' : Array Value} {Q : Option Value → Heap → List Loc → Prop} (hM : oCon l Z y bytes maxL ret rm as' h Q) (eT : T.heap = h) {pc pc' : Nat} {Ls : Array Slot} {st : List Value} (hsz : Ls.size = c.maxLocals) (argsL rest : List Value) (has : argsL.toArray = as') {ps : List FieldType} {rr : Option FieldType} (hpd : parseMethodDescriptor y.desc = some ⟨ps, rr⟩) (hlen : argsL.length = ps.length) (hst : st = argsL.reverse ++ rest) (W : Nat) (hW : (rest.map fun v => v.category).sum ≤ W) (hd : decode c.code pc = .ok (.invokestatic index, 3)) (hp : pc + 3 = pc') (hf : rm.frames + 1 ≤ R.frames) (hl : W + (maxL + 11) + rm.locals ≤ R.locals) (hc : cells + rm.cells ≤ R.cells) (hn : slots + rm.slots ≤ R.slots) :
    ∃ v T' L, Stand p l e R s m args below meth c T' (locs ++ L) (cells + rm.cells) (slots + rm.slots) ∧ Q v T'.heap L ∧ ∀ t, Steps p.tables e below (T'.setTop (mkF m pc' Ls (v.toList ++ rest))) t → Steps p.tables e below (T.setTop (mkF m pc Ls st)) t := by
  subst hp has
  obtain ⟨v, vm₁, ⟨T', L', k', n'⟩, -, X', ⟨Lc, hQ, l1, y1, z1⟩, st'⟩ := Jvm.LawKit.callS X hx hown (mvT hZ w1) (mvT hZ w2) (mvT hZ w3) (mvT hZ w4) hy (backOf (W := W) (hM []) hZ w4 w3 hf hl) (g := mkF m pc Ls st) rfl hsz (argsL := argsL) (rest := rest) (lenOf hpd hlen) hst (by show 2 * 0 + _ ≤ _; omega) hd (fun _ _ => ⟨rfl, eT, hc, hn⟩)
  dsimp only [Pt.U, Pt.locs, Pt.cells, Pt.slots] at X' l1 y1 z1 st' hQ
  subst l1 y1 z1
  exact ⟨v, T', Lc, X', hQ, st'⟩
theorem o_callN (X : Stand p l e R s m args below meth c T locs cells slots) (hx : p.tables.exec = Jvm.exec) (hZ : Z.Warmed39 s.vm) {own : String} {index : Nat} {y : MethodName} {bytes : ByteArray} {maxL : Nat} (hown : s.vm.findClass own = some m.cls) (hi : y.name = "<init>") (w1 : (Jvm.Cond.methodLink own index y).before a0 Z = true) (w2 : (Jvm.Cond.instanceMethod y).before a0 Z = true) (w3 : (Jvm.Cond.initialized y.cls).before a0 Z = true) (w4 : (Jvm.Cond.code y bytes maxL none).before a0 Z = true) (hy : y.cls ≠ "java/lang/invoke/MethodHandle" ∧ y.cls ≠ "java/lang/invoke/VarHandle") {rm : Room} {as' : Array Value} {Q : Option Value → Heap → List Loc → Prop} (hM : oCon l Z y bytes maxL none rm as' h Q) (eT : T.heap = h) {pc pc' : Nat} {Ls : Array Slot} {st : List Value} (hsz : Ls.size = c.maxLocals) {a : Addr} (argsL rest : List Value) (has : (Value.ref a :: argsL).toArray = as') {ps : List FieldType} {rr : Option FieldType} (hpd : parseMethodDescriptor y.desc = some ⟨ps, rr⟩) (hlen : argsL.length = ps.length) (hst : st = argsL.reverse ++ .ref a :: rest) (W : Nat) (hW : (rest.map fun v => v.category).sum ≤ W) (hd : decode c.code pc = .ok (.invokespecial index, 3)) (hp : pc + 3 = pc') (hf : rm.frames + 1 ≤ R.frames) (hl : W + (maxL + 11) + rm.locals ≤ R.locals) (hc : cells + rm.cells ≤ R.cells) (hn : slots + rm.slots ≤ R.slots) :
    ∃ v T' L, Stand p l e R s m args below meth c T' (locs ++ L) (cells + rm.cells) (slots + rm.slots) ∧ Q v T'.heap L ∧ ∀ t, Steps p.tables e below (T'.setTop (mkF m pc' Ls (v.toList ++ rest))) t → Steps p.tables e below (T.setTop (mkF m pc Ls st)) t := by
  subst hp has
  obtain ⟨v, vm₁, ⟨T', L', k', n'⟩, -, X', ⟨Lc, hQ, l1, y1, z1⟩, st'⟩ := X.specialBack hx hi hown (mvT hZ w1) (mvT hZ w2) (mvT hZ w4) hy (backOf (W := W) (hM []) hZ w4 w3 hf hl) (g := mkF m pc Ls st) rfl hsz (Steps.refl _) (a := a) (argsL := argsL) (rest := rest) (lenOf hpd hlen) hst (by show 2 * 0 + _ ≤ _; omega) hd (fun _ _ => ⟨rfl, eT, hc, hn⟩)
  dsimp only [Pt.U, Pt.locs, Pt.cells, Pt.slots] at X' l1 y1 z1 st' hQ
  subst l1 y1 z1
  exact ⟨v, T', Lc, X', hQ, fun t r => st'.trans r⟩
theorem o_callV (X : Stand p l e R s m args below meth c T locs cells slots) (hx : p.tables.exec = Jvm.exec) (hZ : Z.Warmed39 s.vm) {own : String} {index : Nat} {y : MethodName} {bytes : ByteArray} {maxL : Nat} {ret : Option FieldType} (hown : s.vm.findClass own = some m.cls) {C : String} (w1 : (Jvm.Cond.methodLink own index y).before a0 Z = true) (w2 : (Jvm.Cond.declares y).before a0 Z = true) (w5 : (Jvm.Cond.selects C y y).before a0 Z = true) (w6 : (Jvm.Cond.instanceMethod y).before a0 Z = true) (w3 : (Jvm.Cond.initialized y.cls).before a0 Z = true) (w4 : (Jvm.Cond.code y bytes maxL ret).before a0 Z = true) (hy : y.cls ≠ "java/lang/invoke/MethodHandle" ∧ y.cls ≠ "java/lang/invoke/VarHandle") {aa : Addr} (E : Exa Z h aa C) {rm : Room} {as' : Array Value} {Q : Option Value → Heap → List Loc → Prop} (hM : oCon l Z y bytes maxL ret rm as' h Q) (eT : T.heap = h) {pc pc' : Nat} {Ls : Array Slot} {st : List Value} (hsz : Ls.size = c.maxLocals) (argsL rest : List Value) (has : (Value.ref aa :: argsL).toArray = as') {ps : List FieldType} {rr : Option FieldType} (hpd : parseMethodDescriptor y.desc = some ⟨ps, rr⟩) (hlen : argsL.length = ps.length) (hst : st = argsL.reverse ++ .ref aa :: rest) (W : Nat) (hW : (rest.map fun v => v.category).sum ≤ W) (hd : decode c.code pc = .ok (.invokevirtual index, 3)) (hp : pc + 3 = pc') (hf : rm.frames + 1 ≤ R.frames) (hl : W + (maxL + 11) + rm.locals ≤ R.locals) (hc : cells + rm.cells ≤ R.cells) (hn : slots + rm.slots ≤ R.slots) :
    ∃ v T' L, Stand p l e R s m args below meth c T' (locs ++ L) (cells + rm.cells) (slots + rm.slots) ∧ Q v T'.heap L ∧ ∀ t, Steps p.tables e below (T'.setTop (mkF m pc' Ls (v.toList ++ rest))) t → Steps p.tables e below (T.setTop (mkF m pc Ls st)) t := by
  subst hp has
  obtain ⟨v, vm₁, ⟨T', L', k', n'⟩, -, X', ⟨Lc, hQ, l1, y1, z1⟩, st'⟩ := X.virtualBack hx hown (mvT hZ w1) (mvT hZ w2) (notFace_of_selects (args := #[]) (mvT hZ w5)) (mvT hZ w5) (mvT hZ w6) hy (backOf (W := W) (hM []) hZ w4 w3 hf hl) (isOf hZ eT E).choose_spec.choose_spec.1 (isOf hZ eT E).choose_spec.choose_spec.2.2 (g := mkF m pc Ls st) rfl hsz (Steps.refl _) (argsL := argsL) (rest := rest) (lenOf hpd hlen) hst (by show 2 * 0 + _ ≤ _; omega) hd (fun _ _ => ⟨rfl, eT, hc, hn⟩)
  dsimp only [Pt.U, Pt.locs, Pt.cells, Pt.slots] at X' l1 y1 z1 st' hQ
  subst l1 y1 z1
  exact ⟨v, T', Lc, X', hQ, fun t r => st'.trans r⟩
theorem o_bz (b : Prop) [Decidable b] : (if b then (1 : Int32) else 0) &&& 1 = if b then 1 else 0 := by by_cases q : b <;> simp [q]
theorem o_same {k n : Nat} (X : Stand p l e R s m args below meth c T (locs ++ []) (cells + k) (slots + n)) (hk : k = 0) (hn : n = 0) : Stand p l e R s m args below meth c T locs cells slots := by subst hk hn; simpa using X
theorem o_flat {k n : Nat} (X : Stand p l e R s m args below meth c T locs (cells + k) (slots + n)) (hk : k = 0) (hn : n = 0) : Stand p l e R s m args below meth c T locs cells slots := by subst hk hn; exact X
theorem o_fldI {a : Addr} {C n d : String} {x y : Int32} (q : y = x) (F : Fld Z h a C n d (.int x)) : Fld Z h a C n d (.int y) := q ▸ F
theorem o_fldJ {a : Addr} {C n d : String} {x y : Int64} (q : y = x) (F : Fld Z h a C n d (.long x)) : Fld Z h a C n d (.long y) := q ▸ F
theorem o_nb {z : Int32} (q : z = 0 ∨ z = 1) : narrow .boolean (.int z) = .int z := by rcases q with rfl | rfl <;> rfl
theorem o_fb {z : Int32} (q : z = 0 ∨ z = 1) : fits .boolean (.int z) = true := by rcases q with rfl | rfl <;> rfl
theorem o_zb {z : Int32} (q : z = 0 ∨ z = 1) : z &&& 1 = z := by rcases q with rfl | rfl <;> rfl
theorem o_or1 {z : Int32} (q : z = 0 ∨ z = 1) : (z ||| 1) = 0 ∨ (z ||| 1) = 1 := by rcases q with rfl | rfl <;> simp
theorem o_or0 {z : Int32} (q : z = 0 ∨ z = 1) : (z ||| 0) = 0 ∨ (z ||| 0) = 1 := by rcases q with rfl | rfl <;> simp
def oInts (Z : State) (h : Heap) (a : Addr) (xs : List Int32) : Prop := ∃ c : Cell, Arr Z h a c .int ∧ c.slots = (xs.map Value.int).toArray ∧ xs.length < 2 ^ 31
theorem oInts.lt {a : Addr} {xs : List Int32} (F : oInts Z h a xs) : a < h.size := by obtain ⟨c, A, -⟩ := F; exact A.lt
theorem oInts.ext {h' : Heap} {a : Addr} {xs : List Int32} (F : oInts Z h a xs) (E : Ext h h') : oInts Z h' a xs := by obtain ⟨c, A, r⟩ := F; exact ⟨c, A.ext E, r⟩
theorem oInts.keep {h' : Heap} {a : Addr} {xs : List Int32} {ws : List Addr} (F : oInts Z h a xs) (K : Keep h h' ws) (q : a ∉ ws) : oInts Z h' a xs := by obtain ⟨c, A, r⟩ := F; exact ⟨c, ⟨K.2.1 a c A.1 q, A.2⟩, r⟩
theorem oInts.set {h' : Heap} {a : Addr} {xs : List Int32} {i : Nat} {v : Int32} (F : oInts Z h a xs) (W : Wr h h' a i (.int v)) : oInts Z h' a (xs.set i v) := by
  obtain ⟨c, A, S, L⟩ := F
  refine ⟨_, A.same W, ?_, by simpa using L⟩
  simp [Cell.setSlot, S, List.map_set]
theorem oInts.new {a : Addr} {k : ClassId} {n : Int32} (A : Arr Z h a (newA k .int n) .int) (q : ¬ n < 0) : oInts Z h a (List.replicate n.toNatClampNeg 0) := by
  refine ⟨_, A, ?_, ?_⟩
  · simp [newA, defaultValue]
  · have := n.toInt_lt; simp only [List.length_replicate]; have h2 : n.toInt = (n.toNatClampNeg : Int) := nat_of q; omega
theorem oInts.at {a : Addr} {xs : List Int32} {j v : Int32} (F : oInts Z h a xs) (q : ¬ j < 0) (hj : xs[j.toNatClampNeg]? = some v) : ∃ c : Cell, Arr Z h a c .int ∧ ¬ (j < 0 ∨ c.slots.size ≤ j.toNatClampNeg) ∧ c.slots[j.toNatClampNeg]? = some (.int v) := by
  obtain ⟨c, A, S, L⟩ := F
  have hl : j.toNatClampNeg < xs.length := by
    rcases Nat.lt_or_ge j.toNatClampNeg xs.length with r | r
    · exact r
    · rw [List.getElem?_eq_none r] at hj; cases hj
  refine ⟨c, A, ?_, ?_⟩
  · rw [S]; simp only [List.size_toArray, List.length_map]; rintro (r | r)
    · exact q r
    · omega
  · rw [S]; simp [hj]
theorem o_iaload (X : Stand p l e R s m args below meth c T locs cells slots) (hx : p.tables.exec = Jvm.exec) (hZ : Z.Warmed39 s.vm) (eT : T.heap = h) {a : Addr} {xs : List Int32} (F : oInts Z h a xs) {pc pc' : Nat} {Ls : Array Slot} {st : List Value} {j v : Int32} (hd : decode c.code pc = .ok (.iaload, 1)) (q0 : ¬ j < 0) (hj : xs[j.toNatClampNeg]? = some v) (hp : pc + 1 = pc') (q : oGo p e below G T (mkF m pc' Ls (.int v :: st))) : oGo p e below G T (mkF m pc Ls (.int j :: .ref a :: st)) := by
  subst hp
  obtain ⟨cl, A, h1, h2⟩ := F.at q0 hj
  exact q.step fun t r => X.iaload (g := mkF m pc Ls (.int j :: .ref a :: st)) (rest := st) hx (by rw [eT]; exact A.1) (State.isArrayOf_alike hZ.alike A.2.1) A.2.2 h1 h2 rfl rfl hd t r
theorem o_alen (X : Stand p l e R s m args below meth c T locs cells slots) (hx : p.tables.exec = Jvm.exec) (hZ : Z.Warmed39 s.vm) (eT : T.heap = h) {a : Addr} {xs : List Int32} (F : oInts Z h a xs) {pc pc' : Nat} {Ls : Array Slot} {st : List Value} (hd : decode c.code pc = .ok (.arraylength, 1)) (hp : pc + 1 = pc') (q : oGo p e below G T (mkF m pc' Ls (.int xs.length.toInt32 :: st))) : oGo p e below G T (mkF m pc Ls (.ref a :: st)) := by
  subst hp
  obtain ⟨cl, A, S, L⟩ := F
  refine q.step fun t r => X.arraylength (g := mkF m pc Ls (.ref a :: st)) (rest := st) hx (by rw [eT]; exact A.1) (State.isArrayOf_alike hZ.alike A.2.1) rfl rfl hd t ?_
  have : cl.slots.size = xs.length := by rw [S]; simp
  rw [this]; exact r
theorem o_iastore (X : Stand p l e R s m args below meth c T locs cells slots) (hx : p.tables.exec = Jvm.exec) (hZ : Z.Warmed39 s.vm) (eT : T.heap = h) {a : Addr} {xs : List Int32} (F : oInts Z h a xs) {pc pc' : Nat} {Ls : Array Slot} {st : List Value} {j x : Int32} (hd : decode c.code pc = .ok (.iastore, 1)) (q0 : ¬ j < 0) (hj : j.toNatClampNeg < xs.length) (hp : pc + 1 = pc') :
    ∃ T' h', Stand p l e R s m args below meth c T' (locs ++ [⟨a, j.toNatClampNeg⟩]) cells slots ∧ T'.heap = h' ∧ Wr h h' a j.toNatClampNeg (.int x) ∧ ∀ t, Steps p.tables e below (T'.setTop (mkF m pc' Ls st)) t → Steps p.tables e below (T.setTop (mkF m pc Ls (.int x :: .int j :: .ref a :: st))) t := by
  subst hp
  obtain ⟨v, hv⟩ : ∃ v, xs[j.toNatClampNeg]? = some v := ⟨_, List.getElem?_eq_getElem hj⟩
  obtain ⟨cl, A, h1, h2⟩ := F.at q0 hv
  obtain ⟨T', h', X', e', W', st'⟩ := stI X hx hZ eT A (x := x) h1 (g := mkF m pc Ls (.int x :: .int j :: .ref a :: st)) (rest := st) rfl rfl hd
  exact ⟨T', h', X', e', W', st'⟩
theorem o_newI (X : Stand p l e R s m args below meth c T locs cells slots) (hx : p.tables.exec = Jvm.exec) (hZ : Z.Warmed39 s.vm) (w : (Jvm.Cond.arrayClass .int).before a0 Z = true) (eT : T.heap = h) {pc pc' : Nat} {Ls : Array Slot} {st : List Value} {n : Int32} (hd : decode c.code pc = .ok (.newarray .int, 2)) (hn : ¬ n < 0) (cap : Nat) (hcap : n.toNatClampNeg ≤ cap) (hb : cap * 8 ≤ 536870912) (hc : cells + 1 ≤ R.cells) (hl : slots + cap ≤ R.slots) (hp : pc + 2 = pc') :
    ∃ T' h', Stand p l e R s m args below meth c T' locs (cells + 1) (slots + cap) ∧ T'.heap = h' ∧ Ext h h' ∧ oInts Z h' h.size (List.replicate n.toNatClampNeg 0) ∧ ∀ t, Steps p.tables e below (T'.setTop (mkF m pc' Ls (.ref h.size :: st))) t → Steps p.tables e below (T.setTop (mkF m pc Ls (.int n :: st))) t := by
  subst hp
  obtain ⟨T', h', cA, X', e', E, A, st'⟩ := newP X hx hZ (aty := .int) w eT (g := mkF m pc Ls (.int n :: st)) rfl hd (n := n) (rest := st) rfl hn hcap hb hc hl
  have A' := oInts.new A hn
  exact ⟨T', h', X', e', E, A', st'⟩
end OwnKit
section OwnDbl
variable {p : Program} {l : Launch} {e : Env} {R : Room} {s : State} {m : MethodId} {args : Array Value} {below : List Frame} {meth : Method} {c : Code} {T : State} {locs : List Loc} {cells slots : Nat} {Z : State} {a0 : Array Value} {h : Heap} {G : Outcome → State → Prop}
theorem o_dloadN (X : Stand p l e R s m args below meth c T locs cells slots) (hx : p.tables.exec = Jvm.exec) {pc pc' : Nat} {Ls : Array Slot} {st : List Value} {k : Fin 4} {v : UInt64} (hd : decode c.code pc = .ok (.dload_n k, 1)) (hl : Ls[k.val]? = some (.val (.double v))) (hp : pc + 1 = pc') (q : oGo p e below G T (mkF m pc' Ls (.double v :: st))) : oGo p e below G T (mkF m pc Ls (st)) := by
  subst hp; exact q.step fun t r => XS.dloadN X.here hx rfl hd hl r
theorem o_dload (X : Stand p l e R s m args below meth c T locs cells slots) (hx : p.tables.exec = Jvm.exec) {pc pc' : Nat} {Ls : Array Slot} {st : List Value} {k : Nat} {v : UInt64} (hd : decode c.code pc = .ok (.dload k, 2)) (hl : Ls[k]? = some (.val (.double v))) (hp : pc + 2 = pc') (q : oGo p e below G T (mkF m pc' Ls (.double v :: st))) : oGo p e below G T (mkF m pc Ls (st)) := by
  subst hp; exact q.step fun t r => XS.dload X.here hx rfl hd hl r
theorem o_dstoreN (X : Stand p l e R s m args below meth c T locs cells slots) (hx : p.tables.exec = Jvm.exec) {pc pc' : Nat} {Ls : Array Slot} {st : List Value} {k : Fin 4} {v : UInt64} {l' : Array Slot} (hd : decode c.code pc = .ok (.dstore_n k, 1)) (hl : storeLocals Ls k.val (.double v) = some l') (hp : pc + 1 = pc') (q : oGo p e below G T (mkF m pc' l' (st))) : oGo p e below G T (mkF m pc Ls (.double v :: st)) := by
  subst hp; exact q.step fun t r => XS.dstoreN X.here hx rfl hd rfl hl r
theorem o_dstore (X : Stand p l e R s m args below meth c T locs cells slots) (hx : p.tables.exec = Jvm.exec) {pc pc' : Nat} {Ls : Array Slot} {st : List Value} {k : Nat} {v : UInt64} {l' : Array Slot} (hd : decode c.code pc = .ok (.dstore k, 2)) (hl : storeLocals Ls k (.double v) = some l') (hp : pc + 2 = pc') (q : oGo p e below G T (mkF m pc' l' (st))) : oGo p e below G T (mkF m pc Ls (.double v :: st)) := by
  subst hp; exact q.step fun t r => XS.dstore X.here hx rfl hd rfl hl r
theorem o_i2d (X : Stand p l e R s m args below meth c T locs cells slots) (hx : p.tables.exec = Jvm.exec) {pc pc' : Nat} {Ls : Array Slot} {st : List Value} {x : Int32} (v : UInt64) (hd : decode c.code pc = .ok (.i2d, 1)) (hv : FP.i2d x = v) (hp : pc + 1 = pc') (q : oGo p e below G T (mkF m pc' Ls (.double v :: st))) : oGo p e below G T (mkF m pc Ls (.int x :: st)) := by
  subst hp; exact q.step fun t r => XS.i2dS X.here hx rfl hd rfl hv r
theorem o_l2d (X : Stand p l e R s m args below meth c T locs cells slots) (hx : p.tables.exec = Jvm.exec) {pc pc' : Nat} {Ls : Array Slot} {st : List Value} {x : Int64} (v : UInt64) (hd : decode c.code pc = .ok (.l2d, 1)) (hv : FP.l2d x = v) (hp : pc + 1 = pc') (q : oGo p e below G T (mkF m pc' Ls (.double v :: st))) : oGo p e below G T (mkF m pc Ls (.long x :: st)) := by
  subst hp; exact q.step fun t r => XS.l2dS X.here hx rfl hd rfl hv r
theorem o_dadd (X : Stand p l e R s m args below meth c T locs cells slots) (hx : p.tables.exec = Jvm.exec) {pc pc' : Nat} {Ls : Array Slot} {st : List Value} {x y : UInt64} (v : UInt64) (hd : decode c.code pc = .ok (.dadd, 1)) (hn : Jvm.Free.Fl.NoNaN64 (FP.dadd x y)) (hv : FP.dadd x y = v) (hp : pc + 1 = pc') (q : oGo p e below G T (mkF m pc' Ls (.double v :: st))) : oGo p e below G T (mkF m pc Ls (.double y :: .double x :: st)) := by
  subst hp; exact q.step fun t r => XS.daddS X.here hx rfl hd rfl hn hv r
theorem o_dmul (X : Stand p l e R s m args below meth c T locs cells slots) (hx : p.tables.exec = Jvm.exec) {pc pc' : Nat} {Ls : Array Slot} {st : List Value} {x y : UInt64} (v : UInt64) (hd : decode c.code pc = .ok (.dmul, 1)) (hn : Jvm.Free.Fl.NoNaN64 (FP.dmul x y)) (hv : FP.dmul x y = v) (hp : pc + 1 = pc') (q : oGo p e below G T (mkF m pc' Ls (.double v :: st))) : oGo p e below G T (mkF m pc Ls (.double y :: .double x :: st)) := by
  subst hp; exact q.step fun t r => XS.dmulS X.here hx rfl hd rfl hn hv r
theorem o_ddiv (X : Stand p l e R s m args below meth c T locs cells slots) (hx : p.tables.exec = Jvm.exec) {pc pc' : Nat} {Ls : Array Slot} {st : List Value} {x y : UInt64} (v : UInt64) (hd : decode c.code pc = .ok (.ddiv, 1)) (hn : Jvm.Free.Fl.NoNaN64 (FP.ddiv x y)) (hv : FP.ddiv x y = v) (hp : pc + 1 = pc') (q : oGo p e below G T (mkF m pc' Ls (.double v :: st))) : oGo p e below G T (mkF m pc Ls (.double y :: .double x :: st)) := by
  subst hp; exact q.step fun t r => XS.ddivS X.here hx rfl hd rfl hn hv r
theorem o_dsub (X : Stand p l e R s m args below meth c T locs cells slots) (hx : p.tables.exec = Jvm.exec) {pc pc' : Nat} {Ls : Array Slot} {st : List Value} {x y : UInt64} (v : UInt64) (hd : decode c.code pc = .ok (.dsub, 1)) (hn : Jvm.Free.Fl.NoNaN64 (FP.dsub x y)) (hv : FP.dsub x y = v) (hp : pc + 1 = pc') (q : oGo p e below G T (mkF m pc' Ls (.double v :: st))) : oGo p e below G T (mkF m pc Ls (.double y :: .double x :: st)) := by
  subst hp; exact q.step fun t r => XS.dsubS X.here hx rfl hd rfl hn hv r
theorem o_dcmp (X : Stand p l e R s m args below meth c T locs cells slots) (hx : p.tables.exec = Jvm.exec) {pc pc' : Nat} {Ls : Array Slot} {st : List Value} {x y : UInt64} {o : CmpOp} (hd : decode c.code pc = .ok (.dcmp o, 1)) (hp : pc + 1 = pc') (q : oGo p e below G T (mkF m pc' Ls (.int (cmpValue (FP.dcmp x y) o) :: st))) : oGo p e below G T (mkF m pc Ls (.double y :: .double x :: st)) := by
  subst hp; exact q.step fun t r => XS.dcmpS X.here hx rfl hd rfl rfl r
theorem o_ldc2d (X : Stand p l e R s m args below meth c T locs cells slots) (hx : p.tables.exec = Jvm.exec) {pc pc' : Nat} {Ls : Array Slot} {st : List Value} {own : String} {index : Nat} {b : UInt64} (hZ : Z.Warmed39 s.vm) (hown : s.vm.findClass own = some m.cls) (w : (Jvm.Cond.constantDouble own index b).before a0 Z = true) (hd : decode c.code pc = .ok (.ldc2_w index, 3)) (hp : pc + 3 = pc') (q : oGo p e below G T (mkF m pc' Ls (.double b :: st))) : oGo p e below G T (mkF m pc Ls (st)) := by
  subst hp; exact q.step fun t r => X.ldc2DoubleC (g := mkF m pc Ls st) hx hown (mvT hZ w) rfl hd t r
theorem o_dconst0 (X : Stand p l e R s m args below meth c T locs cells slots) (hx : p.tables.exec = Jvm.exec) {pc pc' : Nat} {Ls : Array Slot} {st : List Value} (v : UInt64) (hd : decode c.code pc = .ok (.dconst 0, 1)) (hv : FP.dconst0 = v) (hp : pc + 1 = pc') (q : oGo p e below G T (mkF m pc' Ls (.double v :: st))) : oGo p e below G T (mkF m pc Ls (st)) := by
  subst hp; exact q.step fun t r => XS.dconst0 X.here hx rfl hd hv r
theorem o_dconst1 (X : Stand p l e R s m args below meth c T locs cells slots) (hx : p.tables.exec = Jvm.exec) {pc pc' : Nat} {Ls : Array Slot} {st : List Value} (v : UInt64) (hd : decode c.code pc = .ok (.dconst 1, 1)) (hv : FP.dconst1 = v) (hp : pc + 1 = pc') (q : oGo p e below G T (mkF m pc' Ls (.double v :: st))) : oGo p e below G T (mkF m pc Ls (st)) := by
  subst hp; exact q.step fun t r => XS.dconst1 X.here hx rfl hd hv r
def oDbls (Z : State) (h : Heap) (a : Addr) (xs : List UInt64) : Prop := ∃ c : Cell, Arr Z h a c .double ∧ c.slots = (xs.map Value.double).toArray ∧ xs.length < 2 ^ 31
theorem oDbls.lt {a : Addr} {xs : List UInt64} (F : oDbls Z h a xs) : a < h.size := by obtain ⟨c, A, -⟩ := F; exact A.lt
theorem oDbls.keep {h' : Heap} {a : Addr} {xs : List UInt64} {ws : List Addr} (F : oDbls Z h a xs) (K : Keep h h' ws) (q : a ∉ ws) : oDbls Z h' a xs := by obtain ⟨c, A, r⟩ := F; exact ⟨c, ⟨K.2.1 a c A.1 q, A.2⟩, r⟩
theorem oDbls.set {h' : Heap} {a : Addr} {xs : List UInt64} {i : Nat} {v : UInt64} (F : oDbls Z h a xs) (W : Wr h h' a i (.double v)) : oDbls Z h' a (xs.set i v) := by
  obtain ⟨c, A, S, L⟩ := F
  refine ⟨_, A.same W, ?_, by simpa using L⟩
  simp [Cell.setSlot, S, List.map_set]
theorem oDbls.new {a : Addr} {k : ClassId} {n : Int32} (A : Arr Z h a (newA k .double n) .double) (q : ¬ n < 0) : oDbls Z h a (List.replicate n.toNatClampNeg 0) := by
  refine ⟨_, A, ?_, ?_⟩
  · simp [newA, defaultValue]
  · have := n.toInt_lt; simp only [List.length_replicate]; have h2 : n.toInt = (n.toNatClampNeg : Int) := nat_of q; omega
theorem oDbls.at {a : Addr} {xs : List UInt64} {j : Int32} {v : UInt64} (F : oDbls Z h a xs) (q : ¬ j < 0) (hj : xs[j.toNatClampNeg]? = some v) : ∃ c : Cell, Arr Z h a c .double ∧ ¬ (j < 0 ∨ c.slots.size ≤ j.toNatClampNeg) ∧ c.slots[j.toNatClampNeg]? = some (.double v) := by
  obtain ⟨c, A, S, L⟩ := F
  have hl : j.toNatClampNeg < xs.length := by
    rcases Nat.lt_or_ge j.toNatClampNeg xs.length with r | r
    · exact r
    · rw [List.getElem?_eq_none r] at hj; cases hj
  refine ⟨c, A, ?_, ?_⟩
  · rw [S]; simp only [List.size_toArray, List.length_map]; rintro (r | r)
    · exact q r
    · omega
  · rw [S]; simp [hj]
theorem o_daload (X : Stand p l e R s m args below meth c T locs cells slots) (hx : p.tables.exec = Jvm.exec) (hZ : Z.Warmed39 s.vm) (eT : T.heap = h) {a : Addr} {xs : List UInt64} (F : oDbls Z h a xs) {pc pc' : Nat} {Ls : Array Slot} {st : List Value} {j : Int32} {v : UInt64} (hd : decode c.code pc = .ok (.daload, 1)) (q0 : ¬ j < 0) (hj : xs[j.toNatClampNeg]? = some v) (hp : pc + 1 = pc') (q : oGo p e below G T (mkF m pc' Ls (.double v :: st))) : oGo p e below G T (mkF m pc Ls (.int j :: .ref a :: st)) := by
  subst hp
  obtain ⟨cl, A, h1, h2⟩ := F.at q0 hj
  exact q.step fun t r => X.daload (g := mkF m pc Ls (.int j :: .ref a :: st)) (rest := st) hx (by rw [eT]; exact A.1) (State.isArrayOf_alike hZ.alike A.2.1) A.2.2 h1 h2 rfl rfl hd t r
theorem o_dalen (X : Stand p l e R s m args below meth c T locs cells slots) (hx : p.tables.exec = Jvm.exec) (hZ : Z.Warmed39 s.vm) (eT : T.heap = h) {a : Addr} {xs : List UInt64} (F : oDbls Z h a xs) {pc pc' : Nat} {Ls : Array Slot} {st : List Value} (hd : decode c.code pc = .ok (.arraylength, 1)) (hp : pc + 1 = pc') (q : oGo p e below G T (mkF m pc' Ls (.int xs.length.toInt32 :: st))) : oGo p e below G T (mkF m pc Ls (.ref a :: st)) := by
  subst hp
  obtain ⟨cl, A, S, L⟩ := F
  refine q.step fun t r => X.arraylength (g := mkF m pc Ls (.ref a :: st)) (rest := st) hx (by rw [eT]; exact A.1) (State.isArrayOf_alike hZ.alike A.2.1) rfl rfl hd t ?_
  have : cl.slots.size = xs.length := by rw [S]; simp
  rw [this]; exact r
theorem o_dastore (X : Stand p l e R s m args below meth c T locs cells slots) (hx : p.tables.exec = Jvm.exec) (hZ : Z.Warmed39 s.vm) (eT : T.heap = h) {a : Addr} {xs : List UInt64} (F : oDbls Z h a xs) {pc pc' : Nat} {Ls : Array Slot} {st : List Value} {j : Int32} {x : UInt64} (hd : decode c.code pc = .ok (.dastore, 1)) (q0 : ¬ j < 0) (hj : j.toNatClampNeg < xs.length) (hp : pc + 1 = pc') :
    ∃ T' h', Stand p l e R s m args below meth c T' (locs ++ [⟨a, j.toNatClampNeg⟩]) cells slots ∧ T'.heap = h' ∧ Wr h h' a j.toNatClampNeg (.double x) ∧ ∀ t, Steps p.tables e below (T'.setTop (mkF m pc' Ls st)) t → Steps p.tables e below (T.setTop (mkF m pc Ls (.double x :: .int j :: .ref a :: st))) t := by
  subst hp
  obtain ⟨v, hv⟩ : ∃ v, xs[j.toNatClampNeg]? = some v := ⟨_, List.getElem?_eq_getElem hj⟩
  obtain ⟨cl, A, h1, h2⟩ := F.at q0 hv
  obtain ⟨T', h', X', e', W', st'⟩ := stD X hx hZ eT A (x := x) h1 (g := mkF m pc Ls (.double x :: .int j :: .ref a :: st)) (rest := st) rfl rfl hd
  exact ⟨T', h', X', e', W', st'⟩
theorem o_newD (X : Stand p l e R s m args below meth c T locs cells slots) (hx : p.tables.exec = Jvm.exec) (hZ : Z.Warmed39 s.vm) (w : (Jvm.Cond.arrayClass .double).before a0 Z = true) (eT : T.heap = h) {pc pc' : Nat} {Ls : Array Slot} {st : List Value} {n : Int32} (hd : decode c.code pc = .ok (.newarray .double, 2)) (hn : ¬ n < 0) (cap : Nat) (hcap : n.toNatClampNeg ≤ cap) (hb : cap * 8 ≤ 536870912) (hc : cells + 1 ≤ R.cells) (hl : slots + cap ≤ R.slots) (hp : pc + 2 = pc') :
    ∃ T' h', Stand p l e R s m args below meth c T' locs (cells + 1) (slots + cap) ∧ T'.heap = h' ∧ Ext h h' ∧ oDbls Z h' h.size (List.replicate n.toNatClampNeg 0) ∧ ∀ t, Steps p.tables e below (T'.setTop (mkF m pc' Ls (.ref h.size :: st))) t → Steps p.tables e below (T.setTop (mkF m pc Ls (.int n :: st))) t := by
  subst hp
  obtain ⟨T', h', cA, X', e', E, A, st'⟩ := newP X hx hZ (aty := .double) w eT (g := mkF m pc Ls (.int n :: st)) rfl hd (n := n) (rest := st) rfl hn hcap hb hc hl
  have A' := oDbls.new A hn
  exact ⟨T', h', X', e', E, A', st'⟩
end OwnDbl
theorem d2_0 : decode method_3_code 0 = .ok (.iload 4, 2) := by decide +kernel
theorem d2_2 : decode method_3_code 2 = .ok (.iload 5, 2) := by decide +kernel
theorem d2_4 : decode method_3_code 4 = .ok (.if_icmp .ge 11, 3) := by decide +kernel
theorem d2_7 : decode method_3_code 7 = .ok (.dload_n 0, 1) := by decide +kernel
theorem d2_8 : decode method_3_code 8 = .ok (.dload_n 2, 1) := by decide +kernel
theorem d2_9 : decode method_3_code 9 = .ok (.dcmp .g, 1) := by decide +kernel
theorem d2_10 : decode method_3_code 10 = .ok (.ifCond .ge 5, 3) := by decide +kernel
theorem d2_13 : decode method_3_code 13 = .ok (.iconst 1, 1) := by decide +kernel
theorem d2_14 : decode method_3_code 14 = .ok (.ireturn, 1) := by decide +kernel
theorem d2_15 : decode method_3_code 15 = .ok (.iconst 0, 1) := by decide +kernel
theorem d2_16 : decode method_3_code 16 = .ok (.ireturn, 1) := by decide +kernel
theorem pn_2 : plainName "com/example/glyphweave/glyphweave/SlotsLowerBoundPinLaw" = true := by first | (simp [plainName, overriddenIn]; done) | decide +kernel
theorem ef2 (m : MethodId) (x0 : UInt64) (x1 : UInt64) (x2 : Int32) (x3 : Int32) : entryFrame m #[(.double x0), (.double x1), (.int x2), (.int x3)] 6 = mkF m 0 #[.val (.double x0), .second, .val (.double x1), .second, .val (.int x2), .val (.int x3)] [] := by first | (simp [entryFrame, mkF, argsToLocals, Value.category]; done) | rfl
def spec2 (x0 : UInt64) (x1 : UInt64) (x2 : Int32) (x3 : Int32) : Int32 := (if x2 < x3 then (if (cmpValue (FP.dcmp x0 x1) .g) < 0 then (1 : Int32) else (0 : Int32)) else (0 : Int32))
def room2 : Room := { frames := 0, cells := 0, slots := 0, locals := 0 }
set_option maxRecDepth 65536 in
set_option maxHeartbeats 40000000 in
theorem rm2 (l : Launch) (Z : State) (a0 : Array Value) (hw : ∀ d ∈ tables_1, d.before a0 Z = true) (x0 : UInt64) (x1 : UInt64) (x2 : Int32) (x3 : Int32) (h0 : Heap) (n0 : Nat) (Z0 : n0 ≤ h0.size)   :
    oCon l Z (⟨"com/example/glyphweave/glyphweave/SlotsLowerBoundPinLaw", "below", "(DDII)I"⟩ : MethodName) method_3_code 6 (some .int) room2 #[(.double x0), (.double x1), (.int x2), (.int x3)] h0 (fun v h L => v = some (.int (spec2 x0 x1 x2 x3)) ∧ L = [] ∧ h = h0) := by
  refine oCon.of (plainFor_of_name pn_2) ?_
  intro p e s m below meth c s₁ hx hby hml hown hnm hret hlk hZ X0 e0
  rw [ef2 m x0 x1 x2 x3]
  have N0 := Fr.nil n0
  refine o_iload (pc' := 2) X0 hx (hb hby d2_0) rfl rfl ?_
  refine o_iload (pc' := 4) X0 hx (hb hby d2_2) rfl rfl ?_
  by_cases c1 : x2 < x3
  · refine o_icmpF (pc' := 7) X0 hx (hb hby d2_4) (XT.ii_ge_f c1) rfl ?_
    refine o_dloadN (pc' := 8) X0 hx (hb hby d2_7) rfl rfl ?_
    refine o_dloadN (pc' := 9) X0 hx (hb hby d2_8) rfl rfl ?_
    refine o_dcmp (pc' := 10) X0 hx (hb hby d2_9) rfl ?_
    by_cases c2 : (cmpValue (FP.dcmp x0 x1) .g) < 0
    · refine o_ifF (pc' := 13) X0 hx (hb hby d2_10) (XT.i0_ge_f c2) rfl ?_
      refine o_iconst (pc' := 14) (v := (1 : Int32)) X0 hx (hb hby d2_13) rfl rfl ?_
      refine o_retI X0 hx hret hlk (hb hby d2_14) (by decide) (by decide) ?_
      exact ⟨congrArg (fun z => some (Value.int z)) (show _ = (spec2 x0 x1 x2 x3) from ((if_pos c1).trans (if_pos c2)).symm), rfl, e0⟩
    · refine o_ifT (pc' := 15) X0 hx (hb hby d2_10) (XT.i0_ge_t c2) (by decide) (by decide) ?_
      refine o_iconst (pc' := 16) (v := (0 : Int32)) X0 hx (hb hby d2_15) rfl rfl ?_
      refine o_retI X0 hx hret hlk (hb hby d2_16) (by decide) (by decide) ?_
      exact ⟨congrArg (fun z => some (Value.int z)) (show _ = (spec2 x0 x1 x2 x3) from ((if_pos c1).trans (if_neg c2)).symm), rfl, e0⟩
  · refine o_icmpT (pc' := 15) X0 hx (hb hby d2_4) (XT.ii_ge_t c1) (by decide) (by decide) ?_
    refine o_iconst (pc' := 16) (v := (0 : Int32)) X0 hx (hb hby d2_15) rfl rfl ?_
    refine o_retI X0 hx hret hlk (hb hby d2_16) (by decide) (by decide) ?_
    exact ⟨congrArg (fun z => some (Value.int z)) (show _ = (spec2 x0 x1 x2 x3) from (if_neg c1).symm), rfl, e0⟩
theorem d3_0 : decode prog_60_method_3_code 0 = .ok (.iconst 0, 1) := by decide +kernel
theorem d3_1 : decode prog_60_method_3_code 1 = .ok (.istore_n 3, 1) := by decide +kernel
theorem d3_2 : decode prog_60_method_3_code 2 = .ok (.aload_n 0, 1) := by decide +kernel
theorem d3_3 : decode prog_60_method_3_code 3 = .ok (.arraylength, 1) := by decide +kernel
theorem d3_4 : decode prog_60_method_3_code 4 = .ok (.istore 4, 2) := by decide +kernel
theorem d3_6 : decode prog_60_method_3_code 6 = .ok (.iload_n 3, 1) := by decide +kernel
theorem d3_7 : decode prog_60_method_3_code 7 = .ok (.iload 4, 2) := by decide +kernel
theorem d3_9 : decode prog_60_method_3_code 9 = .ok (.if_icmp .ge 35, 3) := by decide +kernel
theorem d3_12 : decode prog_60_method_3_code 12 = .ok (.iload_n 3, 1) := by decide +kernel
theorem d3_13 : decode prog_60_method_3_code 13 = .ok (.iload 4, 2) := by decide +kernel
theorem d3_15 : decode prog_60_method_3_code 15 = .ok (.iadd, 1) := by decide +kernel
theorem d3_16 : decode prog_60_method_3_code 16 = .ok (.iconst 1, 1) := by decide +kernel
theorem d3_17 : decode prog_60_method_3_code 17 = .ok (.iushr, 1) := by decide +kernel
theorem d3_18 : decode prog_60_method_3_code 18 = .ok (.istore 5, 2) := by decide +kernel
theorem d3_20 : decode prog_60_method_3_code 20 = .ok (.aload_n 0, 1) := by decide +kernel
theorem d3_21 : decode prog_60_method_3_code 21 = .ok (.iload 5, 2) := by decide +kernel
theorem d3_23 : decode prog_60_method_3_code 23 = .ok (.daload, 1) := by decide +kernel
theorem d3_24 : decode prog_60_method_3_code 24 = .ok (.dload_n 1, 1) := by decide +kernel
theorem d3_25 : decode prog_60_method_3_code 25 = .ok (.dcmp .g, 1) := by decide +kernel
theorem d3_26 : decode prog_60_method_3_code 26 = .ok (.ifCond .ge 11, 3) := by decide +kernel
theorem d3_29 : decode prog_60_method_3_code 29 = .ok (.iload 5, 2) := by decide +kernel
theorem d3_31 : decode prog_60_method_3_code 31 = .ok (.iconst 1, 1) := by decide +kernel
theorem d3_32 : decode prog_60_method_3_code 32 = .ok (.iadd, 1) := by decide +kernel
theorem d3_33 : decode prog_60_method_3_code 33 = .ok (.istore_n 3, 1) := by decide +kernel
theorem d3_34 : decode prog_60_method_3_code 34 = .ok (.goto 7, 3) := by decide +kernel
theorem d3_37 : decode prog_60_method_3_code 37 = .ok (.iload 5, 2) := by decide +kernel
theorem d3_39 : decode prog_60_method_3_code 39 = .ok (.istore 4, 2) := by decide +kernel
theorem d3_41 : decode prog_60_method_3_code 41 = .ok (.goto (-35), 3) := by decide +kernel
theorem d3_44 : decode prog_60_method_3_code 44 = .ok (.iload_n 3, 1) := by decide +kernel
theorem d3_45 : decode prog_60_method_3_code 45 = .ok (.ireturn, 1) := by decide +kernel
theorem pn_3 : plainName "com/example/glyphweave/glyphweave/Slots" = true := by first | (simp [plainName, overriddenIn]; done) | decide +kernel
theorem ef3_0 (m : MethodId) (x0 : Addr) (x1 : UInt64) : entryFrame m #[(.ref x0), (.double x1)] 6 = mkF m 0 #[.val (.ref x0), .val (.double x1), .second, .unset, .unset, .unset] [] := by first | (simp [entryFrame, mkF, argsToLocals, Value.category]; done) | rfl
def room3_0 : Room := { frames := 0, cells := 0, slots := 0, locals := 0 }
set_option maxRecDepth 65536 in
set_option maxHeartbeats 40000000 in
theorem rm3_0 (l : Launch) (Z : State) (a0 : Array Value) (hw : ∀ d ∈ tables_1, d.before a0 Z = true) (x0 : Addr) (x1 : UInt64) (h0 : Heap) (n0 : Nat) (Z0 : n0 ≤ h0.size)  (A0 : oDbls Z h0 x0 ([] : List UInt64)) :
    oCon l Z (⟨"com/example/glyphweave/glyphweave/Slots", "lowerBound", "([DD)I"⟩ : MethodName) prog_60_method_3_code 6 (some .int) room3_0 #[(.ref x0), (.double x1)] h0 (fun v h L => v = some (.int (0 : Int32)) ∧ L = [] ∧ h = h0) := by
  refine oCon.of (plainFor_of_name pn_3) ?_
  intro p e s m below meth c s₁ hx hby hml hown hnm hret hlk hZ X0 e0
  rw [ef3_0 m x0 x1]
  have N0 := Fr.nil n0
  refine o_iconst (pc' := 1) (v := (0 : Int32)) X0 hx (hb hby d3_0) rfl rfl ?_
  refine o_istoreN (pc' := 2) (l' := #[.val (.ref x0), .val (.double x1), .second, .val (.int (0 : Int32)), .unset, .unset]) X0 hx (hb hby d3_1) rfl rfl ?_
  refine o_aloadN (pc' := 3) X0 hx (hb hby d3_2) rfl rfl rfl ?_
  refine o_dalen (pc' := 4) X0 hx hZ e0 A0 (hb hby d3_3) rfl ?_
  show oGo p e below (oG s (fun v h L => v = some (.int (0 : Int32)) ∧ L = [] ∧ h = h0) room3_0.cells room3_0.slots) s₁ (mkF m 4 #[.val (.ref x0), .val (.double x1), .second, .val (.int (0 : Int32)), .unset, .unset] [(.int (0 : Int32))])
  refine o_istore (pc' := 6) (l' := #[.val (.ref x0), .val (.double x1), .second, .val (.int (0 : Int32)), .val (.int (0 : Int32)), .unset]) X0 hx (hb hby d3_4) rfl rfl ?_
  refine o_iloadN (pc' := 7) X0 hx (hb hby d3_6) rfl rfl ?_
  refine o_iload (pc' := 9) X0 hx (hb hby d3_7) rfl rfl ?_
  refine o_icmpT (pc' := 44) X0 hx (hb hby d3_9) (XT.ii_ge_t (by decide)) (by decide) (by decide) ?_
  refine o_iloadN (pc' := 45) X0 hx (hb hby d3_44) rfl rfl ?_
  refine o_retI X0 hx hret hlk (hb hby d3_45) (by decide) (by decide) ?_
  exact ⟨rfl, rfl, e0⟩
theorem d1_0 : decode method_4_code 0 = .ok (.iload_n 0, 1) := by decide +kernel
theorem d1_1 : decode method_4_code 1 = .ok (.ifCond .ne 7, 3) := by decide +kernel
theorem d1_4 : decode method_4_code 4 = .ok (.iconst 0, 1) := by decide +kernel
theorem d1_5 : decode method_4_code 5 = .ok (.newarray .double, 2) := by decide +kernel
theorem d1_7 : decode method_4_code 7 = .ok (.areturn, 1) := by decide +kernel
theorem d1_8 : decode method_4_code 8 = .ok (.iload_n 0, 1) := by decide +kernel
theorem d1_9 : decode method_4_code 9 = .ok (.iconst 1, 1) := by decide +kernel
theorem d1_10 : decode method_4_code 10 = .ok (.if_icmp .ne 11, 3) := by decide +kernel
theorem d1_13 : decode method_4_code 13 = .ok (.iconst 1, 1) := by decide +kernel
theorem d1_14 : decode method_4_code 14 = .ok (.newarray .double, 2) := by decide +kernel
theorem d1_16 : decode method_4_code 16 = .ok (.dup, 1) := by decide +kernel
theorem d1_17 : decode method_4_code 17 = .ok (.iconst 0, 1) := by decide +kernel
theorem d1_18 : decode method_4_code 18 = .ok (.dload_n 1, 1) := by decide +kernel
theorem d1_19 : decode method_4_code 19 = .ok (.dastore, 1) := by decide +kernel
theorem d1_20 : decode method_4_code 20 = .ok (.areturn, 1) := by decide +kernel
theorem d1_21 : decode method_4_code 21 = .ok (.iload_n 0, 1) := by decide +kernel
theorem d1_22 : decode method_4_code 22 = .ok (.iconst 2, 1) := by decide +kernel
theorem d1_23 : decode method_4_code 23 = .ok (.if_icmp .ne 15, 3) := by decide +kernel
theorem d1_26 : decode method_4_code 26 = .ok (.iconst 2, 1) := by decide +kernel
theorem d1_27 : decode method_4_code 27 = .ok (.newarray .double, 2) := by decide +kernel
theorem d1_29 : decode method_4_code 29 = .ok (.dup, 1) := by decide +kernel
theorem d1_30 : decode method_4_code 30 = .ok (.iconst 0, 1) := by decide +kernel
theorem d1_31 : decode method_4_code 31 = .ok (.dload_n 1, 1) := by decide +kernel
theorem d1_32 : decode method_4_code 32 = .ok (.dastore, 1) := by decide +kernel
theorem d1_33 : decode method_4_code 33 = .ok (.dup, 1) := by decide +kernel
theorem d1_34 : decode method_4_code 34 = .ok (.iconst 1, 1) := by decide +kernel
theorem d1_35 : decode method_4_code 35 = .ok (.dload_n 3, 1) := by decide +kernel
theorem d1_36 : decode method_4_code 36 = .ok (.dastore, 1) := by decide +kernel
theorem d1_37 : decode method_4_code 37 = .ok (.areturn, 1) := by decide +kernel
theorem d1_38 : decode method_4_code 38 = .ok (.iload_n 0, 1) := by decide +kernel
theorem d1_39 : decode method_4_code 39 = .ok (.iconst 3, 1) := by decide +kernel
theorem d1_40 : decode method_4_code 40 = .ok (.if_icmp .ne 20, 3) := by decide +kernel
theorem d1_43 : decode method_4_code 43 = .ok (.iconst 3, 1) := by decide +kernel
theorem d1_44 : decode method_4_code 44 = .ok (.newarray .double, 2) := by decide +kernel
theorem d1_46 : decode method_4_code 46 = .ok (.dup, 1) := by decide +kernel
theorem d1_47 : decode method_4_code 47 = .ok (.iconst 0, 1) := by decide +kernel
theorem d1_48 : decode method_4_code 48 = .ok (.dload_n 1, 1) := by decide +kernel
theorem d1_49 : decode method_4_code 49 = .ok (.dastore, 1) := by decide +kernel
theorem d1_50 : decode method_4_code 50 = .ok (.dup, 1) := by decide +kernel
theorem d1_51 : decode method_4_code 51 = .ok (.iconst 1, 1) := by decide +kernel
theorem d1_52 : decode method_4_code 52 = .ok (.dload_n 3, 1) := by decide +kernel
theorem d1_53 : decode method_4_code 53 = .ok (.dastore, 1) := by decide +kernel
theorem d1_54 : decode method_4_code 54 = .ok (.dup, 1) := by decide +kernel
theorem d1_55 : decode method_4_code 55 = .ok (.iconst 2, 1) := by decide +kernel
theorem d1_56 : decode method_4_code 56 = .ok (.dload 5, 2) := by decide +kernel
theorem d1_58 : decode method_4_code 58 = .ok (.dastore, 1) := by decide +kernel
theorem d1_59 : decode method_4_code 59 = .ok (.areturn, 1) := by decide +kernel
theorem d1_60 : decode method_4_code 60 = .ok (.iload_n 0, 1) := by decide +kernel
theorem d1_61 : decode method_4_code 61 = .ok (.iconst 4, 1) := by decide +kernel
theorem d1_62 : decode method_4_code 62 = .ok (.if_icmp .ne 25, 3) := by decide +kernel
theorem d1_65 : decode method_4_code 65 = .ok (.iconst 4, 1) := by decide +kernel
theorem d1_66 : decode method_4_code 66 = .ok (.newarray .double, 2) := by decide +kernel
theorem d1_68 : decode method_4_code 68 = .ok (.dup, 1) := by decide +kernel
theorem d1_69 : decode method_4_code 69 = .ok (.iconst 0, 1) := by decide +kernel
theorem d1_70 : decode method_4_code 70 = .ok (.dload_n 1, 1) := by decide +kernel
theorem d1_71 : decode method_4_code 71 = .ok (.dastore, 1) := by decide +kernel
theorem d1_72 : decode method_4_code 72 = .ok (.dup, 1) := by decide +kernel
theorem d1_73 : decode method_4_code 73 = .ok (.iconst 1, 1) := by decide +kernel
theorem d1_74 : decode method_4_code 74 = .ok (.dload_n 3, 1) := by decide +kernel
theorem d1_75 : decode method_4_code 75 = .ok (.dastore, 1) := by decide +kernel
theorem d1_76 : decode method_4_code 76 = .ok (.dup, 1) := by decide +kernel
theorem d1_77 : decode method_4_code 77 = .ok (.iconst 2, 1) := by decide +kernel
theorem d1_78 : decode method_4_code 78 = .ok (.dload 5, 2) := by decide +kernel
theorem d1_80 : decode method_4_code 80 = .ok (.dastore, 1) := by decide +kernel
theorem d1_81 : decode method_4_code 81 = .ok (.dup, 1) := by decide +kernel
theorem d1_82 : decode method_4_code 82 = .ok (.iconst 3, 1) := by decide +kernel
theorem d1_83 : decode method_4_code 83 = .ok (.dload 7, 2) := by decide +kernel
theorem d1_85 : decode method_4_code 85 = .ok (.dastore, 1) := by decide +kernel
theorem d1_86 : decode method_4_code 86 = .ok (.areturn, 1) := by decide +kernel
theorem d1_87 : decode method_4_code 87 = .ok (.iload_n 0, 1) := by decide +kernel
theorem d1_88 : decode method_4_code 88 = .ok (.iconst 5, 1) := by decide +kernel
theorem d1_89 : decode method_4_code 89 = .ok (.if_icmp .ne 30, 3) := by decide +kernel
theorem d1_92 : decode method_4_code 92 = .ok (.iconst 5, 1) := by decide +kernel
theorem d1_93 : decode method_4_code 93 = .ok (.newarray .double, 2) := by decide +kernel
theorem d1_95 : decode method_4_code 95 = .ok (.dup, 1) := by decide +kernel
theorem d1_96 : decode method_4_code 96 = .ok (.iconst 0, 1) := by decide +kernel
theorem d1_97 : decode method_4_code 97 = .ok (.dload_n 1, 1) := by decide +kernel
theorem d1_98 : decode method_4_code 98 = .ok (.dastore, 1) := by decide +kernel
theorem d1_99 : decode method_4_code 99 = .ok (.dup, 1) := by decide +kernel
theorem d1_100 : decode method_4_code 100 = .ok (.iconst 1, 1) := by decide +kernel
theorem d1_101 : decode method_4_code 101 = .ok (.dload_n 3, 1) := by decide +kernel
theorem d1_102 : decode method_4_code 102 = .ok (.dastore, 1) := by decide +kernel
theorem d1_103 : decode method_4_code 103 = .ok (.dup, 1) := by decide +kernel
theorem d1_104 : decode method_4_code 104 = .ok (.iconst 2, 1) := by decide +kernel
theorem d1_105 : decode method_4_code 105 = .ok (.dload 5, 2) := by decide +kernel
theorem d1_107 : decode method_4_code 107 = .ok (.dastore, 1) := by decide +kernel
theorem d1_108 : decode method_4_code 108 = .ok (.dup, 1) := by decide +kernel
theorem d1_109 : decode method_4_code 109 = .ok (.iconst 3, 1) := by decide +kernel
theorem d1_110 : decode method_4_code 110 = .ok (.dload 7, 2) := by decide +kernel
theorem d1_112 : decode method_4_code 112 = .ok (.dastore, 1) := by decide +kernel
theorem d1_113 : decode method_4_code 113 = .ok (.dup, 1) := by decide +kernel
theorem d1_114 : decode method_4_code 114 = .ok (.iconst 4, 1) := by decide +kernel
theorem d1_115 : decode method_4_code 115 = .ok (.dload 9, 2) := by decide +kernel
theorem d1_117 : decode method_4_code 117 = .ok (.dastore, 1) := by decide +kernel
theorem d1_118 : decode method_4_code 118 = .ok (.areturn, 1) := by decide +kernel
theorem d1_119 : decode method_4_code 119 = .ok (.bipush 6, 2) := by decide +kernel
theorem d1_121 : decode method_4_code 121 = .ok (.newarray .double, 2) := by decide +kernel
theorem d1_123 : decode method_4_code 123 = .ok (.dup, 1) := by decide +kernel
theorem d1_124 : decode method_4_code 124 = .ok (.iconst 0, 1) := by decide +kernel
theorem d1_125 : decode method_4_code 125 = .ok (.dload_n 1, 1) := by decide +kernel
theorem d1_126 : decode method_4_code 126 = .ok (.dastore, 1) := by decide +kernel
theorem d1_127 : decode method_4_code 127 = .ok (.dup, 1) := by decide +kernel
theorem d1_128 : decode method_4_code 128 = .ok (.iconst 1, 1) := by decide +kernel
theorem d1_129 : decode method_4_code 129 = .ok (.dload_n 3, 1) := by decide +kernel
theorem d1_130 : decode method_4_code 130 = .ok (.dastore, 1) := by decide +kernel
theorem d1_131 : decode method_4_code 131 = .ok (.dup, 1) := by decide +kernel
theorem d1_132 : decode method_4_code 132 = .ok (.iconst 2, 1) := by decide +kernel
theorem d1_133 : decode method_4_code 133 = .ok (.dload 5, 2) := by decide +kernel
theorem d1_135 : decode method_4_code 135 = .ok (.dastore, 1) := by decide +kernel
theorem d1_136 : decode method_4_code 136 = .ok (.dup, 1) := by decide +kernel
theorem d1_137 : decode method_4_code 137 = .ok (.iconst 3, 1) := by decide +kernel
theorem d1_138 : decode method_4_code 138 = .ok (.dload 7, 2) := by decide +kernel
theorem d1_140 : decode method_4_code 140 = .ok (.dastore, 1) := by decide +kernel
theorem d1_141 : decode method_4_code 141 = .ok (.dup, 1) := by decide +kernel
theorem d1_142 : decode method_4_code 142 = .ok (.iconst 4, 1) := by decide +kernel
theorem d1_143 : decode method_4_code 143 = .ok (.dload 9, 2) := by decide +kernel
theorem d1_145 : decode method_4_code 145 = .ok (.dastore, 1) := by decide +kernel
theorem d1_146 : decode method_4_code 146 = .ok (.dup, 1) := by decide +kernel
theorem d1_147 : decode method_4_code 147 = .ok (.iconst 5, 1) := by decide +kernel
theorem d1_148 : decode method_4_code 148 = .ok (.dload 11, 2) := by decide +kernel
theorem d1_150 : decode method_4_code 150 = .ok (.dastore, 1) := by decide +kernel
theorem d1_151 : decode method_4_code 151 = .ok (.areturn, 1) := by decide +kernel
theorem ef1_0 (m : MethodId) (x1 x2 x3 x4 x5 x6 : UInt64) : entryFrame m #[(.int (0 : Int32)), (.double x1), (.double x2), (.double x3), (.double x4), (.double x5), (.double x6)] 13 = mkF m 0 #[.val (.int (0 : Int32)), .val (.double x1), .second, .val (.double x2), .second, .val (.double x3), .second, .val (.double x4), .second, .val (.double x5), .second, .val (.double x6), .second] [] := by first | (simp [entryFrame, mkF, argsToLocals, Value.category]; done) | rfl
def room1_0 : Room := { frames := 0, cells := 1, slots := 0, locals := 0 }
set_option maxRecDepth 65536 in
set_option maxHeartbeats 40000000 in
theorem rm1_0 (l : Launch) (Z : State) (a0 : Array Value) (hw : ∀ d ∈ tables_1, d.before a0 Z = true) (x1 x2 x3 x4 x5 x6 : UInt64) (h0 : Heap) (n0 : Nat) (Z0 : n0 ≤ h0.size)  :
    oCon l Z (⟨"com/example/glyphweave/glyphweave/SlotsLowerBoundPinLaw", "make", "(IDDDDDD)[D"⟩ : MethodName) method_4_code 13 (some (.array .double)) room1_0 #[(.int (0 : Int32)), (.double x1), (.double x2), (.double x3), (.double x4), (.double x5), (.double x6)] h0 (fun v h L => v = some (.ref h0.size) ∧ Fr n0 L ∧ Keep h0 h [] ∧ oDbls Z h h0.size ([] : List UInt64)) := by
  refine oCon.of (plainFor_of_name pn_2) ?_
  intro p e s m below meth c s₁ hx hby hml hown hnm hret hlk hZ X0 e0
  rw [ef1_0 m x1 x2 x3 x4 x5 x6]
  have N0 := Fr.nil n0
  have K0 := Keep.refl h0 []
  refine o_iloadN (pc' := 1) X0 hx (hb hby d1_0) rfl rfl ?_
  refine o_ifF (pc' := 4) X0 hx (hb hby d1_1) (XT.i0_ne_f (by decide)) rfl ?_
  refine o_iconst (pc' := 5) (v := (0 : Int32)) X0 hx (hb hby d1_4) rfl rfl ?_
  obtain ⟨T1, h1_, X1, e1, E1, A1, st1⟩ := o_newD (Ls := #[.val (.int (0 : Int32)), .val (.double x1), .second, .val (.double x2), .second, .val (.double x3), .second, .val (.double x4), .second, .val (.double x5), .second, .val (.double x6), .second]) (st := []) (n := (0 : Int32)) X0 hx hZ (hw _ (List.mem_of_getElem? (i := 5) rfl)) e0 (hb hby d1_5) (by decide) 0 (by decide) (by decide) (by decide) (by decide) rfl
  obtain ⟨b1, g1⟩ : ∃ z, z = h0.size := ⟨_, rfl⟩
  rw [← g1] at A1 st1
  replace A1 : oDbls Z h1_ b1 ([] : List UInt64) := A1
  have ge2 : n0 ≤ b1 := by rw [g1]; exact Z0
  have ge3 : h0.size ≤ b1 := by rw [g1]; exact K0.1
  have K4 := (Keep.refl h0 []).ext E1
  have Z5 := Nat.le_trans Z0 K4.1
  have K6 := K0.trans K4 all0
  refine oGo.step (f' := (mkF m 7 #[.val (.int (0 : Int32)), .val (.double x1), .second, .val (.double x2), .second, .val (.double x3), .second, .val (.double x4), .second, .val (.double x5), .second, .val (.double x6), .second] [(.ref b1)])) st1 ?_
  refine o_retA X1 hx hret rfl hlk rfl rfl (hb hby d1_7) (by decide) (by decide) ?_
  rw [e1]
  subst g1
  exact ⟨rfl, N0, K6, A1⟩
theorem ef3_1 (m : MethodId) (x0 : Addr) (x1 : UInt64) : entryFrame m #[(.ref x0), (.double x1)] 6 = mkF m 0 #[.val (.ref x0), .val (.double x1), .second, .unset, .unset, .unset] [] := by first | (simp [entryFrame, mkF, argsToLocals, Value.category]; done) | rfl
def spec3_1 (x1 : UInt64) (d0 : UInt64) : Int32 := (if (cmpValue (FP.dcmp d0 x1) .g) < 0 then (1 : Int32) else (0 : Int32))
def room3_1 : Room := { frames := 0, cells := 0, slots := 0, locals := 0 }
set_option maxRecDepth 65536 in
set_option maxHeartbeats 40000000 in
theorem rm3_1 (l : Launch) (Z : State) (a0 : Array Value) (hw : ∀ d ∈ tables_1, d.before a0 Z = true) (x0 : Addr) (x1 : UInt64) (d0 : UInt64) (h0 : Heap) (n0 : Nat) (Z0 : n0 ≤ h0.size)  (A0 : oDbls Z h0 x0 [d0]) :
    oCon l Z (⟨"com/example/glyphweave/glyphweave/Slots", "lowerBound", "([DD)I"⟩ : MethodName) prog_60_method_3_code 6 (some .int) room3_1 #[(.ref x0), (.double x1)] h0 (fun v h L => v = some (.int (spec3_1 x1 d0)) ∧ L = [] ∧ h = h0) := by
  refine oCon.of (plainFor_of_name pn_3) ?_
  intro p e s m below meth c s₁ hx hby hml hown hnm hret hlk hZ X0 e0
  rw [ef3_1 m x0 x1]
  have N0 := Fr.nil n0
  refine o_iconst (pc' := 1) (v := (0 : Int32)) X0 hx (hb hby d3_0) rfl rfl ?_
  refine o_istoreN (pc' := 2) (l' := #[.val (.ref x0), .val (.double x1), .second, .val (.int (0 : Int32)), .unset, .unset]) X0 hx (hb hby d3_1) rfl rfl ?_
  refine o_aloadN (pc' := 3) X0 hx (hb hby d3_2) rfl rfl rfl ?_
  refine o_dalen (pc' := 4) X0 hx hZ e0 A0 (hb hby d3_3) rfl ?_
  show oGo p e below (oG s (fun v h L => v = some (.int (spec3_1 x1 d0)) ∧ L = [] ∧ h = h0) room3_1.cells room3_1.slots) s₁ (mkF m 4 #[.val (.ref x0), .val (.double x1), .second, .val (.int (0 : Int32)), .unset, .unset] [(.int (1 : Int32))])
  refine o_istore (pc' := 6) (l' := #[.val (.ref x0), .val (.double x1), .second, .val (.int (0 : Int32)), .val (.int (1 : Int32)), .unset]) X0 hx (hb hby d3_4) rfl rfl ?_
  refine o_iloadN (pc' := 7) X0 hx (hb hby d3_6) rfl rfl ?_
  refine o_iload (pc' := 9) X0 hx (hb hby d3_7) rfl rfl ?_
  refine o_icmpF (pc' := 12) X0 hx (hb hby d3_9) (XT.ii_ge_f (by decide)) rfl ?_
  refine o_iloadN (pc' := 13) X0 hx (hb hby d3_12) rfl rfl ?_
  refine o_iload (pc' := 15) X0 hx (hb hby d3_13) rfl rfl ?_
  refine o_iadd (pc' := 16) X0 hx (hb hby d3_15)  rfl ?_
  rw [show ((0 : Int32) + (1 : Int32)) = (1 : Int32) from by decide]
  refine o_iconst (pc' := 17) (v := (1 : Int32)) X0 hx (hb hby d3_16) rfl rfl ?_
  refine o_iushr (pc' := 18) X0 hx (hb hby d3_17)  rfl ?_
  rw [show (XT.ushr (1 : Int32) (1 : Int32)) = (0 : Int32) from by decide]
  refine o_istore (pc' := 20) (l' := #[.val (.ref x0), .val (.double x1), .second, .val (.int (0 : Int32)), .val (.int (1 : Int32)), .val (.int (0 : Int32))]) X0 hx (hb hby d3_18) rfl rfl ?_
  refine o_aloadN (pc' := 21) X0 hx (hb hby d3_20) rfl rfl rfl ?_
  refine o_iload (pc' := 23) X0 hx (hb hby d3_21) rfl rfl ?_
  refine o_daload (pc' := 24) (v := d0) X0 hx hZ e0 A0 (hb hby d3_23) (by decide) rfl rfl ?_
  refine o_dloadN (pc' := 25) X0 hx (hb hby d3_24) rfl rfl ?_
  refine o_dcmp (pc' := 26) X0 hx (hb hby d3_25) rfl ?_
  by_cases c1 : (cmpValue (FP.dcmp d0 x1) .g) < 0
  · refine o_ifF (pc' := 29) X0 hx (hb hby d3_26) (XT.i0_ge_f c1) rfl ?_
    refine o_iload (pc' := 31) X0 hx (hb hby d3_29) rfl rfl ?_
    refine o_iconst (pc' := 32) (v := (1 : Int32)) X0 hx (hb hby d3_31) rfl rfl ?_
    refine o_iadd (pc' := 33) X0 hx (hb hby d3_32)  rfl ?_
    rw [show ((0 : Int32) + (1 : Int32)) = (1 : Int32) from by decide]
    refine o_istoreN (pc' := 34) (l' := #[.val (.ref x0), .val (.double x1), .second, .val (.int (1 : Int32)), .val (.int (1 : Int32)), .val (.int (0 : Int32))]) X0 hx (hb hby d3_33) rfl rfl ?_
    refine o_goto (pc' := 41) X0 hx (hb hby d3_34) (by decide) (by decide) ?_
    refine o_goto (pc' := 6) X0 hx (hb hby d3_41) (by decide) (by decide) ?_
    refine o_iloadN (pc' := 7) X0 hx (hb hby d3_6) rfl rfl ?_
    refine o_iload (pc' := 9) X0 hx (hb hby d3_7) rfl rfl ?_
    refine o_icmpT (pc' := 44) X0 hx (hb hby d3_9) (XT.ii_ge_t (by decide)) (by decide) (by decide) ?_
    refine o_iloadN (pc' := 45) X0 hx (hb hby d3_44) rfl rfl ?_
    refine o_retI X0 hx hret hlk (hb hby d3_45) (by decide) (by decide) ?_
    exact ⟨congrArg (fun z => some (Value.int z)) (show _ = (spec3_1 x1 d0) from (if_pos c1).symm), rfl, e0⟩
  · refine o_ifT (pc' := 37) X0 hx (hb hby d3_26) (XT.i0_ge_t c1) (by decide) (by decide) ?_
    refine o_iload (pc' := 39) X0 hx (hb hby d3_37) rfl rfl ?_
    refine o_istore (pc' := 41) (l' := #[.val (.ref x0), .val (.double x1), .second, .val (.int (0 : Int32)), .val (.int (0 : Int32)), .val (.int (0 : Int32))]) X0 hx (hb hby d3_39) rfl rfl ?_
    refine o_goto (pc' := 6) X0 hx (hb hby d3_41) (by decide) (by decide) ?_
    refine o_iloadN (pc' := 7) X0 hx (hb hby d3_6) rfl rfl ?_
    refine o_iload (pc' := 9) X0 hx (hb hby d3_7) rfl rfl ?_
    refine o_icmpT (pc' := 44) X0 hx (hb hby d3_9) (XT.ii_ge_t (by decide)) (by decide) (by decide) ?_
    refine o_iloadN (pc' := 45) X0 hx (hb hby d3_44) rfl rfl ?_
    refine o_retI X0 hx hret hlk (hb hby d3_45) (by decide) (by decide) ?_
    exact ⟨congrArg (fun z => some (Value.int z)) (show _ = (spec3_1 x1 d0) from (if_neg c1).symm), rfl, e0⟩
theorem ef1_1 (m : MethodId) (x1 x2 x3 x4 x5 x6 : UInt64) : entryFrame m #[(.int (1 : Int32)), (.double x1), (.double x2), (.double x3), (.double x4), (.double x5), (.double x6)] 13 = mkF m 0 #[.val (.int (1 : Int32)), .val (.double x1), .second, .val (.double x2), .second, .val (.double x3), .second, .val (.double x4), .second, .val (.double x5), .second, .val (.double x6), .second] [] := by first | (simp [entryFrame, mkF, argsToLocals, Value.category]; done) | rfl
def room1_1 : Room := { frames := 0, cells := 1, slots := 1, locals := 0 }
set_option maxRecDepth 65536 in
set_option maxHeartbeats 40000000 in
theorem rm1_1 (l : Launch) (Z : State) (a0 : Array Value) (hw : ∀ d ∈ tables_1, d.before a0 Z = true) (x1 x2 x3 x4 x5 x6 : UInt64) (h0 : Heap) (n0 : Nat) (Z0 : n0 ≤ h0.size)  :
    oCon l Z (⟨"com/example/glyphweave/glyphweave/SlotsLowerBoundPinLaw", "make", "(IDDDDDD)[D"⟩ : MethodName) method_4_code 13 (some (.array .double)) room1_1 #[(.int (1 : Int32)), (.double x1), (.double x2), (.double x3), (.double x4), (.double x5), (.double x6)] h0 (fun v h L => v = some (.ref h0.size) ∧ Fr n0 L ∧ Keep h0 h [] ∧ oDbls Z h h0.size [x1]) := by
  refine oCon.of (plainFor_of_name pn_2) ?_
  intro p e s m below meth c s₁ hx hby hml hown hnm hret hlk hZ X0 e0
  rw [ef1_1 m x1 x2 x3 x4 x5 x6]
  have N0 := Fr.nil n0
  have K0 := Keep.refl h0 []
  refine o_iloadN (pc' := 1) X0 hx (hb hby d1_0) rfl rfl ?_
  refine o_ifT (pc' := 8) X0 hx (hb hby d1_1) (XT.i0_ne_t (by decide)) (by decide) (by decide) ?_
  refine o_iloadN (pc' := 9) X0 hx (hb hby d1_8) rfl rfl ?_
  refine o_iconst (pc' := 10) (v := (1 : Int32)) X0 hx (hb hby d1_9) rfl rfl ?_
  refine o_icmpF (pc' := 13) X0 hx (hb hby d1_10) (XT.ii_ne_f (by decide)) rfl ?_
  refine o_iconst (pc' := 14) (v := (1 : Int32)) X0 hx (hb hby d1_13) rfl rfl ?_
  obtain ⟨T1, h1_, X1, e1, E1, A1, st1⟩ := o_newD (Ls := #[.val (.int (1 : Int32)), .val (.double x1), .second, .val (.double x2), .second, .val (.double x3), .second, .val (.double x4), .second, .val (.double x5), .second, .val (.double x6), .second]) (st := []) (n := (1 : Int32)) X0 hx hZ (hw _ (List.mem_of_getElem? (i := 5) rfl)) e0 (hb hby d1_14) (by decide) 1 (by decide) (by decide) (by decide) (by decide) rfl
  obtain ⟨b1, g1⟩ : ∃ z, z = h0.size := ⟨_, rfl⟩
  rw [← g1] at A1 st1
  replace A1 : oDbls Z h1_ b1 [(0 : UInt64)] := A1
  have ge2 : n0 ≤ b1 := by rw [g1]; exact Z0
  have ge3 : h0.size ≤ b1 := by rw [g1]; exact K0.1
  have K4 := (Keep.refl h0 []).ext E1
  have Z5 := Nat.le_trans Z0 K4.1
  have K6 := K0.trans K4 all0
  refine oGo.step (f' := (mkF m 16 #[.val (.int (1 : Int32)), .val (.double x1), .second, .val (.double x2), .second, .val (.double x3), .second, .val (.double x4), .second, .val (.double x5), .second, .val (.double x6), .second] [(.ref b1)])) st1 ?_
  refine o_dup (pc' := 17) X1 hx (hb hby d1_16) rfl rfl ?_
  refine o_iconst (pc' := 18) (v := (0 : Int32)) X1 hx (hb hby d1_17) rfl rfl ?_
  refine o_dloadN (pc' := 19) X1 hx (hb hby d1_18) rfl rfl ?_
  obtain ⟨T7, h7_, X7, e7, W7, st7⟩ := o_dastore (x := x1) (j := (0 : Int32)) (Ls := #[.val (.int (1 : Int32)), .val (.double x1), .second, .val (.double x2), .second, .val (.double x3), .second, .val (.double x4), .second, .val (.double x5), .second, .val (.double x6), .second]) (st := [(.ref b1)]) X1 hx hZ e1 A1 (hb hby d1_19) (by decide) (show _ < 1 by decide) rfl
  refine oGo.step (f' := (mkF m 20 #[.val (.int (1 : Int32)), .val (.double x1), .second, .val (.double x2), .second, .val (.double x3), .second, .val (.double x4), .second, .val (.double x5), .second, .val (.double x6), .second] [(.ref b1)])) st7 ?_
  have N7 := Fr.snoc X7 N0 ge2
  have F8 := A1.set W7
  replace F8 : oDbls Z h7_ b1 [x1] := F8
  have K9 := Keep.of_wr W7
  have Z10 := Nat.le_trans Z5 K9.1
  have K11 := K6.trans K9 (allS (Or.inr ge3) all0)
  refine o_retA X7 hx hret rfl hlk rfl rfl (hb hby d1_20) (by decide) (by decide) ?_
  rw [e7]
  subst g1
  exact ⟨rfl, N7, K11, F8⟩
theorem ef3_2 (m : MethodId) (x0 : Addr) (x1 : UInt64) : entryFrame m #[(.ref x0), (.double x1)] 6 = mkF m 0 #[.val (.ref x0), .val (.double x1), .second, .unset, .unset, .unset] [] := by first | (simp [entryFrame, mkF, argsToLocals, Value.category]; done) | rfl
def spec3_2 (x1 : UInt64) (d0 : UInt64) (d1 : UInt64) : Int32 := (if (cmpValue (FP.dcmp d1 x1) .g) < 0 then (2 : Int32) else (if (cmpValue (FP.dcmp d0 x1) .g) < 0 then (1 : Int32) else (0 : Int32)))
def room3_2 : Room := { frames := 0, cells := 0, slots := 0, locals := 0 }
set_option maxRecDepth 65536 in
set_option maxHeartbeats 40000000 in
theorem rm3_2 (l : Launch) (Z : State) (a0 : Array Value) (hw : ∀ d ∈ tables_1, d.before a0 Z = true) (x0 : Addr) (x1 : UInt64) (d0 : UInt64) (d1 : UInt64) (h0 : Heap) (n0 : Nat) (Z0 : n0 ≤ h0.size)  (A0 : oDbls Z h0 x0 [d0, d1]) :
    oCon l Z (⟨"com/example/glyphweave/glyphweave/Slots", "lowerBound", "([DD)I"⟩ : MethodName) prog_60_method_3_code 6 (some .int) room3_2 #[(.ref x0), (.double x1)] h0 (fun v h L => v = some (.int (spec3_2 x1 d0 d1)) ∧ L = [] ∧ h = h0) := by
  refine oCon.of (plainFor_of_name pn_3) ?_
  intro p e s m below meth c s₁ hx hby hml hown hnm hret hlk hZ X0 e0
  rw [ef3_2 m x0 x1]
  have N0 := Fr.nil n0
  refine o_iconst (pc' := 1) (v := (0 : Int32)) X0 hx (hb hby d3_0) rfl rfl ?_
  refine o_istoreN (pc' := 2) (l' := #[.val (.ref x0), .val (.double x1), .second, .val (.int (0 : Int32)), .unset, .unset]) X0 hx (hb hby d3_1) rfl rfl ?_
  refine o_aloadN (pc' := 3) X0 hx (hb hby d3_2) rfl rfl rfl ?_
  refine o_dalen (pc' := 4) X0 hx hZ e0 A0 (hb hby d3_3) rfl ?_
  show oGo p e below (oG s (fun v h L => v = some (.int (spec3_2 x1 d0 d1)) ∧ L = [] ∧ h = h0) room3_2.cells room3_2.slots) s₁ (mkF m 4 #[.val (.ref x0), .val (.double x1), .second, .val (.int (0 : Int32)), .unset, .unset] [(.int (2 : Int32))])
  refine o_istore (pc' := 6) (l' := #[.val (.ref x0), .val (.double x1), .second, .val (.int (0 : Int32)), .val (.int (2 : Int32)), .unset]) X0 hx (hb hby d3_4) rfl rfl ?_
  refine o_iloadN (pc' := 7) X0 hx (hb hby d3_6) rfl rfl ?_
  refine o_iload (pc' := 9) X0 hx (hb hby d3_7) rfl rfl ?_
  refine o_icmpF (pc' := 12) X0 hx (hb hby d3_9) (XT.ii_ge_f (by decide)) rfl ?_
  refine o_iloadN (pc' := 13) X0 hx (hb hby d3_12) rfl rfl ?_
  refine o_iload (pc' := 15) X0 hx (hb hby d3_13) rfl rfl ?_
  refine o_iadd (pc' := 16) X0 hx (hb hby d3_15)  rfl ?_
  rw [show ((0 : Int32) + (2 : Int32)) = (2 : Int32) from by decide]
  refine o_iconst (pc' := 17) (v := (1 : Int32)) X0 hx (hb hby d3_16) rfl rfl ?_
  refine o_iushr (pc' := 18) X0 hx (hb hby d3_17)  rfl ?_
  rw [show (XT.ushr (2 : Int32) (1 : Int32)) = (1 : Int32) from by decide]
  refine o_istore (pc' := 20) (l' := #[.val (.ref x0), .val (.double x1), .second, .val (.int (0 : Int32)), .val (.int (2 : Int32)), .val (.int (1 : Int32))]) X0 hx (hb hby d3_18) rfl rfl ?_
  refine o_aloadN (pc' := 21) X0 hx (hb hby d3_20) rfl rfl rfl ?_
  refine o_iload (pc' := 23) X0 hx (hb hby d3_21) rfl rfl ?_
  refine o_daload (pc' := 24) (v := d1) X0 hx hZ e0 A0 (hb hby d3_23) (by decide) rfl rfl ?_
  refine o_dloadN (pc' := 25) X0 hx (hb hby d3_24) rfl rfl ?_
  refine o_dcmp (pc' := 26) X0 hx (hb hby d3_25) rfl ?_
  by_cases c1 : (cmpValue (FP.dcmp d1 x1) .g) < 0
  · refine o_ifF (pc' := 29) X0 hx (hb hby d3_26) (XT.i0_ge_f c1) rfl ?_
    refine o_iload (pc' := 31) X0 hx (hb hby d3_29) rfl rfl ?_
    refine o_iconst (pc' := 32) (v := (1 : Int32)) X0 hx (hb hby d3_31) rfl rfl ?_
    refine o_iadd (pc' := 33) X0 hx (hb hby d3_32)  rfl ?_
    rw [show ((1 : Int32) + (1 : Int32)) = (2 : Int32) from by decide]
    refine o_istoreN (pc' := 34) (l' := #[.val (.ref x0), .val (.double x1), .second, .val (.int (2 : Int32)), .val (.int (2 : Int32)), .val (.int (1 : Int32))]) X0 hx (hb hby d3_33) rfl rfl ?_
    refine o_goto (pc' := 41) X0 hx (hb hby d3_34) (by decide) (by decide) ?_
    refine o_goto (pc' := 6) X0 hx (hb hby d3_41) (by decide) (by decide) ?_
    refine o_iloadN (pc' := 7) X0 hx (hb hby d3_6) rfl rfl ?_
    refine o_iload (pc' := 9) X0 hx (hb hby d3_7) rfl rfl ?_
    refine o_icmpT (pc' := 44) X0 hx (hb hby d3_9) (XT.ii_ge_t (by decide)) (by decide) (by decide) ?_
    refine o_iloadN (pc' := 45) X0 hx (hb hby d3_44) rfl rfl ?_
    refine o_retI X0 hx hret hlk (hb hby d3_45) (by decide) (by decide) ?_
    exact ⟨congrArg (fun z => some (Value.int z)) (show _ = (spec3_2 x1 d0 d1) from (if_pos c1).symm), rfl, e0⟩
  · refine o_ifT (pc' := 37) X0 hx (hb hby d3_26) (XT.i0_ge_t c1) (by decide) (by decide) ?_
    refine o_iload (pc' := 39) X0 hx (hb hby d3_37) rfl rfl ?_
    refine o_istore (pc' := 41) (l' := #[.val (.ref x0), .val (.double x1), .second, .val (.int (0 : Int32)), .val (.int (1 : Int32)), .val (.int (1 : Int32))]) X0 hx (hb hby d3_39) rfl rfl ?_
    refine o_goto (pc' := 6) X0 hx (hb hby d3_41) (by decide) (by decide) ?_
    refine o_iloadN (pc' := 7) X0 hx (hb hby d3_6) rfl rfl ?_
    refine o_iload (pc' := 9) X0 hx (hb hby d3_7) rfl rfl ?_
    refine o_icmpF (pc' := 12) X0 hx (hb hby d3_9) (XT.ii_ge_f (by decide)) rfl ?_
    refine o_iloadN (pc' := 13) X0 hx (hb hby d3_12) rfl rfl ?_
    refine o_iload (pc' := 15) X0 hx (hb hby d3_13) rfl rfl ?_
    refine o_iadd (pc' := 16) X0 hx (hb hby d3_15)  rfl ?_
    rw [show ((0 : Int32) + (1 : Int32)) = (1 : Int32) from by decide]
    refine o_iconst (pc' := 17) (v := (1 : Int32)) X0 hx (hb hby d3_16) rfl rfl ?_
    refine o_iushr (pc' := 18) X0 hx (hb hby d3_17)  rfl ?_
    rw [show (XT.ushr (1 : Int32) (1 : Int32)) = (0 : Int32) from by decide]
    refine o_istore (pc' := 20) (l' := #[.val (.ref x0), .val (.double x1), .second, .val (.int (0 : Int32)), .val (.int (1 : Int32)), .val (.int (0 : Int32))]) X0 hx (hb hby d3_18) rfl rfl ?_
    refine o_aloadN (pc' := 21) X0 hx (hb hby d3_20) rfl rfl rfl ?_
    refine o_iload (pc' := 23) X0 hx (hb hby d3_21) rfl rfl ?_
    refine o_daload (pc' := 24) (v := d0) X0 hx hZ e0 A0 (hb hby d3_23) (by decide) rfl rfl ?_
    refine o_dloadN (pc' := 25) X0 hx (hb hby d3_24) rfl rfl ?_
    refine o_dcmp (pc' := 26) X0 hx (hb hby d3_25) rfl ?_
    by_cases c2 : (cmpValue (FP.dcmp d0 x1) .g) < 0
    · refine o_ifF (pc' := 29) X0 hx (hb hby d3_26) (XT.i0_ge_f c2) rfl ?_
      refine o_iload (pc' := 31) X0 hx (hb hby d3_29) rfl rfl ?_
      refine o_iconst (pc' := 32) (v := (1 : Int32)) X0 hx (hb hby d3_31) rfl rfl ?_
      refine o_iadd (pc' := 33) X0 hx (hb hby d3_32)  rfl ?_
      rw [show ((0 : Int32) + (1 : Int32)) = (1 : Int32) from by decide]
      refine o_istoreN (pc' := 34) (l' := #[.val (.ref x0), .val (.double x1), .second, .val (.int (1 : Int32)), .val (.int (1 : Int32)), .val (.int (0 : Int32))]) X0 hx (hb hby d3_33) rfl rfl ?_
      refine o_goto (pc' := 41) X0 hx (hb hby d3_34) (by decide) (by decide) ?_
      refine o_goto (pc' := 6) X0 hx (hb hby d3_41) (by decide) (by decide) ?_
      refine o_iloadN (pc' := 7) X0 hx (hb hby d3_6) rfl rfl ?_
      refine o_iload (pc' := 9) X0 hx (hb hby d3_7) rfl rfl ?_
      refine o_icmpT (pc' := 44) X0 hx (hb hby d3_9) (XT.ii_ge_t (by decide)) (by decide) (by decide) ?_
      refine o_iloadN (pc' := 45) X0 hx (hb hby d3_44) rfl rfl ?_
      refine o_retI X0 hx hret hlk (hb hby d3_45) (by decide) (by decide) ?_
      exact ⟨congrArg (fun z => some (Value.int z)) (show _ = (spec3_2 x1 d0 d1) from ((if_neg c1).trans (if_pos c2)).symm), rfl, e0⟩
    · refine o_ifT (pc' := 37) X0 hx (hb hby d3_26) (XT.i0_ge_t c2) (by decide) (by decide) ?_
      refine o_iload (pc' := 39) X0 hx (hb hby d3_37) rfl rfl ?_
      refine o_istore (pc' := 41) (l' := #[.val (.ref x0), .val (.double x1), .second, .val (.int (0 : Int32)), .val (.int (0 : Int32)), .val (.int (0 : Int32))]) X0 hx (hb hby d3_39) rfl rfl ?_
      refine o_goto (pc' := 6) X0 hx (hb hby d3_41) (by decide) (by decide) ?_
      refine o_iloadN (pc' := 7) X0 hx (hb hby d3_6) rfl rfl ?_
      refine o_iload (pc' := 9) X0 hx (hb hby d3_7) rfl rfl ?_
      refine o_icmpT (pc' := 44) X0 hx (hb hby d3_9) (XT.ii_ge_t (by decide)) (by decide) (by decide) ?_
      refine o_iloadN (pc' := 45) X0 hx (hb hby d3_44) rfl rfl ?_
      refine o_retI X0 hx hret hlk (hb hby d3_45) (by decide) (by decide) ?_
      exact ⟨congrArg (fun z => some (Value.int z)) (show _ = (spec3_2 x1 d0 d1) from ((if_neg c1).trans (if_neg c2)).symm), rfl, e0⟩
theorem ef1_2 (m : MethodId) (x1 x2 x3 x4 x5 x6 : UInt64) : entryFrame m #[(.int (2 : Int32)), (.double x1), (.double x2), (.double x3), (.double x4), (.double x5), (.double x6)] 13 = mkF m 0 #[.val (.int (2 : Int32)), .val (.double x1), .second, .val (.double x2), .second, .val (.double x3), .second, .val (.double x4), .second, .val (.double x5), .second, .val (.double x6), .second] [] := by first | (simp [entryFrame, mkF, argsToLocals, Value.category]; done) | rfl
def room1_2 : Room := { frames := 0, cells := 1, slots := 2, locals := 0 }
set_option maxRecDepth 65536 in
set_option maxHeartbeats 40000000 in
theorem rm1_2 (l : Launch) (Z : State) (a0 : Array Value) (hw : ∀ d ∈ tables_1, d.before a0 Z = true) (x1 x2 x3 x4 x5 x6 : UInt64) (h0 : Heap) (n0 : Nat) (Z0 : n0 ≤ h0.size)  :
    oCon l Z (⟨"com/example/glyphweave/glyphweave/SlotsLowerBoundPinLaw", "make", "(IDDDDDD)[D"⟩ : MethodName) method_4_code 13 (some (.array .double)) room1_2 #[(.int (2 : Int32)), (.double x1), (.double x2), (.double x3), (.double x4), (.double x5), (.double x6)] h0 (fun v h L => v = some (.ref h0.size) ∧ Fr n0 L ∧ Keep h0 h [] ∧ oDbls Z h h0.size [x1, x2]) := by
  refine oCon.of (plainFor_of_name pn_2) ?_
  intro p e s m below meth c s₁ hx hby hml hown hnm hret hlk hZ X0 e0
  rw [ef1_2 m x1 x2 x3 x4 x5 x6]
  have N0 := Fr.nil n0
  have K0 := Keep.refl h0 []
  refine o_iloadN (pc' := 1) X0 hx (hb hby d1_0) rfl rfl ?_
  refine o_ifT (pc' := 8) X0 hx (hb hby d1_1) (XT.i0_ne_t (by decide)) (by decide) (by decide) ?_
  refine o_iloadN (pc' := 9) X0 hx (hb hby d1_8) rfl rfl ?_
  refine o_iconst (pc' := 10) (v := (1 : Int32)) X0 hx (hb hby d1_9) rfl rfl ?_
  refine o_icmpT (pc' := 21) X0 hx (hb hby d1_10) (XT.ii_ne_t (by decide)) (by decide) (by decide) ?_
  refine o_iloadN (pc' := 22) X0 hx (hb hby d1_21) rfl rfl ?_
  refine o_iconst (pc' := 23) (v := (2 : Int32)) X0 hx (hb hby d1_22) rfl rfl ?_
  refine o_icmpF (pc' := 26) X0 hx (hb hby d1_23) (XT.ii_ne_f (by decide)) rfl ?_
  refine o_iconst (pc' := 27) (v := (2 : Int32)) X0 hx (hb hby d1_26) rfl rfl ?_
  obtain ⟨T1, h1_, X1, e1, E1, A1, st1⟩ := o_newD (Ls := #[.val (.int (2 : Int32)), .val (.double x1), .second, .val (.double x2), .second, .val (.double x3), .second, .val (.double x4), .second, .val (.double x5), .second, .val (.double x6), .second]) (st := []) (n := (2 : Int32)) X0 hx hZ (hw _ (List.mem_of_getElem? (i := 5) rfl)) e0 (hb hby d1_27) (by decide) 2 (by decide) (by decide) (by decide) (by decide) rfl
  obtain ⟨b1, g1⟩ : ∃ z, z = h0.size := ⟨_, rfl⟩
  rw [← g1] at A1 st1
  replace A1 : oDbls Z h1_ b1 [(0 : UInt64), (0 : UInt64)] := A1
  have ge2 : n0 ≤ b1 := by rw [g1]; exact Z0
  have ge3 : h0.size ≤ b1 := by rw [g1]; exact K0.1
  have K4 := (Keep.refl h0 []).ext E1
  have Z5 := Nat.le_trans Z0 K4.1
  have K6 := K0.trans K4 all0
  refine oGo.step (f' := (mkF m 29 #[.val (.int (2 : Int32)), .val (.double x1), .second, .val (.double x2), .second, .val (.double x3), .second, .val (.double x4), .second, .val (.double x5), .second, .val (.double x6), .second] [(.ref b1)])) st1 ?_
  refine o_dup (pc' := 30) X1 hx (hb hby d1_29) rfl rfl ?_
  refine o_iconst (pc' := 31) (v := (0 : Int32)) X1 hx (hb hby d1_30) rfl rfl ?_
  refine o_dloadN (pc' := 32) X1 hx (hb hby d1_31) rfl rfl ?_
  obtain ⟨T7, h7_, X7, e7, W7, st7⟩ := o_dastore (x := x1) (j := (0 : Int32)) (Ls := #[.val (.int (2 : Int32)), .val (.double x1), .second, .val (.double x2), .second, .val (.double x3), .second, .val (.double x4), .second, .val (.double x5), .second, .val (.double x6), .second]) (st := [(.ref b1)]) X1 hx hZ e1 A1 (hb hby d1_32) (by decide) (show _ < 2 by decide) rfl
  refine oGo.step (f' := (mkF m 33 #[.val (.int (2 : Int32)), .val (.double x1), .second, .val (.double x2), .second, .val (.double x3), .second, .val (.double x4), .second, .val (.double x5), .second, .val (.double x6), .second] [(.ref b1)])) st7 ?_
  have N7 := Fr.snoc X7 N0 ge2
  have F8 := A1.set W7
  replace F8 : oDbls Z h7_ b1 [x1, (0 : UInt64)] := F8
  have K9 := Keep.of_wr W7
  have Z10 := Nat.le_trans Z5 K9.1
  have K11 := K6.trans K9 (allS (Or.inr ge3) all0)
  refine o_dup (pc' := 34) X7 hx (hb hby d1_33) rfl rfl ?_
  refine o_iconst (pc' := 35) (v := (1 : Int32)) X7 hx (hb hby d1_34) rfl rfl ?_
  refine o_dloadN (pc' := 36) X7 hx (hb hby d1_35) rfl rfl ?_
  obtain ⟨T12, h12_, X12, e12, W12, st12⟩ := o_dastore (x := x2) (j := (1 : Int32)) (Ls := #[.val (.int (2 : Int32)), .val (.double x1), .second, .val (.double x2), .second, .val (.double x3), .second, .val (.double x4), .second, .val (.double x5), .second, .val (.double x6), .second]) (st := [(.ref b1)]) X7 hx hZ e7 F8 (hb hby d1_36) (by decide) (show _ < 2 by decide) rfl
  refine oGo.step (f' := (mkF m 37 #[.val (.int (2 : Int32)), .val (.double x1), .second, .val (.double x2), .second, .val (.double x3), .second, .val (.double x4), .second, .val (.double x5), .second, .val (.double x6), .second] [(.ref b1)])) st12 ?_
  have N12 := Fr.snoc X12 N7 ge2
  have F13 := F8.set W12
  replace F13 : oDbls Z h12_ b1 [x1, x2] := F13
  have K14 := Keep.of_wr W12
  have Z15 := Nat.le_trans Z10 K14.1
  have K16 := K11.trans K14 (allS (Or.inr ge3) all0)
  refine o_retA X12 hx hret rfl hlk rfl rfl (hb hby d1_37) (by decide) (by decide) ?_
  rw [e12]
  subst g1
  exact ⟨rfl, N12, K16, F13⟩
theorem ef3_3 (m : MethodId) (x0 : Addr) (x1 : UInt64) : entryFrame m #[(.ref x0), (.double x1)] 6 = mkF m 0 #[.val (.ref x0), .val (.double x1), .second, .unset, .unset, .unset] [] := by first | (simp [entryFrame, mkF, argsToLocals, Value.category]; done) | rfl
def spec3_3 (x1 : UInt64) (d0 : UInt64) (d1 : UInt64) (d2 : UInt64) : Int32 := (if (cmpValue (FP.dcmp d1 x1) .g) < 0 then (if (cmpValue (FP.dcmp d2 x1) .g) < 0 then (3 : Int32) else (2 : Int32)) else (if (cmpValue (FP.dcmp d0 x1) .g) < 0 then (1 : Int32) else (0 : Int32)))
def room3_3 : Room := { frames := 0, cells := 0, slots := 0, locals := 0 }
set_option maxRecDepth 65536 in
set_option maxHeartbeats 40000000 in
theorem rm3_3 (l : Launch) (Z : State) (a0 : Array Value) (hw : ∀ d ∈ tables_1, d.before a0 Z = true) (x0 : Addr) (x1 : UInt64) (d0 : UInt64) (d1 : UInt64) (d2 : UInt64) (h0 : Heap) (n0 : Nat) (Z0 : n0 ≤ h0.size)  (A0 : oDbls Z h0 x0 [d0, d1, d2]) :
    oCon l Z (⟨"com/example/glyphweave/glyphweave/Slots", "lowerBound", "([DD)I"⟩ : MethodName) prog_60_method_3_code 6 (some .int) room3_3 #[(.ref x0), (.double x1)] h0 (fun v h L => v = some (.int (spec3_3 x1 d0 d1 d2)) ∧ L = [] ∧ h = h0) := by
  refine oCon.of (plainFor_of_name pn_3) ?_
  intro p e s m below meth c s₁ hx hby hml hown hnm hret hlk hZ X0 e0
  rw [ef3_3 m x0 x1]
  have N0 := Fr.nil n0
  refine o_iconst (pc' := 1) (v := (0 : Int32)) X0 hx (hb hby d3_0) rfl rfl ?_
  refine o_istoreN (pc' := 2) (l' := #[.val (.ref x0), .val (.double x1), .second, .val (.int (0 : Int32)), .unset, .unset]) X0 hx (hb hby d3_1) rfl rfl ?_
  refine o_aloadN (pc' := 3) X0 hx (hb hby d3_2) rfl rfl rfl ?_
  refine o_dalen (pc' := 4) X0 hx hZ e0 A0 (hb hby d3_3) rfl ?_
  show oGo p e below (oG s (fun v h L => v = some (.int (spec3_3 x1 d0 d1 d2)) ∧ L = [] ∧ h = h0) room3_3.cells room3_3.slots) s₁ (mkF m 4 #[.val (.ref x0), .val (.double x1), .second, .val (.int (0 : Int32)), .unset, .unset] [(.int (3 : Int32))])
  refine o_istore (pc' := 6) (l' := #[.val (.ref x0), .val (.double x1), .second, .val (.int (0 : Int32)), .val (.int (3 : Int32)), .unset]) X0 hx (hb hby d3_4) rfl rfl ?_
  refine o_iloadN (pc' := 7) X0 hx (hb hby d3_6) rfl rfl ?_
  refine o_iload (pc' := 9) X0 hx (hb hby d3_7) rfl rfl ?_
  refine o_icmpF (pc' := 12) X0 hx (hb hby d3_9) (XT.ii_ge_f (by decide)) rfl ?_
  refine o_iloadN (pc' := 13) X0 hx (hb hby d3_12) rfl rfl ?_
  refine o_iload (pc' := 15) X0 hx (hb hby d3_13) rfl rfl ?_
  refine o_iadd (pc' := 16) X0 hx (hb hby d3_15)  rfl ?_
  rw [show ((0 : Int32) + (3 : Int32)) = (3 : Int32) from by decide]
  refine o_iconst (pc' := 17) (v := (1 : Int32)) X0 hx (hb hby d3_16) rfl rfl ?_
  refine o_iushr (pc' := 18) X0 hx (hb hby d3_17)  rfl ?_
  rw [show (XT.ushr (3 : Int32) (1 : Int32)) = (1 : Int32) from by decide]
  refine o_istore (pc' := 20) (l' := #[.val (.ref x0), .val (.double x1), .second, .val (.int (0 : Int32)), .val (.int (3 : Int32)), .val (.int (1 : Int32))]) X0 hx (hb hby d3_18) rfl rfl ?_
  refine o_aloadN (pc' := 21) X0 hx (hb hby d3_20) rfl rfl rfl ?_
  refine o_iload (pc' := 23) X0 hx (hb hby d3_21) rfl rfl ?_
  refine o_daload (pc' := 24) (v := d1) X0 hx hZ e0 A0 (hb hby d3_23) (by decide) rfl rfl ?_
  refine o_dloadN (pc' := 25) X0 hx (hb hby d3_24) rfl rfl ?_
  refine o_dcmp (pc' := 26) X0 hx (hb hby d3_25) rfl ?_
  by_cases c1 : (cmpValue (FP.dcmp d1 x1) .g) < 0
  · refine o_ifF (pc' := 29) X0 hx (hb hby d3_26) (XT.i0_ge_f c1) rfl ?_
    refine o_iload (pc' := 31) X0 hx (hb hby d3_29) rfl rfl ?_
    refine o_iconst (pc' := 32) (v := (1 : Int32)) X0 hx (hb hby d3_31) rfl rfl ?_
    refine o_iadd (pc' := 33) X0 hx (hb hby d3_32)  rfl ?_
    rw [show ((1 : Int32) + (1 : Int32)) = (2 : Int32) from by decide]
    refine o_istoreN (pc' := 34) (l' := #[.val (.ref x0), .val (.double x1), .second, .val (.int (2 : Int32)), .val (.int (3 : Int32)), .val (.int (1 : Int32))]) X0 hx (hb hby d3_33) rfl rfl ?_
    refine o_goto (pc' := 41) X0 hx (hb hby d3_34) (by decide) (by decide) ?_
    refine o_goto (pc' := 6) X0 hx (hb hby d3_41) (by decide) (by decide) ?_
    refine o_iloadN (pc' := 7) X0 hx (hb hby d3_6) rfl rfl ?_
    refine o_iload (pc' := 9) X0 hx (hb hby d3_7) rfl rfl ?_
    refine o_icmpF (pc' := 12) X0 hx (hb hby d3_9) (XT.ii_ge_f (by decide)) rfl ?_
    refine o_iloadN (pc' := 13) X0 hx (hb hby d3_12) rfl rfl ?_
    refine o_iload (pc' := 15) X0 hx (hb hby d3_13) rfl rfl ?_
    refine o_iadd (pc' := 16) X0 hx (hb hby d3_15)  rfl ?_
    rw [show ((2 : Int32) + (3 : Int32)) = (5 : Int32) from by decide]
    refine o_iconst (pc' := 17) (v := (1 : Int32)) X0 hx (hb hby d3_16) rfl rfl ?_
    refine o_iushr (pc' := 18) X0 hx (hb hby d3_17)  rfl ?_
    rw [show (XT.ushr (5 : Int32) (1 : Int32)) = (2 : Int32) from by decide]
    refine o_istore (pc' := 20) (l' := #[.val (.ref x0), .val (.double x1), .second, .val (.int (2 : Int32)), .val (.int (3 : Int32)), .val (.int (2 : Int32))]) X0 hx (hb hby d3_18) rfl rfl ?_
    refine o_aloadN (pc' := 21) X0 hx (hb hby d3_20) rfl rfl rfl ?_
    refine o_iload (pc' := 23) X0 hx (hb hby d3_21) rfl rfl ?_
    refine o_daload (pc' := 24) (v := d2) X0 hx hZ e0 A0 (hb hby d3_23) (by decide) rfl rfl ?_
    refine o_dloadN (pc' := 25) X0 hx (hb hby d3_24) rfl rfl ?_
    refine o_dcmp (pc' := 26) X0 hx (hb hby d3_25) rfl ?_
    by_cases c2 : (cmpValue (FP.dcmp d2 x1) .g) < 0
    · refine o_ifF (pc' := 29) X0 hx (hb hby d3_26) (XT.i0_ge_f c2) rfl ?_
      refine o_iload (pc' := 31) X0 hx (hb hby d3_29) rfl rfl ?_
      refine o_iconst (pc' := 32) (v := (1 : Int32)) X0 hx (hb hby d3_31) rfl rfl ?_
      refine o_iadd (pc' := 33) X0 hx (hb hby d3_32)  rfl ?_
      rw [show ((2 : Int32) + (1 : Int32)) = (3 : Int32) from by decide]
      refine o_istoreN (pc' := 34) (l' := #[.val (.ref x0), .val (.double x1), .second, .val (.int (3 : Int32)), .val (.int (3 : Int32)), .val (.int (2 : Int32))]) X0 hx (hb hby d3_33) rfl rfl ?_
      refine o_goto (pc' := 41) X0 hx (hb hby d3_34) (by decide) (by decide) ?_
      refine o_goto (pc' := 6) X0 hx (hb hby d3_41) (by decide) (by decide) ?_
      refine o_iloadN (pc' := 7) X0 hx (hb hby d3_6) rfl rfl ?_
      refine o_iload (pc' := 9) X0 hx (hb hby d3_7) rfl rfl ?_
      refine o_icmpT (pc' := 44) X0 hx (hb hby d3_9) (XT.ii_ge_t (by decide)) (by decide) (by decide) ?_
      refine o_iloadN (pc' := 45) X0 hx (hb hby d3_44) rfl rfl ?_
      refine o_retI X0 hx hret hlk (hb hby d3_45) (by decide) (by decide) ?_
      exact ⟨congrArg (fun z => some (Value.int z)) (show _ = (spec3_3 x1 d0 d1 d2) from ((if_pos c1).trans (if_pos c2)).symm), rfl, e0⟩
    · refine o_ifT (pc' := 37) X0 hx (hb hby d3_26) (XT.i0_ge_t c2) (by decide) (by decide) ?_
      refine o_iload (pc' := 39) X0 hx (hb hby d3_37) rfl rfl ?_
      refine o_istore (pc' := 41) (l' := #[.val (.ref x0), .val (.double x1), .second, .val (.int (2 : Int32)), .val (.int (2 : Int32)), .val (.int (2 : Int32))]) X0 hx (hb hby d3_39) rfl rfl ?_
      refine o_goto (pc' := 6) X0 hx (hb hby d3_41) (by decide) (by decide) ?_
      refine o_iloadN (pc' := 7) X0 hx (hb hby d3_6) rfl rfl ?_
      refine o_iload (pc' := 9) X0 hx (hb hby d3_7) rfl rfl ?_
      refine o_icmpT (pc' := 44) X0 hx (hb hby d3_9) (XT.ii_ge_t (by decide)) (by decide) (by decide) ?_
      refine o_iloadN (pc' := 45) X0 hx (hb hby d3_44) rfl rfl ?_
      refine o_retI X0 hx hret hlk (hb hby d3_45) (by decide) (by decide) ?_
      exact ⟨congrArg (fun z => some (Value.int z)) (show _ = (spec3_3 x1 d0 d1 d2) from ((if_pos c1).trans (if_neg c2)).symm), rfl, e0⟩
  · refine o_ifT (pc' := 37) X0 hx (hb hby d3_26) (XT.i0_ge_t c1) (by decide) (by decide) ?_
    refine o_iload (pc' := 39) X0 hx (hb hby d3_37) rfl rfl ?_
    refine o_istore (pc' := 41) (l' := #[.val (.ref x0), .val (.double x1), .second, .val (.int (0 : Int32)), .val (.int (1 : Int32)), .val (.int (1 : Int32))]) X0 hx (hb hby d3_39) rfl rfl ?_
    refine o_goto (pc' := 6) X0 hx (hb hby d3_41) (by decide) (by decide) ?_
    refine o_iloadN (pc' := 7) X0 hx (hb hby d3_6) rfl rfl ?_
    refine o_iload (pc' := 9) X0 hx (hb hby d3_7) rfl rfl ?_
    refine o_icmpF (pc' := 12) X0 hx (hb hby d3_9) (XT.ii_ge_f (by decide)) rfl ?_
    refine o_iloadN (pc' := 13) X0 hx (hb hby d3_12) rfl rfl ?_
    refine o_iload (pc' := 15) X0 hx (hb hby d3_13) rfl rfl ?_
    refine o_iadd (pc' := 16) X0 hx (hb hby d3_15)  rfl ?_
    rw [show ((0 : Int32) + (1 : Int32)) = (1 : Int32) from by decide]
    refine o_iconst (pc' := 17) (v := (1 : Int32)) X0 hx (hb hby d3_16) rfl rfl ?_
    refine o_iushr (pc' := 18) X0 hx (hb hby d3_17)  rfl ?_
    rw [show (XT.ushr (1 : Int32) (1 : Int32)) = (0 : Int32) from by decide]
    refine o_istore (pc' := 20) (l' := #[.val (.ref x0), .val (.double x1), .second, .val (.int (0 : Int32)), .val (.int (1 : Int32)), .val (.int (0 : Int32))]) X0 hx (hb hby d3_18) rfl rfl ?_
    refine o_aloadN (pc' := 21) X0 hx (hb hby d3_20) rfl rfl rfl ?_
    refine o_iload (pc' := 23) X0 hx (hb hby d3_21) rfl rfl ?_
    refine o_daload (pc' := 24) (v := d0) X0 hx hZ e0 A0 (hb hby d3_23) (by decide) rfl rfl ?_
    refine o_dloadN (pc' := 25) X0 hx (hb hby d3_24) rfl rfl ?_
    refine o_dcmp (pc' := 26) X0 hx (hb hby d3_25) rfl ?_
    by_cases c3 : (cmpValue (FP.dcmp d0 x1) .g) < 0
    · refine o_ifF (pc' := 29) X0 hx (hb hby d3_26) (XT.i0_ge_f c3) rfl ?_
      refine o_iload (pc' := 31) X0 hx (hb hby d3_29) rfl rfl ?_
      refine o_iconst (pc' := 32) (v := (1 : Int32)) X0 hx (hb hby d3_31) rfl rfl ?_
      refine o_iadd (pc' := 33) X0 hx (hb hby d3_32)  rfl ?_
      rw [show ((0 : Int32) + (1 : Int32)) = (1 : Int32) from by decide]
      refine o_istoreN (pc' := 34) (l' := #[.val (.ref x0), .val (.double x1), .second, .val (.int (1 : Int32)), .val (.int (1 : Int32)), .val (.int (0 : Int32))]) X0 hx (hb hby d3_33) rfl rfl ?_
      refine o_goto (pc' := 41) X0 hx (hb hby d3_34) (by decide) (by decide) ?_
      refine o_goto (pc' := 6) X0 hx (hb hby d3_41) (by decide) (by decide) ?_
      refine o_iloadN (pc' := 7) X0 hx (hb hby d3_6) rfl rfl ?_
      refine o_iload (pc' := 9) X0 hx (hb hby d3_7) rfl rfl ?_
      refine o_icmpT (pc' := 44) X0 hx (hb hby d3_9) (XT.ii_ge_t (by decide)) (by decide) (by decide) ?_
      refine o_iloadN (pc' := 45) X0 hx (hb hby d3_44) rfl rfl ?_
      refine o_retI X0 hx hret hlk (hb hby d3_45) (by decide) (by decide) ?_
      exact ⟨congrArg (fun z => some (Value.int z)) (show _ = (spec3_3 x1 d0 d1 d2) from ((if_neg c1).trans (if_pos c3)).symm), rfl, e0⟩
    · refine o_ifT (pc' := 37) X0 hx (hb hby d3_26) (XT.i0_ge_t c3) (by decide) (by decide) ?_
      refine o_iload (pc' := 39) X0 hx (hb hby d3_37) rfl rfl ?_
      refine o_istore (pc' := 41) (l' := #[.val (.ref x0), .val (.double x1), .second, .val (.int (0 : Int32)), .val (.int (0 : Int32)), .val (.int (0 : Int32))]) X0 hx (hb hby d3_39) rfl rfl ?_
      refine o_goto (pc' := 6) X0 hx (hb hby d3_41) (by decide) (by decide) ?_
      refine o_iloadN (pc' := 7) X0 hx (hb hby d3_6) rfl rfl ?_
      refine o_iload (pc' := 9) X0 hx (hb hby d3_7) rfl rfl ?_
      refine o_icmpT (pc' := 44) X0 hx (hb hby d3_9) (XT.ii_ge_t (by decide)) (by decide) (by decide) ?_
      refine o_iloadN (pc' := 45) X0 hx (hb hby d3_44) rfl rfl ?_
      refine o_retI X0 hx hret hlk (hb hby d3_45) (by decide) (by decide) ?_
      exact ⟨congrArg (fun z => some (Value.int z)) (show _ = (spec3_3 x1 d0 d1 d2) from ((if_neg c1).trans (if_neg c3)).symm), rfl, e0⟩
theorem ef1_3 (m : MethodId) (x1 x2 x3 x4 x5 x6 : UInt64) : entryFrame m #[(.int (3 : Int32)), (.double x1), (.double x2), (.double x3), (.double x4), (.double x5), (.double x6)] 13 = mkF m 0 #[.val (.int (3 : Int32)), .val (.double x1), .second, .val (.double x2), .second, .val (.double x3), .second, .val (.double x4), .second, .val (.double x5), .second, .val (.double x6), .second] [] := by first | (simp [entryFrame, mkF, argsToLocals, Value.category]; done) | rfl
def room1_3 : Room := { frames := 0, cells := 1, slots := 3, locals := 0 }
set_option maxRecDepth 65536 in
set_option maxHeartbeats 40000000 in
theorem rm1_3 (l : Launch) (Z : State) (a0 : Array Value) (hw : ∀ d ∈ tables_1, d.before a0 Z = true) (x1 x2 x3 x4 x5 x6 : UInt64) (h0 : Heap) (n0 : Nat) (Z0 : n0 ≤ h0.size)  :
    oCon l Z (⟨"com/example/glyphweave/glyphweave/SlotsLowerBoundPinLaw", "make", "(IDDDDDD)[D"⟩ : MethodName) method_4_code 13 (some (.array .double)) room1_3 #[(.int (3 : Int32)), (.double x1), (.double x2), (.double x3), (.double x4), (.double x5), (.double x6)] h0 (fun v h L => v = some (.ref h0.size) ∧ Fr n0 L ∧ Keep h0 h [] ∧ oDbls Z h h0.size [x1, x2, x3]) := by
  refine oCon.of (plainFor_of_name pn_2) ?_
  intro p e s m below meth c s₁ hx hby hml hown hnm hret hlk hZ X0 e0
  rw [ef1_3 m x1 x2 x3 x4 x5 x6]
  have N0 := Fr.nil n0
  have K0 := Keep.refl h0 []
  refine o_iloadN (pc' := 1) X0 hx (hb hby d1_0) rfl rfl ?_
  refine o_ifT (pc' := 8) X0 hx (hb hby d1_1) (XT.i0_ne_t (by decide)) (by decide) (by decide) ?_
  refine o_iloadN (pc' := 9) X0 hx (hb hby d1_8) rfl rfl ?_
  refine o_iconst (pc' := 10) (v := (1 : Int32)) X0 hx (hb hby d1_9) rfl rfl ?_
  refine o_icmpT (pc' := 21) X0 hx (hb hby d1_10) (XT.ii_ne_t (by decide)) (by decide) (by decide) ?_
  refine o_iloadN (pc' := 22) X0 hx (hb hby d1_21) rfl rfl ?_
  refine o_iconst (pc' := 23) (v := (2 : Int32)) X0 hx (hb hby d1_22) rfl rfl ?_
  refine o_icmpT (pc' := 38) X0 hx (hb hby d1_23) (XT.ii_ne_t (by decide)) (by decide) (by decide) ?_
  refine o_iloadN (pc' := 39) X0 hx (hb hby d1_38) rfl rfl ?_
  refine o_iconst (pc' := 40) (v := (3 : Int32)) X0 hx (hb hby d1_39) rfl rfl ?_
  refine o_icmpF (pc' := 43) X0 hx (hb hby d1_40) (XT.ii_ne_f (by decide)) rfl ?_
  refine o_iconst (pc' := 44) (v := (3 : Int32)) X0 hx (hb hby d1_43) rfl rfl ?_
  obtain ⟨T1, h1_, X1, e1, E1, A1, st1⟩ := o_newD (Ls := #[.val (.int (3 : Int32)), .val (.double x1), .second, .val (.double x2), .second, .val (.double x3), .second, .val (.double x4), .second, .val (.double x5), .second, .val (.double x6), .second]) (st := []) (n := (3 : Int32)) X0 hx hZ (hw _ (List.mem_of_getElem? (i := 5) rfl)) e0 (hb hby d1_44) (by decide) 3 (by decide) (by decide) (by decide) (by decide) rfl
  obtain ⟨b1, g1⟩ : ∃ z, z = h0.size := ⟨_, rfl⟩
  rw [← g1] at A1 st1
  replace A1 : oDbls Z h1_ b1 [(0 : UInt64), (0 : UInt64), (0 : UInt64)] := A1
  have ge2 : n0 ≤ b1 := by rw [g1]; exact Z0
  have ge3 : h0.size ≤ b1 := by rw [g1]; exact K0.1
  have K4 := (Keep.refl h0 []).ext E1
  have Z5 := Nat.le_trans Z0 K4.1
  have K6 := K0.trans K4 all0
  refine oGo.step (f' := (mkF m 46 #[.val (.int (3 : Int32)), .val (.double x1), .second, .val (.double x2), .second, .val (.double x3), .second, .val (.double x4), .second, .val (.double x5), .second, .val (.double x6), .second] [(.ref b1)])) st1 ?_
  refine o_dup (pc' := 47) X1 hx (hb hby d1_46) rfl rfl ?_
  refine o_iconst (pc' := 48) (v := (0 : Int32)) X1 hx (hb hby d1_47) rfl rfl ?_
  refine o_dloadN (pc' := 49) X1 hx (hb hby d1_48) rfl rfl ?_
  obtain ⟨T7, h7_, X7, e7, W7, st7⟩ := o_dastore (x := x1) (j := (0 : Int32)) (Ls := #[.val (.int (3 : Int32)), .val (.double x1), .second, .val (.double x2), .second, .val (.double x3), .second, .val (.double x4), .second, .val (.double x5), .second, .val (.double x6), .second]) (st := [(.ref b1)]) X1 hx hZ e1 A1 (hb hby d1_49) (by decide) (show _ < 3 by decide) rfl
  refine oGo.step (f' := (mkF m 50 #[.val (.int (3 : Int32)), .val (.double x1), .second, .val (.double x2), .second, .val (.double x3), .second, .val (.double x4), .second, .val (.double x5), .second, .val (.double x6), .second] [(.ref b1)])) st7 ?_
  have N7 := Fr.snoc X7 N0 ge2
  have F8 := A1.set W7
  replace F8 : oDbls Z h7_ b1 [x1, (0 : UInt64), (0 : UInt64)] := F8
  have K9 := Keep.of_wr W7
  have Z10 := Nat.le_trans Z5 K9.1
  have K11 := K6.trans K9 (allS (Or.inr ge3) all0)
  refine o_dup (pc' := 51) X7 hx (hb hby d1_50) rfl rfl ?_
  refine o_iconst (pc' := 52) (v := (1 : Int32)) X7 hx (hb hby d1_51) rfl rfl ?_
  refine o_dloadN (pc' := 53) X7 hx (hb hby d1_52) rfl rfl ?_
  obtain ⟨T12, h12_, X12, e12, W12, st12⟩ := o_dastore (x := x2) (j := (1 : Int32)) (Ls := #[.val (.int (3 : Int32)), .val (.double x1), .second, .val (.double x2), .second, .val (.double x3), .second, .val (.double x4), .second, .val (.double x5), .second, .val (.double x6), .second]) (st := [(.ref b1)]) X7 hx hZ e7 F8 (hb hby d1_53) (by decide) (show _ < 3 by decide) rfl
  refine oGo.step (f' := (mkF m 54 #[.val (.int (3 : Int32)), .val (.double x1), .second, .val (.double x2), .second, .val (.double x3), .second, .val (.double x4), .second, .val (.double x5), .second, .val (.double x6), .second] [(.ref b1)])) st12 ?_
  have N12 := Fr.snoc X12 N7 ge2
  have F13 := F8.set W12
  replace F13 : oDbls Z h12_ b1 [x1, x2, (0 : UInt64)] := F13
  have K14 := Keep.of_wr W12
  have Z15 := Nat.le_trans Z10 K14.1
  have K16 := K11.trans K14 (allS (Or.inr ge3) all0)
  refine o_dup (pc' := 55) X12 hx (hb hby d1_54) rfl rfl ?_
  refine o_iconst (pc' := 56) (v := (2 : Int32)) X12 hx (hb hby d1_55) rfl rfl ?_
  refine o_dload (pc' := 58) X12 hx (hb hby d1_56) rfl rfl ?_
  obtain ⟨T17, h17_, X17, e17, W17, st17⟩ := o_dastore (x := x3) (j := (2 : Int32)) (Ls := #[.val (.int (3 : Int32)), .val (.double x1), .second, .val (.double x2), .second, .val (.double x3), .second, .val (.double x4), .second, .val (.double x5), .second, .val (.double x6), .second]) (st := [(.ref b1)]) X12 hx hZ e12 F13 (hb hby d1_58) (by decide) (show _ < 3 by decide) rfl
  refine oGo.step (f' := (mkF m 59 #[.val (.int (3 : Int32)), .val (.double x1), .second, .val (.double x2), .second, .val (.double x3), .second, .val (.double x4), .second, .val (.double x5), .second, .val (.double x6), .second] [(.ref b1)])) st17 ?_
  have N17 := Fr.snoc X17 N12 ge2
  have F18 := F13.set W17
  replace F18 : oDbls Z h17_ b1 [x1, x2, x3] := F18
  have K19 := Keep.of_wr W17
  have Z20 := Nat.le_trans Z15 K19.1
  have K21 := K16.trans K19 (allS (Or.inr ge3) all0)
  refine o_retA X17 hx hret rfl hlk rfl rfl (hb hby d1_59) (by decide) (by decide) ?_
  rw [e17]
  subst g1
  exact ⟨rfl, N17, K21, F18⟩
theorem ef3_4 (m : MethodId) (x0 : Addr) (x1 : UInt64) : entryFrame m #[(.ref x0), (.double x1)] 6 = mkF m 0 #[.val (.ref x0), .val (.double x1), .second, .unset, .unset, .unset] [] := by first | (simp [entryFrame, mkF, argsToLocals, Value.category]; done) | rfl
def spec3_4 (x1 : UInt64) (d0 : UInt64) (d1 : UInt64) (d2 : UInt64) (d3 : UInt64) : Int32 := (if (cmpValue (FP.dcmp d2 x1) .g) < 0 then (if (cmpValue (FP.dcmp d3 x1) .g) < 0 then (4 : Int32) else (3 : Int32)) else (if (cmpValue (FP.dcmp d1 x1) .g) < 0 then (2 : Int32) else (if (cmpValue (FP.dcmp d0 x1) .g) < 0 then (1 : Int32) else (0 : Int32))))
def room3_4 : Room := { frames := 0, cells := 0, slots := 0, locals := 0 }
set_option maxRecDepth 65536 in
set_option maxHeartbeats 40000000 in
theorem rm3_4 (l : Launch) (Z : State) (a0 : Array Value) (hw : ∀ d ∈ tables_1, d.before a0 Z = true) (x0 : Addr) (x1 : UInt64) (d0 : UInt64) (d1 : UInt64) (d2 : UInt64) (d3 : UInt64) (h0 : Heap) (n0 : Nat) (Z0 : n0 ≤ h0.size)  (A0 : oDbls Z h0 x0 [d0, d1, d2, d3]) :
    oCon l Z (⟨"com/example/glyphweave/glyphweave/Slots", "lowerBound", "([DD)I"⟩ : MethodName) prog_60_method_3_code 6 (some .int) room3_4 #[(.ref x0), (.double x1)] h0 (fun v h L => v = some (.int (spec3_4 x1 d0 d1 d2 d3)) ∧ L = [] ∧ h = h0) := by
  refine oCon.of (plainFor_of_name pn_3) ?_
  intro p e s m below meth c s₁ hx hby hml hown hnm hret hlk hZ X0 e0
  rw [ef3_4 m x0 x1]
  have N0 := Fr.nil n0
  refine o_iconst (pc' := 1) (v := (0 : Int32)) X0 hx (hb hby d3_0) rfl rfl ?_
  refine o_istoreN (pc' := 2) (l' := #[.val (.ref x0), .val (.double x1), .second, .val (.int (0 : Int32)), .unset, .unset]) X0 hx (hb hby d3_1) rfl rfl ?_
  refine o_aloadN (pc' := 3) X0 hx (hb hby d3_2) rfl rfl rfl ?_
  refine o_dalen (pc' := 4) X0 hx hZ e0 A0 (hb hby d3_3) rfl ?_
  show oGo p e below (oG s (fun v h L => v = some (.int (spec3_4 x1 d0 d1 d2 d3)) ∧ L = [] ∧ h = h0) room3_4.cells room3_4.slots) s₁ (mkF m 4 #[.val (.ref x0), .val (.double x1), .second, .val (.int (0 : Int32)), .unset, .unset] [(.int (4 : Int32))])
  refine o_istore (pc' := 6) (l' := #[.val (.ref x0), .val (.double x1), .second, .val (.int (0 : Int32)), .val (.int (4 : Int32)), .unset]) X0 hx (hb hby d3_4) rfl rfl ?_
  refine o_iloadN (pc' := 7) X0 hx (hb hby d3_6) rfl rfl ?_
  refine o_iload (pc' := 9) X0 hx (hb hby d3_7) rfl rfl ?_
  refine o_icmpF (pc' := 12) X0 hx (hb hby d3_9) (XT.ii_ge_f (by decide)) rfl ?_
  refine o_iloadN (pc' := 13) X0 hx (hb hby d3_12) rfl rfl ?_
  refine o_iload (pc' := 15) X0 hx (hb hby d3_13) rfl rfl ?_
  refine o_iadd (pc' := 16) X0 hx (hb hby d3_15)  rfl ?_
  rw [show ((0 : Int32) + (4 : Int32)) = (4 : Int32) from by decide]
  refine o_iconst (pc' := 17) (v := (1 : Int32)) X0 hx (hb hby d3_16) rfl rfl ?_
  refine o_iushr (pc' := 18) X0 hx (hb hby d3_17)  rfl ?_
  rw [show (XT.ushr (4 : Int32) (1 : Int32)) = (2 : Int32) from by decide]
  refine o_istore (pc' := 20) (l' := #[.val (.ref x0), .val (.double x1), .second, .val (.int (0 : Int32)), .val (.int (4 : Int32)), .val (.int (2 : Int32))]) X0 hx (hb hby d3_18) rfl rfl ?_
  refine o_aloadN (pc' := 21) X0 hx (hb hby d3_20) rfl rfl rfl ?_
  refine o_iload (pc' := 23) X0 hx (hb hby d3_21) rfl rfl ?_
  refine o_daload (pc' := 24) (v := d2) X0 hx hZ e0 A0 (hb hby d3_23) (by decide) rfl rfl ?_
  refine o_dloadN (pc' := 25) X0 hx (hb hby d3_24) rfl rfl ?_
  refine o_dcmp (pc' := 26) X0 hx (hb hby d3_25) rfl ?_
  by_cases c1 : (cmpValue (FP.dcmp d2 x1) .g) < 0
  · refine o_ifF (pc' := 29) X0 hx (hb hby d3_26) (XT.i0_ge_f c1) rfl ?_
    refine o_iload (pc' := 31) X0 hx (hb hby d3_29) rfl rfl ?_
    refine o_iconst (pc' := 32) (v := (1 : Int32)) X0 hx (hb hby d3_31) rfl rfl ?_
    refine o_iadd (pc' := 33) X0 hx (hb hby d3_32)  rfl ?_
    rw [show ((2 : Int32) + (1 : Int32)) = (3 : Int32) from by decide]
    refine o_istoreN (pc' := 34) (l' := #[.val (.ref x0), .val (.double x1), .second, .val (.int (3 : Int32)), .val (.int (4 : Int32)), .val (.int (2 : Int32))]) X0 hx (hb hby d3_33) rfl rfl ?_
    refine o_goto (pc' := 41) X0 hx (hb hby d3_34) (by decide) (by decide) ?_
    refine o_goto (pc' := 6) X0 hx (hb hby d3_41) (by decide) (by decide) ?_
    refine o_iloadN (pc' := 7) X0 hx (hb hby d3_6) rfl rfl ?_
    refine o_iload (pc' := 9) X0 hx (hb hby d3_7) rfl rfl ?_
    refine o_icmpF (pc' := 12) X0 hx (hb hby d3_9) (XT.ii_ge_f (by decide)) rfl ?_
    refine o_iloadN (pc' := 13) X0 hx (hb hby d3_12) rfl rfl ?_
    refine o_iload (pc' := 15) X0 hx (hb hby d3_13) rfl rfl ?_
    refine o_iadd (pc' := 16) X0 hx (hb hby d3_15)  rfl ?_
    rw [show ((3 : Int32) + (4 : Int32)) = (7 : Int32) from by decide]
    refine o_iconst (pc' := 17) (v := (1 : Int32)) X0 hx (hb hby d3_16) rfl rfl ?_
    refine o_iushr (pc' := 18) X0 hx (hb hby d3_17)  rfl ?_
    rw [show (XT.ushr (7 : Int32) (1 : Int32)) = (3 : Int32) from by decide]
    refine o_istore (pc' := 20) (l' := #[.val (.ref x0), .val (.double x1), .second, .val (.int (3 : Int32)), .val (.int (4 : Int32)), .val (.int (3 : Int32))]) X0 hx (hb hby d3_18) rfl rfl ?_
    refine o_aloadN (pc' := 21) X0 hx (hb hby d3_20) rfl rfl rfl ?_
    refine o_iload (pc' := 23) X0 hx (hb hby d3_21) rfl rfl ?_
    refine o_daload (pc' := 24) (v := d3) X0 hx hZ e0 A0 (hb hby d3_23) (by decide) rfl rfl ?_
    refine o_dloadN (pc' := 25) X0 hx (hb hby d3_24) rfl rfl ?_
    refine o_dcmp (pc' := 26) X0 hx (hb hby d3_25) rfl ?_
    by_cases c2 : (cmpValue (FP.dcmp d3 x1) .g) < 0
    · refine o_ifF (pc' := 29) X0 hx (hb hby d3_26) (XT.i0_ge_f c2) rfl ?_
      refine o_iload (pc' := 31) X0 hx (hb hby d3_29) rfl rfl ?_
      refine o_iconst (pc' := 32) (v := (1 : Int32)) X0 hx (hb hby d3_31) rfl rfl ?_
      refine o_iadd (pc' := 33) X0 hx (hb hby d3_32)  rfl ?_
      rw [show ((3 : Int32) + (1 : Int32)) = (4 : Int32) from by decide]
      refine o_istoreN (pc' := 34) (l' := #[.val (.ref x0), .val (.double x1), .second, .val (.int (4 : Int32)), .val (.int (4 : Int32)), .val (.int (3 : Int32))]) X0 hx (hb hby d3_33) rfl rfl ?_
      refine o_goto (pc' := 41) X0 hx (hb hby d3_34) (by decide) (by decide) ?_
      refine o_goto (pc' := 6) X0 hx (hb hby d3_41) (by decide) (by decide) ?_
      refine o_iloadN (pc' := 7) X0 hx (hb hby d3_6) rfl rfl ?_
      refine o_iload (pc' := 9) X0 hx (hb hby d3_7) rfl rfl ?_
      refine o_icmpT (pc' := 44) X0 hx (hb hby d3_9) (XT.ii_ge_t (by decide)) (by decide) (by decide) ?_
      refine o_iloadN (pc' := 45) X0 hx (hb hby d3_44) rfl rfl ?_
      refine o_retI X0 hx hret hlk (hb hby d3_45) (by decide) (by decide) ?_
      exact ⟨congrArg (fun z => some (Value.int z)) (show _ = (spec3_4 x1 d0 d1 d2 d3) from ((if_pos c1).trans (if_pos c2)).symm), rfl, e0⟩
    · refine o_ifT (pc' := 37) X0 hx (hb hby d3_26) (XT.i0_ge_t c2) (by decide) (by decide) ?_
      refine o_iload (pc' := 39) X0 hx (hb hby d3_37) rfl rfl ?_
      refine o_istore (pc' := 41) (l' := #[.val (.ref x0), .val (.double x1), .second, .val (.int (3 : Int32)), .val (.int (3 : Int32)), .val (.int (3 : Int32))]) X0 hx (hb hby d3_39) rfl rfl ?_
      refine o_goto (pc' := 6) X0 hx (hb hby d3_41) (by decide) (by decide) ?_
      refine o_iloadN (pc' := 7) X0 hx (hb hby d3_6) rfl rfl ?_
      refine o_iload (pc' := 9) X0 hx (hb hby d3_7) rfl rfl ?_
      refine o_icmpT (pc' := 44) X0 hx (hb hby d3_9) (XT.ii_ge_t (by decide)) (by decide) (by decide) ?_
      refine o_iloadN (pc' := 45) X0 hx (hb hby d3_44) rfl rfl ?_
      refine o_retI X0 hx hret hlk (hb hby d3_45) (by decide) (by decide) ?_
      exact ⟨congrArg (fun z => some (Value.int z)) (show _ = (spec3_4 x1 d0 d1 d2 d3) from ((if_pos c1).trans (if_neg c2)).symm), rfl, e0⟩
  · refine o_ifT (pc' := 37) X0 hx (hb hby d3_26) (XT.i0_ge_t c1) (by decide) (by decide) ?_
    refine o_iload (pc' := 39) X0 hx (hb hby d3_37) rfl rfl ?_
    refine o_istore (pc' := 41) (l' := #[.val (.ref x0), .val (.double x1), .second, .val (.int (0 : Int32)), .val (.int (2 : Int32)), .val (.int (2 : Int32))]) X0 hx (hb hby d3_39) rfl rfl ?_
    refine o_goto (pc' := 6) X0 hx (hb hby d3_41) (by decide) (by decide) ?_
    refine o_iloadN (pc' := 7) X0 hx (hb hby d3_6) rfl rfl ?_
    refine o_iload (pc' := 9) X0 hx (hb hby d3_7) rfl rfl ?_
    refine o_icmpF (pc' := 12) X0 hx (hb hby d3_9) (XT.ii_ge_f (by decide)) rfl ?_
    refine o_iloadN (pc' := 13) X0 hx (hb hby d3_12) rfl rfl ?_
    refine o_iload (pc' := 15) X0 hx (hb hby d3_13) rfl rfl ?_
    refine o_iadd (pc' := 16) X0 hx (hb hby d3_15)  rfl ?_
    rw [show ((0 : Int32) + (2 : Int32)) = (2 : Int32) from by decide]
    refine o_iconst (pc' := 17) (v := (1 : Int32)) X0 hx (hb hby d3_16) rfl rfl ?_
    refine o_iushr (pc' := 18) X0 hx (hb hby d3_17)  rfl ?_
    rw [show (XT.ushr (2 : Int32) (1 : Int32)) = (1 : Int32) from by decide]
    refine o_istore (pc' := 20) (l' := #[.val (.ref x0), .val (.double x1), .second, .val (.int (0 : Int32)), .val (.int (2 : Int32)), .val (.int (1 : Int32))]) X0 hx (hb hby d3_18) rfl rfl ?_
    refine o_aloadN (pc' := 21) X0 hx (hb hby d3_20) rfl rfl rfl ?_
    refine o_iload (pc' := 23) X0 hx (hb hby d3_21) rfl rfl ?_
    refine o_daload (pc' := 24) (v := d1) X0 hx hZ e0 A0 (hb hby d3_23) (by decide) rfl rfl ?_
    refine o_dloadN (pc' := 25) X0 hx (hb hby d3_24) rfl rfl ?_
    refine o_dcmp (pc' := 26) X0 hx (hb hby d3_25) rfl ?_
    by_cases c3 : (cmpValue (FP.dcmp d1 x1) .g) < 0
    · refine o_ifF (pc' := 29) X0 hx (hb hby d3_26) (XT.i0_ge_f c3) rfl ?_
      refine o_iload (pc' := 31) X0 hx (hb hby d3_29) rfl rfl ?_
      refine o_iconst (pc' := 32) (v := (1 : Int32)) X0 hx (hb hby d3_31) rfl rfl ?_
      refine o_iadd (pc' := 33) X0 hx (hb hby d3_32)  rfl ?_
      rw [show ((1 : Int32) + (1 : Int32)) = (2 : Int32) from by decide]
      refine o_istoreN (pc' := 34) (l' := #[.val (.ref x0), .val (.double x1), .second, .val (.int (2 : Int32)), .val (.int (2 : Int32)), .val (.int (1 : Int32))]) X0 hx (hb hby d3_33) rfl rfl ?_
      refine o_goto (pc' := 41) X0 hx (hb hby d3_34) (by decide) (by decide) ?_
      refine o_goto (pc' := 6) X0 hx (hb hby d3_41) (by decide) (by decide) ?_
      refine o_iloadN (pc' := 7) X0 hx (hb hby d3_6) rfl rfl ?_
      refine o_iload (pc' := 9) X0 hx (hb hby d3_7) rfl rfl ?_
      refine o_icmpT (pc' := 44) X0 hx (hb hby d3_9) (XT.ii_ge_t (by decide)) (by decide) (by decide) ?_
      refine o_iloadN (pc' := 45) X0 hx (hb hby d3_44) rfl rfl ?_
      refine o_retI X0 hx hret hlk (hb hby d3_45) (by decide) (by decide) ?_
      exact ⟨congrArg (fun z => some (Value.int z)) (show _ = (spec3_4 x1 d0 d1 d2 d3) from ((if_neg c1).trans (if_pos c3)).symm), rfl, e0⟩
    · refine o_ifT (pc' := 37) X0 hx (hb hby d3_26) (XT.i0_ge_t c3) (by decide) (by decide) ?_
      refine o_iload (pc' := 39) X0 hx (hb hby d3_37) rfl rfl ?_
      refine o_istore (pc' := 41) (l' := #[.val (.ref x0), .val (.double x1), .second, .val (.int (0 : Int32)), .val (.int (1 : Int32)), .val (.int (1 : Int32))]) X0 hx (hb hby d3_39) rfl rfl ?_
      refine o_goto (pc' := 6) X0 hx (hb hby d3_41) (by decide) (by decide) ?_
      refine o_iloadN (pc' := 7) X0 hx (hb hby d3_6) rfl rfl ?_
      refine o_iload (pc' := 9) X0 hx (hb hby d3_7) rfl rfl ?_
      refine o_icmpF (pc' := 12) X0 hx (hb hby d3_9) (XT.ii_ge_f (by decide)) rfl ?_
      refine o_iloadN (pc' := 13) X0 hx (hb hby d3_12) rfl rfl ?_
      refine o_iload (pc' := 15) X0 hx (hb hby d3_13) rfl rfl ?_
      refine o_iadd (pc' := 16) X0 hx (hb hby d3_15)  rfl ?_
      rw [show ((0 : Int32) + (1 : Int32)) = (1 : Int32) from by decide]
      refine o_iconst (pc' := 17) (v := (1 : Int32)) X0 hx (hb hby d3_16) rfl rfl ?_
      refine o_iushr (pc' := 18) X0 hx (hb hby d3_17)  rfl ?_
      rw [show (XT.ushr (1 : Int32) (1 : Int32)) = (0 : Int32) from by decide]
      refine o_istore (pc' := 20) (l' := #[.val (.ref x0), .val (.double x1), .second, .val (.int (0 : Int32)), .val (.int (1 : Int32)), .val (.int (0 : Int32))]) X0 hx (hb hby d3_18) rfl rfl ?_
      refine o_aloadN (pc' := 21) X0 hx (hb hby d3_20) rfl rfl rfl ?_
      refine o_iload (pc' := 23) X0 hx (hb hby d3_21) rfl rfl ?_
      refine o_daload (pc' := 24) (v := d0) X0 hx hZ e0 A0 (hb hby d3_23) (by decide) rfl rfl ?_
      refine o_dloadN (pc' := 25) X0 hx (hb hby d3_24) rfl rfl ?_
      refine o_dcmp (pc' := 26) X0 hx (hb hby d3_25) rfl ?_
      by_cases c4 : (cmpValue (FP.dcmp d0 x1) .g) < 0
      · refine o_ifF (pc' := 29) X0 hx (hb hby d3_26) (XT.i0_ge_f c4) rfl ?_
        refine o_iload (pc' := 31) X0 hx (hb hby d3_29) rfl rfl ?_
        refine o_iconst (pc' := 32) (v := (1 : Int32)) X0 hx (hb hby d3_31) rfl rfl ?_
        refine o_iadd (pc' := 33) X0 hx (hb hby d3_32)  rfl ?_
        rw [show ((0 : Int32) + (1 : Int32)) = (1 : Int32) from by decide]
        refine o_istoreN (pc' := 34) (l' := #[.val (.ref x0), .val (.double x1), .second, .val (.int (1 : Int32)), .val (.int (1 : Int32)), .val (.int (0 : Int32))]) X0 hx (hb hby d3_33) rfl rfl ?_
        refine o_goto (pc' := 41) X0 hx (hb hby d3_34) (by decide) (by decide) ?_
        refine o_goto (pc' := 6) X0 hx (hb hby d3_41) (by decide) (by decide) ?_
        refine o_iloadN (pc' := 7) X0 hx (hb hby d3_6) rfl rfl ?_
        refine o_iload (pc' := 9) X0 hx (hb hby d3_7) rfl rfl ?_
        refine o_icmpT (pc' := 44) X0 hx (hb hby d3_9) (XT.ii_ge_t (by decide)) (by decide) (by decide) ?_
        refine o_iloadN (pc' := 45) X0 hx (hb hby d3_44) rfl rfl ?_
        refine o_retI X0 hx hret hlk (hb hby d3_45) (by decide) (by decide) ?_
        exact ⟨congrArg (fun z => some (Value.int z)) (show _ = (spec3_4 x1 d0 d1 d2 d3) from ((if_neg c1).trans ((if_neg c3).trans (if_pos c4))).symm), rfl, e0⟩
      · refine o_ifT (pc' := 37) X0 hx (hb hby d3_26) (XT.i0_ge_t c4) (by decide) (by decide) ?_
        refine o_iload (pc' := 39) X0 hx (hb hby d3_37) rfl rfl ?_
        refine o_istore (pc' := 41) (l' := #[.val (.ref x0), .val (.double x1), .second, .val (.int (0 : Int32)), .val (.int (0 : Int32)), .val (.int (0 : Int32))]) X0 hx (hb hby d3_39) rfl rfl ?_
        refine o_goto (pc' := 6) X0 hx (hb hby d3_41) (by decide) (by decide) ?_
        refine o_iloadN (pc' := 7) X0 hx (hb hby d3_6) rfl rfl ?_
        refine o_iload (pc' := 9) X0 hx (hb hby d3_7) rfl rfl ?_
        refine o_icmpT (pc' := 44) X0 hx (hb hby d3_9) (XT.ii_ge_t (by decide)) (by decide) (by decide) ?_
        refine o_iloadN (pc' := 45) X0 hx (hb hby d3_44) rfl rfl ?_
        refine o_retI X0 hx hret hlk (hb hby d3_45) (by decide) (by decide) ?_
        exact ⟨congrArg (fun z => some (Value.int z)) (show _ = (spec3_4 x1 d0 d1 d2 d3) from ((if_neg c1).trans ((if_neg c3).trans (if_neg c4))).symm), rfl, e0⟩
theorem ef1_4 (m : MethodId) (x1 x2 x3 x4 x5 x6 : UInt64) : entryFrame m #[(.int (4 : Int32)), (.double x1), (.double x2), (.double x3), (.double x4), (.double x5), (.double x6)] 13 = mkF m 0 #[.val (.int (4 : Int32)), .val (.double x1), .second, .val (.double x2), .second, .val (.double x3), .second, .val (.double x4), .second, .val (.double x5), .second, .val (.double x6), .second] [] := by first | (simp [entryFrame, mkF, argsToLocals, Value.category]; done) | rfl
def room1_4 : Room := { frames := 0, cells := 1, slots := 4, locals := 0 }
set_option maxRecDepth 65536 in
set_option maxHeartbeats 40000000 in
theorem rm1_4 (l : Launch) (Z : State) (a0 : Array Value) (hw : ∀ d ∈ tables_1, d.before a0 Z = true) (x1 x2 x3 x4 x5 x6 : UInt64) (h0 : Heap) (n0 : Nat) (Z0 : n0 ≤ h0.size)  :
    oCon l Z (⟨"com/example/glyphweave/glyphweave/SlotsLowerBoundPinLaw", "make", "(IDDDDDD)[D"⟩ : MethodName) method_4_code 13 (some (.array .double)) room1_4 #[(.int (4 : Int32)), (.double x1), (.double x2), (.double x3), (.double x4), (.double x5), (.double x6)] h0 (fun v h L => v = some (.ref h0.size) ∧ Fr n0 L ∧ Keep h0 h [] ∧ oDbls Z h h0.size [x1, x2, x3, x4]) := by
  refine oCon.of (plainFor_of_name pn_2) ?_
  intro p e s m below meth c s₁ hx hby hml hown hnm hret hlk hZ X0 e0
  rw [ef1_4 m x1 x2 x3 x4 x5 x6]
  have N0 := Fr.nil n0
  have K0 := Keep.refl h0 []
  refine o_iloadN (pc' := 1) X0 hx (hb hby d1_0) rfl rfl ?_
  refine o_ifT (pc' := 8) X0 hx (hb hby d1_1) (XT.i0_ne_t (by decide)) (by decide) (by decide) ?_
  refine o_iloadN (pc' := 9) X0 hx (hb hby d1_8) rfl rfl ?_
  refine o_iconst (pc' := 10) (v := (1 : Int32)) X0 hx (hb hby d1_9) rfl rfl ?_
  refine o_icmpT (pc' := 21) X0 hx (hb hby d1_10) (XT.ii_ne_t (by decide)) (by decide) (by decide) ?_
  refine o_iloadN (pc' := 22) X0 hx (hb hby d1_21) rfl rfl ?_
  refine o_iconst (pc' := 23) (v := (2 : Int32)) X0 hx (hb hby d1_22) rfl rfl ?_
  refine o_icmpT (pc' := 38) X0 hx (hb hby d1_23) (XT.ii_ne_t (by decide)) (by decide) (by decide) ?_
  refine o_iloadN (pc' := 39) X0 hx (hb hby d1_38) rfl rfl ?_
  refine o_iconst (pc' := 40) (v := (3 : Int32)) X0 hx (hb hby d1_39) rfl rfl ?_
  refine o_icmpT (pc' := 60) X0 hx (hb hby d1_40) (XT.ii_ne_t (by decide)) (by decide) (by decide) ?_
  refine o_iloadN (pc' := 61) X0 hx (hb hby d1_60) rfl rfl ?_
  refine o_iconst (pc' := 62) (v := (4 : Int32)) X0 hx (hb hby d1_61) rfl rfl ?_
  refine o_icmpF (pc' := 65) X0 hx (hb hby d1_62) (XT.ii_ne_f (by decide)) rfl ?_
  refine o_iconst (pc' := 66) (v := (4 : Int32)) X0 hx (hb hby d1_65) rfl rfl ?_
  obtain ⟨T1, h1_, X1, e1, E1, A1, st1⟩ := o_newD (Ls := #[.val (.int (4 : Int32)), .val (.double x1), .second, .val (.double x2), .second, .val (.double x3), .second, .val (.double x4), .second, .val (.double x5), .second, .val (.double x6), .second]) (st := []) (n := (4 : Int32)) X0 hx hZ (hw _ (List.mem_of_getElem? (i := 5) rfl)) e0 (hb hby d1_66) (by decide) 4 (by decide) (by decide) (by decide) (by decide) rfl
  obtain ⟨b1, g1⟩ : ∃ z, z = h0.size := ⟨_, rfl⟩
  rw [← g1] at A1 st1
  replace A1 : oDbls Z h1_ b1 [(0 : UInt64), (0 : UInt64), (0 : UInt64), (0 : UInt64)] := A1
  have ge2 : n0 ≤ b1 := by rw [g1]; exact Z0
  have ge3 : h0.size ≤ b1 := by rw [g1]; exact K0.1
  have K4 := (Keep.refl h0 []).ext E1
  have Z5 := Nat.le_trans Z0 K4.1
  have K6 := K0.trans K4 all0
  refine oGo.step (f' := (mkF m 68 #[.val (.int (4 : Int32)), .val (.double x1), .second, .val (.double x2), .second, .val (.double x3), .second, .val (.double x4), .second, .val (.double x5), .second, .val (.double x6), .second] [(.ref b1)])) st1 ?_
  refine o_dup (pc' := 69) X1 hx (hb hby d1_68) rfl rfl ?_
  refine o_iconst (pc' := 70) (v := (0 : Int32)) X1 hx (hb hby d1_69) rfl rfl ?_
  refine o_dloadN (pc' := 71) X1 hx (hb hby d1_70) rfl rfl ?_
  obtain ⟨T7, h7_, X7, e7, W7, st7⟩ := o_dastore (x := x1) (j := (0 : Int32)) (Ls := #[.val (.int (4 : Int32)), .val (.double x1), .second, .val (.double x2), .second, .val (.double x3), .second, .val (.double x4), .second, .val (.double x5), .second, .val (.double x6), .second]) (st := [(.ref b1)]) X1 hx hZ e1 A1 (hb hby d1_71) (by decide) (show _ < 4 by decide) rfl
  refine oGo.step (f' := (mkF m 72 #[.val (.int (4 : Int32)), .val (.double x1), .second, .val (.double x2), .second, .val (.double x3), .second, .val (.double x4), .second, .val (.double x5), .second, .val (.double x6), .second] [(.ref b1)])) st7 ?_
  have N7 := Fr.snoc X7 N0 ge2
  have F8 := A1.set W7
  replace F8 : oDbls Z h7_ b1 [x1, (0 : UInt64), (0 : UInt64), (0 : UInt64)] := F8
  have K9 := Keep.of_wr W7
  have Z10 := Nat.le_trans Z5 K9.1
  have K11 := K6.trans K9 (allS (Or.inr ge3) all0)
  refine o_dup (pc' := 73) X7 hx (hb hby d1_72) rfl rfl ?_
  refine o_iconst (pc' := 74) (v := (1 : Int32)) X7 hx (hb hby d1_73) rfl rfl ?_
  refine o_dloadN (pc' := 75) X7 hx (hb hby d1_74) rfl rfl ?_
  obtain ⟨T12, h12_, X12, e12, W12, st12⟩ := o_dastore (x := x2) (j := (1 : Int32)) (Ls := #[.val (.int (4 : Int32)), .val (.double x1), .second, .val (.double x2), .second, .val (.double x3), .second, .val (.double x4), .second, .val (.double x5), .second, .val (.double x6), .second]) (st := [(.ref b1)]) X7 hx hZ e7 F8 (hb hby d1_75) (by decide) (show _ < 4 by decide) rfl
  refine oGo.step (f' := (mkF m 76 #[.val (.int (4 : Int32)), .val (.double x1), .second, .val (.double x2), .second, .val (.double x3), .second, .val (.double x4), .second, .val (.double x5), .second, .val (.double x6), .second] [(.ref b1)])) st12 ?_
  have N12 := Fr.snoc X12 N7 ge2
  have F13 := F8.set W12
  replace F13 : oDbls Z h12_ b1 [x1, x2, (0 : UInt64), (0 : UInt64)] := F13
  have K14 := Keep.of_wr W12
  have Z15 := Nat.le_trans Z10 K14.1
  have K16 := K11.trans K14 (allS (Or.inr ge3) all0)
  refine o_dup (pc' := 77) X12 hx (hb hby d1_76) rfl rfl ?_
  refine o_iconst (pc' := 78) (v := (2 : Int32)) X12 hx (hb hby d1_77) rfl rfl ?_
  refine o_dload (pc' := 80) X12 hx (hb hby d1_78) rfl rfl ?_
  obtain ⟨T17, h17_, X17, e17, W17, st17⟩ := o_dastore (x := x3) (j := (2 : Int32)) (Ls := #[.val (.int (4 : Int32)), .val (.double x1), .second, .val (.double x2), .second, .val (.double x3), .second, .val (.double x4), .second, .val (.double x5), .second, .val (.double x6), .second]) (st := [(.ref b1)]) X12 hx hZ e12 F13 (hb hby d1_80) (by decide) (show _ < 4 by decide) rfl
  refine oGo.step (f' := (mkF m 81 #[.val (.int (4 : Int32)), .val (.double x1), .second, .val (.double x2), .second, .val (.double x3), .second, .val (.double x4), .second, .val (.double x5), .second, .val (.double x6), .second] [(.ref b1)])) st17 ?_
  have N17 := Fr.snoc X17 N12 ge2
  have F18 := F13.set W17
  replace F18 : oDbls Z h17_ b1 [x1, x2, x3, (0 : UInt64)] := F18
  have K19 := Keep.of_wr W17
  have Z20 := Nat.le_trans Z15 K19.1
  have K21 := K16.trans K19 (allS (Or.inr ge3) all0)
  refine o_dup (pc' := 82) X17 hx (hb hby d1_81) rfl rfl ?_
  refine o_iconst (pc' := 83) (v := (3 : Int32)) X17 hx (hb hby d1_82) rfl rfl ?_
  refine o_dload (pc' := 85) X17 hx (hb hby d1_83) rfl rfl ?_
  obtain ⟨T22, h22_, X22, e22, W22, st22⟩ := o_dastore (x := x4) (j := (3 : Int32)) (Ls := #[.val (.int (4 : Int32)), .val (.double x1), .second, .val (.double x2), .second, .val (.double x3), .second, .val (.double x4), .second, .val (.double x5), .second, .val (.double x6), .second]) (st := [(.ref b1)]) X17 hx hZ e17 F18 (hb hby d1_85) (by decide) (show _ < 4 by decide) rfl
  refine oGo.step (f' := (mkF m 86 #[.val (.int (4 : Int32)), .val (.double x1), .second, .val (.double x2), .second, .val (.double x3), .second, .val (.double x4), .second, .val (.double x5), .second, .val (.double x6), .second] [(.ref b1)])) st22 ?_
  have N22 := Fr.snoc X22 N17 ge2
  have F23 := F18.set W22
  replace F23 : oDbls Z h22_ b1 [x1, x2, x3, x4] := F23
  have K24 := Keep.of_wr W22
  have Z25 := Nat.le_trans Z20 K24.1
  have K26 := K21.trans K24 (allS (Or.inr ge3) all0)
  refine o_retA X22 hx hret rfl hlk rfl rfl (hb hby d1_86) (by decide) (by decide) ?_
  rw [e22]
  subst g1
  exact ⟨rfl, N22, K26, F23⟩
theorem ef3_5 (m : MethodId) (x0 : Addr) (x1 : UInt64) : entryFrame m #[(.ref x0), (.double x1)] 6 = mkF m 0 #[.val (.ref x0), .val (.double x1), .second, .unset, .unset, .unset] [] := by first | (simp [entryFrame, mkF, argsToLocals, Value.category]; done) | rfl
def spec3_5 (x1 : UInt64) (d0 : UInt64) (d1 : UInt64) (d2 : UInt64) (d3 : UInt64) (d4 : UInt64) : Int32 := (if (cmpValue (FP.dcmp d2 x1) .g) < 0 then (if (cmpValue (FP.dcmp d4 x1) .g) < 0 then (5 : Int32) else (if (cmpValue (FP.dcmp d3 x1) .g) < 0 then (4 : Int32) else (3 : Int32))) else (if (cmpValue (FP.dcmp d1 x1) .g) < 0 then (2 : Int32) else (if (cmpValue (FP.dcmp d0 x1) .g) < 0 then (1 : Int32) else (0 : Int32))))
def room3_5 : Room := { frames := 0, cells := 0, slots := 0, locals := 0 }
set_option maxRecDepth 65536 in
set_option maxHeartbeats 40000000 in
theorem rm3_5 (l : Launch) (Z : State) (a0 : Array Value) (hw : ∀ d ∈ tables_1, d.before a0 Z = true) (x0 : Addr) (x1 : UInt64) (d0 : UInt64) (d1 : UInt64) (d2 : UInt64) (d3 : UInt64) (d4 : UInt64) (h0 : Heap) (n0 : Nat) (Z0 : n0 ≤ h0.size)  (A0 : oDbls Z h0 x0 [d0, d1, d2, d3, d4]) :
    oCon l Z (⟨"com/example/glyphweave/glyphweave/Slots", "lowerBound", "([DD)I"⟩ : MethodName) prog_60_method_3_code 6 (some .int) room3_5 #[(.ref x0), (.double x1)] h0 (fun v h L => v = some (.int (spec3_5 x1 d0 d1 d2 d3 d4)) ∧ L = [] ∧ h = h0) := by
  refine oCon.of (plainFor_of_name pn_3) ?_
  intro p e s m below meth c s₁ hx hby hml hown hnm hret hlk hZ X0 e0
  rw [ef3_5 m x0 x1]
  have N0 := Fr.nil n0
  refine o_iconst (pc' := 1) (v := (0 : Int32)) X0 hx (hb hby d3_0) rfl rfl ?_
  refine o_istoreN (pc' := 2) (l' := #[.val (.ref x0), .val (.double x1), .second, .val (.int (0 : Int32)), .unset, .unset]) X0 hx (hb hby d3_1) rfl rfl ?_
  refine o_aloadN (pc' := 3) X0 hx (hb hby d3_2) rfl rfl rfl ?_
  refine o_dalen (pc' := 4) X0 hx hZ e0 A0 (hb hby d3_3) rfl ?_
  show oGo p e below (oG s (fun v h L => v = some (.int (spec3_5 x1 d0 d1 d2 d3 d4)) ∧ L = [] ∧ h = h0) room3_5.cells room3_5.slots) s₁ (mkF m 4 #[.val (.ref x0), .val (.double x1), .second, .val (.int (0 : Int32)), .unset, .unset] [(.int (5 : Int32))])
  refine o_istore (pc' := 6) (l' := #[.val (.ref x0), .val (.double x1), .second, .val (.int (0 : Int32)), .val (.int (5 : Int32)), .unset]) X0 hx (hb hby d3_4) rfl rfl ?_
  refine o_iloadN (pc' := 7) X0 hx (hb hby d3_6) rfl rfl ?_
  refine o_iload (pc' := 9) X0 hx (hb hby d3_7) rfl rfl ?_
  refine o_icmpF (pc' := 12) X0 hx (hb hby d3_9) (XT.ii_ge_f (by decide)) rfl ?_
  refine o_iloadN (pc' := 13) X0 hx (hb hby d3_12) rfl rfl ?_
  refine o_iload (pc' := 15) X0 hx (hb hby d3_13) rfl rfl ?_
  refine o_iadd (pc' := 16) X0 hx (hb hby d3_15)  rfl ?_
  rw [show ((0 : Int32) + (5 : Int32)) = (5 : Int32) from by decide]
  refine o_iconst (pc' := 17) (v := (1 : Int32)) X0 hx (hb hby d3_16) rfl rfl ?_
  refine o_iushr (pc' := 18) X0 hx (hb hby d3_17)  rfl ?_
  rw [show (XT.ushr (5 : Int32) (1 : Int32)) = (2 : Int32) from by decide]
  refine o_istore (pc' := 20) (l' := #[.val (.ref x0), .val (.double x1), .second, .val (.int (0 : Int32)), .val (.int (5 : Int32)), .val (.int (2 : Int32))]) X0 hx (hb hby d3_18) rfl rfl ?_
  refine o_aloadN (pc' := 21) X0 hx (hb hby d3_20) rfl rfl rfl ?_
  refine o_iload (pc' := 23) X0 hx (hb hby d3_21) rfl rfl ?_
  refine o_daload (pc' := 24) (v := d2) X0 hx hZ e0 A0 (hb hby d3_23) (by decide) rfl rfl ?_
  refine o_dloadN (pc' := 25) X0 hx (hb hby d3_24) rfl rfl ?_
  refine o_dcmp (pc' := 26) X0 hx (hb hby d3_25) rfl ?_
  by_cases c1 : (cmpValue (FP.dcmp d2 x1) .g) < 0
  · refine o_ifF (pc' := 29) X0 hx (hb hby d3_26) (XT.i0_ge_f c1) rfl ?_
    refine o_iload (pc' := 31) X0 hx (hb hby d3_29) rfl rfl ?_
    refine o_iconst (pc' := 32) (v := (1 : Int32)) X0 hx (hb hby d3_31) rfl rfl ?_
    refine o_iadd (pc' := 33) X0 hx (hb hby d3_32)  rfl ?_
    rw [show ((2 : Int32) + (1 : Int32)) = (3 : Int32) from by decide]
    refine o_istoreN (pc' := 34) (l' := #[.val (.ref x0), .val (.double x1), .second, .val (.int (3 : Int32)), .val (.int (5 : Int32)), .val (.int (2 : Int32))]) X0 hx (hb hby d3_33) rfl rfl ?_
    refine o_goto (pc' := 41) X0 hx (hb hby d3_34) (by decide) (by decide) ?_
    refine o_goto (pc' := 6) X0 hx (hb hby d3_41) (by decide) (by decide) ?_
    refine o_iloadN (pc' := 7) X0 hx (hb hby d3_6) rfl rfl ?_
    refine o_iload (pc' := 9) X0 hx (hb hby d3_7) rfl rfl ?_
    refine o_icmpF (pc' := 12) X0 hx (hb hby d3_9) (XT.ii_ge_f (by decide)) rfl ?_
    refine o_iloadN (pc' := 13) X0 hx (hb hby d3_12) rfl rfl ?_
    refine o_iload (pc' := 15) X0 hx (hb hby d3_13) rfl rfl ?_
    refine o_iadd (pc' := 16) X0 hx (hb hby d3_15)  rfl ?_
    rw [show ((3 : Int32) + (5 : Int32)) = (8 : Int32) from by decide]
    refine o_iconst (pc' := 17) (v := (1 : Int32)) X0 hx (hb hby d3_16) rfl rfl ?_
    refine o_iushr (pc' := 18) X0 hx (hb hby d3_17)  rfl ?_
    rw [show (XT.ushr (8 : Int32) (1 : Int32)) = (4 : Int32) from by decide]
    refine o_istore (pc' := 20) (l' := #[.val (.ref x0), .val (.double x1), .second, .val (.int (3 : Int32)), .val (.int (5 : Int32)), .val (.int (4 : Int32))]) X0 hx (hb hby d3_18) rfl rfl ?_
    refine o_aloadN (pc' := 21) X0 hx (hb hby d3_20) rfl rfl rfl ?_
    refine o_iload (pc' := 23) X0 hx (hb hby d3_21) rfl rfl ?_
    refine o_daload (pc' := 24) (v := d4) X0 hx hZ e0 A0 (hb hby d3_23) (by decide) rfl rfl ?_
    refine o_dloadN (pc' := 25) X0 hx (hb hby d3_24) rfl rfl ?_
    refine o_dcmp (pc' := 26) X0 hx (hb hby d3_25) rfl ?_
    by_cases c2 : (cmpValue (FP.dcmp d4 x1) .g) < 0
    · refine o_ifF (pc' := 29) X0 hx (hb hby d3_26) (XT.i0_ge_f c2) rfl ?_
      refine o_iload (pc' := 31) X0 hx (hb hby d3_29) rfl rfl ?_
      refine o_iconst (pc' := 32) (v := (1 : Int32)) X0 hx (hb hby d3_31) rfl rfl ?_
      refine o_iadd (pc' := 33) X0 hx (hb hby d3_32)  rfl ?_
      rw [show ((4 : Int32) + (1 : Int32)) = (5 : Int32) from by decide]
      refine o_istoreN (pc' := 34) (l' := #[.val (.ref x0), .val (.double x1), .second, .val (.int (5 : Int32)), .val (.int (5 : Int32)), .val (.int (4 : Int32))]) X0 hx (hb hby d3_33) rfl rfl ?_
      refine o_goto (pc' := 41) X0 hx (hb hby d3_34) (by decide) (by decide) ?_
      refine o_goto (pc' := 6) X0 hx (hb hby d3_41) (by decide) (by decide) ?_
      refine o_iloadN (pc' := 7) X0 hx (hb hby d3_6) rfl rfl ?_
      refine o_iload (pc' := 9) X0 hx (hb hby d3_7) rfl rfl ?_
      refine o_icmpT (pc' := 44) X0 hx (hb hby d3_9) (XT.ii_ge_t (by decide)) (by decide) (by decide) ?_
      refine o_iloadN (pc' := 45) X0 hx (hb hby d3_44) rfl rfl ?_
      refine o_retI X0 hx hret hlk (hb hby d3_45) (by decide) (by decide) ?_
      exact ⟨congrArg (fun z => some (Value.int z)) (show _ = (spec3_5 x1 d0 d1 d2 d3 d4) from ((if_pos c1).trans (if_pos c2)).symm), rfl, e0⟩
    · refine o_ifT (pc' := 37) X0 hx (hb hby d3_26) (XT.i0_ge_t c2) (by decide) (by decide) ?_
      refine o_iload (pc' := 39) X0 hx (hb hby d3_37) rfl rfl ?_
      refine o_istore (pc' := 41) (l' := #[.val (.ref x0), .val (.double x1), .second, .val (.int (3 : Int32)), .val (.int (4 : Int32)), .val (.int (4 : Int32))]) X0 hx (hb hby d3_39) rfl rfl ?_
      refine o_goto (pc' := 6) X0 hx (hb hby d3_41) (by decide) (by decide) ?_
      refine o_iloadN (pc' := 7) X0 hx (hb hby d3_6) rfl rfl ?_
      refine o_iload (pc' := 9) X0 hx (hb hby d3_7) rfl rfl ?_
      refine o_icmpF (pc' := 12) X0 hx (hb hby d3_9) (XT.ii_ge_f (by decide)) rfl ?_
      refine o_iloadN (pc' := 13) X0 hx (hb hby d3_12) rfl rfl ?_
      refine o_iload (pc' := 15) X0 hx (hb hby d3_13) rfl rfl ?_
      refine o_iadd (pc' := 16) X0 hx (hb hby d3_15)  rfl ?_
      rw [show ((3 : Int32) + (4 : Int32)) = (7 : Int32) from by decide]
      refine o_iconst (pc' := 17) (v := (1 : Int32)) X0 hx (hb hby d3_16) rfl rfl ?_
      refine o_iushr (pc' := 18) X0 hx (hb hby d3_17)  rfl ?_
      rw [show (XT.ushr (7 : Int32) (1 : Int32)) = (3 : Int32) from by decide]
      refine o_istore (pc' := 20) (l' := #[.val (.ref x0), .val (.double x1), .second, .val (.int (3 : Int32)), .val (.int (4 : Int32)), .val (.int (3 : Int32))]) X0 hx (hb hby d3_18) rfl rfl ?_
      refine o_aloadN (pc' := 21) X0 hx (hb hby d3_20) rfl rfl rfl ?_
      refine o_iload (pc' := 23) X0 hx (hb hby d3_21) rfl rfl ?_
      refine o_daload (pc' := 24) (v := d3) X0 hx hZ e0 A0 (hb hby d3_23) (by decide) rfl rfl ?_
      refine o_dloadN (pc' := 25) X0 hx (hb hby d3_24) rfl rfl ?_
      refine o_dcmp (pc' := 26) X0 hx (hb hby d3_25) rfl ?_
      by_cases c3 : (cmpValue (FP.dcmp d3 x1) .g) < 0
      · refine o_ifF (pc' := 29) X0 hx (hb hby d3_26) (XT.i0_ge_f c3) rfl ?_
        refine o_iload (pc' := 31) X0 hx (hb hby d3_29) rfl rfl ?_
        refine o_iconst (pc' := 32) (v := (1 : Int32)) X0 hx (hb hby d3_31) rfl rfl ?_
        refine o_iadd (pc' := 33) X0 hx (hb hby d3_32)  rfl ?_
        rw [show ((3 : Int32) + (1 : Int32)) = (4 : Int32) from by decide]
        refine o_istoreN (pc' := 34) (l' := #[.val (.ref x0), .val (.double x1), .second, .val (.int (4 : Int32)), .val (.int (4 : Int32)), .val (.int (3 : Int32))]) X0 hx (hb hby d3_33) rfl rfl ?_
        refine o_goto (pc' := 41) X0 hx (hb hby d3_34) (by decide) (by decide) ?_
        refine o_goto (pc' := 6) X0 hx (hb hby d3_41) (by decide) (by decide) ?_
        refine o_iloadN (pc' := 7) X0 hx (hb hby d3_6) rfl rfl ?_
        refine o_iload (pc' := 9) X0 hx (hb hby d3_7) rfl rfl ?_
        refine o_icmpT (pc' := 44) X0 hx (hb hby d3_9) (XT.ii_ge_t (by decide)) (by decide) (by decide) ?_
        refine o_iloadN (pc' := 45) X0 hx (hb hby d3_44) rfl rfl ?_
        refine o_retI X0 hx hret hlk (hb hby d3_45) (by decide) (by decide) ?_
        exact ⟨congrArg (fun z => some (Value.int z)) (show _ = (spec3_5 x1 d0 d1 d2 d3 d4) from ((if_pos c1).trans ((if_neg c2).trans (if_pos c3))).symm), rfl, e0⟩
      · refine o_ifT (pc' := 37) X0 hx (hb hby d3_26) (XT.i0_ge_t c3) (by decide) (by decide) ?_
        refine o_iload (pc' := 39) X0 hx (hb hby d3_37) rfl rfl ?_
        refine o_istore (pc' := 41) (l' := #[.val (.ref x0), .val (.double x1), .second, .val (.int (3 : Int32)), .val (.int (3 : Int32)), .val (.int (3 : Int32))]) X0 hx (hb hby d3_39) rfl rfl ?_
        refine o_goto (pc' := 6) X0 hx (hb hby d3_41) (by decide) (by decide) ?_
        refine o_iloadN (pc' := 7) X0 hx (hb hby d3_6) rfl rfl ?_
        refine o_iload (pc' := 9) X0 hx (hb hby d3_7) rfl rfl ?_
        refine o_icmpT (pc' := 44) X0 hx (hb hby d3_9) (XT.ii_ge_t (by decide)) (by decide) (by decide) ?_
        refine o_iloadN (pc' := 45) X0 hx (hb hby d3_44) rfl rfl ?_
        refine o_retI X0 hx hret hlk (hb hby d3_45) (by decide) (by decide) ?_
        exact ⟨congrArg (fun z => some (Value.int z)) (show _ = (spec3_5 x1 d0 d1 d2 d3 d4) from ((if_pos c1).trans ((if_neg c2).trans (if_neg c3))).symm), rfl, e0⟩
  · refine o_ifT (pc' := 37) X0 hx (hb hby d3_26) (XT.i0_ge_t c1) (by decide) (by decide) ?_
    refine o_iload (pc' := 39) X0 hx (hb hby d3_37) rfl rfl ?_
    refine o_istore (pc' := 41) (l' := #[.val (.ref x0), .val (.double x1), .second, .val (.int (0 : Int32)), .val (.int (2 : Int32)), .val (.int (2 : Int32))]) X0 hx (hb hby d3_39) rfl rfl ?_
    refine o_goto (pc' := 6) X0 hx (hb hby d3_41) (by decide) (by decide) ?_
    refine o_iloadN (pc' := 7) X0 hx (hb hby d3_6) rfl rfl ?_
    refine o_iload (pc' := 9) X0 hx (hb hby d3_7) rfl rfl ?_
    refine o_icmpF (pc' := 12) X0 hx (hb hby d3_9) (XT.ii_ge_f (by decide)) rfl ?_
    refine o_iloadN (pc' := 13) X0 hx (hb hby d3_12) rfl rfl ?_
    refine o_iload (pc' := 15) X0 hx (hb hby d3_13) rfl rfl ?_
    refine o_iadd (pc' := 16) X0 hx (hb hby d3_15)  rfl ?_
    rw [show ((0 : Int32) + (2 : Int32)) = (2 : Int32) from by decide]
    refine o_iconst (pc' := 17) (v := (1 : Int32)) X0 hx (hb hby d3_16) rfl rfl ?_
    refine o_iushr (pc' := 18) X0 hx (hb hby d3_17)  rfl ?_
    rw [show (XT.ushr (2 : Int32) (1 : Int32)) = (1 : Int32) from by decide]
    refine o_istore (pc' := 20) (l' := #[.val (.ref x0), .val (.double x1), .second, .val (.int (0 : Int32)), .val (.int (2 : Int32)), .val (.int (1 : Int32))]) X0 hx (hb hby d3_18) rfl rfl ?_
    refine o_aloadN (pc' := 21) X0 hx (hb hby d3_20) rfl rfl rfl ?_
    refine o_iload (pc' := 23) X0 hx (hb hby d3_21) rfl rfl ?_
    refine o_daload (pc' := 24) (v := d1) X0 hx hZ e0 A0 (hb hby d3_23) (by decide) rfl rfl ?_
    refine o_dloadN (pc' := 25) X0 hx (hb hby d3_24) rfl rfl ?_
    refine o_dcmp (pc' := 26) X0 hx (hb hby d3_25) rfl ?_
    by_cases c4 : (cmpValue (FP.dcmp d1 x1) .g) < 0
    · refine o_ifF (pc' := 29) X0 hx (hb hby d3_26) (XT.i0_ge_f c4) rfl ?_
      refine o_iload (pc' := 31) X0 hx (hb hby d3_29) rfl rfl ?_
      refine o_iconst (pc' := 32) (v := (1 : Int32)) X0 hx (hb hby d3_31) rfl rfl ?_
      refine o_iadd (pc' := 33) X0 hx (hb hby d3_32)  rfl ?_
      rw [show ((1 : Int32) + (1 : Int32)) = (2 : Int32) from by decide]
      refine o_istoreN (pc' := 34) (l' := #[.val (.ref x0), .val (.double x1), .second, .val (.int (2 : Int32)), .val (.int (2 : Int32)), .val (.int (1 : Int32))]) X0 hx (hb hby d3_33) rfl rfl ?_
      refine o_goto (pc' := 41) X0 hx (hb hby d3_34) (by decide) (by decide) ?_
      refine o_goto (pc' := 6) X0 hx (hb hby d3_41) (by decide) (by decide) ?_
      refine o_iloadN (pc' := 7) X0 hx (hb hby d3_6) rfl rfl ?_
      refine o_iload (pc' := 9) X0 hx (hb hby d3_7) rfl rfl ?_
      refine o_icmpT (pc' := 44) X0 hx (hb hby d3_9) (XT.ii_ge_t (by decide)) (by decide) (by decide) ?_
      refine o_iloadN (pc' := 45) X0 hx (hb hby d3_44) rfl rfl ?_
      refine o_retI X0 hx hret hlk (hb hby d3_45) (by decide) (by decide) ?_
      exact ⟨congrArg (fun z => some (Value.int z)) (show _ = (spec3_5 x1 d0 d1 d2 d3 d4) from ((if_neg c1).trans (if_pos c4)).symm), rfl, e0⟩
    · refine o_ifT (pc' := 37) X0 hx (hb hby d3_26) (XT.i0_ge_t c4) (by decide) (by decide) ?_
      refine o_iload (pc' := 39) X0 hx (hb hby d3_37) rfl rfl ?_
      refine o_istore (pc' := 41) (l' := #[.val (.ref x0), .val (.double x1), .second, .val (.int (0 : Int32)), .val (.int (1 : Int32)), .val (.int (1 : Int32))]) X0 hx (hb hby d3_39) rfl rfl ?_
      refine o_goto (pc' := 6) X0 hx (hb hby d3_41) (by decide) (by decide) ?_
      refine o_iloadN (pc' := 7) X0 hx (hb hby d3_6) rfl rfl ?_
      refine o_iload (pc' := 9) X0 hx (hb hby d3_7) rfl rfl ?_
      refine o_icmpF (pc' := 12) X0 hx (hb hby d3_9) (XT.ii_ge_f (by decide)) rfl ?_
      refine o_iloadN (pc' := 13) X0 hx (hb hby d3_12) rfl rfl ?_
      refine o_iload (pc' := 15) X0 hx (hb hby d3_13) rfl rfl ?_
      refine o_iadd (pc' := 16) X0 hx (hb hby d3_15)  rfl ?_
      rw [show ((0 : Int32) + (1 : Int32)) = (1 : Int32) from by decide]
      refine o_iconst (pc' := 17) (v := (1 : Int32)) X0 hx (hb hby d3_16) rfl rfl ?_
      refine o_iushr (pc' := 18) X0 hx (hb hby d3_17)  rfl ?_
      rw [show (XT.ushr (1 : Int32) (1 : Int32)) = (0 : Int32) from by decide]
      refine o_istore (pc' := 20) (l' := #[.val (.ref x0), .val (.double x1), .second, .val (.int (0 : Int32)), .val (.int (1 : Int32)), .val (.int (0 : Int32))]) X0 hx (hb hby d3_18) rfl rfl ?_
      refine o_aloadN (pc' := 21) X0 hx (hb hby d3_20) rfl rfl rfl ?_
      refine o_iload (pc' := 23) X0 hx (hb hby d3_21) rfl rfl ?_
      refine o_daload (pc' := 24) (v := d0) X0 hx hZ e0 A0 (hb hby d3_23) (by decide) rfl rfl ?_
      refine o_dloadN (pc' := 25) X0 hx (hb hby d3_24) rfl rfl ?_
      refine o_dcmp (pc' := 26) X0 hx (hb hby d3_25) rfl ?_
      by_cases c5 : (cmpValue (FP.dcmp d0 x1) .g) < 0
      · refine o_ifF (pc' := 29) X0 hx (hb hby d3_26) (XT.i0_ge_f c5) rfl ?_
        refine o_iload (pc' := 31) X0 hx (hb hby d3_29) rfl rfl ?_
        refine o_iconst (pc' := 32) (v := (1 : Int32)) X0 hx (hb hby d3_31) rfl rfl ?_
        refine o_iadd (pc' := 33) X0 hx (hb hby d3_32)  rfl ?_
        rw [show ((0 : Int32) + (1 : Int32)) = (1 : Int32) from by decide]
        refine o_istoreN (pc' := 34) (l' := #[.val (.ref x0), .val (.double x1), .second, .val (.int (1 : Int32)), .val (.int (1 : Int32)), .val (.int (0 : Int32))]) X0 hx (hb hby d3_33) rfl rfl ?_
        refine o_goto (pc' := 41) X0 hx (hb hby d3_34) (by decide) (by decide) ?_
        refine o_goto (pc' := 6) X0 hx (hb hby d3_41) (by decide) (by decide) ?_
        refine o_iloadN (pc' := 7) X0 hx (hb hby d3_6) rfl rfl ?_
        refine o_iload (pc' := 9) X0 hx (hb hby d3_7) rfl rfl ?_
        refine o_icmpT (pc' := 44) X0 hx (hb hby d3_9) (XT.ii_ge_t (by decide)) (by decide) (by decide) ?_
        refine o_iloadN (pc' := 45) X0 hx (hb hby d3_44) rfl rfl ?_
        refine o_retI X0 hx hret hlk (hb hby d3_45) (by decide) (by decide) ?_
        exact ⟨congrArg (fun z => some (Value.int z)) (show _ = (spec3_5 x1 d0 d1 d2 d3 d4) from ((if_neg c1).trans ((if_neg c4).trans (if_pos c5))).symm), rfl, e0⟩
      · refine o_ifT (pc' := 37) X0 hx (hb hby d3_26) (XT.i0_ge_t c5) (by decide) (by decide) ?_
        refine o_iload (pc' := 39) X0 hx (hb hby d3_37) rfl rfl ?_
        refine o_istore (pc' := 41) (l' := #[.val (.ref x0), .val (.double x1), .second, .val (.int (0 : Int32)), .val (.int (0 : Int32)), .val (.int (0 : Int32))]) X0 hx (hb hby d3_39) rfl rfl ?_
        refine o_goto (pc' := 6) X0 hx (hb hby d3_41) (by decide) (by decide) ?_
        refine o_iloadN (pc' := 7) X0 hx (hb hby d3_6) rfl rfl ?_
        refine o_iload (pc' := 9) X0 hx (hb hby d3_7) rfl rfl ?_
        refine o_icmpT (pc' := 44) X0 hx (hb hby d3_9) (XT.ii_ge_t (by decide)) (by decide) (by decide) ?_
        refine o_iloadN (pc' := 45) X0 hx (hb hby d3_44) rfl rfl ?_
        refine o_retI X0 hx hret hlk (hb hby d3_45) (by decide) (by decide) ?_
        exact ⟨congrArg (fun z => some (Value.int z)) (show _ = (spec3_5 x1 d0 d1 d2 d3 d4) from ((if_neg c1).trans ((if_neg c4).trans (if_neg c5))).symm), rfl, e0⟩
theorem ef1_5 (m : MethodId) (x1 x2 x3 x4 x5 x6 : UInt64) : entryFrame m #[(.int (5 : Int32)), (.double x1), (.double x2), (.double x3), (.double x4), (.double x5), (.double x6)] 13 = mkF m 0 #[.val (.int (5 : Int32)), .val (.double x1), .second, .val (.double x2), .second, .val (.double x3), .second, .val (.double x4), .second, .val (.double x5), .second, .val (.double x6), .second] [] := by first | (simp [entryFrame, mkF, argsToLocals, Value.category]; done) | rfl
def room1_5 : Room := { frames := 0, cells := 1, slots := 5, locals := 0 }
set_option maxRecDepth 65536 in
set_option maxHeartbeats 40000000 in
theorem rm1_5 (l : Launch) (Z : State) (a0 : Array Value) (hw : ∀ d ∈ tables_1, d.before a0 Z = true) (x1 x2 x3 x4 x5 x6 : UInt64) (h0 : Heap) (n0 : Nat) (Z0 : n0 ≤ h0.size)  :
    oCon l Z (⟨"com/example/glyphweave/glyphweave/SlotsLowerBoundPinLaw", "make", "(IDDDDDD)[D"⟩ : MethodName) method_4_code 13 (some (.array .double)) room1_5 #[(.int (5 : Int32)), (.double x1), (.double x2), (.double x3), (.double x4), (.double x5), (.double x6)] h0 (fun v h L => v = some (.ref h0.size) ∧ Fr n0 L ∧ Keep h0 h [] ∧ oDbls Z h h0.size [x1, x2, x3, x4, x5]) := by
  refine oCon.of (plainFor_of_name pn_2) ?_
  intro p e s m below meth c s₁ hx hby hml hown hnm hret hlk hZ X0 e0
  rw [ef1_5 m x1 x2 x3 x4 x5 x6]
  have N0 := Fr.nil n0
  have K0 := Keep.refl h0 []
  refine o_iloadN (pc' := 1) X0 hx (hb hby d1_0) rfl rfl ?_
  refine o_ifT (pc' := 8) X0 hx (hb hby d1_1) (XT.i0_ne_t (by decide)) (by decide) (by decide) ?_
  refine o_iloadN (pc' := 9) X0 hx (hb hby d1_8) rfl rfl ?_
  refine o_iconst (pc' := 10) (v := (1 : Int32)) X0 hx (hb hby d1_9) rfl rfl ?_
  refine o_icmpT (pc' := 21) X0 hx (hb hby d1_10) (XT.ii_ne_t (by decide)) (by decide) (by decide) ?_
  refine o_iloadN (pc' := 22) X0 hx (hb hby d1_21) rfl rfl ?_
  refine o_iconst (pc' := 23) (v := (2 : Int32)) X0 hx (hb hby d1_22) rfl rfl ?_
  refine o_icmpT (pc' := 38) X0 hx (hb hby d1_23) (XT.ii_ne_t (by decide)) (by decide) (by decide) ?_
  refine o_iloadN (pc' := 39) X0 hx (hb hby d1_38) rfl rfl ?_
  refine o_iconst (pc' := 40) (v := (3 : Int32)) X0 hx (hb hby d1_39) rfl rfl ?_
  refine o_icmpT (pc' := 60) X0 hx (hb hby d1_40) (XT.ii_ne_t (by decide)) (by decide) (by decide) ?_
  refine o_iloadN (pc' := 61) X0 hx (hb hby d1_60) rfl rfl ?_
  refine o_iconst (pc' := 62) (v := (4 : Int32)) X0 hx (hb hby d1_61) rfl rfl ?_
  refine o_icmpT (pc' := 87) X0 hx (hb hby d1_62) (XT.ii_ne_t (by decide)) (by decide) (by decide) ?_
  refine o_iloadN (pc' := 88) X0 hx (hb hby d1_87) rfl rfl ?_
  refine o_iconst (pc' := 89) (v := (5 : Int32)) X0 hx (hb hby d1_88) rfl rfl ?_
  refine o_icmpF (pc' := 92) X0 hx (hb hby d1_89) (XT.ii_ne_f (by decide)) rfl ?_
  refine o_iconst (pc' := 93) (v := (5 : Int32)) X0 hx (hb hby d1_92) rfl rfl ?_
  obtain ⟨T1, h1_, X1, e1, E1, A1, st1⟩ := o_newD (Ls := #[.val (.int (5 : Int32)), .val (.double x1), .second, .val (.double x2), .second, .val (.double x3), .second, .val (.double x4), .second, .val (.double x5), .second, .val (.double x6), .second]) (st := []) (n := (5 : Int32)) X0 hx hZ (hw _ (List.mem_of_getElem? (i := 5) rfl)) e0 (hb hby d1_93) (by decide) 5 (by decide) (by decide) (by decide) (by decide) rfl
  obtain ⟨b1, g1⟩ : ∃ z, z = h0.size := ⟨_, rfl⟩
  rw [← g1] at A1 st1
  replace A1 : oDbls Z h1_ b1 [(0 : UInt64), (0 : UInt64), (0 : UInt64), (0 : UInt64), (0 : UInt64)] := A1
  have ge2 : n0 ≤ b1 := by rw [g1]; exact Z0
  have ge3 : h0.size ≤ b1 := by rw [g1]; exact K0.1
  have K4 := (Keep.refl h0 []).ext E1
  have Z5 := Nat.le_trans Z0 K4.1
  have K6 := K0.trans K4 all0
  refine oGo.step (f' := (mkF m 95 #[.val (.int (5 : Int32)), .val (.double x1), .second, .val (.double x2), .second, .val (.double x3), .second, .val (.double x4), .second, .val (.double x5), .second, .val (.double x6), .second] [(.ref b1)])) st1 ?_
  refine o_dup (pc' := 96) X1 hx (hb hby d1_95) rfl rfl ?_
  refine o_iconst (pc' := 97) (v := (0 : Int32)) X1 hx (hb hby d1_96) rfl rfl ?_
  refine o_dloadN (pc' := 98) X1 hx (hb hby d1_97) rfl rfl ?_
  obtain ⟨T7, h7_, X7, e7, W7, st7⟩ := o_dastore (x := x1) (j := (0 : Int32)) (Ls := #[.val (.int (5 : Int32)), .val (.double x1), .second, .val (.double x2), .second, .val (.double x3), .second, .val (.double x4), .second, .val (.double x5), .second, .val (.double x6), .second]) (st := [(.ref b1)]) X1 hx hZ e1 A1 (hb hby d1_98) (by decide) (show _ < 5 by decide) rfl
  refine oGo.step (f' := (mkF m 99 #[.val (.int (5 : Int32)), .val (.double x1), .second, .val (.double x2), .second, .val (.double x3), .second, .val (.double x4), .second, .val (.double x5), .second, .val (.double x6), .second] [(.ref b1)])) st7 ?_
  have N7 := Fr.snoc X7 N0 ge2
  have F8 := A1.set W7
  replace F8 : oDbls Z h7_ b1 [x1, (0 : UInt64), (0 : UInt64), (0 : UInt64), (0 : UInt64)] := F8
  have K9 := Keep.of_wr W7
  have Z10 := Nat.le_trans Z5 K9.1
  have K11 := K6.trans K9 (allS (Or.inr ge3) all0)
  refine o_dup (pc' := 100) X7 hx (hb hby d1_99) rfl rfl ?_
  refine o_iconst (pc' := 101) (v := (1 : Int32)) X7 hx (hb hby d1_100) rfl rfl ?_
  refine o_dloadN (pc' := 102) X7 hx (hb hby d1_101) rfl rfl ?_
  obtain ⟨T12, h12_, X12, e12, W12, st12⟩ := o_dastore (x := x2) (j := (1 : Int32)) (Ls := #[.val (.int (5 : Int32)), .val (.double x1), .second, .val (.double x2), .second, .val (.double x3), .second, .val (.double x4), .second, .val (.double x5), .second, .val (.double x6), .second]) (st := [(.ref b1)]) X7 hx hZ e7 F8 (hb hby d1_102) (by decide) (show _ < 5 by decide) rfl
  refine oGo.step (f' := (mkF m 103 #[.val (.int (5 : Int32)), .val (.double x1), .second, .val (.double x2), .second, .val (.double x3), .second, .val (.double x4), .second, .val (.double x5), .second, .val (.double x6), .second] [(.ref b1)])) st12 ?_
  have N12 := Fr.snoc X12 N7 ge2
  have F13 := F8.set W12
  replace F13 : oDbls Z h12_ b1 [x1, x2, (0 : UInt64), (0 : UInt64), (0 : UInt64)] := F13
  have K14 := Keep.of_wr W12
  have Z15 := Nat.le_trans Z10 K14.1
  have K16 := K11.trans K14 (allS (Or.inr ge3) all0)
  refine o_dup (pc' := 104) X12 hx (hb hby d1_103) rfl rfl ?_
  refine o_iconst (pc' := 105) (v := (2 : Int32)) X12 hx (hb hby d1_104) rfl rfl ?_
  refine o_dload (pc' := 107) X12 hx (hb hby d1_105) rfl rfl ?_
  obtain ⟨T17, h17_, X17, e17, W17, st17⟩ := o_dastore (x := x3) (j := (2 : Int32)) (Ls := #[.val (.int (5 : Int32)), .val (.double x1), .second, .val (.double x2), .second, .val (.double x3), .second, .val (.double x4), .second, .val (.double x5), .second, .val (.double x6), .second]) (st := [(.ref b1)]) X12 hx hZ e12 F13 (hb hby d1_107) (by decide) (show _ < 5 by decide) rfl
  refine oGo.step (f' := (mkF m 108 #[.val (.int (5 : Int32)), .val (.double x1), .second, .val (.double x2), .second, .val (.double x3), .second, .val (.double x4), .second, .val (.double x5), .second, .val (.double x6), .second] [(.ref b1)])) st17 ?_
  have N17 := Fr.snoc X17 N12 ge2
  have F18 := F13.set W17
  replace F18 : oDbls Z h17_ b1 [x1, x2, x3, (0 : UInt64), (0 : UInt64)] := F18
  have K19 := Keep.of_wr W17
  have Z20 := Nat.le_trans Z15 K19.1
  have K21 := K16.trans K19 (allS (Or.inr ge3) all0)
  refine o_dup (pc' := 109) X17 hx (hb hby d1_108) rfl rfl ?_
  refine o_iconst (pc' := 110) (v := (3 : Int32)) X17 hx (hb hby d1_109) rfl rfl ?_
  refine o_dload (pc' := 112) X17 hx (hb hby d1_110) rfl rfl ?_
  obtain ⟨T22, h22_, X22, e22, W22, st22⟩ := o_dastore (x := x4) (j := (3 : Int32)) (Ls := #[.val (.int (5 : Int32)), .val (.double x1), .second, .val (.double x2), .second, .val (.double x3), .second, .val (.double x4), .second, .val (.double x5), .second, .val (.double x6), .second]) (st := [(.ref b1)]) X17 hx hZ e17 F18 (hb hby d1_112) (by decide) (show _ < 5 by decide) rfl
  refine oGo.step (f' := (mkF m 113 #[.val (.int (5 : Int32)), .val (.double x1), .second, .val (.double x2), .second, .val (.double x3), .second, .val (.double x4), .second, .val (.double x5), .second, .val (.double x6), .second] [(.ref b1)])) st22 ?_
  have N22 := Fr.snoc X22 N17 ge2
  have F23 := F18.set W22
  replace F23 : oDbls Z h22_ b1 [x1, x2, x3, x4, (0 : UInt64)] := F23
  have K24 := Keep.of_wr W22
  have Z25 := Nat.le_trans Z20 K24.1
  have K26 := K21.trans K24 (allS (Or.inr ge3) all0)
  refine o_dup (pc' := 114) X22 hx (hb hby d1_113) rfl rfl ?_
  refine o_iconst (pc' := 115) (v := (4 : Int32)) X22 hx (hb hby d1_114) rfl rfl ?_
  refine o_dload (pc' := 117) X22 hx (hb hby d1_115) rfl rfl ?_
  obtain ⟨T27, h27_, X27, e27, W27, st27⟩ := o_dastore (x := x5) (j := (4 : Int32)) (Ls := #[.val (.int (5 : Int32)), .val (.double x1), .second, .val (.double x2), .second, .val (.double x3), .second, .val (.double x4), .second, .val (.double x5), .second, .val (.double x6), .second]) (st := [(.ref b1)]) X22 hx hZ e22 F23 (hb hby d1_117) (by decide) (show _ < 5 by decide) rfl
  refine oGo.step (f' := (mkF m 118 #[.val (.int (5 : Int32)), .val (.double x1), .second, .val (.double x2), .second, .val (.double x3), .second, .val (.double x4), .second, .val (.double x5), .second, .val (.double x6), .second] [(.ref b1)])) st27 ?_
  have N27 := Fr.snoc X27 N22 ge2
  have F28 := F23.set W27
  replace F28 : oDbls Z h27_ b1 [x1, x2, x3, x4, x5] := F28
  have K29 := Keep.of_wr W27
  have Z30 := Nat.le_trans Z25 K29.1
  have K31 := K26.trans K29 (allS (Or.inr ge3) all0)
  refine o_retA X27 hx hret rfl hlk rfl rfl (hb hby d1_118) (by decide) (by decide) ?_
  rw [e27]
  subst g1
  exact ⟨rfl, N27, K31, F28⟩
theorem ef3_6 (m : MethodId) (x0 : Addr) (x1 : UInt64) : entryFrame m #[(.ref x0), (.double x1)] 6 = mkF m 0 #[.val (.ref x0), .val (.double x1), .second, .unset, .unset, .unset] [] := by first | (simp [entryFrame, mkF, argsToLocals, Value.category]; done) | rfl
def spec3_6 (x1 : UInt64) (d0 : UInt64) (d1 : UInt64) (d2 : UInt64) (d3 : UInt64) (d4 : UInt64) (d5 : UInt64) : Int32 := (if (cmpValue (FP.dcmp d3 x1) .g) < 0 then (if (cmpValue (FP.dcmp d5 x1) .g) < 0 then (6 : Int32) else (if (cmpValue (FP.dcmp d4 x1) .g) < 0 then (5 : Int32) else (4 : Int32))) else (if (cmpValue (FP.dcmp d1 x1) .g) < 0 then (if (cmpValue (FP.dcmp d2 x1) .g) < 0 then (3 : Int32) else (2 : Int32)) else (if (cmpValue (FP.dcmp d0 x1) .g) < 0 then (1 : Int32) else (0 : Int32))))
def room3_6 : Room := { frames := 0, cells := 0, slots := 0, locals := 0 }
set_option maxRecDepth 65536 in
set_option maxHeartbeats 40000000 in
theorem rm3_6 (l : Launch) (Z : State) (a0 : Array Value) (hw : ∀ d ∈ tables_1, d.before a0 Z = true) (x0 : Addr) (x1 : UInt64) (d0 : UInt64) (d1 : UInt64) (d2 : UInt64) (d3 : UInt64) (d4 : UInt64) (d5 : UInt64) (h0 : Heap) (n0 : Nat) (Z0 : n0 ≤ h0.size)  (A0 : oDbls Z h0 x0 [d0, d1, d2, d3, d4, d5]) :
    oCon l Z (⟨"com/example/glyphweave/glyphweave/Slots", "lowerBound", "([DD)I"⟩ : MethodName) prog_60_method_3_code 6 (some .int) room3_6 #[(.ref x0), (.double x1)] h0 (fun v h L => v = some (.int (spec3_6 x1 d0 d1 d2 d3 d4 d5)) ∧ L = [] ∧ h = h0) := by
  refine oCon.of (plainFor_of_name pn_3) ?_
  intro p e s m below meth c s₁ hx hby hml hown hnm hret hlk hZ X0 e0
  rw [ef3_6 m x0 x1]
  have N0 := Fr.nil n0
  refine o_iconst (pc' := 1) (v := (0 : Int32)) X0 hx (hb hby d3_0) rfl rfl ?_
  refine o_istoreN (pc' := 2) (l' := #[.val (.ref x0), .val (.double x1), .second, .val (.int (0 : Int32)), .unset, .unset]) X0 hx (hb hby d3_1) rfl rfl ?_
  refine o_aloadN (pc' := 3) X0 hx (hb hby d3_2) rfl rfl rfl ?_
  refine o_dalen (pc' := 4) X0 hx hZ e0 A0 (hb hby d3_3) rfl ?_
  show oGo p e below (oG s (fun v h L => v = some (.int (spec3_6 x1 d0 d1 d2 d3 d4 d5)) ∧ L = [] ∧ h = h0) room3_6.cells room3_6.slots) s₁ (mkF m 4 #[.val (.ref x0), .val (.double x1), .second, .val (.int (0 : Int32)), .unset, .unset] [(.int (6 : Int32))])
  refine o_istore (pc' := 6) (l' := #[.val (.ref x0), .val (.double x1), .second, .val (.int (0 : Int32)), .val (.int (6 : Int32)), .unset]) X0 hx (hb hby d3_4) rfl rfl ?_
  refine o_iloadN (pc' := 7) X0 hx (hb hby d3_6) rfl rfl ?_
  refine o_iload (pc' := 9) X0 hx (hb hby d3_7) rfl rfl ?_
  refine o_icmpF (pc' := 12) X0 hx (hb hby d3_9) (XT.ii_ge_f (by decide)) rfl ?_
  refine o_iloadN (pc' := 13) X0 hx (hb hby d3_12) rfl rfl ?_
  refine o_iload (pc' := 15) X0 hx (hb hby d3_13) rfl rfl ?_
  refine o_iadd (pc' := 16) X0 hx (hb hby d3_15)  rfl ?_
  rw [show ((0 : Int32) + (6 : Int32)) = (6 : Int32) from by decide]
  refine o_iconst (pc' := 17) (v := (1 : Int32)) X0 hx (hb hby d3_16) rfl rfl ?_
  refine o_iushr (pc' := 18) X0 hx (hb hby d3_17)  rfl ?_
  rw [show (XT.ushr (6 : Int32) (1 : Int32)) = (3 : Int32) from by decide]
  refine o_istore (pc' := 20) (l' := #[.val (.ref x0), .val (.double x1), .second, .val (.int (0 : Int32)), .val (.int (6 : Int32)), .val (.int (3 : Int32))]) X0 hx (hb hby d3_18) rfl rfl ?_
  refine o_aloadN (pc' := 21) X0 hx (hb hby d3_20) rfl rfl rfl ?_
  refine o_iload (pc' := 23) X0 hx (hb hby d3_21) rfl rfl ?_
  refine o_daload (pc' := 24) (v := d3) X0 hx hZ e0 A0 (hb hby d3_23) (by decide) rfl rfl ?_
  refine o_dloadN (pc' := 25) X0 hx (hb hby d3_24) rfl rfl ?_
  refine o_dcmp (pc' := 26) X0 hx (hb hby d3_25) rfl ?_
  by_cases c1 : (cmpValue (FP.dcmp d3 x1) .g) < 0
  · refine o_ifF (pc' := 29) X0 hx (hb hby d3_26) (XT.i0_ge_f c1) rfl ?_
    refine o_iload (pc' := 31) X0 hx (hb hby d3_29) rfl rfl ?_
    refine o_iconst (pc' := 32) (v := (1 : Int32)) X0 hx (hb hby d3_31) rfl rfl ?_
    refine o_iadd (pc' := 33) X0 hx (hb hby d3_32)  rfl ?_
    rw [show ((3 : Int32) + (1 : Int32)) = (4 : Int32) from by decide]
    refine o_istoreN (pc' := 34) (l' := #[.val (.ref x0), .val (.double x1), .second, .val (.int (4 : Int32)), .val (.int (6 : Int32)), .val (.int (3 : Int32))]) X0 hx (hb hby d3_33) rfl rfl ?_
    refine o_goto (pc' := 41) X0 hx (hb hby d3_34) (by decide) (by decide) ?_
    refine o_goto (pc' := 6) X0 hx (hb hby d3_41) (by decide) (by decide) ?_
    refine o_iloadN (pc' := 7) X0 hx (hb hby d3_6) rfl rfl ?_
    refine o_iload (pc' := 9) X0 hx (hb hby d3_7) rfl rfl ?_
    refine o_icmpF (pc' := 12) X0 hx (hb hby d3_9) (XT.ii_ge_f (by decide)) rfl ?_
    refine o_iloadN (pc' := 13) X0 hx (hb hby d3_12) rfl rfl ?_
    refine o_iload (pc' := 15) X0 hx (hb hby d3_13) rfl rfl ?_
    refine o_iadd (pc' := 16) X0 hx (hb hby d3_15)  rfl ?_
    rw [show ((4 : Int32) + (6 : Int32)) = (10 : Int32) from by decide]
    refine o_iconst (pc' := 17) (v := (1 : Int32)) X0 hx (hb hby d3_16) rfl rfl ?_
    refine o_iushr (pc' := 18) X0 hx (hb hby d3_17)  rfl ?_
    rw [show (XT.ushr (10 : Int32) (1 : Int32)) = (5 : Int32) from by decide]
    refine o_istore (pc' := 20) (l' := #[.val (.ref x0), .val (.double x1), .second, .val (.int (4 : Int32)), .val (.int (6 : Int32)), .val (.int (5 : Int32))]) X0 hx (hb hby d3_18) rfl rfl ?_
    refine o_aloadN (pc' := 21) X0 hx (hb hby d3_20) rfl rfl rfl ?_
    refine o_iload (pc' := 23) X0 hx (hb hby d3_21) rfl rfl ?_
    refine o_daload (pc' := 24) (v := d5) X0 hx hZ e0 A0 (hb hby d3_23) (by decide) rfl rfl ?_
    refine o_dloadN (pc' := 25) X0 hx (hb hby d3_24) rfl rfl ?_
    refine o_dcmp (pc' := 26) X0 hx (hb hby d3_25) rfl ?_
    by_cases c2 : (cmpValue (FP.dcmp d5 x1) .g) < 0
    · refine o_ifF (pc' := 29) X0 hx (hb hby d3_26) (XT.i0_ge_f c2) rfl ?_
      refine o_iload (pc' := 31) X0 hx (hb hby d3_29) rfl rfl ?_
      refine o_iconst (pc' := 32) (v := (1 : Int32)) X0 hx (hb hby d3_31) rfl rfl ?_
      refine o_iadd (pc' := 33) X0 hx (hb hby d3_32)  rfl ?_
      rw [show ((5 : Int32) + (1 : Int32)) = (6 : Int32) from by decide]
      refine o_istoreN (pc' := 34) (l' := #[.val (.ref x0), .val (.double x1), .second, .val (.int (6 : Int32)), .val (.int (6 : Int32)), .val (.int (5 : Int32))]) X0 hx (hb hby d3_33) rfl rfl ?_
      refine o_goto (pc' := 41) X0 hx (hb hby d3_34) (by decide) (by decide) ?_
      refine o_goto (pc' := 6) X0 hx (hb hby d3_41) (by decide) (by decide) ?_
      refine o_iloadN (pc' := 7) X0 hx (hb hby d3_6) rfl rfl ?_
      refine o_iload (pc' := 9) X0 hx (hb hby d3_7) rfl rfl ?_
      refine o_icmpT (pc' := 44) X0 hx (hb hby d3_9) (XT.ii_ge_t (by decide)) (by decide) (by decide) ?_
      refine o_iloadN (pc' := 45) X0 hx (hb hby d3_44) rfl rfl ?_
      refine o_retI X0 hx hret hlk (hb hby d3_45) (by decide) (by decide) ?_
      exact ⟨congrArg (fun z => some (Value.int z)) (show _ = (spec3_6 x1 d0 d1 d2 d3 d4 d5) from ((if_pos c1).trans (if_pos c2)).symm), rfl, e0⟩
    · refine o_ifT (pc' := 37) X0 hx (hb hby d3_26) (XT.i0_ge_t c2) (by decide) (by decide) ?_
      refine o_iload (pc' := 39) X0 hx (hb hby d3_37) rfl rfl ?_
      refine o_istore (pc' := 41) (l' := #[.val (.ref x0), .val (.double x1), .second, .val (.int (4 : Int32)), .val (.int (5 : Int32)), .val (.int (5 : Int32))]) X0 hx (hb hby d3_39) rfl rfl ?_
      refine o_goto (pc' := 6) X0 hx (hb hby d3_41) (by decide) (by decide) ?_
      refine o_iloadN (pc' := 7) X0 hx (hb hby d3_6) rfl rfl ?_
      refine o_iload (pc' := 9) X0 hx (hb hby d3_7) rfl rfl ?_
      refine o_icmpF (pc' := 12) X0 hx (hb hby d3_9) (XT.ii_ge_f (by decide)) rfl ?_
      refine o_iloadN (pc' := 13) X0 hx (hb hby d3_12) rfl rfl ?_
      refine o_iload (pc' := 15) X0 hx (hb hby d3_13) rfl rfl ?_
      refine o_iadd (pc' := 16) X0 hx (hb hby d3_15)  rfl ?_
      rw [show ((4 : Int32) + (5 : Int32)) = (9 : Int32) from by decide]
      refine o_iconst (pc' := 17) (v := (1 : Int32)) X0 hx (hb hby d3_16) rfl rfl ?_
      refine o_iushr (pc' := 18) X0 hx (hb hby d3_17)  rfl ?_
      rw [show (XT.ushr (9 : Int32) (1 : Int32)) = (4 : Int32) from by decide]
      refine o_istore (pc' := 20) (l' := #[.val (.ref x0), .val (.double x1), .second, .val (.int (4 : Int32)), .val (.int (5 : Int32)), .val (.int (4 : Int32))]) X0 hx (hb hby d3_18) rfl rfl ?_
      refine o_aloadN (pc' := 21) X0 hx (hb hby d3_20) rfl rfl rfl ?_
      refine o_iload (pc' := 23) X0 hx (hb hby d3_21) rfl rfl ?_
      refine o_daload (pc' := 24) (v := d4) X0 hx hZ e0 A0 (hb hby d3_23) (by decide) rfl rfl ?_
      refine o_dloadN (pc' := 25) X0 hx (hb hby d3_24) rfl rfl ?_
      refine o_dcmp (pc' := 26) X0 hx (hb hby d3_25) rfl ?_
      by_cases c3 : (cmpValue (FP.dcmp d4 x1) .g) < 0
      · refine o_ifF (pc' := 29) X0 hx (hb hby d3_26) (XT.i0_ge_f c3) rfl ?_
        refine o_iload (pc' := 31) X0 hx (hb hby d3_29) rfl rfl ?_
        refine o_iconst (pc' := 32) (v := (1 : Int32)) X0 hx (hb hby d3_31) rfl rfl ?_
        refine o_iadd (pc' := 33) X0 hx (hb hby d3_32)  rfl ?_
        rw [show ((4 : Int32) + (1 : Int32)) = (5 : Int32) from by decide]
        refine o_istoreN (pc' := 34) (l' := #[.val (.ref x0), .val (.double x1), .second, .val (.int (5 : Int32)), .val (.int (5 : Int32)), .val (.int (4 : Int32))]) X0 hx (hb hby d3_33) rfl rfl ?_
        refine o_goto (pc' := 41) X0 hx (hb hby d3_34) (by decide) (by decide) ?_
        refine o_goto (pc' := 6) X0 hx (hb hby d3_41) (by decide) (by decide) ?_
        refine o_iloadN (pc' := 7) X0 hx (hb hby d3_6) rfl rfl ?_
        refine o_iload (pc' := 9) X0 hx (hb hby d3_7) rfl rfl ?_
        refine o_icmpT (pc' := 44) X0 hx (hb hby d3_9) (XT.ii_ge_t (by decide)) (by decide) (by decide) ?_
        refine o_iloadN (pc' := 45) X0 hx (hb hby d3_44) rfl rfl ?_
        refine o_retI X0 hx hret hlk (hb hby d3_45) (by decide) (by decide) ?_
        exact ⟨congrArg (fun z => some (Value.int z)) (show _ = (spec3_6 x1 d0 d1 d2 d3 d4 d5) from ((if_pos c1).trans ((if_neg c2).trans (if_pos c3))).symm), rfl, e0⟩
      · refine o_ifT (pc' := 37) X0 hx (hb hby d3_26) (XT.i0_ge_t c3) (by decide) (by decide) ?_
        refine o_iload (pc' := 39) X0 hx (hb hby d3_37) rfl rfl ?_
        refine o_istore (pc' := 41) (l' := #[.val (.ref x0), .val (.double x1), .second, .val (.int (4 : Int32)), .val (.int (4 : Int32)), .val (.int (4 : Int32))]) X0 hx (hb hby d3_39) rfl rfl ?_
        refine o_goto (pc' := 6) X0 hx (hb hby d3_41) (by decide) (by decide) ?_
        refine o_iloadN (pc' := 7) X0 hx (hb hby d3_6) rfl rfl ?_
        refine o_iload (pc' := 9) X0 hx (hb hby d3_7) rfl rfl ?_
        refine o_icmpT (pc' := 44) X0 hx (hb hby d3_9) (XT.ii_ge_t (by decide)) (by decide) (by decide) ?_
        refine o_iloadN (pc' := 45) X0 hx (hb hby d3_44) rfl rfl ?_
        refine o_retI X0 hx hret hlk (hb hby d3_45) (by decide) (by decide) ?_
        exact ⟨congrArg (fun z => some (Value.int z)) (show _ = (spec3_6 x1 d0 d1 d2 d3 d4 d5) from ((if_pos c1).trans ((if_neg c2).trans (if_neg c3))).symm), rfl, e0⟩
  · refine o_ifT (pc' := 37) X0 hx (hb hby d3_26) (XT.i0_ge_t c1) (by decide) (by decide) ?_
    refine o_iload (pc' := 39) X0 hx (hb hby d3_37) rfl rfl ?_
    refine o_istore (pc' := 41) (l' := #[.val (.ref x0), .val (.double x1), .second, .val (.int (0 : Int32)), .val (.int (3 : Int32)), .val (.int (3 : Int32))]) X0 hx (hb hby d3_39) rfl rfl ?_
    refine o_goto (pc' := 6) X0 hx (hb hby d3_41) (by decide) (by decide) ?_
    refine o_iloadN (pc' := 7) X0 hx (hb hby d3_6) rfl rfl ?_
    refine o_iload (pc' := 9) X0 hx (hb hby d3_7) rfl rfl ?_
    refine o_icmpF (pc' := 12) X0 hx (hb hby d3_9) (XT.ii_ge_f (by decide)) rfl ?_
    refine o_iloadN (pc' := 13) X0 hx (hb hby d3_12) rfl rfl ?_
    refine o_iload (pc' := 15) X0 hx (hb hby d3_13) rfl rfl ?_
    refine o_iadd (pc' := 16) X0 hx (hb hby d3_15)  rfl ?_
    rw [show ((0 : Int32) + (3 : Int32)) = (3 : Int32) from by decide]
    refine o_iconst (pc' := 17) (v := (1 : Int32)) X0 hx (hb hby d3_16) rfl rfl ?_
    refine o_iushr (pc' := 18) X0 hx (hb hby d3_17)  rfl ?_
    rw [show (XT.ushr (3 : Int32) (1 : Int32)) = (1 : Int32) from by decide]
    refine o_istore (pc' := 20) (l' := #[.val (.ref x0), .val (.double x1), .second, .val (.int (0 : Int32)), .val (.int (3 : Int32)), .val (.int (1 : Int32))]) X0 hx (hb hby d3_18) rfl rfl ?_
    refine o_aloadN (pc' := 21) X0 hx (hb hby d3_20) rfl rfl rfl ?_
    refine o_iload (pc' := 23) X0 hx (hb hby d3_21) rfl rfl ?_
    refine o_daload (pc' := 24) (v := d1) X0 hx hZ e0 A0 (hb hby d3_23) (by decide) rfl rfl ?_
    refine o_dloadN (pc' := 25) X0 hx (hb hby d3_24) rfl rfl ?_
    refine o_dcmp (pc' := 26) X0 hx (hb hby d3_25) rfl ?_
    by_cases c4 : (cmpValue (FP.dcmp d1 x1) .g) < 0
    · refine o_ifF (pc' := 29) X0 hx (hb hby d3_26) (XT.i0_ge_f c4) rfl ?_
      refine o_iload (pc' := 31) X0 hx (hb hby d3_29) rfl rfl ?_
      refine o_iconst (pc' := 32) (v := (1 : Int32)) X0 hx (hb hby d3_31) rfl rfl ?_
      refine o_iadd (pc' := 33) X0 hx (hb hby d3_32)  rfl ?_
      rw [show ((1 : Int32) + (1 : Int32)) = (2 : Int32) from by decide]
      refine o_istoreN (pc' := 34) (l' := #[.val (.ref x0), .val (.double x1), .second, .val (.int (2 : Int32)), .val (.int (3 : Int32)), .val (.int (1 : Int32))]) X0 hx (hb hby d3_33) rfl rfl ?_
      refine o_goto (pc' := 41) X0 hx (hb hby d3_34) (by decide) (by decide) ?_
      refine o_goto (pc' := 6) X0 hx (hb hby d3_41) (by decide) (by decide) ?_
      refine o_iloadN (pc' := 7) X0 hx (hb hby d3_6) rfl rfl ?_
      refine o_iload (pc' := 9) X0 hx (hb hby d3_7) rfl rfl ?_
      refine o_icmpF (pc' := 12) X0 hx (hb hby d3_9) (XT.ii_ge_f (by decide)) rfl ?_
      refine o_iloadN (pc' := 13) X0 hx (hb hby d3_12) rfl rfl ?_
      refine o_iload (pc' := 15) X0 hx (hb hby d3_13) rfl rfl ?_
      refine o_iadd (pc' := 16) X0 hx (hb hby d3_15)  rfl ?_
      rw [show ((2 : Int32) + (3 : Int32)) = (5 : Int32) from by decide]
      refine o_iconst (pc' := 17) (v := (1 : Int32)) X0 hx (hb hby d3_16) rfl rfl ?_
      refine o_iushr (pc' := 18) X0 hx (hb hby d3_17)  rfl ?_
      rw [show (XT.ushr (5 : Int32) (1 : Int32)) = (2 : Int32) from by decide]
      refine o_istore (pc' := 20) (l' := #[.val (.ref x0), .val (.double x1), .second, .val (.int (2 : Int32)), .val (.int (3 : Int32)), .val (.int (2 : Int32))]) X0 hx (hb hby d3_18) rfl rfl ?_
      refine o_aloadN (pc' := 21) X0 hx (hb hby d3_20) rfl rfl rfl ?_
      refine o_iload (pc' := 23) X0 hx (hb hby d3_21) rfl rfl ?_
      refine o_daload (pc' := 24) (v := d2) X0 hx hZ e0 A0 (hb hby d3_23) (by decide) rfl rfl ?_
      refine o_dloadN (pc' := 25) X0 hx (hb hby d3_24) rfl rfl ?_
      refine o_dcmp (pc' := 26) X0 hx (hb hby d3_25) rfl ?_
      by_cases c5 : (cmpValue (FP.dcmp d2 x1) .g) < 0
      · refine o_ifF (pc' := 29) X0 hx (hb hby d3_26) (XT.i0_ge_f c5) rfl ?_
        refine o_iload (pc' := 31) X0 hx (hb hby d3_29) rfl rfl ?_
        refine o_iconst (pc' := 32) (v := (1 : Int32)) X0 hx (hb hby d3_31) rfl rfl ?_
        refine o_iadd (pc' := 33) X0 hx (hb hby d3_32)  rfl ?_
        rw [show ((2 : Int32) + (1 : Int32)) = (3 : Int32) from by decide]
        refine o_istoreN (pc' := 34) (l' := #[.val (.ref x0), .val (.double x1), .second, .val (.int (3 : Int32)), .val (.int (3 : Int32)), .val (.int (2 : Int32))]) X0 hx (hb hby d3_33) rfl rfl ?_
        refine o_goto (pc' := 41) X0 hx (hb hby d3_34) (by decide) (by decide) ?_
        refine o_goto (pc' := 6) X0 hx (hb hby d3_41) (by decide) (by decide) ?_
        refine o_iloadN (pc' := 7) X0 hx (hb hby d3_6) rfl rfl ?_
        refine o_iload (pc' := 9) X0 hx (hb hby d3_7) rfl rfl ?_
        refine o_icmpT (pc' := 44) X0 hx (hb hby d3_9) (XT.ii_ge_t (by decide)) (by decide) (by decide) ?_
        refine o_iloadN (pc' := 45) X0 hx (hb hby d3_44) rfl rfl ?_
        refine o_retI X0 hx hret hlk (hb hby d3_45) (by decide) (by decide) ?_
        exact ⟨congrArg (fun z => some (Value.int z)) (show _ = (spec3_6 x1 d0 d1 d2 d3 d4 d5) from ((if_neg c1).trans ((if_pos c4).trans (if_pos c5))).symm), rfl, e0⟩
      · refine o_ifT (pc' := 37) X0 hx (hb hby d3_26) (XT.i0_ge_t c5) (by decide) (by decide) ?_
        refine o_iload (pc' := 39) X0 hx (hb hby d3_37) rfl rfl ?_
        refine o_istore (pc' := 41) (l' := #[.val (.ref x0), .val (.double x1), .second, .val (.int (2 : Int32)), .val (.int (2 : Int32)), .val (.int (2 : Int32))]) X0 hx (hb hby d3_39) rfl rfl ?_
        refine o_goto (pc' := 6) X0 hx (hb hby d3_41) (by decide) (by decide) ?_
        refine o_iloadN (pc' := 7) X0 hx (hb hby d3_6) rfl rfl ?_
        refine o_iload (pc' := 9) X0 hx (hb hby d3_7) rfl rfl ?_
        refine o_icmpT (pc' := 44) X0 hx (hb hby d3_9) (XT.ii_ge_t (by decide)) (by decide) (by decide) ?_
        refine o_iloadN (pc' := 45) X0 hx (hb hby d3_44) rfl rfl ?_
        refine o_retI X0 hx hret hlk (hb hby d3_45) (by decide) (by decide) ?_
        exact ⟨congrArg (fun z => some (Value.int z)) (show _ = (spec3_6 x1 d0 d1 d2 d3 d4 d5) from ((if_neg c1).trans ((if_pos c4).trans (if_neg c5))).symm), rfl, e0⟩
    · refine o_ifT (pc' := 37) X0 hx (hb hby d3_26) (XT.i0_ge_t c4) (by decide) (by decide) ?_
      refine o_iload (pc' := 39) X0 hx (hb hby d3_37) rfl rfl ?_
      refine o_istore (pc' := 41) (l' := #[.val (.ref x0), .val (.double x1), .second, .val (.int (0 : Int32)), .val (.int (1 : Int32)), .val (.int (1 : Int32))]) X0 hx (hb hby d3_39) rfl rfl ?_
      refine o_goto (pc' := 6) X0 hx (hb hby d3_41) (by decide) (by decide) ?_
      refine o_iloadN (pc' := 7) X0 hx (hb hby d3_6) rfl rfl ?_
      refine o_iload (pc' := 9) X0 hx (hb hby d3_7) rfl rfl ?_
      refine o_icmpF (pc' := 12) X0 hx (hb hby d3_9) (XT.ii_ge_f (by decide)) rfl ?_
      refine o_iloadN (pc' := 13) X0 hx (hb hby d3_12) rfl rfl ?_
      refine o_iload (pc' := 15) X0 hx (hb hby d3_13) rfl rfl ?_
      refine o_iadd (pc' := 16) X0 hx (hb hby d3_15)  rfl ?_
      rw [show ((0 : Int32) + (1 : Int32)) = (1 : Int32) from by decide]
      refine o_iconst (pc' := 17) (v := (1 : Int32)) X0 hx (hb hby d3_16) rfl rfl ?_
      refine o_iushr (pc' := 18) X0 hx (hb hby d3_17)  rfl ?_
      rw [show (XT.ushr (1 : Int32) (1 : Int32)) = (0 : Int32) from by decide]
      refine o_istore (pc' := 20) (l' := #[.val (.ref x0), .val (.double x1), .second, .val (.int (0 : Int32)), .val (.int (1 : Int32)), .val (.int (0 : Int32))]) X0 hx (hb hby d3_18) rfl rfl ?_
      refine o_aloadN (pc' := 21) X0 hx (hb hby d3_20) rfl rfl rfl ?_
      refine o_iload (pc' := 23) X0 hx (hb hby d3_21) rfl rfl ?_
      refine o_daload (pc' := 24) (v := d0) X0 hx hZ e0 A0 (hb hby d3_23) (by decide) rfl rfl ?_
      refine o_dloadN (pc' := 25) X0 hx (hb hby d3_24) rfl rfl ?_
      refine o_dcmp (pc' := 26) X0 hx (hb hby d3_25) rfl ?_
      by_cases c6 : (cmpValue (FP.dcmp d0 x1) .g) < 0
      · refine o_ifF (pc' := 29) X0 hx (hb hby d3_26) (XT.i0_ge_f c6) rfl ?_
        refine o_iload (pc' := 31) X0 hx (hb hby d3_29) rfl rfl ?_
        refine o_iconst (pc' := 32) (v := (1 : Int32)) X0 hx (hb hby d3_31) rfl rfl ?_
        refine o_iadd (pc' := 33) X0 hx (hb hby d3_32)  rfl ?_
        rw [show ((0 : Int32) + (1 : Int32)) = (1 : Int32) from by decide]
        refine o_istoreN (pc' := 34) (l' := #[.val (.ref x0), .val (.double x1), .second, .val (.int (1 : Int32)), .val (.int (1 : Int32)), .val (.int (0 : Int32))]) X0 hx (hb hby d3_33) rfl rfl ?_
        refine o_goto (pc' := 41) X0 hx (hb hby d3_34) (by decide) (by decide) ?_
        refine o_goto (pc' := 6) X0 hx (hb hby d3_41) (by decide) (by decide) ?_
        refine o_iloadN (pc' := 7) X0 hx (hb hby d3_6) rfl rfl ?_
        refine o_iload (pc' := 9) X0 hx (hb hby d3_7) rfl rfl ?_
        refine o_icmpT (pc' := 44) X0 hx (hb hby d3_9) (XT.ii_ge_t (by decide)) (by decide) (by decide) ?_
        refine o_iloadN (pc' := 45) X0 hx (hb hby d3_44) rfl rfl ?_
        refine o_retI X0 hx hret hlk (hb hby d3_45) (by decide) (by decide) ?_
        exact ⟨congrArg (fun z => some (Value.int z)) (show _ = (spec3_6 x1 d0 d1 d2 d3 d4 d5) from ((if_neg c1).trans ((if_neg c4).trans (if_pos c6))).symm), rfl, e0⟩
      · refine o_ifT (pc' := 37) X0 hx (hb hby d3_26) (XT.i0_ge_t c6) (by decide) (by decide) ?_
        refine o_iload (pc' := 39) X0 hx (hb hby d3_37) rfl rfl ?_
        refine o_istore (pc' := 41) (l' := #[.val (.ref x0), .val (.double x1), .second, .val (.int (0 : Int32)), .val (.int (0 : Int32)), .val (.int (0 : Int32))]) X0 hx (hb hby d3_39) rfl rfl ?_
        refine o_goto (pc' := 6) X0 hx (hb hby d3_41) (by decide) (by decide) ?_
        refine o_iloadN (pc' := 7) X0 hx (hb hby d3_6) rfl rfl ?_
        refine o_iload (pc' := 9) X0 hx (hb hby d3_7) rfl rfl ?_
        refine o_icmpT (pc' := 44) X0 hx (hb hby d3_9) (XT.ii_ge_t (by decide)) (by decide) (by decide) ?_
        refine o_iloadN (pc' := 45) X0 hx (hb hby d3_44) rfl rfl ?_
        refine o_retI X0 hx hret hlk (hb hby d3_45) (by decide) (by decide) ?_
        exact ⟨congrArg (fun z => some (Value.int z)) (show _ = (spec3_6 x1 d0 d1 d2 d3 d4 d5) from ((if_neg c1).trans ((if_neg c4).trans (if_neg c6))).symm), rfl, e0⟩
theorem ef1_6 (m : MethodId) (x1 x2 x3 x4 x5 x6 : UInt64) : entryFrame m #[(.int (6 : Int32)), (.double x1), (.double x2), (.double x3), (.double x4), (.double x5), (.double x6)] 13 = mkF m 0 #[.val (.int (6 : Int32)), .val (.double x1), .second, .val (.double x2), .second, .val (.double x3), .second, .val (.double x4), .second, .val (.double x5), .second, .val (.double x6), .second] [] := by first | (simp [entryFrame, mkF, argsToLocals, Value.category]; done) | rfl
def room1_6 : Room := { frames := 0, cells := 1, slots := 6, locals := 0 }
set_option maxRecDepth 65536 in
set_option maxHeartbeats 40000000 in
theorem rm1_6 (l : Launch) (Z : State) (a0 : Array Value) (hw : ∀ d ∈ tables_1, d.before a0 Z = true) (x1 x2 x3 x4 x5 x6 : UInt64) (h0 : Heap) (n0 : Nat) (Z0 : n0 ≤ h0.size)  :
    oCon l Z (⟨"com/example/glyphweave/glyphweave/SlotsLowerBoundPinLaw", "make", "(IDDDDDD)[D"⟩ : MethodName) method_4_code 13 (some (.array .double)) room1_6 #[(.int (6 : Int32)), (.double x1), (.double x2), (.double x3), (.double x4), (.double x5), (.double x6)] h0 (fun v h L => v = some (.ref h0.size) ∧ Fr n0 L ∧ Keep h0 h [] ∧ oDbls Z h h0.size [x1, x2, x3, x4, x5, x6]) := by
  refine oCon.of (plainFor_of_name pn_2) ?_
  intro p e s m below meth c s₁ hx hby hml hown hnm hret hlk hZ X0 e0
  rw [ef1_6 m x1 x2 x3 x4 x5 x6]
  have N0 := Fr.nil n0
  have K0 := Keep.refl h0 []
  refine o_iloadN (pc' := 1) X0 hx (hb hby d1_0) rfl rfl ?_
  refine o_ifT (pc' := 8) X0 hx (hb hby d1_1) (XT.i0_ne_t (by decide)) (by decide) (by decide) ?_
  refine o_iloadN (pc' := 9) X0 hx (hb hby d1_8) rfl rfl ?_
  refine o_iconst (pc' := 10) (v := (1 : Int32)) X0 hx (hb hby d1_9) rfl rfl ?_
  refine o_icmpT (pc' := 21) X0 hx (hb hby d1_10) (XT.ii_ne_t (by decide)) (by decide) (by decide) ?_
  refine o_iloadN (pc' := 22) X0 hx (hb hby d1_21) rfl rfl ?_
  refine o_iconst (pc' := 23) (v := (2 : Int32)) X0 hx (hb hby d1_22) rfl rfl ?_
  refine o_icmpT (pc' := 38) X0 hx (hb hby d1_23) (XT.ii_ne_t (by decide)) (by decide) (by decide) ?_
  refine o_iloadN (pc' := 39) X0 hx (hb hby d1_38) rfl rfl ?_
  refine o_iconst (pc' := 40) (v := (3 : Int32)) X0 hx (hb hby d1_39) rfl rfl ?_
  refine o_icmpT (pc' := 60) X0 hx (hb hby d1_40) (XT.ii_ne_t (by decide)) (by decide) (by decide) ?_
  refine o_iloadN (pc' := 61) X0 hx (hb hby d1_60) rfl rfl ?_
  refine o_iconst (pc' := 62) (v := (4 : Int32)) X0 hx (hb hby d1_61) rfl rfl ?_
  refine o_icmpT (pc' := 87) X0 hx (hb hby d1_62) (XT.ii_ne_t (by decide)) (by decide) (by decide) ?_
  refine o_iloadN (pc' := 88) X0 hx (hb hby d1_87) rfl rfl ?_
  refine o_iconst (pc' := 89) (v := (5 : Int32)) X0 hx (hb hby d1_88) rfl rfl ?_
  refine o_icmpT (pc' := 119) X0 hx (hb hby d1_89) (XT.ii_ne_t (by decide)) (by decide) (by decide) ?_
  refine o_bipush (pc' := 121) (v := (6 : Int32)) X0 hx (hb hby d1_119) rfl rfl ?_
  obtain ⟨T1, h1_, X1, e1, E1, A1, st1⟩ := o_newD (Ls := #[.val (.int (6 : Int32)), .val (.double x1), .second, .val (.double x2), .second, .val (.double x3), .second, .val (.double x4), .second, .val (.double x5), .second, .val (.double x6), .second]) (st := []) (n := (6 : Int32)) X0 hx hZ (hw _ (List.mem_of_getElem? (i := 5) rfl)) e0 (hb hby d1_121) (by decide) 6 (by decide) (by decide) (by decide) (by decide) rfl
  obtain ⟨b1, g1⟩ : ∃ z, z = h0.size := ⟨_, rfl⟩
  rw [← g1] at A1 st1
  replace A1 : oDbls Z h1_ b1 [(0 : UInt64), (0 : UInt64), (0 : UInt64), (0 : UInt64), (0 : UInt64), (0 : UInt64)] := A1
  have ge2 : n0 ≤ b1 := by rw [g1]; exact Z0
  have ge3 : h0.size ≤ b1 := by rw [g1]; exact K0.1
  have K4 := (Keep.refl h0 []).ext E1
  have Z5 := Nat.le_trans Z0 K4.1
  have K6 := K0.trans K4 all0
  refine oGo.step (f' := (mkF m 123 #[.val (.int (6 : Int32)), .val (.double x1), .second, .val (.double x2), .second, .val (.double x3), .second, .val (.double x4), .second, .val (.double x5), .second, .val (.double x6), .second] [(.ref b1)])) st1 ?_
  refine o_dup (pc' := 124) X1 hx (hb hby d1_123) rfl rfl ?_
  refine o_iconst (pc' := 125) (v := (0 : Int32)) X1 hx (hb hby d1_124) rfl rfl ?_
  refine o_dloadN (pc' := 126) X1 hx (hb hby d1_125) rfl rfl ?_
  obtain ⟨T7, h7_, X7, e7, W7, st7⟩ := o_dastore (x := x1) (j := (0 : Int32)) (Ls := #[.val (.int (6 : Int32)), .val (.double x1), .second, .val (.double x2), .second, .val (.double x3), .second, .val (.double x4), .second, .val (.double x5), .second, .val (.double x6), .second]) (st := [(.ref b1)]) X1 hx hZ e1 A1 (hb hby d1_126) (by decide) (show _ < 6 by decide) rfl
  refine oGo.step (f' := (mkF m 127 #[.val (.int (6 : Int32)), .val (.double x1), .second, .val (.double x2), .second, .val (.double x3), .second, .val (.double x4), .second, .val (.double x5), .second, .val (.double x6), .second] [(.ref b1)])) st7 ?_
  have N7 := Fr.snoc X7 N0 ge2
  have F8 := A1.set W7
  replace F8 : oDbls Z h7_ b1 [x1, (0 : UInt64), (0 : UInt64), (0 : UInt64), (0 : UInt64), (0 : UInt64)] := F8
  have K9 := Keep.of_wr W7
  have Z10 := Nat.le_trans Z5 K9.1
  have K11 := K6.trans K9 (allS (Or.inr ge3) all0)
  refine o_dup (pc' := 128) X7 hx (hb hby d1_127) rfl rfl ?_
  refine o_iconst (pc' := 129) (v := (1 : Int32)) X7 hx (hb hby d1_128) rfl rfl ?_
  refine o_dloadN (pc' := 130) X7 hx (hb hby d1_129) rfl rfl ?_
  obtain ⟨T12, h12_, X12, e12, W12, st12⟩ := o_dastore (x := x2) (j := (1 : Int32)) (Ls := #[.val (.int (6 : Int32)), .val (.double x1), .second, .val (.double x2), .second, .val (.double x3), .second, .val (.double x4), .second, .val (.double x5), .second, .val (.double x6), .second]) (st := [(.ref b1)]) X7 hx hZ e7 F8 (hb hby d1_130) (by decide) (show _ < 6 by decide) rfl
  refine oGo.step (f' := (mkF m 131 #[.val (.int (6 : Int32)), .val (.double x1), .second, .val (.double x2), .second, .val (.double x3), .second, .val (.double x4), .second, .val (.double x5), .second, .val (.double x6), .second] [(.ref b1)])) st12 ?_
  have N12 := Fr.snoc X12 N7 ge2
  have F13 := F8.set W12
  replace F13 : oDbls Z h12_ b1 [x1, x2, (0 : UInt64), (0 : UInt64), (0 : UInt64), (0 : UInt64)] := F13
  have K14 := Keep.of_wr W12
  have Z15 := Nat.le_trans Z10 K14.1
  have K16 := K11.trans K14 (allS (Or.inr ge3) all0)
  refine o_dup (pc' := 132) X12 hx (hb hby d1_131) rfl rfl ?_
  refine o_iconst (pc' := 133) (v := (2 : Int32)) X12 hx (hb hby d1_132) rfl rfl ?_
  refine o_dload (pc' := 135) X12 hx (hb hby d1_133) rfl rfl ?_
  obtain ⟨T17, h17_, X17, e17, W17, st17⟩ := o_dastore (x := x3) (j := (2 : Int32)) (Ls := #[.val (.int (6 : Int32)), .val (.double x1), .second, .val (.double x2), .second, .val (.double x3), .second, .val (.double x4), .second, .val (.double x5), .second, .val (.double x6), .second]) (st := [(.ref b1)]) X12 hx hZ e12 F13 (hb hby d1_135) (by decide) (show _ < 6 by decide) rfl
  refine oGo.step (f' := (mkF m 136 #[.val (.int (6 : Int32)), .val (.double x1), .second, .val (.double x2), .second, .val (.double x3), .second, .val (.double x4), .second, .val (.double x5), .second, .val (.double x6), .second] [(.ref b1)])) st17 ?_
  have N17 := Fr.snoc X17 N12 ge2
  have F18 := F13.set W17
  replace F18 : oDbls Z h17_ b1 [x1, x2, x3, (0 : UInt64), (0 : UInt64), (0 : UInt64)] := F18
  have K19 := Keep.of_wr W17
  have Z20 := Nat.le_trans Z15 K19.1
  have K21 := K16.trans K19 (allS (Or.inr ge3) all0)
  refine o_dup (pc' := 137) X17 hx (hb hby d1_136) rfl rfl ?_
  refine o_iconst (pc' := 138) (v := (3 : Int32)) X17 hx (hb hby d1_137) rfl rfl ?_
  refine o_dload (pc' := 140) X17 hx (hb hby d1_138) rfl rfl ?_
  obtain ⟨T22, h22_, X22, e22, W22, st22⟩ := o_dastore (x := x4) (j := (3 : Int32)) (Ls := #[.val (.int (6 : Int32)), .val (.double x1), .second, .val (.double x2), .second, .val (.double x3), .second, .val (.double x4), .second, .val (.double x5), .second, .val (.double x6), .second]) (st := [(.ref b1)]) X17 hx hZ e17 F18 (hb hby d1_140) (by decide) (show _ < 6 by decide) rfl
  refine oGo.step (f' := (mkF m 141 #[.val (.int (6 : Int32)), .val (.double x1), .second, .val (.double x2), .second, .val (.double x3), .second, .val (.double x4), .second, .val (.double x5), .second, .val (.double x6), .second] [(.ref b1)])) st22 ?_
  have N22 := Fr.snoc X22 N17 ge2
  have F23 := F18.set W22
  replace F23 : oDbls Z h22_ b1 [x1, x2, x3, x4, (0 : UInt64), (0 : UInt64)] := F23
  have K24 := Keep.of_wr W22
  have Z25 := Nat.le_trans Z20 K24.1
  have K26 := K21.trans K24 (allS (Or.inr ge3) all0)
  refine o_dup (pc' := 142) X22 hx (hb hby d1_141) rfl rfl ?_
  refine o_iconst (pc' := 143) (v := (4 : Int32)) X22 hx (hb hby d1_142) rfl rfl ?_
  refine o_dload (pc' := 145) X22 hx (hb hby d1_143) rfl rfl ?_
  obtain ⟨T27, h27_, X27, e27, W27, st27⟩ := o_dastore (x := x5) (j := (4 : Int32)) (Ls := #[.val (.int (6 : Int32)), .val (.double x1), .second, .val (.double x2), .second, .val (.double x3), .second, .val (.double x4), .second, .val (.double x5), .second, .val (.double x6), .second]) (st := [(.ref b1)]) X22 hx hZ e22 F23 (hb hby d1_145) (by decide) (show _ < 6 by decide) rfl
  refine oGo.step (f' := (mkF m 146 #[.val (.int (6 : Int32)), .val (.double x1), .second, .val (.double x2), .second, .val (.double x3), .second, .val (.double x4), .second, .val (.double x5), .second, .val (.double x6), .second] [(.ref b1)])) st27 ?_
  have N27 := Fr.snoc X27 N22 ge2
  have F28 := F23.set W27
  replace F28 : oDbls Z h27_ b1 [x1, x2, x3, x4, x5, (0 : UInt64)] := F28
  have K29 := Keep.of_wr W27
  have Z30 := Nat.le_trans Z25 K29.1
  have K31 := K26.trans K29 (allS (Or.inr ge3) all0)
  refine o_dup (pc' := 147) X27 hx (hb hby d1_146) rfl rfl ?_
  refine o_iconst (pc' := 148) (v := (5 : Int32)) X27 hx (hb hby d1_147) rfl rfl ?_
  refine o_dload (pc' := 150) X27 hx (hb hby d1_148) rfl rfl ?_
  obtain ⟨T32, h32_, X32, e32, W32, st32⟩ := o_dastore (x := x6) (j := (5 : Int32)) (Ls := #[.val (.int (6 : Int32)), .val (.double x1), .second, .val (.double x2), .second, .val (.double x3), .second, .val (.double x4), .second, .val (.double x5), .second, .val (.double x6), .second]) (st := [(.ref b1)]) X27 hx hZ e27 F28 (hb hby d1_150) (by decide) (show _ < 6 by decide) rfl
  refine oGo.step (f' := (mkF m 151 #[.val (.int (6 : Int32)), .val (.double x1), .second, .val (.double x2), .second, .val (.double x3), .second, .val (.double x4), .second, .val (.double x5), .second, .val (.double x6), .second] [(.ref b1)])) st32 ?_
  have N32 := Fr.snoc X32 N27 ge2
  have F33 := F28.set W32
  replace F33 : oDbls Z h32_ b1 [x1, x2, x3, x4, x5, x6] := F33
  have K34 := Keep.of_wr W32
  have Z35 := Nat.le_trans Z30 K34.1
  have K36 := K31.trans K34 (allS (Or.inr ge3) all0)
  refine o_retA X32 hx hret rfl hlk rfl rfl (hb hby d1_151) (by decide) (by decide) ?_
  rw [e32]
  subst g1
  exact ⟨rfl, N32, K36, F33⟩
theorem own_en64 (y : Int64) (o : Int) (K : Nat) (h0 : -o ≤ y.toInt) (h1 : y.toInt + o < K) : ∃ n : Nat, n < K ∧ y = Int64.ofInt ((n : Int) - o) ∧ y.toInt = (n : Int) - o :=
  ⟨(y.toInt + o).toNat, by omega, by rw [Int.toNat_of_nonneg (by omega), Int.add_sub_cancel]; exact (Int64.ofInt_toInt y).symm, by rw [Int.toNat_of_nonneg (by omega)]; omega⟩
def oHalf (j : Nat) : UInt64 := FP.ddiv (FP.l2d (Int64.ofInt ((j : Int) - 96))) 4611686018427387904
theorem own_tabD : ∀ j : Nat, j < 256 → ∀ i : Nat, i < 79 → (decide ((cmpValue (FP.dcmp (FP.l2d (Int64.ofInt ((i : Int) - 32))) (oHalf j)) .g) < 0) == decide (2 * ((i : Int) - 32) < (j : Int) - 96)) = true := by decide +kernel
theorem own_tabN : ∀ j, j < 256 → decide (oHalf j &&& 0x7fffffffffffffff ≤ 0x7ff0000000000000) = true := by decide +kernel
theorem own_cmp {a q : Int64} (a0 : -32 ≤ a.toInt) (a1 : a.toInt ≤ 46) (q0 : -96 ≤ q.toInt) (q1 : q.toInt ≤ 159) : ((cmpValue (FP.dcmp (FP.l2d a) (FP.ddiv (FP.l2d q) 4611686018427387904)) .g) < 0) ↔ 2 * a.toInt < q.toInt := by
  obtain ⟨i, hi, ea, ea'⟩ := own_en64 a 32 79 a0 (by omega)
  obtain ⟨j, hj, eq, eq'⟩ := own_en64 q 96 256 q0 (by omega)
  have T := own_tabD j hj i hi
  rw [beq_iff_eq, decide_eq_decide] at T
  rw [ea', eq']
  rw [ea, eq]
  exact T
theorem own_nn {q : Int64} (q0 : -96 ≤ q.toInt) (q1 : q.toInt ≤ 159) : Jvm.Free.Fl.NoNaN64 (FP.ddiv (FP.l2d q) 4611686018427387904) := by
  obtain ⟨j, hj, eq, -⟩ := own_en64 q 96 256 q0 (by omega)
  rw [eq]
  exact of_decide_eq_true (own_tabN j hj)
theorem own_n7 (x : Int32) : ((x &&& (7 : Int32)) % (7 : Int32)) = 0 ∨ ((x &&& (7 : Int32)) % (7 : Int32)) = 1 ∨ ((x &&& (7 : Int32)) % (7 : Int32)) = 2 ∨ ((x &&& (7 : Int32)) % (7 : Int32)) = 3 ∨ ((x &&& (7 : Int32)) % (7 : Int32)) = 4 ∨ ((x &&& (7 : Int32)) % (7 : Int32)) = 5 ∨ ((x &&& (7 : Int32)) % (7 : Int32)) = 6 := by
  have h1 := c_mask x 7 3 (by decide) (by decide)
  have h2 := (c_irem (x &&& (7 : Int32)) 7 7 rfl).1 (by omega)
  generalize ((x &&& (7 : Int32)) % (7 : Int32)) = u at *
  have o0 : (0 : Int32).toInt = 0 := rfl
  have o1 : (1 : Int32).toInt = 1 := rfl
  have o2 : (2 : Int32).toInt = 2 := rfl
  have o3 : (3 : Int32).toInt = 3 := rfl
  have o4 : (4 : Int32).toInt = 4 := rfl
  have o5 : (5 : Int32).toInt = 5 := rfl
  have o6 : (6 : Int32).toInt = 6 := rfl
  simp only [← Int32.toInt_inj]
  omega
theorem own_sub (x m k : Int32) (K : Nat) (hm : m.toBitVec.toNat = 2 ^ K - 1) (hK : K ≤ 8) (hk : 0 ≤ k.toInt ∧ k.toInt ≤ 256) : (((x &&& m) - k).toInt64).toInt = x.toInt % (2 ^ K : Nat) - k.toInt := by
  have h := c_mask x m K (by omega) hm
  have s := c_isub (x &&& m) k
  have r := rng32 ((x &&& m) - k)
  have p : (2 ^ K : Nat) ≤ 256 := by
    have := Nat.pow_le_pow_right (n := 2) (by decide) hK
    exact this
  have p0 : 0 < (2 ^ K : Nat) := Nat.pow_pos (by decide)
  have e0 := Int.emod_nonneg x.toInt (b := ((2 ^ K : Nat) : Int)) (by omega)
  have e1 := Int.emod_lt_of_pos x.toInt (b := ((2 ^ K : Nat) : Int)) (by omega)
  rw [c_i2l]
  omega
theorem own_s3 (x : Int32) : 0 ≤ ((x &&& (3 : Int32)).toInt64).toInt ∧ ((x &&& (3 : Int32)).toInt64).toInt ≤ 3 := by
  have h := c_mask x 3 2 (by decide) (by decide)
  rw [c_i2l]; omega
theorem own_add64 {a b : Int64} (h1 : -100 ≤ a.toInt ∧ a.toInt ≤ 100) (h2 : 0 ≤ b.toInt ∧ b.toInt ≤ 3) : (a + b).toInt = a.toInt + b.toInt := by
  have := c_ladd a b; have := rng64 (a + b); omega
theorem own_b53 {a : Int64} (h : -100 ≤ a.toInt ∧ a.toInt ≤ 100) : B53 a := ⟨by omega, by omega⟩
theorem own_b1 {x y : UInt64} {i n : Int32} (h : i < n) : spec2 x y i n = if (cmpValue (FP.dcmp x y) .g) < 0 then (1 : Int32) else (0 : Int32) := if_pos h
theorem own_b0 {x y : UInt64} {i n : Int32} (h : ¬ i < n) : spec2 x y i n = 0 := if_neg h
theorem own_fin0 (vv d0 d1 d2 d3 d4 d5 : UInt64) { q : Int}   : (0 : Int32) = ((((((spec2 d0 vv (0 : Int32) (0 : Int32)) + (spec2 d1 vv (1 : Int32) (0 : Int32))) + (spec2 d2 vv (2 : Int32) (0 : Int32))) + (spec2 d3 vv (3 : Int32) (0 : Int32))) + (spec2 d4 vv (4 : Int32) (0 : Int32))) + (spec2 d5 vv (5 : Int32) (0 : Int32))) := by
  rw [own_b0 (x := d0) (i := 0) (by decide), own_b0 (x := d1) (i := 1) (by decide), own_b0 (x := d2) (i := 2) (by decide), own_b0 (x := d3) (i := 3) (by decide), own_b0 (x := d4) (i := 4) (by decide), own_b0 (x := d5) (i := 5) (by decide)]
  decide
theorem own_fin1 (vv d0 d1 d2 d3 d4 d5 : UInt64) {a0 q : Int} (k0 : ((cmpValue (FP.dcmp d0 vv) .g) < 0) ↔ 2 * a0 < q)  : (spec3_1 vv d0) = ((((((spec2 d0 vv (0 : Int32) (1 : Int32)) + (spec2 d1 vv (1 : Int32) (1 : Int32))) + (spec2 d2 vv (2 : Int32) (1 : Int32))) + (spec2 d3 vv (3 : Int32) (1 : Int32))) + (spec2 d4 vv (4 : Int32) (1 : Int32))) + (spec2 d5 vv (5 : Int32) (1 : Int32))) := by
  rw [own_b1 (x := d0) (i := 0) (by decide), own_b0 (x := d1) (i := 1) (by decide), own_b0 (x := d2) (i := 2) (by decide), own_b0 (x := d3) (i := 3) (by decide), own_b0 (x := d4) (i := 4) (by decide), own_b0 (x := d5) (i := 5) (by decide)]
  unfold spec3_1
  by_cases c0 : (cmpValue (FP.dcmp d0 vv) .g) < 0 <;> first | (simp only [c0, if_true, if_false, ↓reduceIte]; decide) | (exfalso; simp only [k0] at c0; omega)
theorem own_fin2 (vv d0 d1 d2 d3 d4 d5 : UInt64) {a0 a1 q : Int} (k0 : ((cmpValue (FP.dcmp d0 vv) .g) < 0) ↔ 2 * a0 < q) (k1 : ((cmpValue (FP.dcmp d1 vv) .g) < 0) ↔ 2 * a1 < q) (m0 : a0 ≤ a1) : (spec3_2 vv d0 d1) = ((((((spec2 d0 vv (0 : Int32) (2 : Int32)) + (spec2 d1 vv (1 : Int32) (2 : Int32))) + (spec2 d2 vv (2 : Int32) (2 : Int32))) + (spec2 d3 vv (3 : Int32) (2 : Int32))) + (spec2 d4 vv (4 : Int32) (2 : Int32))) + (spec2 d5 vv (5 : Int32) (2 : Int32))) := by
  rw [own_b1 (x := d0) (i := 0) (by decide), own_b1 (x := d1) (i := 1) (by decide), own_b0 (x := d2) (i := 2) (by decide), own_b0 (x := d3) (i := 3) (by decide), own_b0 (x := d4) (i := 4) (by decide), own_b0 (x := d5) (i := 5) (by decide)]
  unfold spec3_2
  by_cases c0 : (cmpValue (FP.dcmp d0 vv) .g) < 0 <;> by_cases c1 : (cmpValue (FP.dcmp d1 vv) .g) < 0 <;> first | (simp only [c0, c1, if_true, if_false, ↓reduceIte]; decide) | (exfalso; simp only [k0, k1] at c0 c1; omega)
theorem own_fin3 (vv d0 d1 d2 d3 d4 d5 : UInt64) {a0 a1 a2 q : Int} (k0 : ((cmpValue (FP.dcmp d0 vv) .g) < 0) ↔ 2 * a0 < q) (k1 : ((cmpValue (FP.dcmp d1 vv) .g) < 0) ↔ 2 * a1 < q) (k2 : ((cmpValue (FP.dcmp d2 vv) .g) < 0) ↔ 2 * a2 < q) (m0 : a0 ≤ a1) (m1 : a1 ≤ a2) : (spec3_3 vv d0 d1 d2) = ((((((spec2 d0 vv (0 : Int32) (3 : Int32)) + (spec2 d1 vv (1 : Int32) (3 : Int32))) + (spec2 d2 vv (2 : Int32) (3 : Int32))) + (spec2 d3 vv (3 : Int32) (3 : Int32))) + (spec2 d4 vv (4 : Int32) (3 : Int32))) + (spec2 d5 vv (5 : Int32) (3 : Int32))) := by
  rw [own_b1 (x := d0) (i := 0) (by decide), own_b1 (x := d1) (i := 1) (by decide), own_b1 (x := d2) (i := 2) (by decide), own_b0 (x := d3) (i := 3) (by decide), own_b0 (x := d4) (i := 4) (by decide), own_b0 (x := d5) (i := 5) (by decide)]
  unfold spec3_3
  by_cases c0 : (cmpValue (FP.dcmp d0 vv) .g) < 0 <;> by_cases c1 : (cmpValue (FP.dcmp d1 vv) .g) < 0 <;> by_cases c2 : (cmpValue (FP.dcmp d2 vv) .g) < 0 <;> first | (simp only [c0, c1, c2, if_true, if_false, ↓reduceIte]; decide) | (exfalso; simp only [k0, k1, k2] at c0 c1 c2; omega)
theorem own_fin4 (vv d0 d1 d2 d3 d4 d5 : UInt64) {a0 a1 a2 a3 q : Int} (k0 : ((cmpValue (FP.dcmp d0 vv) .g) < 0) ↔ 2 * a0 < q) (k1 : ((cmpValue (FP.dcmp d1 vv) .g) < 0) ↔ 2 * a1 < q) (k2 : ((cmpValue (FP.dcmp d2 vv) .g) < 0) ↔ 2 * a2 < q) (k3 : ((cmpValue (FP.dcmp d3 vv) .g) < 0) ↔ 2 * a3 < q) (m0 : a0 ≤ a1) (m1 : a1 ≤ a2) (m2 : a2 ≤ a3) : (spec3_4 vv d0 d1 d2 d3) = ((((((spec2 d0 vv (0 : Int32) (4 : Int32)) + (spec2 d1 vv (1 : Int32) (4 : Int32))) + (spec2 d2 vv (2 : Int32) (4 : Int32))) + (spec2 d3 vv (3 : Int32) (4 : Int32))) + (spec2 d4 vv (4 : Int32) (4 : Int32))) + (spec2 d5 vv (5 : Int32) (4 : Int32))) := by
  rw [own_b1 (x := d0) (i := 0) (by decide), own_b1 (x := d1) (i := 1) (by decide), own_b1 (x := d2) (i := 2) (by decide), own_b1 (x := d3) (i := 3) (by decide), own_b0 (x := d4) (i := 4) (by decide), own_b0 (x := d5) (i := 5) (by decide)]
  unfold spec3_4
  by_cases c0 : (cmpValue (FP.dcmp d0 vv) .g) < 0 <;> by_cases c1 : (cmpValue (FP.dcmp d1 vv) .g) < 0 <;> by_cases c2 : (cmpValue (FP.dcmp d2 vv) .g) < 0 <;> by_cases c3 : (cmpValue (FP.dcmp d3 vv) .g) < 0 <;> first | (simp only [c0, c1, c2, c3, if_true, if_false, ↓reduceIte]; decide) | (exfalso; simp only [k0, k1, k2, k3] at c0 c1 c2 c3; omega)
theorem own_fin5 (vv d0 d1 d2 d3 d4 d5 : UInt64) {a0 a1 a2 a3 a4 q : Int} (k0 : ((cmpValue (FP.dcmp d0 vv) .g) < 0) ↔ 2 * a0 < q) (k1 : ((cmpValue (FP.dcmp d1 vv) .g) < 0) ↔ 2 * a1 < q) (k2 : ((cmpValue (FP.dcmp d2 vv) .g) < 0) ↔ 2 * a2 < q) (k3 : ((cmpValue (FP.dcmp d3 vv) .g) < 0) ↔ 2 * a3 < q) (k4 : ((cmpValue (FP.dcmp d4 vv) .g) < 0) ↔ 2 * a4 < q) (m0 : a0 ≤ a1) (m1 : a1 ≤ a2) (m2 : a2 ≤ a3) (m3 : a3 ≤ a4) : (spec3_5 vv d0 d1 d2 d3 d4) = ((((((spec2 d0 vv (0 : Int32) (5 : Int32)) + (spec2 d1 vv (1 : Int32) (5 : Int32))) + (spec2 d2 vv (2 : Int32) (5 : Int32))) + (spec2 d3 vv (3 : Int32) (5 : Int32))) + (spec2 d4 vv (4 : Int32) (5 : Int32))) + (spec2 d5 vv (5 : Int32) (5 : Int32))) := by
  rw [own_b1 (x := d0) (i := 0) (by decide), own_b1 (x := d1) (i := 1) (by decide), own_b1 (x := d2) (i := 2) (by decide), own_b1 (x := d3) (i := 3) (by decide), own_b1 (x := d4) (i := 4) (by decide), own_b0 (x := d5) (i := 5) (by decide)]
  unfold spec3_5
  by_cases c0 : (cmpValue (FP.dcmp d0 vv) .g) < 0 <;> by_cases c1 : (cmpValue (FP.dcmp d1 vv) .g) < 0 <;> by_cases c2 : (cmpValue (FP.dcmp d2 vv) .g) < 0 <;> by_cases c3 : (cmpValue (FP.dcmp d3 vv) .g) < 0 <;> by_cases c4 : (cmpValue (FP.dcmp d4 vv) .g) < 0 <;> first | (simp only [c0, c1, c2, c3, c4, if_true, if_false, ↓reduceIte]; decide) | (exfalso; simp only [k0, k1, k2, k3, k4] at c0 c1 c2 c3 c4; omega)
theorem own_fin6 (vv d0 d1 d2 d3 d4 d5 : UInt64) {a0 a1 a2 a3 a4 a5 q : Int} (k0 : ((cmpValue (FP.dcmp d0 vv) .g) < 0) ↔ 2 * a0 < q) (k1 : ((cmpValue (FP.dcmp d1 vv) .g) < 0) ↔ 2 * a1 < q) (k2 : ((cmpValue (FP.dcmp d2 vv) .g) < 0) ↔ 2 * a2 < q) (k3 : ((cmpValue (FP.dcmp d3 vv) .g) < 0) ↔ 2 * a3 < q) (k4 : ((cmpValue (FP.dcmp d4 vv) .g) < 0) ↔ 2 * a4 < q) (k5 : ((cmpValue (FP.dcmp d5 vv) .g) < 0) ↔ 2 * a5 < q) (m0 : a0 ≤ a1) (m1 : a1 ≤ a2) (m2 : a2 ≤ a3) (m3 : a3 ≤ a4) (m4 : a4 ≤ a5) : (spec3_6 vv d0 d1 d2 d3 d4 d5) = ((((((spec2 d0 vv (0 : Int32) (6 : Int32)) + (spec2 d1 vv (1 : Int32) (6 : Int32))) + (spec2 d2 vv (2 : Int32) (6 : Int32))) + (spec2 d3 vv (3 : Int32) (6 : Int32))) + (spec2 d4 vv (4 : Int32) (6 : Int32))) + (spec2 d5 vv (5 : Int32) (6 : Int32))) := by
  rw [own_b1 (x := d0) (i := 0) (by decide), own_b1 (x := d1) (i := 1) (by decide), own_b1 (x := d2) (i := 2) (by decide), own_b1 (x := d3) (i := 3) (by decide), own_b1 (x := d4) (i := 4) (by decide), own_b1 (x := d5) (i := 5) (by decide)]
  unfold spec3_6
  by_cases c0 : (cmpValue (FP.dcmp d0 vv) .g) < 0 <;> by_cases c1 : (cmpValue (FP.dcmp d1 vv) .g) < 0 <;> by_cases c2 : (cmpValue (FP.dcmp d2 vv) .g) < 0 <;> by_cases c3 : (cmpValue (FP.dcmp d3 vv) .g) < 0 <;> by_cases c4 : (cmpValue (FP.dcmp d4 vv) .g) < 0 <;> by_cases c5 : (cmpValue (FP.dcmp d5 vv) .g) < 0 <;> first | (simp only [c0, c1, c2, c3, c4, c5, if_true, if_false, ↓reduceIte]; decide) | (exfalso; simp only [k0, k1, k2, k3, k4, k5] at c0 c1 c2 c3 c4 c5; omega)
theorem ef_0 (m : MethodId) (x0 : Int32) (x1 : Int32) (x2 : Int32) (x3 : Int32) : entryFrame m #[(.int x0), (.int x1), (.int x2), (.int x3)] maxLocals = mkF m 0 #[.val (.int x0), .val (.int x1), .val (.int x2), .val (.int x3), .unset, .unset, .unset, .unset, .unset, .unset, .unset, .unset, .unset, .unset, .unset, .unset, .unset, .unset, .unset, .unset, .unset] [] := by first | (simp [entryFrame, mkF, argsToLocals, Value.category, maxLocals]; done) | rfl
theorem pd0 : parseMethodDescriptor "(IDDDDDD)[D" = some ⟨[.int, .double, .double, .double, .double, .double, .double], (some (.array .double))⟩ := by decide +kernel
theorem pd1 : parseMethodDescriptor "(DDII)I" = some ⟨[.double, .double, .int, .int], (some .int)⟩ := by decide +kernel
theorem pd2 : parseMethodDescriptor "([DD)I" = some ⟨[(.array .double), .double], (some .int)⟩ := by decide +kernel

set_option maxRecDepth 65536 in
set_option maxHeartbeats 40000000 in
theorem rm0 (l : Launch) (Z : State) (a0 : Array Value) (hw : ∀ d ∈ tables_1, d.before a0 Z = true) (x0 : Int32) (x1 : Int32) (x2 : Int32) (x3 : Int32) (h0 : Heap) (n0 : Nat) (Z0 : n0 ≤ h0.size)  :
    oCon l Z x code maxLocals ret room_1 #[(.int x0), (.int x1), (.int x2), (.int x3)] h0 (fun v h L => v = some (.int 1) ∧ Fr n0 L) := by
  refine oCon.of (plainFor_of_name pn_2) ?_
  intro p e s m below meth c s₁ hx hby hml hown hnm hret hlk hZ X0 e0
  replace hml : c.maxLocals = 21 := hml
  rw [ef_0 m x0 x1 x2 x3]
  have N0 := Fr.nil n0
  refine o_iloadN (pc' := 1) X0 hx (hb hby at_0) rfl rfl ?_
  refine o_bipush (pc' := 3) (v := (7 : Int32)) X0 hx (hb hby at_1) rfl rfl ?_
  refine o_iand (pc' := 4) X0 hx (hb hby at_3)  rfl ?_
  refine o_bipush (pc' := 6) (v := (7 : Int32)) X0 hx (hb hby at_4) rfl rfl ?_
  refine o_irem (pc' := 7) X0 hx (hb hby at_6) (by decide) rfl ?_
  refine o_istore (pc' := 9) (l' := #[.val (.int x0), .val (.int x1), .val (.int x2), .val (.int x3), .val (.int ((x0 &&& (7 : Int32)) % (7 : Int32))), .unset, .unset, .unset, .unset, .unset, .unset, .unset, .unset, .unset, .unset, .unset, .unset, .unset, .unset, .unset, .unset]) X0 hx (hb hby at_7) rfl rfl ?_
  rcases own_n7 x0 with hn | hn | hn | hn | hn | hn | hn
  · rw [hn]
    refine o_iloadN (pc' := 10) X0 hx (hb hby at_9) rfl rfl ?_
    refine o_bipush (pc' := 12) (v := (63 : Int32)) X0 hx (hb hby at_10) rfl rfl ?_
    refine o_iand (pc' := 13) X0 hx (hb hby at_12)  rfl ?_
    refine o_bipush (pc' := 15) (v := (32 : Int32)) X0 hx (hb hby at_13) rfl rfl ?_
    refine o_isub (pc' := 16) X0 hx (hb hby at_15)  rfl ?_
    obtain ⟨A0, hA0⟩ : ∃ z, z = (((x1 &&& (63 : Int32)) - (32 : Int32))).toInt64 := ⟨_, rfl⟩
    have bA0 : -32 ≤ A0.toInt ∧ A0.toInt ≤ 31 := by rw [hA0, own_sub x1 63 32 6 (by decide) (by decide) (by decide)]; have : (32 : Int32).toInt = 32 := rfl; omega
    refine o_i2d (pc' := 17) (v := FP.l2d A0) X0 hx (hb hby at_16) (by rw [i2d_w, hA0]) rfl ?_
    refine o_dstore (pc' := 19) (l' := #[.val (.int x0), .val (.int x1), .val (.int x2), .val (.int x3), .val (.int (0 : Int32)), .val (.double (FP.l2d A0)), .second, .unset, .unset, .unset, .unset, .unset, .unset, .unset, .unset, .unset, .unset, .unset, .unset, .unset, .unset]) X0 hx (hb hby at_17) rfl rfl ?_
    refine o_dload (pc' := 21) X0 hx (hb hby at_19) rfl rfl ?_
    refine o_iloadN (pc' := 22) X0 hx (hb hby at_21) rfl rfl ?_
    refine o_iconst (pc' := 23) (v := (3 : Int32)) X0 hx (hb hby at_22) rfl rfl ?_
    refine o_iand (pc' := 24) X0 hx (hb hby at_23)  rfl ?_
    obtain ⟨S1, hS1⟩ : ∃ z, z = ((x2 &&& (3 : Int32))).toInt64 := ⟨_, rfl⟩
    have bS1 : 0 ≤ S1.toInt ∧ S1.toInt ≤ 3 := by rw [hS1]; exact own_s3 x2
    refine o_i2d (pc' := 25) (v := FP.l2d S1) X0 hx (hb hby at_24) (by rw [i2d_w, hS1]) rfl ?_
    obtain ⟨A1, hA1⟩ : ∃ z, z = A0 + S1 := ⟨_, rfl⟩
    have eA1 : A1.toInt = A0.toInt + S1.toInt := by rw [hA1]; exact own_add64 ⟨by omega, by omega⟩ bS1
    have bA1 : -32 ≤ A1.toInt ∧ A1.toInt ≤ 34 := ⟨by omega, by omega⟩
    have qA1 := dadd_w (own_b53 ⟨by omega, by omega⟩ : B53 A0) (own_b53 ⟨by omega, by omega⟩ : B53 S1)
    refine o_dadd (pc' := 26) (v := FP.l2d A1) X0 hx (hb hby at_25) (by rw [qA1]; exact (Jvm.Free.Fl.l2d_fin _).noNaN) (by rw [qA1, hA1]) rfl ?_
    refine o_dstore (pc' := 28) (l' := #[.val (.int x0), .val (.int x1), .val (.int x2), .val (.int x3), .val (.int (0 : Int32)), .val (.double (FP.l2d A0)), .second, .val (.double (FP.l2d A1)), .second, .unset, .unset, .unset, .unset, .unset, .unset, .unset, .unset, .unset, .unset, .unset, .unset]) X0 hx (hb hby at_26) rfl rfl ?_
    refine o_dload (pc' := 30) X0 hx (hb hby at_28) rfl rfl ?_
    refine o_iloadN (pc' := 31) X0 hx (hb hby at_30) rfl rfl ?_
    refine o_iconst (pc' := 32) (v := (2 : Int32)) X0 hx (hb hby at_31) rfl rfl ?_
    refine o_iushr (pc' := 33) X0 hx (hb hby at_32)  rfl ?_
    refine o_iconst (pc' := 34) (v := (3 : Int32)) X0 hx (hb hby at_33) rfl rfl ?_
    refine o_iand (pc' := 35) X0 hx (hb hby at_34)  rfl ?_
    obtain ⟨S2, hS2⟩ : ∃ z, z = (((XT.ushr x2 (2 : Int32)) &&& (3 : Int32))).toInt64 := ⟨_, rfl⟩
    have bS2 : 0 ≤ S2.toInt ∧ S2.toInt ≤ 3 := by rw [hS2]; exact own_s3 (XT.ushr x2 (2 : Int32))
    refine o_i2d (pc' := 36) (v := FP.l2d S2) X0 hx (hb hby at_35) (by rw [i2d_w, hS2]) rfl ?_
    obtain ⟨A2, hA2⟩ : ∃ z, z = A1 + S2 := ⟨_, rfl⟩
    have eA2 : A2.toInt = A1.toInt + S2.toInt := by rw [hA2]; exact own_add64 ⟨by omega, by omega⟩ bS2
    have bA2 : -32 ≤ A2.toInt ∧ A2.toInt ≤ 37 := ⟨by omega, by omega⟩
    have qA2 := dadd_w (own_b53 ⟨by omega, by omega⟩ : B53 A1) (own_b53 ⟨by omega, by omega⟩ : B53 S2)
    refine o_dadd (pc' := 37) (v := FP.l2d A2) X0 hx (hb hby at_36) (by rw [qA2]; exact (Jvm.Free.Fl.l2d_fin _).noNaN) (by rw [qA2, hA2]) rfl ?_
    refine o_dstore (pc' := 39) (l' := #[.val (.int x0), .val (.int x1), .val (.int x2), .val (.int x3), .val (.int (0 : Int32)), .val (.double (FP.l2d A0)), .second, .val (.double (FP.l2d A1)), .second, .val (.double (FP.l2d A2)), .second, .unset, .unset, .unset, .unset, .unset, .unset, .unset, .unset, .unset, .unset]) X0 hx (hb hby at_37) rfl rfl ?_
    refine o_dload (pc' := 41) X0 hx (hb hby at_39) rfl rfl ?_
    refine o_iloadN (pc' := 42) X0 hx (hb hby at_41) rfl rfl ?_
    refine o_iconst (pc' := 43) (v := (4 : Int32)) X0 hx (hb hby at_42) rfl rfl ?_
    refine o_iushr (pc' := 44) X0 hx (hb hby at_43)  rfl ?_
    refine o_iconst (pc' := 45) (v := (3 : Int32)) X0 hx (hb hby at_44) rfl rfl ?_
    refine o_iand (pc' := 46) X0 hx (hb hby at_45)  rfl ?_
    obtain ⟨S3, hS3⟩ : ∃ z, z = (((XT.ushr x2 (4 : Int32)) &&& (3 : Int32))).toInt64 := ⟨_, rfl⟩
    have bS3 : 0 ≤ S3.toInt ∧ S3.toInt ≤ 3 := by rw [hS3]; exact own_s3 (XT.ushr x2 (4 : Int32))
    refine o_i2d (pc' := 47) (v := FP.l2d S3) X0 hx (hb hby at_46) (by rw [i2d_w, hS3]) rfl ?_
    obtain ⟨A3, hA3⟩ : ∃ z, z = A2 + S3 := ⟨_, rfl⟩
    have eA3 : A3.toInt = A2.toInt + S3.toInt := by rw [hA3]; exact own_add64 ⟨by omega, by omega⟩ bS3
    have bA3 : -32 ≤ A3.toInt ∧ A3.toInt ≤ 40 := ⟨by omega, by omega⟩
    have qA3 := dadd_w (own_b53 ⟨by omega, by omega⟩ : B53 A2) (own_b53 ⟨by omega, by omega⟩ : B53 S3)
    refine o_dadd (pc' := 48) (v := FP.l2d A3) X0 hx (hb hby at_47) (by rw [qA3]; exact (Jvm.Free.Fl.l2d_fin _).noNaN) (by rw [qA3, hA3]) rfl ?_
    refine o_dstore (pc' := 50) (l' := #[.val (.int x0), .val (.int x1), .val (.int x2), .val (.int x3), .val (.int (0 : Int32)), .val (.double (FP.l2d A0)), .second, .val (.double (FP.l2d A1)), .second, .val (.double (FP.l2d A2)), .second, .val (.double (FP.l2d A3)), .second, .unset, .unset, .unset, .unset, .unset, .unset, .unset, .unset]) X0 hx (hb hby at_48) rfl rfl ?_
    refine o_dload (pc' := 52) X0 hx (hb hby at_50) rfl rfl ?_
    refine o_iloadN (pc' := 53) X0 hx (hb hby at_52) rfl rfl ?_
    refine o_bipush (pc' := 55) (v := (6 : Int32)) X0 hx (hb hby at_53) rfl rfl ?_
    refine o_iushr (pc' := 56) X0 hx (hb hby at_55)  rfl ?_
    refine o_iconst (pc' := 57) (v := (3 : Int32)) X0 hx (hb hby at_56) rfl rfl ?_
    refine o_iand (pc' := 58) X0 hx (hb hby at_57)  rfl ?_
    obtain ⟨S4, hS4⟩ : ∃ z, z = (((XT.ushr x2 (6 : Int32)) &&& (3 : Int32))).toInt64 := ⟨_, rfl⟩
    have bS4 : 0 ≤ S4.toInt ∧ S4.toInt ≤ 3 := by rw [hS4]; exact own_s3 (XT.ushr x2 (6 : Int32))
    refine o_i2d (pc' := 59) (v := FP.l2d S4) X0 hx (hb hby at_58) (by rw [i2d_w, hS4]) rfl ?_
    obtain ⟨A4, hA4⟩ : ∃ z, z = A3 + S4 := ⟨_, rfl⟩
    have eA4 : A4.toInt = A3.toInt + S4.toInt := by rw [hA4]; exact own_add64 ⟨by omega, by omega⟩ bS4
    have bA4 : -32 ≤ A4.toInt ∧ A4.toInt ≤ 43 := ⟨by omega, by omega⟩
    have qA4 := dadd_w (own_b53 ⟨by omega, by omega⟩ : B53 A3) (own_b53 ⟨by omega, by omega⟩ : B53 S4)
    refine o_dadd (pc' := 60) (v := FP.l2d A4) X0 hx (hb hby at_59) (by rw [qA4]; exact (Jvm.Free.Fl.l2d_fin _).noNaN) (by rw [qA4, hA4]) rfl ?_
    refine o_dstore (pc' := 62) (l' := #[.val (.int x0), .val (.int x1), .val (.int x2), .val (.int x3), .val (.int (0 : Int32)), .val (.double (FP.l2d A0)), .second, .val (.double (FP.l2d A1)), .second, .val (.double (FP.l2d A2)), .second, .val (.double (FP.l2d A3)), .second, .val (.double (FP.l2d A4)), .second, .unset, .unset, .unset, .unset, .unset, .unset]) X0 hx (hb hby at_60) rfl rfl ?_
    refine o_dload (pc' := 64) X0 hx (hb hby at_62) rfl rfl ?_
    refine o_iloadN (pc' := 65) X0 hx (hb hby at_64) rfl rfl ?_
    refine o_bipush (pc' := 67) (v := (8 : Int32)) X0 hx (hb hby at_65) rfl rfl ?_
    refine o_iushr (pc' := 68) X0 hx (hb hby at_67)  rfl ?_
    refine o_iconst (pc' := 69) (v := (3 : Int32)) X0 hx (hb hby at_68) rfl rfl ?_
    refine o_iand (pc' := 70) X0 hx (hb hby at_69)  rfl ?_
    obtain ⟨S5, hS5⟩ : ∃ z, z = (((XT.ushr x2 (8 : Int32)) &&& (3 : Int32))).toInt64 := ⟨_, rfl⟩
    have bS5 : 0 ≤ S5.toInt ∧ S5.toInt ≤ 3 := by rw [hS5]; exact own_s3 (XT.ushr x2 (8 : Int32))
    refine o_i2d (pc' := 71) (v := FP.l2d S5) X0 hx (hb hby at_70) (by rw [i2d_w, hS5]) rfl ?_
    obtain ⟨A5, hA5⟩ : ∃ z, z = A4 + S5 := ⟨_, rfl⟩
    have eA5 : A5.toInt = A4.toInt + S5.toInt := by rw [hA5]; exact own_add64 ⟨by omega, by omega⟩ bS5
    have bA5 : -32 ≤ A5.toInt ∧ A5.toInt ≤ 46 := ⟨by omega, by omega⟩
    have qA5 := dadd_w (own_b53 ⟨by omega, by omega⟩ : B53 A4) (own_b53 ⟨by omega, by omega⟩ : B53 S5)
    refine o_dadd (pc' := 72) (v := FP.l2d A5) X0 hx (hb hby at_71) (by rw [qA5]; exact (Jvm.Free.Fl.l2d_fin _).noNaN) (by rw [qA5, hA5]) rfl ?_
    refine o_dstore (pc' := 74) (l' := #[.val (.int x0), .val (.int x1), .val (.int x2), .val (.int x3), .val (.int (0 : Int32)), .val (.double (FP.l2d A0)), .second, .val (.double (FP.l2d A1)), .second, .val (.double (FP.l2d A2)), .second, .val (.double (FP.l2d A3)), .second, .val (.double (FP.l2d A4)), .second, .val (.double (FP.l2d A5)), .second, .unset, .unset, .unset, .unset]) X0 hx (hb hby at_72) rfl rfl ?_
    refine o_iloadN (pc' := 75) X0 hx (hb hby at_74) rfl rfl ?_
    refine o_sipush (pc' := 78) (v := (255 : Int32)) X0 hx (hb hby at_75) rfl rfl ?_
    refine o_iand (pc' := 79) X0 hx (hb hby at_78)  rfl ?_
    refine o_bipush (pc' := 81) (v := (96 : Int32)) X0 hx (hb hby at_79) rfl rfl ?_
    refine o_isub (pc' := 82) X0 hx (hb hby at_81)  rfl ?_
    obtain ⟨Q0, hQ0⟩ : ∃ z, z = (((x3 &&& (255 : Int32)) - (96 : Int32))).toInt64 := ⟨_, rfl⟩
    have bQ0 : -96 ≤ Q0.toInt ∧ Q0.toInt ≤ 159 := by rw [hQ0, own_sub x3 255 96 8 (by decide) (by decide) (by decide)]; have : (96 : Int32).toInt = 96 := rfl; omega
    refine o_i2d (pc' := 83) (v := FP.l2d Q0) X0 hx (hb hby at_82) (by rw [i2d_w, hQ0]) rfl ?_
    refine o_ldc2d (pc' := 86) (b := (4611686018427387904 : UInt64)) X0 hx hZ hown (hw _ (List.mem_of_getElem? (i := 0) rfl)) (hb hby at_83) rfl ?_
    obtain ⟨vv, hvv⟩ : ∃ z, z = FP.ddiv (FP.l2d Q0) (4611686018427387904 : UInt64) := ⟨_, rfl⟩
    refine o_ddiv (pc' := 87) (v := vv) X0 hx (hb hby at_86) (own_nn bQ0.1 bQ0.2) hvv.symm rfl ?_
    refine o_dstore (pc' := 89) (l' := #[.val (.int x0), .val (.int x1), .val (.int x2), .val (.int x3), .val (.int (0 : Int32)), .val (.double (FP.l2d A0)), .second, .val (.double (FP.l2d A1)), .second, .val (.double (FP.l2d A2)), .second, .val (.double (FP.l2d A3)), .second, .val (.double (FP.l2d A4)), .second, .val (.double (FP.l2d A5)), .second, .val (.double vv), .second, .unset, .unset]) X0 hx (hb hby at_87) rfl rfl ?_
    refine o_iload (pc' := 91) X0 hx (hb hby at_89) rfl rfl ?_
    refine o_dload (pc' := 93) X0 hx (hb hby at_91) rfl rfl ?_
    refine o_dload (pc' := 95) X0 hx (hb hby at_93) rfl rfl ?_
    refine o_dload (pc' := 97) X0 hx (hb hby at_95) rfl rfl ?_
    refine o_dload (pc' := 99) X0 hx (hb hby at_97) rfl rfl ?_
    refine o_dload (pc' := 101) X0 hx (hb hby at_99) rfl rfl ?_
    refine o_dload (pc' := 103) X0 hx (hb hby at_101) rfl rfl ?_
    obtain ⟨r1, T1, L1, X1, hq1, st1⟩ := o_callS X0 hx hZ hown (hw _ (List.mem_of_getElem? (i := 1) rfl)) (hw _ (List.mem_of_getElem? (i := 2) rfl)) (hw _ (List.mem_of_getElem? (i := 3) rfl)) (hw _ (List.mem_of_getElem? (i := 4) rfl)) (by decide) (rm1_0 l Z a0 hw (FP.l2d A0) (FP.l2d A1) (FP.l2d A2) (FP.l2d A3) (FP.l2d A4) (FP.l2d A5) h0 n0 Z0) e0 (pc' := 106) (Ls := #[.val (.int x0), .val (.int x1), .val (.int x2), .val (.int x3), .val (.int (0 : Int32)), .val (.double (FP.l2d A0)), .second, .val (.double (FP.l2d A1)), .second, .val (.double (FP.l2d A2)), .second, .val (.double (FP.l2d A3)), .second, .val (.double (FP.l2d A4)), .second, .val (.double (FP.l2d A5)), .second, .val (.double vv), .second, .unset, .unset]) (by rw [hml]; rfl) [(.int (0 : Int32)), (.double (FP.l2d A0)), (.double (FP.l2d A1)), (.double (FP.l2d A2)), (.double (FP.l2d A3)), (.double (FP.l2d A4)), (.double (FP.l2d A5))] [] rfl pd0 rfl rfl 0 (Nat.le_of_eq rfl) (hb hby at_103) rfl (by decide) (by decide) (by decide) (by decide)
    obtain ⟨rfl, N1, Kc1, A1_⟩ := hq1
    have ge_ar : n0 ≤ h0.size := Z0
    obtain ⟨ar, g_ar⟩ : ∃ z, z = h0.size := ⟨_, rfl⟩
    rw [← g_ar] at ge_ar st1 A1_
    refine oGo.step (f' := (mkF m 106 #[.val (.int x0), .val (.int x1), .val (.int x2), .val (.int x3), .val (.int (0 : Int32)), .val (.double (FP.l2d A0)), .second, .val (.double (FP.l2d A1)), .second, .val (.double (FP.l2d A2)), .second, .val (.double (FP.l2d A3)), .second, .val (.double (FP.l2d A4)), .second, .val (.double (FP.l2d A5)), .second, .val (.double vv), .second, .unset, .unset] [(.ref ar)])) st1 ?_
    have N1_ := Fr.app N0 N1
    have K2 := Kc1
    have Z3 := Nat.le_trans Z0 K2.1
    refine o_astore (pc' := 108) (l' := #[.val (.int x0), .val (.int x1), .val (.int x2), .val (.int x3), .val (.int (0 : Int32)), .val (.double (FP.l2d A0)), .second, .val (.double (FP.l2d A1)), .second, .val (.double (FP.l2d A2)), .second, .val (.double (FP.l2d A3)), .second, .val (.double (FP.l2d A4)), .second, .val (.double (FP.l2d A5)), .second, .val (.double vv), .second, .val (.ref ar), .unset]) X1 hx (hb hby at_106) rfl rfl rfl ?_
    refine o_dload (pc' := 110) X1 hx (hb hby at_108) rfl rfl ?_
    refine o_dload (pc' := 112) X1 hx (hb hby at_110) rfl rfl ?_
    refine o_iconst (pc' := 113) (v := (0 : Int32)) X1 hx (hb hby at_112) rfl rfl ?_
    refine o_iload (pc' := 115) X1 hx (hb hby at_113) rfl rfl ?_
    obtain ⟨r4, T4, L4, X4, hq4, st4⟩ := o_callS X1 hx hZ hown (hw _ (List.mem_of_getElem? (i := 6) rfl)) (hw _ (List.mem_of_getElem? (i := 7) rfl)) (hw _ (List.mem_of_getElem? (i := 3) rfl)) (hw _ (List.mem_of_getElem? (i := 8) rfl)) (by decide) (rm2 l Z a0 hw (FP.l2d A0) vv (0 : Int32) (0 : Int32) T1.heap n0 Z3 ) (rfl : T1.heap = _) (pc' := 118) (Ls := #[.val (.int x0), .val (.int x1), .val (.int x2), .val (.int x3), .val (.int (0 : Int32)), .val (.double (FP.l2d A0)), .second, .val (.double (FP.l2d A1)), .second, .val (.double (FP.l2d A2)), .second, .val (.double (FP.l2d A3)), .second, .val (.double (FP.l2d A4)), .second, .val (.double (FP.l2d A5)), .second, .val (.double vv), .second, .val (.ref ar), .unset]) (by rw [hml]; rfl) [(.double (FP.l2d A0)), (.double vv), (.int (0 : Int32)), (.int (0 : Int32))] [] rfl pd1 rfl rfl 0 (Nat.le_of_eq rfl) (hb hby at_115) rfl (by decide) (by decide) (by decide) (by decide)
    obtain ⟨rfl, rfl, Kc4⟩ := hq4
    refine oGo.step (f' := (mkF m 118 #[.val (.int x0), .val (.int x1), .val (.int x2), .val (.int x3), .val (.int (0 : Int32)), .val (.double (FP.l2d A0)), .second, .val (.double (FP.l2d A1)), .second, .val (.double (FP.l2d A2)), .second, .val (.double (FP.l2d A3)), .second, .val (.double (FP.l2d A4)), .second, .val (.double (FP.l2d A5)), .second, .val (.double vv), .second, .val (.ref ar), .unset] [(.int (spec2 (FP.l2d A0) vv (0 : Int32) (0 : Int32)))])) st4 ?_
    have e4 : T4.heap = T1.heap := Kc4
    have X4 := o_same X4 rfl rfl
    refine o_dload (pc' := 120) X4 hx (hb hby at_118) rfl rfl ?_
    refine o_dload (pc' := 122) X4 hx (hb hby at_120) rfl rfl ?_
    refine o_iconst (pc' := 123) (v := (1 : Int32)) X4 hx (hb hby at_122) rfl rfl ?_
    refine o_iload (pc' := 125) X4 hx (hb hby at_123) rfl rfl ?_
    obtain ⟨r5, T5, L5, X5, hq5, st5⟩ := o_callS X4 hx hZ hown (hw _ (List.mem_of_getElem? (i := 6) rfl)) (hw _ (List.mem_of_getElem? (i := 7) rfl)) (hw _ (List.mem_of_getElem? (i := 3) rfl)) (hw _ (List.mem_of_getElem? (i := 8) rfl)) (by decide) (rm2 l Z a0 hw (FP.l2d A1) vv (1 : Int32) (0 : Int32) T1.heap n0 Z3 ) e4 (pc' := 128) (Ls := #[.val (.int x0), .val (.int x1), .val (.int x2), .val (.int x3), .val (.int (0 : Int32)), .val (.double (FP.l2d A0)), .second, .val (.double (FP.l2d A1)), .second, .val (.double (FP.l2d A2)), .second, .val (.double (FP.l2d A3)), .second, .val (.double (FP.l2d A4)), .second, .val (.double (FP.l2d A5)), .second, .val (.double vv), .second, .val (.ref ar), .unset]) (by rw [hml]; rfl) [(.double (FP.l2d A1)), (.double vv), (.int (1 : Int32)), (.int (0 : Int32))] [(.int (spec2 (FP.l2d A0) vv (0 : Int32) (0 : Int32)))] rfl pd1 rfl rfl 1 (Nat.le_of_eq rfl) (hb hby at_125) rfl (by decide) (by decide) (by decide) (by decide)
    obtain ⟨rfl, rfl, Kc5⟩ := hq5
    refine oGo.step (f' := (mkF m 128 #[.val (.int x0), .val (.int x1), .val (.int x2), .val (.int x3), .val (.int (0 : Int32)), .val (.double (FP.l2d A0)), .second, .val (.double (FP.l2d A1)), .second, .val (.double (FP.l2d A2)), .second, .val (.double (FP.l2d A3)), .second, .val (.double (FP.l2d A4)), .second, .val (.double (FP.l2d A5)), .second, .val (.double vv), .second, .val (.ref ar), .unset] [(.int (spec2 (FP.l2d A1) vv (1 : Int32) (0 : Int32))), (.int (spec2 (FP.l2d A0) vv (0 : Int32) (0 : Int32)))])) st5 ?_
    have e5 : T5.heap = T1.heap := Kc5
    have X5 := o_same X5 rfl rfl
    refine o_iadd (pc' := 129) X5 hx (hb hby at_128)  rfl ?_
    refine o_dload (pc' := 131) X5 hx (hb hby at_129) rfl rfl ?_
    refine o_dload (pc' := 133) X5 hx (hb hby at_131) rfl rfl ?_
    refine o_iconst (pc' := 134) (v := (2 : Int32)) X5 hx (hb hby at_133) rfl rfl ?_
    refine o_iload (pc' := 136) X5 hx (hb hby at_134) rfl rfl ?_
    obtain ⟨r6, T6, L6, X6, hq6, st6⟩ := o_callS X5 hx hZ hown (hw _ (List.mem_of_getElem? (i := 6) rfl)) (hw _ (List.mem_of_getElem? (i := 7) rfl)) (hw _ (List.mem_of_getElem? (i := 3) rfl)) (hw _ (List.mem_of_getElem? (i := 8) rfl)) (by decide) (rm2 l Z a0 hw (FP.l2d A2) vv (2 : Int32) (0 : Int32) T1.heap n0 Z3 ) e5 (pc' := 139) (Ls := #[.val (.int x0), .val (.int x1), .val (.int x2), .val (.int x3), .val (.int (0 : Int32)), .val (.double (FP.l2d A0)), .second, .val (.double (FP.l2d A1)), .second, .val (.double (FP.l2d A2)), .second, .val (.double (FP.l2d A3)), .second, .val (.double (FP.l2d A4)), .second, .val (.double (FP.l2d A5)), .second, .val (.double vv), .second, .val (.ref ar), .unset]) (by rw [hml]; rfl) [(.double (FP.l2d A2)), (.double vv), (.int (2 : Int32)), (.int (0 : Int32))] [(.int ((spec2 (FP.l2d A0) vv (0 : Int32) (0 : Int32)) + (spec2 (FP.l2d A1) vv (1 : Int32) (0 : Int32))))] rfl pd1 rfl rfl 1 (Nat.le_of_eq rfl) (hb hby at_136) rfl (by decide) (by decide) (by decide) (by decide)
    obtain ⟨rfl, rfl, Kc6⟩ := hq6
    refine oGo.step (f' := (mkF m 139 #[.val (.int x0), .val (.int x1), .val (.int x2), .val (.int x3), .val (.int (0 : Int32)), .val (.double (FP.l2d A0)), .second, .val (.double (FP.l2d A1)), .second, .val (.double (FP.l2d A2)), .second, .val (.double (FP.l2d A3)), .second, .val (.double (FP.l2d A4)), .second, .val (.double (FP.l2d A5)), .second, .val (.double vv), .second, .val (.ref ar), .unset] [(.int (spec2 (FP.l2d A2) vv (2 : Int32) (0 : Int32))), (.int ((spec2 (FP.l2d A0) vv (0 : Int32) (0 : Int32)) + (spec2 (FP.l2d A1) vv (1 : Int32) (0 : Int32))))])) st6 ?_
    have e6 : T6.heap = T1.heap := Kc6
    have X6 := o_same X6 rfl rfl
    refine o_iadd (pc' := 140) X6 hx (hb hby at_139)  rfl ?_
    refine o_dload (pc' := 142) X6 hx (hb hby at_140) rfl rfl ?_
    refine o_dload (pc' := 144) X6 hx (hb hby at_142) rfl rfl ?_
    refine o_iconst (pc' := 145) (v := (3 : Int32)) X6 hx (hb hby at_144) rfl rfl ?_
    refine o_iload (pc' := 147) X6 hx (hb hby at_145) rfl rfl ?_
    obtain ⟨r7, T7, L7, X7, hq7, st7⟩ := o_callS X6 hx hZ hown (hw _ (List.mem_of_getElem? (i := 6) rfl)) (hw _ (List.mem_of_getElem? (i := 7) rfl)) (hw _ (List.mem_of_getElem? (i := 3) rfl)) (hw _ (List.mem_of_getElem? (i := 8) rfl)) (by decide) (rm2 l Z a0 hw (FP.l2d A3) vv (3 : Int32) (0 : Int32) T1.heap n0 Z3 ) e6 (pc' := 150) (Ls := #[.val (.int x0), .val (.int x1), .val (.int x2), .val (.int x3), .val (.int (0 : Int32)), .val (.double (FP.l2d A0)), .second, .val (.double (FP.l2d A1)), .second, .val (.double (FP.l2d A2)), .second, .val (.double (FP.l2d A3)), .second, .val (.double (FP.l2d A4)), .second, .val (.double (FP.l2d A5)), .second, .val (.double vv), .second, .val (.ref ar), .unset]) (by rw [hml]; rfl) [(.double (FP.l2d A3)), (.double vv), (.int (3 : Int32)), (.int (0 : Int32))] [(.int (((spec2 (FP.l2d A0) vv (0 : Int32) (0 : Int32)) + (spec2 (FP.l2d A1) vv (1 : Int32) (0 : Int32))) + (spec2 (FP.l2d A2) vv (2 : Int32) (0 : Int32))))] rfl pd1 rfl rfl 1 (Nat.le_of_eq rfl) (hb hby at_147) rfl (by decide) (by decide) (by decide) (by decide)
    obtain ⟨rfl, rfl, Kc7⟩ := hq7
    refine oGo.step (f' := (mkF m 150 #[.val (.int x0), .val (.int x1), .val (.int x2), .val (.int x3), .val (.int (0 : Int32)), .val (.double (FP.l2d A0)), .second, .val (.double (FP.l2d A1)), .second, .val (.double (FP.l2d A2)), .second, .val (.double (FP.l2d A3)), .second, .val (.double (FP.l2d A4)), .second, .val (.double (FP.l2d A5)), .second, .val (.double vv), .second, .val (.ref ar), .unset] [(.int (spec2 (FP.l2d A3) vv (3 : Int32) (0 : Int32))), (.int (((spec2 (FP.l2d A0) vv (0 : Int32) (0 : Int32)) + (spec2 (FP.l2d A1) vv (1 : Int32) (0 : Int32))) + (spec2 (FP.l2d A2) vv (2 : Int32) (0 : Int32))))])) st7 ?_
    have e7 : T7.heap = T1.heap := Kc7
    have X7 := o_same X7 rfl rfl
    refine o_iadd (pc' := 151) X7 hx (hb hby at_150)  rfl ?_
    refine o_dload (pc' := 153) X7 hx (hb hby at_151) rfl rfl ?_
    refine o_dload (pc' := 155) X7 hx (hb hby at_153) rfl rfl ?_
    refine o_iconst (pc' := 156) (v := (4 : Int32)) X7 hx (hb hby at_155) rfl rfl ?_
    refine o_iload (pc' := 158) X7 hx (hb hby at_156) rfl rfl ?_
    obtain ⟨r8, T8, L8, X8, hq8, st8⟩ := o_callS X7 hx hZ hown (hw _ (List.mem_of_getElem? (i := 6) rfl)) (hw _ (List.mem_of_getElem? (i := 7) rfl)) (hw _ (List.mem_of_getElem? (i := 3) rfl)) (hw _ (List.mem_of_getElem? (i := 8) rfl)) (by decide) (rm2 l Z a0 hw (FP.l2d A4) vv (4 : Int32) (0 : Int32) T1.heap n0 Z3 ) e7 (pc' := 161) (Ls := #[.val (.int x0), .val (.int x1), .val (.int x2), .val (.int x3), .val (.int (0 : Int32)), .val (.double (FP.l2d A0)), .second, .val (.double (FP.l2d A1)), .second, .val (.double (FP.l2d A2)), .second, .val (.double (FP.l2d A3)), .second, .val (.double (FP.l2d A4)), .second, .val (.double (FP.l2d A5)), .second, .val (.double vv), .second, .val (.ref ar), .unset]) (by rw [hml]; rfl) [(.double (FP.l2d A4)), (.double vv), (.int (4 : Int32)), (.int (0 : Int32))] [(.int ((((spec2 (FP.l2d A0) vv (0 : Int32) (0 : Int32)) + (spec2 (FP.l2d A1) vv (1 : Int32) (0 : Int32))) + (spec2 (FP.l2d A2) vv (2 : Int32) (0 : Int32))) + (spec2 (FP.l2d A3) vv (3 : Int32) (0 : Int32))))] rfl pd1 rfl rfl 1 (Nat.le_of_eq rfl) (hb hby at_158) rfl (by decide) (by decide) (by decide) (by decide)
    obtain ⟨rfl, rfl, Kc8⟩ := hq8
    refine oGo.step (f' := (mkF m 161 #[.val (.int x0), .val (.int x1), .val (.int x2), .val (.int x3), .val (.int (0 : Int32)), .val (.double (FP.l2d A0)), .second, .val (.double (FP.l2d A1)), .second, .val (.double (FP.l2d A2)), .second, .val (.double (FP.l2d A3)), .second, .val (.double (FP.l2d A4)), .second, .val (.double (FP.l2d A5)), .second, .val (.double vv), .second, .val (.ref ar), .unset] [(.int (spec2 (FP.l2d A4) vv (4 : Int32) (0 : Int32))), (.int ((((spec2 (FP.l2d A0) vv (0 : Int32) (0 : Int32)) + (spec2 (FP.l2d A1) vv (1 : Int32) (0 : Int32))) + (spec2 (FP.l2d A2) vv (2 : Int32) (0 : Int32))) + (spec2 (FP.l2d A3) vv (3 : Int32) (0 : Int32))))])) st8 ?_
    have e8 : T8.heap = T1.heap := Kc8
    have X8 := o_same X8 rfl rfl
    refine o_iadd (pc' := 162) X8 hx (hb hby at_161)  rfl ?_
    refine o_dload (pc' := 164) X8 hx (hb hby at_162) rfl rfl ?_
    refine o_dload (pc' := 166) X8 hx (hb hby at_164) rfl rfl ?_
    refine o_iconst (pc' := 167) (v := (5 : Int32)) X8 hx (hb hby at_166) rfl rfl ?_
    refine o_iload (pc' := 169) X8 hx (hb hby at_167) rfl rfl ?_
    obtain ⟨r9, T9, L9, X9, hq9, st9⟩ := o_callS X8 hx hZ hown (hw _ (List.mem_of_getElem? (i := 6) rfl)) (hw _ (List.mem_of_getElem? (i := 7) rfl)) (hw _ (List.mem_of_getElem? (i := 3) rfl)) (hw _ (List.mem_of_getElem? (i := 8) rfl)) (by decide) (rm2 l Z a0 hw (FP.l2d A5) vv (5 : Int32) (0 : Int32) T1.heap n0 Z3 ) e8 (pc' := 172) (Ls := #[.val (.int x0), .val (.int x1), .val (.int x2), .val (.int x3), .val (.int (0 : Int32)), .val (.double (FP.l2d A0)), .second, .val (.double (FP.l2d A1)), .second, .val (.double (FP.l2d A2)), .second, .val (.double (FP.l2d A3)), .second, .val (.double (FP.l2d A4)), .second, .val (.double (FP.l2d A5)), .second, .val (.double vv), .second, .val (.ref ar), .unset]) (by rw [hml]; rfl) [(.double (FP.l2d A5)), (.double vv), (.int (5 : Int32)), (.int (0 : Int32))] [(.int (((((spec2 (FP.l2d A0) vv (0 : Int32) (0 : Int32)) + (spec2 (FP.l2d A1) vv (1 : Int32) (0 : Int32))) + (spec2 (FP.l2d A2) vv (2 : Int32) (0 : Int32))) + (spec2 (FP.l2d A3) vv (3 : Int32) (0 : Int32))) + (spec2 (FP.l2d A4) vv (4 : Int32) (0 : Int32))))] rfl pd1 rfl rfl 1 (Nat.le_of_eq rfl) (hb hby at_169) rfl (by decide) (by decide) (by decide) (by decide)
    obtain ⟨rfl, rfl, Kc9⟩ := hq9
    refine oGo.step (f' := (mkF m 172 #[.val (.int x0), .val (.int x1), .val (.int x2), .val (.int x3), .val (.int (0 : Int32)), .val (.double (FP.l2d A0)), .second, .val (.double (FP.l2d A1)), .second, .val (.double (FP.l2d A2)), .second, .val (.double (FP.l2d A3)), .second, .val (.double (FP.l2d A4)), .second, .val (.double (FP.l2d A5)), .second, .val (.double vv), .second, .val (.ref ar), .unset] [(.int (spec2 (FP.l2d A5) vv (5 : Int32) (0 : Int32))), (.int (((((spec2 (FP.l2d A0) vv (0 : Int32) (0 : Int32)) + (spec2 (FP.l2d A1) vv (1 : Int32) (0 : Int32))) + (spec2 (FP.l2d A2) vv (2 : Int32) (0 : Int32))) + (spec2 (FP.l2d A3) vv (3 : Int32) (0 : Int32))) + (spec2 (FP.l2d A4) vv (4 : Int32) (0 : Int32))))])) st9 ?_
    have e9 : T9.heap = T1.heap := Kc9
    have X9 := o_same X9 rfl rfl
    refine o_iadd (pc' := 173) X9 hx (hb hby at_172)  rfl ?_
    refine o_istore (pc' := 175) (l' := #[.val (.int x0), .val (.int x1), .val (.int x2), .val (.int x3), .val (.int (0 : Int32)), .val (.double (FP.l2d A0)), .second, .val (.double (FP.l2d A1)), .second, .val (.double (FP.l2d A2)), .second, .val (.double (FP.l2d A3)), .second, .val (.double (FP.l2d A4)), .second, .val (.double (FP.l2d A5)), .second, .val (.double vv), .second, .val (.ref ar), .val (.int ((((((spec2 (FP.l2d A0) vv (0 : Int32) (0 : Int32)) + (spec2 (FP.l2d A1) vv (1 : Int32) (0 : Int32))) + (spec2 (FP.l2d A2) vv (2 : Int32) (0 : Int32))) + (spec2 (FP.l2d A3) vv (3 : Int32) (0 : Int32))) + (spec2 (FP.l2d A4) vv (4 : Int32) (0 : Int32))) + (spec2 (FP.l2d A5) vv (5 : Int32) (0 : Int32))))]) X9 hx (hb hby at_173) rfl rfl ?_
    refine o_aload (pc' := 177) X9 hx (hb hby at_175) rfl rfl rfl ?_
    refine o_dload (pc' := 179) X9 hx (hb hby at_177) rfl rfl ?_
    obtain ⟨r10, T10, L10, X10, hq10, st10⟩ := o_callS X9 hx hZ hown (hw _ (List.mem_of_getElem? (i := 9) rfl)) (hw _ (List.mem_of_getElem? (i := 10) rfl)) (hw _ (List.mem_of_getElem? (i := 11) rfl)) (hw _ (List.mem_of_getElem? (i := 12) rfl)) (by decide) (rm3_0 l Z a0 hw ar vv T1.heap n0 Z3 A1_) e9 (pc' := 182) (Ls := #[.val (.int x0), .val (.int x1), .val (.int x2), .val (.int x3), .val (.int (0 : Int32)), .val (.double (FP.l2d A0)), .second, .val (.double (FP.l2d A1)), .second, .val (.double (FP.l2d A2)), .second, .val (.double (FP.l2d A3)), .second, .val (.double (FP.l2d A4)), .second, .val (.double (FP.l2d A5)), .second, .val (.double vv), .second, .val (.ref ar), .val (.int ((((((spec2 (FP.l2d A0) vv (0 : Int32) (0 : Int32)) + (spec2 (FP.l2d A1) vv (1 : Int32) (0 : Int32))) + (spec2 (FP.l2d A2) vv (2 : Int32) (0 : Int32))) + (spec2 (FP.l2d A3) vv (3 : Int32) (0 : Int32))) + (spec2 (FP.l2d A4) vv (4 : Int32) (0 : Int32))) + (spec2 (FP.l2d A5) vv (5 : Int32) (0 : Int32))))]) (by rw [hml]; rfl) [(.ref ar), (.double vv)] [] rfl pd2 rfl rfl 0 (Nat.le_of_eq rfl) (hb hby at_179) rfl (by decide) (by decide) (by decide) (by decide)
    obtain ⟨rfl, rfl, Kc10⟩ := hq10
    refine oGo.step (f' := (mkF m 182 #[.val (.int x0), .val (.int x1), .val (.int x2), .val (.int x3), .val (.int (0 : Int32)), .val (.double (FP.l2d A0)), .second, .val (.double (FP.l2d A1)), .second, .val (.double (FP.l2d A2)), .second, .val (.double (FP.l2d A3)), .second, .val (.double (FP.l2d A4)), .second, .val (.double (FP.l2d A5)), .second, .val (.double vv), .second, .val (.ref ar), .val (.int ((((((spec2 (FP.l2d A0) vv (0 : Int32) (0 : Int32)) + (spec2 (FP.l2d A1) vv (1 : Int32) (0 : Int32))) + (spec2 (FP.l2d A2) vv (2 : Int32) (0 : Int32))) + (spec2 (FP.l2d A3) vv (3 : Int32) (0 : Int32))) + (spec2 (FP.l2d A4) vv (4 : Int32) (0 : Int32))) + (spec2 (FP.l2d A5) vv (5 : Int32) (0 : Int32))))] [(.int (0 : Int32))])) st10 ?_
    have e10 : T10.heap = T1.heap := Kc10
    have X10 := o_same X10 rfl rfl
    refine o_iload (pc' := 184) X10 hx (hb hby at_182) rfl rfl ?_
    have hE : (0 : Int32) = ((((((spec2 (FP.l2d A0) vv (0 : Int32) (0 : Int32)) + (spec2 (FP.l2d A1) vv (1 : Int32) (0 : Int32))) + (spec2 (FP.l2d A2) vv (2 : Int32) (0 : Int32))) + (spec2 (FP.l2d A3) vv (3 : Int32) (0 : Int32))) + (spec2 (FP.l2d A4) vv (4 : Int32) (0 : Int32))) + (spec2 (FP.l2d A5) vv (5 : Int32) (0 : Int32))) := own_fin0 (q := 0) vv (FP.l2d A0) (FP.l2d A1) (FP.l2d A2) (FP.l2d A3) (FP.l2d A4) (FP.l2d A5)  
    refine o_icmpF (pc' := 187) X10 hx (hb hby at_184) (XT.ii_ne_f hE) rfl ?_
    refine o_iconst (pc' := 188) (v := (1 : Int32)) X10 hx (hb hby at_187) rfl rfl ?_
    refine o_goto (pc' := 192) X10 hx (hb hby at_188) (by decide) (by decide) ?_
    refine o_retZ X10 hx hret hlk (hb hby at_192) (by decide) (by decide) (by decide) ?_
    exact ⟨rfl, N1_⟩
  · rw [hn]
    refine o_iloadN (pc' := 10) X0 hx (hb hby at_9) rfl rfl ?_
    refine o_bipush (pc' := 12) (v := (63 : Int32)) X0 hx (hb hby at_10) rfl rfl ?_
    refine o_iand (pc' := 13) X0 hx (hb hby at_12)  rfl ?_
    refine o_bipush (pc' := 15) (v := (32 : Int32)) X0 hx (hb hby at_13) rfl rfl ?_
    refine o_isub (pc' := 16) X0 hx (hb hby at_15)  rfl ?_
    obtain ⟨A0, hA0⟩ : ∃ z, z = (((x1 &&& (63 : Int32)) - (32 : Int32))).toInt64 := ⟨_, rfl⟩
    have bA0 : -32 ≤ A0.toInt ∧ A0.toInt ≤ 31 := by rw [hA0, own_sub x1 63 32 6 (by decide) (by decide) (by decide)]; have : (32 : Int32).toInt = 32 := rfl; omega
    refine o_i2d (pc' := 17) (v := FP.l2d A0) X0 hx (hb hby at_16) (by rw [i2d_w, hA0]) rfl ?_
    refine o_dstore (pc' := 19) (l' := #[.val (.int x0), .val (.int x1), .val (.int x2), .val (.int x3), .val (.int (1 : Int32)), .val (.double (FP.l2d A0)), .second, .unset, .unset, .unset, .unset, .unset, .unset, .unset, .unset, .unset, .unset, .unset, .unset, .unset, .unset]) X0 hx (hb hby at_17) rfl rfl ?_
    refine o_dload (pc' := 21) X0 hx (hb hby at_19) rfl rfl ?_
    refine o_iloadN (pc' := 22) X0 hx (hb hby at_21) rfl rfl ?_
    refine o_iconst (pc' := 23) (v := (3 : Int32)) X0 hx (hb hby at_22) rfl rfl ?_
    refine o_iand (pc' := 24) X0 hx (hb hby at_23)  rfl ?_
    obtain ⟨S1, hS1⟩ : ∃ z, z = ((x2 &&& (3 : Int32))).toInt64 := ⟨_, rfl⟩
    have bS1 : 0 ≤ S1.toInt ∧ S1.toInt ≤ 3 := by rw [hS1]; exact own_s3 x2
    refine o_i2d (pc' := 25) (v := FP.l2d S1) X0 hx (hb hby at_24) (by rw [i2d_w, hS1]) rfl ?_
    obtain ⟨A1, hA1⟩ : ∃ z, z = A0 + S1 := ⟨_, rfl⟩
    have eA1 : A1.toInt = A0.toInt + S1.toInt := by rw [hA1]; exact own_add64 ⟨by omega, by omega⟩ bS1
    have bA1 : -32 ≤ A1.toInt ∧ A1.toInt ≤ 34 := ⟨by omega, by omega⟩
    have qA1 := dadd_w (own_b53 ⟨by omega, by omega⟩ : B53 A0) (own_b53 ⟨by omega, by omega⟩ : B53 S1)
    refine o_dadd (pc' := 26) (v := FP.l2d A1) X0 hx (hb hby at_25) (by rw [qA1]; exact (Jvm.Free.Fl.l2d_fin _).noNaN) (by rw [qA1, hA1]) rfl ?_
    refine o_dstore (pc' := 28) (l' := #[.val (.int x0), .val (.int x1), .val (.int x2), .val (.int x3), .val (.int (1 : Int32)), .val (.double (FP.l2d A0)), .second, .val (.double (FP.l2d A1)), .second, .unset, .unset, .unset, .unset, .unset, .unset, .unset, .unset, .unset, .unset, .unset, .unset]) X0 hx (hb hby at_26) rfl rfl ?_
    refine o_dload (pc' := 30) X0 hx (hb hby at_28) rfl rfl ?_
    refine o_iloadN (pc' := 31) X0 hx (hb hby at_30) rfl rfl ?_
    refine o_iconst (pc' := 32) (v := (2 : Int32)) X0 hx (hb hby at_31) rfl rfl ?_
    refine o_iushr (pc' := 33) X0 hx (hb hby at_32)  rfl ?_
    refine o_iconst (pc' := 34) (v := (3 : Int32)) X0 hx (hb hby at_33) rfl rfl ?_
    refine o_iand (pc' := 35) X0 hx (hb hby at_34)  rfl ?_
    obtain ⟨S2, hS2⟩ : ∃ z, z = (((XT.ushr x2 (2 : Int32)) &&& (3 : Int32))).toInt64 := ⟨_, rfl⟩
    have bS2 : 0 ≤ S2.toInt ∧ S2.toInt ≤ 3 := by rw [hS2]; exact own_s3 (XT.ushr x2 (2 : Int32))
    refine o_i2d (pc' := 36) (v := FP.l2d S2) X0 hx (hb hby at_35) (by rw [i2d_w, hS2]) rfl ?_
    obtain ⟨A2, hA2⟩ : ∃ z, z = A1 + S2 := ⟨_, rfl⟩
    have eA2 : A2.toInt = A1.toInt + S2.toInt := by rw [hA2]; exact own_add64 ⟨by omega, by omega⟩ bS2
    have bA2 : -32 ≤ A2.toInt ∧ A2.toInt ≤ 37 := ⟨by omega, by omega⟩
    have qA2 := dadd_w (own_b53 ⟨by omega, by omega⟩ : B53 A1) (own_b53 ⟨by omega, by omega⟩ : B53 S2)
    refine o_dadd (pc' := 37) (v := FP.l2d A2) X0 hx (hb hby at_36) (by rw [qA2]; exact (Jvm.Free.Fl.l2d_fin _).noNaN) (by rw [qA2, hA2]) rfl ?_
    refine o_dstore (pc' := 39) (l' := #[.val (.int x0), .val (.int x1), .val (.int x2), .val (.int x3), .val (.int (1 : Int32)), .val (.double (FP.l2d A0)), .second, .val (.double (FP.l2d A1)), .second, .val (.double (FP.l2d A2)), .second, .unset, .unset, .unset, .unset, .unset, .unset, .unset, .unset, .unset, .unset]) X0 hx (hb hby at_37) rfl rfl ?_
    refine o_dload (pc' := 41) X0 hx (hb hby at_39) rfl rfl ?_
    refine o_iloadN (pc' := 42) X0 hx (hb hby at_41) rfl rfl ?_
    refine o_iconst (pc' := 43) (v := (4 : Int32)) X0 hx (hb hby at_42) rfl rfl ?_
    refine o_iushr (pc' := 44) X0 hx (hb hby at_43)  rfl ?_
    refine o_iconst (pc' := 45) (v := (3 : Int32)) X0 hx (hb hby at_44) rfl rfl ?_
    refine o_iand (pc' := 46) X0 hx (hb hby at_45)  rfl ?_
    obtain ⟨S3, hS3⟩ : ∃ z, z = (((XT.ushr x2 (4 : Int32)) &&& (3 : Int32))).toInt64 := ⟨_, rfl⟩
    have bS3 : 0 ≤ S3.toInt ∧ S3.toInt ≤ 3 := by rw [hS3]; exact own_s3 (XT.ushr x2 (4 : Int32))
    refine o_i2d (pc' := 47) (v := FP.l2d S3) X0 hx (hb hby at_46) (by rw [i2d_w, hS3]) rfl ?_
    obtain ⟨A3, hA3⟩ : ∃ z, z = A2 + S3 := ⟨_, rfl⟩
    have eA3 : A3.toInt = A2.toInt + S3.toInt := by rw [hA3]; exact own_add64 ⟨by omega, by omega⟩ bS3
    have bA3 : -32 ≤ A3.toInt ∧ A3.toInt ≤ 40 := ⟨by omega, by omega⟩
    have qA3 := dadd_w (own_b53 ⟨by omega, by omega⟩ : B53 A2) (own_b53 ⟨by omega, by omega⟩ : B53 S3)
    refine o_dadd (pc' := 48) (v := FP.l2d A3) X0 hx (hb hby at_47) (by rw [qA3]; exact (Jvm.Free.Fl.l2d_fin _).noNaN) (by rw [qA3, hA3]) rfl ?_
    refine o_dstore (pc' := 50) (l' := #[.val (.int x0), .val (.int x1), .val (.int x2), .val (.int x3), .val (.int (1 : Int32)), .val (.double (FP.l2d A0)), .second, .val (.double (FP.l2d A1)), .second, .val (.double (FP.l2d A2)), .second, .val (.double (FP.l2d A3)), .second, .unset, .unset, .unset, .unset, .unset, .unset, .unset, .unset]) X0 hx (hb hby at_48) rfl rfl ?_
    refine o_dload (pc' := 52) X0 hx (hb hby at_50) rfl rfl ?_
    refine o_iloadN (pc' := 53) X0 hx (hb hby at_52) rfl rfl ?_
    refine o_bipush (pc' := 55) (v := (6 : Int32)) X0 hx (hb hby at_53) rfl rfl ?_
    refine o_iushr (pc' := 56) X0 hx (hb hby at_55)  rfl ?_
    refine o_iconst (pc' := 57) (v := (3 : Int32)) X0 hx (hb hby at_56) rfl rfl ?_
    refine o_iand (pc' := 58) X0 hx (hb hby at_57)  rfl ?_
    obtain ⟨S4, hS4⟩ : ∃ z, z = (((XT.ushr x2 (6 : Int32)) &&& (3 : Int32))).toInt64 := ⟨_, rfl⟩
    have bS4 : 0 ≤ S4.toInt ∧ S4.toInt ≤ 3 := by rw [hS4]; exact own_s3 (XT.ushr x2 (6 : Int32))
    refine o_i2d (pc' := 59) (v := FP.l2d S4) X0 hx (hb hby at_58) (by rw [i2d_w, hS4]) rfl ?_
    obtain ⟨A4, hA4⟩ : ∃ z, z = A3 + S4 := ⟨_, rfl⟩
    have eA4 : A4.toInt = A3.toInt + S4.toInt := by rw [hA4]; exact own_add64 ⟨by omega, by omega⟩ bS4
    have bA4 : -32 ≤ A4.toInt ∧ A4.toInt ≤ 43 := ⟨by omega, by omega⟩
    have qA4 := dadd_w (own_b53 ⟨by omega, by omega⟩ : B53 A3) (own_b53 ⟨by omega, by omega⟩ : B53 S4)
    refine o_dadd (pc' := 60) (v := FP.l2d A4) X0 hx (hb hby at_59) (by rw [qA4]; exact (Jvm.Free.Fl.l2d_fin _).noNaN) (by rw [qA4, hA4]) rfl ?_
    refine o_dstore (pc' := 62) (l' := #[.val (.int x0), .val (.int x1), .val (.int x2), .val (.int x3), .val (.int (1 : Int32)), .val (.double (FP.l2d A0)), .second, .val (.double (FP.l2d A1)), .second, .val (.double (FP.l2d A2)), .second, .val (.double (FP.l2d A3)), .second, .val (.double (FP.l2d A4)), .second, .unset, .unset, .unset, .unset, .unset, .unset]) X0 hx (hb hby at_60) rfl rfl ?_
    refine o_dload (pc' := 64) X0 hx (hb hby at_62) rfl rfl ?_
    refine o_iloadN (pc' := 65) X0 hx (hb hby at_64) rfl rfl ?_
    refine o_bipush (pc' := 67) (v := (8 : Int32)) X0 hx (hb hby at_65) rfl rfl ?_
    refine o_iushr (pc' := 68) X0 hx (hb hby at_67)  rfl ?_
    refine o_iconst (pc' := 69) (v := (3 : Int32)) X0 hx (hb hby at_68) rfl rfl ?_
    refine o_iand (pc' := 70) X0 hx (hb hby at_69)  rfl ?_
    obtain ⟨S5, hS5⟩ : ∃ z, z = (((XT.ushr x2 (8 : Int32)) &&& (3 : Int32))).toInt64 := ⟨_, rfl⟩
    have bS5 : 0 ≤ S5.toInt ∧ S5.toInt ≤ 3 := by rw [hS5]; exact own_s3 (XT.ushr x2 (8 : Int32))
    refine o_i2d (pc' := 71) (v := FP.l2d S5) X0 hx (hb hby at_70) (by rw [i2d_w, hS5]) rfl ?_
    obtain ⟨A5, hA5⟩ : ∃ z, z = A4 + S5 := ⟨_, rfl⟩
    have eA5 : A5.toInt = A4.toInt + S5.toInt := by rw [hA5]; exact own_add64 ⟨by omega, by omega⟩ bS5
    have bA5 : -32 ≤ A5.toInt ∧ A5.toInt ≤ 46 := ⟨by omega, by omega⟩
    have qA5 := dadd_w (own_b53 ⟨by omega, by omega⟩ : B53 A4) (own_b53 ⟨by omega, by omega⟩ : B53 S5)
    refine o_dadd (pc' := 72) (v := FP.l2d A5) X0 hx (hb hby at_71) (by rw [qA5]; exact (Jvm.Free.Fl.l2d_fin _).noNaN) (by rw [qA5, hA5]) rfl ?_
    refine o_dstore (pc' := 74) (l' := #[.val (.int x0), .val (.int x1), .val (.int x2), .val (.int x3), .val (.int (1 : Int32)), .val (.double (FP.l2d A0)), .second, .val (.double (FP.l2d A1)), .second, .val (.double (FP.l2d A2)), .second, .val (.double (FP.l2d A3)), .second, .val (.double (FP.l2d A4)), .second, .val (.double (FP.l2d A5)), .second, .unset, .unset, .unset, .unset]) X0 hx (hb hby at_72) rfl rfl ?_
    refine o_iloadN (pc' := 75) X0 hx (hb hby at_74) rfl rfl ?_
    refine o_sipush (pc' := 78) (v := (255 : Int32)) X0 hx (hb hby at_75) rfl rfl ?_
    refine o_iand (pc' := 79) X0 hx (hb hby at_78)  rfl ?_
    refine o_bipush (pc' := 81) (v := (96 : Int32)) X0 hx (hb hby at_79) rfl rfl ?_
    refine o_isub (pc' := 82) X0 hx (hb hby at_81)  rfl ?_
    obtain ⟨Q0, hQ0⟩ : ∃ z, z = (((x3 &&& (255 : Int32)) - (96 : Int32))).toInt64 := ⟨_, rfl⟩
    have bQ0 : -96 ≤ Q0.toInt ∧ Q0.toInt ≤ 159 := by rw [hQ0, own_sub x3 255 96 8 (by decide) (by decide) (by decide)]; have : (96 : Int32).toInt = 96 := rfl; omega
    refine o_i2d (pc' := 83) (v := FP.l2d Q0) X0 hx (hb hby at_82) (by rw [i2d_w, hQ0]) rfl ?_
    refine o_ldc2d (pc' := 86) (b := (4611686018427387904 : UInt64)) X0 hx hZ hown (hw _ (List.mem_of_getElem? (i := 0) rfl)) (hb hby at_83) rfl ?_
    obtain ⟨vv, hvv⟩ : ∃ z, z = FP.ddiv (FP.l2d Q0) (4611686018427387904 : UInt64) := ⟨_, rfl⟩
    refine o_ddiv (pc' := 87) (v := vv) X0 hx (hb hby at_86) (own_nn bQ0.1 bQ0.2) hvv.symm rfl ?_
    refine o_dstore (pc' := 89) (l' := #[.val (.int x0), .val (.int x1), .val (.int x2), .val (.int x3), .val (.int (1 : Int32)), .val (.double (FP.l2d A0)), .second, .val (.double (FP.l2d A1)), .second, .val (.double (FP.l2d A2)), .second, .val (.double (FP.l2d A3)), .second, .val (.double (FP.l2d A4)), .second, .val (.double (FP.l2d A5)), .second, .val (.double vv), .second, .unset, .unset]) X0 hx (hb hby at_87) rfl rfl ?_
    refine o_iload (pc' := 91) X0 hx (hb hby at_89) rfl rfl ?_
    refine o_dload (pc' := 93) X0 hx (hb hby at_91) rfl rfl ?_
    refine o_dload (pc' := 95) X0 hx (hb hby at_93) rfl rfl ?_
    refine o_dload (pc' := 97) X0 hx (hb hby at_95) rfl rfl ?_
    refine o_dload (pc' := 99) X0 hx (hb hby at_97) rfl rfl ?_
    refine o_dload (pc' := 101) X0 hx (hb hby at_99) rfl rfl ?_
    refine o_dload (pc' := 103) X0 hx (hb hby at_101) rfl rfl ?_
    obtain ⟨r11, T11, L11, X11, hq11, st11⟩ := o_callS X0 hx hZ hown (hw _ (List.mem_of_getElem? (i := 1) rfl)) (hw _ (List.mem_of_getElem? (i := 2) rfl)) (hw _ (List.mem_of_getElem? (i := 3) rfl)) (hw _ (List.mem_of_getElem? (i := 4) rfl)) (by decide) (rm1_1 l Z a0 hw (FP.l2d A0) (FP.l2d A1) (FP.l2d A2) (FP.l2d A3) (FP.l2d A4) (FP.l2d A5) h0 n0 Z0) e0 (pc' := 106) (Ls := #[.val (.int x0), .val (.int x1), .val (.int x2), .val (.int x3), .val (.int (1 : Int32)), .val (.double (FP.l2d A0)), .second, .val (.double (FP.l2d A1)), .second, .val (.double (FP.l2d A2)), .second, .val (.double (FP.l2d A3)), .second, .val (.double (FP.l2d A4)), .second, .val (.double (FP.l2d A5)), .second, .val (.double vv), .second, .unset, .unset]) (by rw [hml]; rfl) [(.int (1 : Int32)), (.double (FP.l2d A0)), (.double (FP.l2d A1)), (.double (FP.l2d A2)), (.double (FP.l2d A3)), (.double (FP.l2d A4)), (.double (FP.l2d A5))] [] rfl pd0 rfl rfl 0 (Nat.le_of_eq rfl) (hb hby at_103) rfl (by decide) (by decide) (by decide) (by decide)
    obtain ⟨rfl, N11, Kc11, A11_⟩ := hq11
    have ge_ar : n0 ≤ h0.size := Z0
    obtain ⟨ar, g_ar⟩ : ∃ z, z = h0.size := ⟨_, rfl⟩
    rw [← g_ar] at ge_ar st11 A11_
    refine oGo.step (f' := (mkF m 106 #[.val (.int x0), .val (.int x1), .val (.int x2), .val (.int x3), .val (.int (1 : Int32)), .val (.double (FP.l2d A0)), .second, .val (.double (FP.l2d A1)), .second, .val (.double (FP.l2d A2)), .second, .val (.double (FP.l2d A3)), .second, .val (.double (FP.l2d A4)), .second, .val (.double (FP.l2d A5)), .second, .val (.double vv), .second, .unset, .unset] [(.ref ar)])) st11 ?_
    have N11_ := Fr.app N0 N11
    have K12 := Kc11
    have Z13 := Nat.le_trans Z0 K12.1
    refine o_astore (pc' := 108) (l' := #[.val (.int x0), .val (.int x1), .val (.int x2), .val (.int x3), .val (.int (1 : Int32)), .val (.double (FP.l2d A0)), .second, .val (.double (FP.l2d A1)), .second, .val (.double (FP.l2d A2)), .second, .val (.double (FP.l2d A3)), .second, .val (.double (FP.l2d A4)), .second, .val (.double (FP.l2d A5)), .second, .val (.double vv), .second, .val (.ref ar), .unset]) X11 hx (hb hby at_106) rfl rfl rfl ?_
    refine o_dload (pc' := 110) X11 hx (hb hby at_108) rfl rfl ?_
    refine o_dload (pc' := 112) X11 hx (hb hby at_110) rfl rfl ?_
    refine o_iconst (pc' := 113) (v := (0 : Int32)) X11 hx (hb hby at_112) rfl rfl ?_
    refine o_iload (pc' := 115) X11 hx (hb hby at_113) rfl rfl ?_
    obtain ⟨r14, T14, L14, X14, hq14, st14⟩ := o_callS X11 hx hZ hown (hw _ (List.mem_of_getElem? (i := 6) rfl)) (hw _ (List.mem_of_getElem? (i := 7) rfl)) (hw _ (List.mem_of_getElem? (i := 3) rfl)) (hw _ (List.mem_of_getElem? (i := 8) rfl)) (by decide) (rm2 l Z a0 hw (FP.l2d A0) vv (0 : Int32) (1 : Int32) T11.heap n0 Z13 ) (rfl : T11.heap = _) (pc' := 118) (Ls := #[.val (.int x0), .val (.int x1), .val (.int x2), .val (.int x3), .val (.int (1 : Int32)), .val (.double (FP.l2d A0)), .second, .val (.double (FP.l2d A1)), .second, .val (.double (FP.l2d A2)), .second, .val (.double (FP.l2d A3)), .second, .val (.double (FP.l2d A4)), .second, .val (.double (FP.l2d A5)), .second, .val (.double vv), .second, .val (.ref ar), .unset]) (by rw [hml]; rfl) [(.double (FP.l2d A0)), (.double vv), (.int (0 : Int32)), (.int (1 : Int32))] [] rfl pd1 rfl rfl 0 (Nat.le_of_eq rfl) (hb hby at_115) rfl (by decide) (by decide) (by decide) (by decide)
    obtain ⟨rfl, rfl, Kc14⟩ := hq14
    refine oGo.step (f' := (mkF m 118 #[.val (.int x0), .val (.int x1), .val (.int x2), .val (.int x3), .val (.int (1 : Int32)), .val (.double (FP.l2d A0)), .second, .val (.double (FP.l2d A1)), .second, .val (.double (FP.l2d A2)), .second, .val (.double (FP.l2d A3)), .second, .val (.double (FP.l2d A4)), .second, .val (.double (FP.l2d A5)), .second, .val (.double vv), .second, .val (.ref ar), .unset] [(.int (spec2 (FP.l2d A0) vv (0 : Int32) (1 : Int32)))])) st14 ?_
    have e14 : T14.heap = T11.heap := Kc14
    have X14 := o_same X14 rfl rfl
    refine o_dload (pc' := 120) X14 hx (hb hby at_118) rfl rfl ?_
    refine o_dload (pc' := 122) X14 hx (hb hby at_120) rfl rfl ?_
    refine o_iconst (pc' := 123) (v := (1 : Int32)) X14 hx (hb hby at_122) rfl rfl ?_
    refine o_iload (pc' := 125) X14 hx (hb hby at_123) rfl rfl ?_
    obtain ⟨r15, T15, L15, X15, hq15, st15⟩ := o_callS X14 hx hZ hown (hw _ (List.mem_of_getElem? (i := 6) rfl)) (hw _ (List.mem_of_getElem? (i := 7) rfl)) (hw _ (List.mem_of_getElem? (i := 3) rfl)) (hw _ (List.mem_of_getElem? (i := 8) rfl)) (by decide) (rm2 l Z a0 hw (FP.l2d A1) vv (1 : Int32) (1 : Int32) T11.heap n0 Z13 ) e14 (pc' := 128) (Ls := #[.val (.int x0), .val (.int x1), .val (.int x2), .val (.int x3), .val (.int (1 : Int32)), .val (.double (FP.l2d A0)), .second, .val (.double (FP.l2d A1)), .second, .val (.double (FP.l2d A2)), .second, .val (.double (FP.l2d A3)), .second, .val (.double (FP.l2d A4)), .second, .val (.double (FP.l2d A5)), .second, .val (.double vv), .second, .val (.ref ar), .unset]) (by rw [hml]; rfl) [(.double (FP.l2d A1)), (.double vv), (.int (1 : Int32)), (.int (1 : Int32))] [(.int (spec2 (FP.l2d A0) vv (0 : Int32) (1 : Int32)))] rfl pd1 rfl rfl 1 (Nat.le_of_eq rfl) (hb hby at_125) rfl (by decide) (by decide) (by decide) (by decide)
    obtain ⟨rfl, rfl, Kc15⟩ := hq15
    refine oGo.step (f' := (mkF m 128 #[.val (.int x0), .val (.int x1), .val (.int x2), .val (.int x3), .val (.int (1 : Int32)), .val (.double (FP.l2d A0)), .second, .val (.double (FP.l2d A1)), .second, .val (.double (FP.l2d A2)), .second, .val (.double (FP.l2d A3)), .second, .val (.double (FP.l2d A4)), .second, .val (.double (FP.l2d A5)), .second, .val (.double vv), .second, .val (.ref ar), .unset] [(.int (spec2 (FP.l2d A1) vv (1 : Int32) (1 : Int32))), (.int (spec2 (FP.l2d A0) vv (0 : Int32) (1 : Int32)))])) st15 ?_
    have e15 : T15.heap = T11.heap := Kc15
    have X15 := o_same X15 rfl rfl
    refine o_iadd (pc' := 129) X15 hx (hb hby at_128)  rfl ?_
    refine o_dload (pc' := 131) X15 hx (hb hby at_129) rfl rfl ?_
    refine o_dload (pc' := 133) X15 hx (hb hby at_131) rfl rfl ?_
    refine o_iconst (pc' := 134) (v := (2 : Int32)) X15 hx (hb hby at_133) rfl rfl ?_
    refine o_iload (pc' := 136) X15 hx (hb hby at_134) rfl rfl ?_
    obtain ⟨r16, T16, L16, X16, hq16, st16⟩ := o_callS X15 hx hZ hown (hw _ (List.mem_of_getElem? (i := 6) rfl)) (hw _ (List.mem_of_getElem? (i := 7) rfl)) (hw _ (List.mem_of_getElem? (i := 3) rfl)) (hw _ (List.mem_of_getElem? (i := 8) rfl)) (by decide) (rm2 l Z a0 hw (FP.l2d A2) vv (2 : Int32) (1 : Int32) T11.heap n0 Z13 ) e15 (pc' := 139) (Ls := #[.val (.int x0), .val (.int x1), .val (.int x2), .val (.int x3), .val (.int (1 : Int32)), .val (.double (FP.l2d A0)), .second, .val (.double (FP.l2d A1)), .second, .val (.double (FP.l2d A2)), .second, .val (.double (FP.l2d A3)), .second, .val (.double (FP.l2d A4)), .second, .val (.double (FP.l2d A5)), .second, .val (.double vv), .second, .val (.ref ar), .unset]) (by rw [hml]; rfl) [(.double (FP.l2d A2)), (.double vv), (.int (2 : Int32)), (.int (1 : Int32))] [(.int ((spec2 (FP.l2d A0) vv (0 : Int32) (1 : Int32)) + (spec2 (FP.l2d A1) vv (1 : Int32) (1 : Int32))))] rfl pd1 rfl rfl 1 (Nat.le_of_eq rfl) (hb hby at_136) rfl (by decide) (by decide) (by decide) (by decide)
    obtain ⟨rfl, rfl, Kc16⟩ := hq16
    refine oGo.step (f' := (mkF m 139 #[.val (.int x0), .val (.int x1), .val (.int x2), .val (.int x3), .val (.int (1 : Int32)), .val (.double (FP.l2d A0)), .second, .val (.double (FP.l2d A1)), .second, .val (.double (FP.l2d A2)), .second, .val (.double (FP.l2d A3)), .second, .val (.double (FP.l2d A4)), .second, .val (.double (FP.l2d A5)), .second, .val (.double vv), .second, .val (.ref ar), .unset] [(.int (spec2 (FP.l2d A2) vv (2 : Int32) (1 : Int32))), (.int ((spec2 (FP.l2d A0) vv (0 : Int32) (1 : Int32)) + (spec2 (FP.l2d A1) vv (1 : Int32) (1 : Int32))))])) st16 ?_
    have e16 : T16.heap = T11.heap := Kc16
    have X16 := o_same X16 rfl rfl
    refine o_iadd (pc' := 140) X16 hx (hb hby at_139)  rfl ?_
    refine o_dload (pc' := 142) X16 hx (hb hby at_140) rfl rfl ?_
    refine o_dload (pc' := 144) X16 hx (hb hby at_142) rfl rfl ?_
    refine o_iconst (pc' := 145) (v := (3 : Int32)) X16 hx (hb hby at_144) rfl rfl ?_
    refine o_iload (pc' := 147) X16 hx (hb hby at_145) rfl rfl ?_
    obtain ⟨r17, T17, L17, X17, hq17, st17⟩ := o_callS X16 hx hZ hown (hw _ (List.mem_of_getElem? (i := 6) rfl)) (hw _ (List.mem_of_getElem? (i := 7) rfl)) (hw _ (List.mem_of_getElem? (i := 3) rfl)) (hw _ (List.mem_of_getElem? (i := 8) rfl)) (by decide) (rm2 l Z a0 hw (FP.l2d A3) vv (3 : Int32) (1 : Int32) T11.heap n0 Z13 ) e16 (pc' := 150) (Ls := #[.val (.int x0), .val (.int x1), .val (.int x2), .val (.int x3), .val (.int (1 : Int32)), .val (.double (FP.l2d A0)), .second, .val (.double (FP.l2d A1)), .second, .val (.double (FP.l2d A2)), .second, .val (.double (FP.l2d A3)), .second, .val (.double (FP.l2d A4)), .second, .val (.double (FP.l2d A5)), .second, .val (.double vv), .second, .val (.ref ar), .unset]) (by rw [hml]; rfl) [(.double (FP.l2d A3)), (.double vv), (.int (3 : Int32)), (.int (1 : Int32))] [(.int (((spec2 (FP.l2d A0) vv (0 : Int32) (1 : Int32)) + (spec2 (FP.l2d A1) vv (1 : Int32) (1 : Int32))) + (spec2 (FP.l2d A2) vv (2 : Int32) (1 : Int32))))] rfl pd1 rfl rfl 1 (Nat.le_of_eq rfl) (hb hby at_147) rfl (by decide) (by decide) (by decide) (by decide)
    obtain ⟨rfl, rfl, Kc17⟩ := hq17
    refine oGo.step (f' := (mkF m 150 #[.val (.int x0), .val (.int x1), .val (.int x2), .val (.int x3), .val (.int (1 : Int32)), .val (.double (FP.l2d A0)), .second, .val (.double (FP.l2d A1)), .second, .val (.double (FP.l2d A2)), .second, .val (.double (FP.l2d A3)), .second, .val (.double (FP.l2d A4)), .second, .val (.double (FP.l2d A5)), .second, .val (.double vv), .second, .val (.ref ar), .unset] [(.int (spec2 (FP.l2d A3) vv (3 : Int32) (1 : Int32))), (.int (((spec2 (FP.l2d A0) vv (0 : Int32) (1 : Int32)) + (spec2 (FP.l2d A1) vv (1 : Int32) (1 : Int32))) + (spec2 (FP.l2d A2) vv (2 : Int32) (1 : Int32))))])) st17 ?_
    have e17 : T17.heap = T11.heap := Kc17
    have X17 := o_same X17 rfl rfl
    refine o_iadd (pc' := 151) X17 hx (hb hby at_150)  rfl ?_
    refine o_dload (pc' := 153) X17 hx (hb hby at_151) rfl rfl ?_
    refine o_dload (pc' := 155) X17 hx (hb hby at_153) rfl rfl ?_
    refine o_iconst (pc' := 156) (v := (4 : Int32)) X17 hx (hb hby at_155) rfl rfl ?_
    refine o_iload (pc' := 158) X17 hx (hb hby at_156) rfl rfl ?_
    obtain ⟨r18, T18, L18, X18, hq18, st18⟩ := o_callS X17 hx hZ hown (hw _ (List.mem_of_getElem? (i := 6) rfl)) (hw _ (List.mem_of_getElem? (i := 7) rfl)) (hw _ (List.mem_of_getElem? (i := 3) rfl)) (hw _ (List.mem_of_getElem? (i := 8) rfl)) (by decide) (rm2 l Z a0 hw (FP.l2d A4) vv (4 : Int32) (1 : Int32) T11.heap n0 Z13 ) e17 (pc' := 161) (Ls := #[.val (.int x0), .val (.int x1), .val (.int x2), .val (.int x3), .val (.int (1 : Int32)), .val (.double (FP.l2d A0)), .second, .val (.double (FP.l2d A1)), .second, .val (.double (FP.l2d A2)), .second, .val (.double (FP.l2d A3)), .second, .val (.double (FP.l2d A4)), .second, .val (.double (FP.l2d A5)), .second, .val (.double vv), .second, .val (.ref ar), .unset]) (by rw [hml]; rfl) [(.double (FP.l2d A4)), (.double vv), (.int (4 : Int32)), (.int (1 : Int32))] [(.int ((((spec2 (FP.l2d A0) vv (0 : Int32) (1 : Int32)) + (spec2 (FP.l2d A1) vv (1 : Int32) (1 : Int32))) + (spec2 (FP.l2d A2) vv (2 : Int32) (1 : Int32))) + (spec2 (FP.l2d A3) vv (3 : Int32) (1 : Int32))))] rfl pd1 rfl rfl 1 (Nat.le_of_eq rfl) (hb hby at_158) rfl (by decide) (by decide) (by decide) (by decide)
    obtain ⟨rfl, rfl, Kc18⟩ := hq18
    refine oGo.step (f' := (mkF m 161 #[.val (.int x0), .val (.int x1), .val (.int x2), .val (.int x3), .val (.int (1 : Int32)), .val (.double (FP.l2d A0)), .second, .val (.double (FP.l2d A1)), .second, .val (.double (FP.l2d A2)), .second, .val (.double (FP.l2d A3)), .second, .val (.double (FP.l2d A4)), .second, .val (.double (FP.l2d A5)), .second, .val (.double vv), .second, .val (.ref ar), .unset] [(.int (spec2 (FP.l2d A4) vv (4 : Int32) (1 : Int32))), (.int ((((spec2 (FP.l2d A0) vv (0 : Int32) (1 : Int32)) + (spec2 (FP.l2d A1) vv (1 : Int32) (1 : Int32))) + (spec2 (FP.l2d A2) vv (2 : Int32) (1 : Int32))) + (spec2 (FP.l2d A3) vv (3 : Int32) (1 : Int32))))])) st18 ?_
    have e18 : T18.heap = T11.heap := Kc18
    have X18 := o_same X18 rfl rfl
    refine o_iadd (pc' := 162) X18 hx (hb hby at_161)  rfl ?_
    refine o_dload (pc' := 164) X18 hx (hb hby at_162) rfl rfl ?_
    refine o_dload (pc' := 166) X18 hx (hb hby at_164) rfl rfl ?_
    refine o_iconst (pc' := 167) (v := (5 : Int32)) X18 hx (hb hby at_166) rfl rfl ?_
    refine o_iload (pc' := 169) X18 hx (hb hby at_167) rfl rfl ?_
    obtain ⟨r19, T19, L19, X19, hq19, st19⟩ := o_callS X18 hx hZ hown (hw _ (List.mem_of_getElem? (i := 6) rfl)) (hw _ (List.mem_of_getElem? (i := 7) rfl)) (hw _ (List.mem_of_getElem? (i := 3) rfl)) (hw _ (List.mem_of_getElem? (i := 8) rfl)) (by decide) (rm2 l Z a0 hw (FP.l2d A5) vv (5 : Int32) (1 : Int32) T11.heap n0 Z13 ) e18 (pc' := 172) (Ls := #[.val (.int x0), .val (.int x1), .val (.int x2), .val (.int x3), .val (.int (1 : Int32)), .val (.double (FP.l2d A0)), .second, .val (.double (FP.l2d A1)), .second, .val (.double (FP.l2d A2)), .second, .val (.double (FP.l2d A3)), .second, .val (.double (FP.l2d A4)), .second, .val (.double (FP.l2d A5)), .second, .val (.double vv), .second, .val (.ref ar), .unset]) (by rw [hml]; rfl) [(.double (FP.l2d A5)), (.double vv), (.int (5 : Int32)), (.int (1 : Int32))] [(.int (((((spec2 (FP.l2d A0) vv (0 : Int32) (1 : Int32)) + (spec2 (FP.l2d A1) vv (1 : Int32) (1 : Int32))) + (spec2 (FP.l2d A2) vv (2 : Int32) (1 : Int32))) + (spec2 (FP.l2d A3) vv (3 : Int32) (1 : Int32))) + (spec2 (FP.l2d A4) vv (4 : Int32) (1 : Int32))))] rfl pd1 rfl rfl 1 (Nat.le_of_eq rfl) (hb hby at_169) rfl (by decide) (by decide) (by decide) (by decide)
    obtain ⟨rfl, rfl, Kc19⟩ := hq19
    refine oGo.step (f' := (mkF m 172 #[.val (.int x0), .val (.int x1), .val (.int x2), .val (.int x3), .val (.int (1 : Int32)), .val (.double (FP.l2d A0)), .second, .val (.double (FP.l2d A1)), .second, .val (.double (FP.l2d A2)), .second, .val (.double (FP.l2d A3)), .second, .val (.double (FP.l2d A4)), .second, .val (.double (FP.l2d A5)), .second, .val (.double vv), .second, .val (.ref ar), .unset] [(.int (spec2 (FP.l2d A5) vv (5 : Int32) (1 : Int32))), (.int (((((spec2 (FP.l2d A0) vv (0 : Int32) (1 : Int32)) + (spec2 (FP.l2d A1) vv (1 : Int32) (1 : Int32))) + (spec2 (FP.l2d A2) vv (2 : Int32) (1 : Int32))) + (spec2 (FP.l2d A3) vv (3 : Int32) (1 : Int32))) + (spec2 (FP.l2d A4) vv (4 : Int32) (1 : Int32))))])) st19 ?_
    have e19 : T19.heap = T11.heap := Kc19
    have X19 := o_same X19 rfl rfl
    refine o_iadd (pc' := 173) X19 hx (hb hby at_172)  rfl ?_
    refine o_istore (pc' := 175) (l' := #[.val (.int x0), .val (.int x1), .val (.int x2), .val (.int x3), .val (.int (1 : Int32)), .val (.double (FP.l2d A0)), .second, .val (.double (FP.l2d A1)), .second, .val (.double (FP.l2d A2)), .second, .val (.double (FP.l2d A3)), .second, .val (.double (FP.l2d A4)), .second, .val (.double (FP.l2d A5)), .second, .val (.double vv), .second, .val (.ref ar), .val (.int ((((((spec2 (FP.l2d A0) vv (0 : Int32) (1 : Int32)) + (spec2 (FP.l2d A1) vv (1 : Int32) (1 : Int32))) + (spec2 (FP.l2d A2) vv (2 : Int32) (1 : Int32))) + (spec2 (FP.l2d A3) vv (3 : Int32) (1 : Int32))) + (spec2 (FP.l2d A4) vv (4 : Int32) (1 : Int32))) + (spec2 (FP.l2d A5) vv (5 : Int32) (1 : Int32))))]) X19 hx (hb hby at_173) rfl rfl ?_
    refine o_aload (pc' := 177) X19 hx (hb hby at_175) rfl rfl rfl ?_
    refine o_dload (pc' := 179) X19 hx (hb hby at_177) rfl rfl ?_
    obtain ⟨r20, T20, L20, X20, hq20, st20⟩ := o_callS X19 hx hZ hown (hw _ (List.mem_of_getElem? (i := 9) rfl)) (hw _ (List.mem_of_getElem? (i := 10) rfl)) (hw _ (List.mem_of_getElem? (i := 11) rfl)) (hw _ (List.mem_of_getElem? (i := 12) rfl)) (by decide) (rm3_1 l Z a0 hw ar vv (FP.l2d A0) T11.heap n0 Z13 A11_) e19 (pc' := 182) (Ls := #[.val (.int x0), .val (.int x1), .val (.int x2), .val (.int x3), .val (.int (1 : Int32)), .val (.double (FP.l2d A0)), .second, .val (.double (FP.l2d A1)), .second, .val (.double (FP.l2d A2)), .second, .val (.double (FP.l2d A3)), .second, .val (.double (FP.l2d A4)), .second, .val (.double (FP.l2d A5)), .second, .val (.double vv), .second, .val (.ref ar), .val (.int ((((((spec2 (FP.l2d A0) vv (0 : Int32) (1 : Int32)) + (spec2 (FP.l2d A1) vv (1 : Int32) (1 : Int32))) + (spec2 (FP.l2d A2) vv (2 : Int32) (1 : Int32))) + (spec2 (FP.l2d A3) vv (3 : Int32) (1 : Int32))) + (spec2 (FP.l2d A4) vv (4 : Int32) (1 : Int32))) + (spec2 (FP.l2d A5) vv (5 : Int32) (1 : Int32))))]) (by rw [hml]; rfl) [(.ref ar), (.double vv)] [] rfl pd2 rfl rfl 0 (Nat.le_of_eq rfl) (hb hby at_179) rfl (by decide) (by decide) (by decide) (by decide)
    obtain ⟨rfl, rfl, Kc20⟩ := hq20
    refine oGo.step (f' := (mkF m 182 #[.val (.int x0), .val (.int x1), .val (.int x2), .val (.int x3), .val (.int (1 : Int32)), .val (.double (FP.l2d A0)), .second, .val (.double (FP.l2d A1)), .second, .val (.double (FP.l2d A2)), .second, .val (.double (FP.l2d A3)), .second, .val (.double (FP.l2d A4)), .second, .val (.double (FP.l2d A5)), .second, .val (.double vv), .second, .val (.ref ar), .val (.int ((((((spec2 (FP.l2d A0) vv (0 : Int32) (1 : Int32)) + (spec2 (FP.l2d A1) vv (1 : Int32) (1 : Int32))) + (spec2 (FP.l2d A2) vv (2 : Int32) (1 : Int32))) + (spec2 (FP.l2d A3) vv (3 : Int32) (1 : Int32))) + (spec2 (FP.l2d A4) vv (4 : Int32) (1 : Int32))) + (spec2 (FP.l2d A5) vv (5 : Int32) (1 : Int32))))] [(.int (spec3_1 vv (FP.l2d A0)))])) st20 ?_
    have e20 : T20.heap = T11.heap := Kc20
    have X20 := o_same X20 rfl rfl
    refine o_iload (pc' := 184) X20 hx (hb hby at_182) rfl rfl ?_
    have k0 := own_cmp bA0.1 (by omega) bQ0.1 bQ0.2
    rw [← hvv] at k0
    have hE : (spec3_1 vv (FP.l2d A0)) = ((((((spec2 (FP.l2d A0) vv (0 : Int32) (1 : Int32)) + (spec2 (FP.l2d A1) vv (1 : Int32) (1 : Int32))) + (spec2 (FP.l2d A2) vv (2 : Int32) (1 : Int32))) + (spec2 (FP.l2d A3) vv (3 : Int32) (1 : Int32))) + (spec2 (FP.l2d A4) vv (4 : Int32) (1 : Int32))) + (spec2 (FP.l2d A5) vv (5 : Int32) (1 : Int32))) := own_fin1 vv (FP.l2d A0) (FP.l2d A1) (FP.l2d A2) (FP.l2d A3) (FP.l2d A4) (FP.l2d A5) k0 
    refine o_icmpF (pc' := 187) X20 hx (hb hby at_184) (XT.ii_ne_f hE) rfl ?_
    refine o_iconst (pc' := 188) (v := (1 : Int32)) X20 hx (hb hby at_187) rfl rfl ?_
    refine o_goto (pc' := 192) X20 hx (hb hby at_188) (by decide) (by decide) ?_
    refine o_retZ X20 hx hret hlk (hb hby at_192) (by decide) (by decide) (by decide) ?_
    exact ⟨rfl, N11_⟩
  · rw [hn]
    refine o_iloadN (pc' := 10) X0 hx (hb hby at_9) rfl rfl ?_
    refine o_bipush (pc' := 12) (v := (63 : Int32)) X0 hx (hb hby at_10) rfl rfl ?_
    refine o_iand (pc' := 13) X0 hx (hb hby at_12)  rfl ?_
    refine o_bipush (pc' := 15) (v := (32 : Int32)) X0 hx (hb hby at_13) rfl rfl ?_
    refine o_isub (pc' := 16) X0 hx (hb hby at_15)  rfl ?_
    obtain ⟨A0, hA0⟩ : ∃ z, z = (((x1 &&& (63 : Int32)) - (32 : Int32))).toInt64 := ⟨_, rfl⟩
    have bA0 : -32 ≤ A0.toInt ∧ A0.toInt ≤ 31 := by rw [hA0, own_sub x1 63 32 6 (by decide) (by decide) (by decide)]; have : (32 : Int32).toInt = 32 := rfl; omega
    refine o_i2d (pc' := 17) (v := FP.l2d A0) X0 hx (hb hby at_16) (by rw [i2d_w, hA0]) rfl ?_
    refine o_dstore (pc' := 19) (l' := #[.val (.int x0), .val (.int x1), .val (.int x2), .val (.int x3), .val (.int (2 : Int32)), .val (.double (FP.l2d A0)), .second, .unset, .unset, .unset, .unset, .unset, .unset, .unset, .unset, .unset, .unset, .unset, .unset, .unset, .unset]) X0 hx (hb hby at_17) rfl rfl ?_
    refine o_dload (pc' := 21) X0 hx (hb hby at_19) rfl rfl ?_
    refine o_iloadN (pc' := 22) X0 hx (hb hby at_21) rfl rfl ?_
    refine o_iconst (pc' := 23) (v := (3 : Int32)) X0 hx (hb hby at_22) rfl rfl ?_
    refine o_iand (pc' := 24) X0 hx (hb hby at_23)  rfl ?_
    obtain ⟨S1, hS1⟩ : ∃ z, z = ((x2 &&& (3 : Int32))).toInt64 := ⟨_, rfl⟩
    have bS1 : 0 ≤ S1.toInt ∧ S1.toInt ≤ 3 := by rw [hS1]; exact own_s3 x2
    refine o_i2d (pc' := 25) (v := FP.l2d S1) X0 hx (hb hby at_24) (by rw [i2d_w, hS1]) rfl ?_
    obtain ⟨A1, hA1⟩ : ∃ z, z = A0 + S1 := ⟨_, rfl⟩
    have eA1 : A1.toInt = A0.toInt + S1.toInt := by rw [hA1]; exact own_add64 ⟨by omega, by omega⟩ bS1
    have bA1 : -32 ≤ A1.toInt ∧ A1.toInt ≤ 34 := ⟨by omega, by omega⟩
    have qA1 := dadd_w (own_b53 ⟨by omega, by omega⟩ : B53 A0) (own_b53 ⟨by omega, by omega⟩ : B53 S1)
    refine o_dadd (pc' := 26) (v := FP.l2d A1) X0 hx (hb hby at_25) (by rw [qA1]; exact (Jvm.Free.Fl.l2d_fin _).noNaN) (by rw [qA1, hA1]) rfl ?_
    refine o_dstore (pc' := 28) (l' := #[.val (.int x0), .val (.int x1), .val (.int x2), .val (.int x3), .val (.int (2 : Int32)), .val (.double (FP.l2d A0)), .second, .val (.double (FP.l2d A1)), .second, .unset, .unset, .unset, .unset, .unset, .unset, .unset, .unset, .unset, .unset, .unset, .unset]) X0 hx (hb hby at_26) rfl rfl ?_
    refine o_dload (pc' := 30) X0 hx (hb hby at_28) rfl rfl ?_
    refine o_iloadN (pc' := 31) X0 hx (hb hby at_30) rfl rfl ?_
    refine o_iconst (pc' := 32) (v := (2 : Int32)) X0 hx (hb hby at_31) rfl rfl ?_
    refine o_iushr (pc' := 33) X0 hx (hb hby at_32)  rfl ?_
    refine o_iconst (pc' := 34) (v := (3 : Int32)) X0 hx (hb hby at_33) rfl rfl ?_
    refine o_iand (pc' := 35) X0 hx (hb hby at_34)  rfl ?_
    obtain ⟨S2, hS2⟩ : ∃ z, z = (((XT.ushr x2 (2 : Int32)) &&& (3 : Int32))).toInt64 := ⟨_, rfl⟩
    have bS2 : 0 ≤ S2.toInt ∧ S2.toInt ≤ 3 := by rw [hS2]; exact own_s3 (XT.ushr x2 (2 : Int32))
    refine o_i2d (pc' := 36) (v := FP.l2d S2) X0 hx (hb hby at_35) (by rw [i2d_w, hS2]) rfl ?_
    obtain ⟨A2, hA2⟩ : ∃ z, z = A1 + S2 := ⟨_, rfl⟩
    have eA2 : A2.toInt = A1.toInt + S2.toInt := by rw [hA2]; exact own_add64 ⟨by omega, by omega⟩ bS2
    have bA2 : -32 ≤ A2.toInt ∧ A2.toInt ≤ 37 := ⟨by omega, by omega⟩
    have qA2 := dadd_w (own_b53 ⟨by omega, by omega⟩ : B53 A1) (own_b53 ⟨by omega, by omega⟩ : B53 S2)
    refine o_dadd (pc' := 37) (v := FP.l2d A2) X0 hx (hb hby at_36) (by rw [qA2]; exact (Jvm.Free.Fl.l2d_fin _).noNaN) (by rw [qA2, hA2]) rfl ?_
    refine o_dstore (pc' := 39) (l' := #[.val (.int x0), .val (.int x1), .val (.int x2), .val (.int x3), .val (.int (2 : Int32)), .val (.double (FP.l2d A0)), .second, .val (.double (FP.l2d A1)), .second, .val (.double (FP.l2d A2)), .second, .unset, .unset, .unset, .unset, .unset, .unset, .unset, .unset, .unset, .unset]) X0 hx (hb hby at_37) rfl rfl ?_
    refine o_dload (pc' := 41) X0 hx (hb hby at_39) rfl rfl ?_
    refine o_iloadN (pc' := 42) X0 hx (hb hby at_41) rfl rfl ?_
    refine o_iconst (pc' := 43) (v := (4 : Int32)) X0 hx (hb hby at_42) rfl rfl ?_
    refine o_iushr (pc' := 44) X0 hx (hb hby at_43)  rfl ?_
    refine o_iconst (pc' := 45) (v := (3 : Int32)) X0 hx (hb hby at_44) rfl rfl ?_
    refine o_iand (pc' := 46) X0 hx (hb hby at_45)  rfl ?_
    obtain ⟨S3, hS3⟩ : ∃ z, z = (((XT.ushr x2 (4 : Int32)) &&& (3 : Int32))).toInt64 := ⟨_, rfl⟩
    have bS3 : 0 ≤ S3.toInt ∧ S3.toInt ≤ 3 := by rw [hS3]; exact own_s3 (XT.ushr x2 (4 : Int32))
    refine o_i2d (pc' := 47) (v := FP.l2d S3) X0 hx (hb hby at_46) (by rw [i2d_w, hS3]) rfl ?_
    obtain ⟨A3, hA3⟩ : ∃ z, z = A2 + S3 := ⟨_, rfl⟩
    have eA3 : A3.toInt = A2.toInt + S3.toInt := by rw [hA3]; exact own_add64 ⟨by omega, by omega⟩ bS3
    have bA3 : -32 ≤ A3.toInt ∧ A3.toInt ≤ 40 := ⟨by omega, by omega⟩
    have qA3 := dadd_w (own_b53 ⟨by omega, by omega⟩ : B53 A2) (own_b53 ⟨by omega, by omega⟩ : B53 S3)
    refine o_dadd (pc' := 48) (v := FP.l2d A3) X0 hx (hb hby at_47) (by rw [qA3]; exact (Jvm.Free.Fl.l2d_fin _).noNaN) (by rw [qA3, hA3]) rfl ?_
    refine o_dstore (pc' := 50) (l' := #[.val (.int x0), .val (.int x1), .val (.int x2), .val (.int x3), .val (.int (2 : Int32)), .val (.double (FP.l2d A0)), .second, .val (.double (FP.l2d A1)), .second, .val (.double (FP.l2d A2)), .second, .val (.double (FP.l2d A3)), .second, .unset, .unset, .unset, .unset, .unset, .unset, .unset, .unset]) X0 hx (hb hby at_48) rfl rfl ?_
    refine o_dload (pc' := 52) X0 hx (hb hby at_50) rfl rfl ?_
    refine o_iloadN (pc' := 53) X0 hx (hb hby at_52) rfl rfl ?_
    refine o_bipush (pc' := 55) (v := (6 : Int32)) X0 hx (hb hby at_53) rfl rfl ?_
    refine o_iushr (pc' := 56) X0 hx (hb hby at_55)  rfl ?_
    refine o_iconst (pc' := 57) (v := (3 : Int32)) X0 hx (hb hby at_56) rfl rfl ?_
    refine o_iand (pc' := 58) X0 hx (hb hby at_57)  rfl ?_
    obtain ⟨S4, hS4⟩ : ∃ z, z = (((XT.ushr x2 (6 : Int32)) &&& (3 : Int32))).toInt64 := ⟨_, rfl⟩
    have bS4 : 0 ≤ S4.toInt ∧ S4.toInt ≤ 3 := by rw [hS4]; exact own_s3 (XT.ushr x2 (6 : Int32))
    refine o_i2d (pc' := 59) (v := FP.l2d S4) X0 hx (hb hby at_58) (by rw [i2d_w, hS4]) rfl ?_
    obtain ⟨A4, hA4⟩ : ∃ z, z = A3 + S4 := ⟨_, rfl⟩
    have eA4 : A4.toInt = A3.toInt + S4.toInt := by rw [hA4]; exact own_add64 ⟨by omega, by omega⟩ bS4
    have bA4 : -32 ≤ A4.toInt ∧ A4.toInt ≤ 43 := ⟨by omega, by omega⟩
    have qA4 := dadd_w (own_b53 ⟨by omega, by omega⟩ : B53 A3) (own_b53 ⟨by omega, by omega⟩ : B53 S4)
    refine o_dadd (pc' := 60) (v := FP.l2d A4) X0 hx (hb hby at_59) (by rw [qA4]; exact (Jvm.Free.Fl.l2d_fin _).noNaN) (by rw [qA4, hA4]) rfl ?_
    refine o_dstore (pc' := 62) (l' := #[.val (.int x0), .val (.int x1), .val (.int x2), .val (.int x3), .val (.int (2 : Int32)), .val (.double (FP.l2d A0)), .second, .val (.double (FP.l2d A1)), .second, .val (.double (FP.l2d A2)), .second, .val (.double (FP.l2d A3)), .second, .val (.double (FP.l2d A4)), .second, .unset, .unset, .unset, .unset, .unset, .unset]) X0 hx (hb hby at_60) rfl rfl ?_
    refine o_dload (pc' := 64) X0 hx (hb hby at_62) rfl rfl ?_
    refine o_iloadN (pc' := 65) X0 hx (hb hby at_64) rfl rfl ?_
    refine o_bipush (pc' := 67) (v := (8 : Int32)) X0 hx (hb hby at_65) rfl rfl ?_
    refine o_iushr (pc' := 68) X0 hx (hb hby at_67)  rfl ?_
    refine o_iconst (pc' := 69) (v := (3 : Int32)) X0 hx (hb hby at_68) rfl rfl ?_
    refine o_iand (pc' := 70) X0 hx (hb hby at_69)  rfl ?_
    obtain ⟨S5, hS5⟩ : ∃ z, z = (((XT.ushr x2 (8 : Int32)) &&& (3 : Int32))).toInt64 := ⟨_, rfl⟩
    have bS5 : 0 ≤ S5.toInt ∧ S5.toInt ≤ 3 := by rw [hS5]; exact own_s3 (XT.ushr x2 (8 : Int32))
    refine o_i2d (pc' := 71) (v := FP.l2d S5) X0 hx (hb hby at_70) (by rw [i2d_w, hS5]) rfl ?_
    obtain ⟨A5, hA5⟩ : ∃ z, z = A4 + S5 := ⟨_, rfl⟩
    have eA5 : A5.toInt = A4.toInt + S5.toInt := by rw [hA5]; exact own_add64 ⟨by omega, by omega⟩ bS5
    have bA5 : -32 ≤ A5.toInt ∧ A5.toInt ≤ 46 := ⟨by omega, by omega⟩
    have qA5 := dadd_w (own_b53 ⟨by omega, by omega⟩ : B53 A4) (own_b53 ⟨by omega, by omega⟩ : B53 S5)
    refine o_dadd (pc' := 72) (v := FP.l2d A5) X0 hx (hb hby at_71) (by rw [qA5]; exact (Jvm.Free.Fl.l2d_fin _).noNaN) (by rw [qA5, hA5]) rfl ?_
    refine o_dstore (pc' := 74) (l' := #[.val (.int x0), .val (.int x1), .val (.int x2), .val (.int x3), .val (.int (2 : Int32)), .val (.double (FP.l2d A0)), .second, .val (.double (FP.l2d A1)), .second, .val (.double (FP.l2d A2)), .second, .val (.double (FP.l2d A3)), .second, .val (.double (FP.l2d A4)), .second, .val (.double (FP.l2d A5)), .second, .unset, .unset, .unset, .unset]) X0 hx (hb hby at_72) rfl rfl ?_
    refine o_iloadN (pc' := 75) X0 hx (hb hby at_74) rfl rfl ?_
    refine o_sipush (pc' := 78) (v := (255 : Int32)) X0 hx (hb hby at_75) rfl rfl ?_
    refine o_iand (pc' := 79) X0 hx (hb hby at_78)  rfl ?_
    refine o_bipush (pc' := 81) (v := (96 : Int32)) X0 hx (hb hby at_79) rfl rfl ?_
    refine o_isub (pc' := 82) X0 hx (hb hby at_81)  rfl ?_
    obtain ⟨Q0, hQ0⟩ : ∃ z, z = (((x3 &&& (255 : Int32)) - (96 : Int32))).toInt64 := ⟨_, rfl⟩
    have bQ0 : -96 ≤ Q0.toInt ∧ Q0.toInt ≤ 159 := by rw [hQ0, own_sub x3 255 96 8 (by decide) (by decide) (by decide)]; have : (96 : Int32).toInt = 96 := rfl; omega
    refine o_i2d (pc' := 83) (v := FP.l2d Q0) X0 hx (hb hby at_82) (by rw [i2d_w, hQ0]) rfl ?_
    refine o_ldc2d (pc' := 86) (b := (4611686018427387904 : UInt64)) X0 hx hZ hown (hw _ (List.mem_of_getElem? (i := 0) rfl)) (hb hby at_83) rfl ?_
    obtain ⟨vv, hvv⟩ : ∃ z, z = FP.ddiv (FP.l2d Q0) (4611686018427387904 : UInt64) := ⟨_, rfl⟩
    refine o_ddiv (pc' := 87) (v := vv) X0 hx (hb hby at_86) (own_nn bQ0.1 bQ0.2) hvv.symm rfl ?_
    refine o_dstore (pc' := 89) (l' := #[.val (.int x0), .val (.int x1), .val (.int x2), .val (.int x3), .val (.int (2 : Int32)), .val (.double (FP.l2d A0)), .second, .val (.double (FP.l2d A1)), .second, .val (.double (FP.l2d A2)), .second, .val (.double (FP.l2d A3)), .second, .val (.double (FP.l2d A4)), .second, .val (.double (FP.l2d A5)), .second, .val (.double vv), .second, .unset, .unset]) X0 hx (hb hby at_87) rfl rfl ?_
    refine o_iload (pc' := 91) X0 hx (hb hby at_89) rfl rfl ?_
    refine o_dload (pc' := 93) X0 hx (hb hby at_91) rfl rfl ?_
    refine o_dload (pc' := 95) X0 hx (hb hby at_93) rfl rfl ?_
    refine o_dload (pc' := 97) X0 hx (hb hby at_95) rfl rfl ?_
    refine o_dload (pc' := 99) X0 hx (hb hby at_97) rfl rfl ?_
    refine o_dload (pc' := 101) X0 hx (hb hby at_99) rfl rfl ?_
    refine o_dload (pc' := 103) X0 hx (hb hby at_101) rfl rfl ?_
    obtain ⟨r21, T21, L21, X21, hq21, st21⟩ := o_callS X0 hx hZ hown (hw _ (List.mem_of_getElem? (i := 1) rfl)) (hw _ (List.mem_of_getElem? (i := 2) rfl)) (hw _ (List.mem_of_getElem? (i := 3) rfl)) (hw _ (List.mem_of_getElem? (i := 4) rfl)) (by decide) (rm1_2 l Z a0 hw (FP.l2d A0) (FP.l2d A1) (FP.l2d A2) (FP.l2d A3) (FP.l2d A4) (FP.l2d A5) h0 n0 Z0) e0 (pc' := 106) (Ls := #[.val (.int x0), .val (.int x1), .val (.int x2), .val (.int x3), .val (.int (2 : Int32)), .val (.double (FP.l2d A0)), .second, .val (.double (FP.l2d A1)), .second, .val (.double (FP.l2d A2)), .second, .val (.double (FP.l2d A3)), .second, .val (.double (FP.l2d A4)), .second, .val (.double (FP.l2d A5)), .second, .val (.double vv), .second, .unset, .unset]) (by rw [hml]; rfl) [(.int (2 : Int32)), (.double (FP.l2d A0)), (.double (FP.l2d A1)), (.double (FP.l2d A2)), (.double (FP.l2d A3)), (.double (FP.l2d A4)), (.double (FP.l2d A5))] [] rfl pd0 rfl rfl 0 (Nat.le_of_eq rfl) (hb hby at_103) rfl (by decide) (by decide) (by decide) (by decide)
    obtain ⟨rfl, N21, Kc21, A21_⟩ := hq21
    have ge_ar : n0 ≤ h0.size := Z0
    obtain ⟨ar, g_ar⟩ : ∃ z, z = h0.size := ⟨_, rfl⟩
    rw [← g_ar] at ge_ar st21 A21_
    refine oGo.step (f' := (mkF m 106 #[.val (.int x0), .val (.int x1), .val (.int x2), .val (.int x3), .val (.int (2 : Int32)), .val (.double (FP.l2d A0)), .second, .val (.double (FP.l2d A1)), .second, .val (.double (FP.l2d A2)), .second, .val (.double (FP.l2d A3)), .second, .val (.double (FP.l2d A4)), .second, .val (.double (FP.l2d A5)), .second, .val (.double vv), .second, .unset, .unset] [(.ref ar)])) st21 ?_
    have N21_ := Fr.app N0 N21
    have K22 := Kc21
    have Z23 := Nat.le_trans Z0 K22.1
    refine o_astore (pc' := 108) (l' := #[.val (.int x0), .val (.int x1), .val (.int x2), .val (.int x3), .val (.int (2 : Int32)), .val (.double (FP.l2d A0)), .second, .val (.double (FP.l2d A1)), .second, .val (.double (FP.l2d A2)), .second, .val (.double (FP.l2d A3)), .second, .val (.double (FP.l2d A4)), .second, .val (.double (FP.l2d A5)), .second, .val (.double vv), .second, .val (.ref ar), .unset]) X21 hx (hb hby at_106) rfl rfl rfl ?_
    refine o_dload (pc' := 110) X21 hx (hb hby at_108) rfl rfl ?_
    refine o_dload (pc' := 112) X21 hx (hb hby at_110) rfl rfl ?_
    refine o_iconst (pc' := 113) (v := (0 : Int32)) X21 hx (hb hby at_112) rfl rfl ?_
    refine o_iload (pc' := 115) X21 hx (hb hby at_113) rfl rfl ?_
    obtain ⟨r24, T24, L24, X24, hq24, st24⟩ := o_callS X21 hx hZ hown (hw _ (List.mem_of_getElem? (i := 6) rfl)) (hw _ (List.mem_of_getElem? (i := 7) rfl)) (hw _ (List.mem_of_getElem? (i := 3) rfl)) (hw _ (List.mem_of_getElem? (i := 8) rfl)) (by decide) (rm2 l Z a0 hw (FP.l2d A0) vv (0 : Int32) (2 : Int32) T21.heap n0 Z23 ) (rfl : T21.heap = _) (pc' := 118) (Ls := #[.val (.int x0), .val (.int x1), .val (.int x2), .val (.int x3), .val (.int (2 : Int32)), .val (.double (FP.l2d A0)), .second, .val (.double (FP.l2d A1)), .second, .val (.double (FP.l2d A2)), .second, .val (.double (FP.l2d A3)), .second, .val (.double (FP.l2d A4)), .second, .val (.double (FP.l2d A5)), .second, .val (.double vv), .second, .val (.ref ar), .unset]) (by rw [hml]; rfl) [(.double (FP.l2d A0)), (.double vv), (.int (0 : Int32)), (.int (2 : Int32))] [] rfl pd1 rfl rfl 0 (Nat.le_of_eq rfl) (hb hby at_115) rfl (by decide) (by decide) (by decide) (by decide)
    obtain ⟨rfl, rfl, Kc24⟩ := hq24
    refine oGo.step (f' := (mkF m 118 #[.val (.int x0), .val (.int x1), .val (.int x2), .val (.int x3), .val (.int (2 : Int32)), .val (.double (FP.l2d A0)), .second, .val (.double (FP.l2d A1)), .second, .val (.double (FP.l2d A2)), .second, .val (.double (FP.l2d A3)), .second, .val (.double (FP.l2d A4)), .second, .val (.double (FP.l2d A5)), .second, .val (.double vv), .second, .val (.ref ar), .unset] [(.int (spec2 (FP.l2d A0) vv (0 : Int32) (2 : Int32)))])) st24 ?_
    have e24 : T24.heap = T21.heap := Kc24
    have X24 := o_same X24 rfl rfl
    refine o_dload (pc' := 120) X24 hx (hb hby at_118) rfl rfl ?_
    refine o_dload (pc' := 122) X24 hx (hb hby at_120) rfl rfl ?_
    refine o_iconst (pc' := 123) (v := (1 : Int32)) X24 hx (hb hby at_122) rfl rfl ?_
    refine o_iload (pc' := 125) X24 hx (hb hby at_123) rfl rfl ?_
    obtain ⟨r25, T25, L25, X25, hq25, st25⟩ := o_callS X24 hx hZ hown (hw _ (List.mem_of_getElem? (i := 6) rfl)) (hw _ (List.mem_of_getElem? (i := 7) rfl)) (hw _ (List.mem_of_getElem? (i := 3) rfl)) (hw _ (List.mem_of_getElem? (i := 8) rfl)) (by decide) (rm2 l Z a0 hw (FP.l2d A1) vv (1 : Int32) (2 : Int32) T21.heap n0 Z23 ) e24 (pc' := 128) (Ls := #[.val (.int x0), .val (.int x1), .val (.int x2), .val (.int x3), .val (.int (2 : Int32)), .val (.double (FP.l2d A0)), .second, .val (.double (FP.l2d A1)), .second, .val (.double (FP.l2d A2)), .second, .val (.double (FP.l2d A3)), .second, .val (.double (FP.l2d A4)), .second, .val (.double (FP.l2d A5)), .second, .val (.double vv), .second, .val (.ref ar), .unset]) (by rw [hml]; rfl) [(.double (FP.l2d A1)), (.double vv), (.int (1 : Int32)), (.int (2 : Int32))] [(.int (spec2 (FP.l2d A0) vv (0 : Int32) (2 : Int32)))] rfl pd1 rfl rfl 1 (Nat.le_of_eq rfl) (hb hby at_125) rfl (by decide) (by decide) (by decide) (by decide)
    obtain ⟨rfl, rfl, Kc25⟩ := hq25
    refine oGo.step (f' := (mkF m 128 #[.val (.int x0), .val (.int x1), .val (.int x2), .val (.int x3), .val (.int (2 : Int32)), .val (.double (FP.l2d A0)), .second, .val (.double (FP.l2d A1)), .second, .val (.double (FP.l2d A2)), .second, .val (.double (FP.l2d A3)), .second, .val (.double (FP.l2d A4)), .second, .val (.double (FP.l2d A5)), .second, .val (.double vv), .second, .val (.ref ar), .unset] [(.int (spec2 (FP.l2d A1) vv (1 : Int32) (2 : Int32))), (.int (spec2 (FP.l2d A0) vv (0 : Int32) (2 : Int32)))])) st25 ?_
    have e25 : T25.heap = T21.heap := Kc25
    have X25 := o_same X25 rfl rfl
    refine o_iadd (pc' := 129) X25 hx (hb hby at_128)  rfl ?_
    refine o_dload (pc' := 131) X25 hx (hb hby at_129) rfl rfl ?_
    refine o_dload (pc' := 133) X25 hx (hb hby at_131) rfl rfl ?_
    refine o_iconst (pc' := 134) (v := (2 : Int32)) X25 hx (hb hby at_133) rfl rfl ?_
    refine o_iload (pc' := 136) X25 hx (hb hby at_134) rfl rfl ?_
    obtain ⟨r26, T26, L26, X26, hq26, st26⟩ := o_callS X25 hx hZ hown (hw _ (List.mem_of_getElem? (i := 6) rfl)) (hw _ (List.mem_of_getElem? (i := 7) rfl)) (hw _ (List.mem_of_getElem? (i := 3) rfl)) (hw _ (List.mem_of_getElem? (i := 8) rfl)) (by decide) (rm2 l Z a0 hw (FP.l2d A2) vv (2 : Int32) (2 : Int32) T21.heap n0 Z23 ) e25 (pc' := 139) (Ls := #[.val (.int x0), .val (.int x1), .val (.int x2), .val (.int x3), .val (.int (2 : Int32)), .val (.double (FP.l2d A0)), .second, .val (.double (FP.l2d A1)), .second, .val (.double (FP.l2d A2)), .second, .val (.double (FP.l2d A3)), .second, .val (.double (FP.l2d A4)), .second, .val (.double (FP.l2d A5)), .second, .val (.double vv), .second, .val (.ref ar), .unset]) (by rw [hml]; rfl) [(.double (FP.l2d A2)), (.double vv), (.int (2 : Int32)), (.int (2 : Int32))] [(.int ((spec2 (FP.l2d A0) vv (0 : Int32) (2 : Int32)) + (spec2 (FP.l2d A1) vv (1 : Int32) (2 : Int32))))] rfl pd1 rfl rfl 1 (Nat.le_of_eq rfl) (hb hby at_136) rfl (by decide) (by decide) (by decide) (by decide)
    obtain ⟨rfl, rfl, Kc26⟩ := hq26
    refine oGo.step (f' := (mkF m 139 #[.val (.int x0), .val (.int x1), .val (.int x2), .val (.int x3), .val (.int (2 : Int32)), .val (.double (FP.l2d A0)), .second, .val (.double (FP.l2d A1)), .second, .val (.double (FP.l2d A2)), .second, .val (.double (FP.l2d A3)), .second, .val (.double (FP.l2d A4)), .second, .val (.double (FP.l2d A5)), .second, .val (.double vv), .second, .val (.ref ar), .unset] [(.int (spec2 (FP.l2d A2) vv (2 : Int32) (2 : Int32))), (.int ((spec2 (FP.l2d A0) vv (0 : Int32) (2 : Int32)) + (spec2 (FP.l2d A1) vv (1 : Int32) (2 : Int32))))])) st26 ?_
    have e26 : T26.heap = T21.heap := Kc26
    have X26 := o_same X26 rfl rfl
    refine o_iadd (pc' := 140) X26 hx (hb hby at_139)  rfl ?_
    refine o_dload (pc' := 142) X26 hx (hb hby at_140) rfl rfl ?_
    refine o_dload (pc' := 144) X26 hx (hb hby at_142) rfl rfl ?_
    refine o_iconst (pc' := 145) (v := (3 : Int32)) X26 hx (hb hby at_144) rfl rfl ?_
    refine o_iload (pc' := 147) X26 hx (hb hby at_145) rfl rfl ?_
    obtain ⟨r27, T27, L27, X27, hq27, st27⟩ := o_callS X26 hx hZ hown (hw _ (List.mem_of_getElem? (i := 6) rfl)) (hw _ (List.mem_of_getElem? (i := 7) rfl)) (hw _ (List.mem_of_getElem? (i := 3) rfl)) (hw _ (List.mem_of_getElem? (i := 8) rfl)) (by decide) (rm2 l Z a0 hw (FP.l2d A3) vv (3 : Int32) (2 : Int32) T21.heap n0 Z23 ) e26 (pc' := 150) (Ls := #[.val (.int x0), .val (.int x1), .val (.int x2), .val (.int x3), .val (.int (2 : Int32)), .val (.double (FP.l2d A0)), .second, .val (.double (FP.l2d A1)), .second, .val (.double (FP.l2d A2)), .second, .val (.double (FP.l2d A3)), .second, .val (.double (FP.l2d A4)), .second, .val (.double (FP.l2d A5)), .second, .val (.double vv), .second, .val (.ref ar), .unset]) (by rw [hml]; rfl) [(.double (FP.l2d A3)), (.double vv), (.int (3 : Int32)), (.int (2 : Int32))] [(.int (((spec2 (FP.l2d A0) vv (0 : Int32) (2 : Int32)) + (spec2 (FP.l2d A1) vv (1 : Int32) (2 : Int32))) + (spec2 (FP.l2d A2) vv (2 : Int32) (2 : Int32))))] rfl pd1 rfl rfl 1 (Nat.le_of_eq rfl) (hb hby at_147) rfl (by decide) (by decide) (by decide) (by decide)
    obtain ⟨rfl, rfl, Kc27⟩ := hq27
    refine oGo.step (f' := (mkF m 150 #[.val (.int x0), .val (.int x1), .val (.int x2), .val (.int x3), .val (.int (2 : Int32)), .val (.double (FP.l2d A0)), .second, .val (.double (FP.l2d A1)), .second, .val (.double (FP.l2d A2)), .second, .val (.double (FP.l2d A3)), .second, .val (.double (FP.l2d A4)), .second, .val (.double (FP.l2d A5)), .second, .val (.double vv), .second, .val (.ref ar), .unset] [(.int (spec2 (FP.l2d A3) vv (3 : Int32) (2 : Int32))), (.int (((spec2 (FP.l2d A0) vv (0 : Int32) (2 : Int32)) + (spec2 (FP.l2d A1) vv (1 : Int32) (2 : Int32))) + (spec2 (FP.l2d A2) vv (2 : Int32) (2 : Int32))))])) st27 ?_
    have e27 : T27.heap = T21.heap := Kc27
    have X27 := o_same X27 rfl rfl
    refine o_iadd (pc' := 151) X27 hx (hb hby at_150)  rfl ?_
    refine o_dload (pc' := 153) X27 hx (hb hby at_151) rfl rfl ?_
    refine o_dload (pc' := 155) X27 hx (hb hby at_153) rfl rfl ?_
    refine o_iconst (pc' := 156) (v := (4 : Int32)) X27 hx (hb hby at_155) rfl rfl ?_
    refine o_iload (pc' := 158) X27 hx (hb hby at_156) rfl rfl ?_
    obtain ⟨r28, T28, L28, X28, hq28, st28⟩ := o_callS X27 hx hZ hown (hw _ (List.mem_of_getElem? (i := 6) rfl)) (hw _ (List.mem_of_getElem? (i := 7) rfl)) (hw _ (List.mem_of_getElem? (i := 3) rfl)) (hw _ (List.mem_of_getElem? (i := 8) rfl)) (by decide) (rm2 l Z a0 hw (FP.l2d A4) vv (4 : Int32) (2 : Int32) T21.heap n0 Z23 ) e27 (pc' := 161) (Ls := #[.val (.int x0), .val (.int x1), .val (.int x2), .val (.int x3), .val (.int (2 : Int32)), .val (.double (FP.l2d A0)), .second, .val (.double (FP.l2d A1)), .second, .val (.double (FP.l2d A2)), .second, .val (.double (FP.l2d A3)), .second, .val (.double (FP.l2d A4)), .second, .val (.double (FP.l2d A5)), .second, .val (.double vv), .second, .val (.ref ar), .unset]) (by rw [hml]; rfl) [(.double (FP.l2d A4)), (.double vv), (.int (4 : Int32)), (.int (2 : Int32))] [(.int ((((spec2 (FP.l2d A0) vv (0 : Int32) (2 : Int32)) + (spec2 (FP.l2d A1) vv (1 : Int32) (2 : Int32))) + (spec2 (FP.l2d A2) vv (2 : Int32) (2 : Int32))) + (spec2 (FP.l2d A3) vv (3 : Int32) (2 : Int32))))] rfl pd1 rfl rfl 1 (Nat.le_of_eq rfl) (hb hby at_158) rfl (by decide) (by decide) (by decide) (by decide)
    obtain ⟨rfl, rfl, Kc28⟩ := hq28
    refine oGo.step (f' := (mkF m 161 #[.val (.int x0), .val (.int x1), .val (.int x2), .val (.int x3), .val (.int (2 : Int32)), .val (.double (FP.l2d A0)), .second, .val (.double (FP.l2d A1)), .second, .val (.double (FP.l2d A2)), .second, .val (.double (FP.l2d A3)), .second, .val (.double (FP.l2d A4)), .second, .val (.double (FP.l2d A5)), .second, .val (.double vv), .second, .val (.ref ar), .unset] [(.int (spec2 (FP.l2d A4) vv (4 : Int32) (2 : Int32))), (.int ((((spec2 (FP.l2d A0) vv (0 : Int32) (2 : Int32)) + (spec2 (FP.l2d A1) vv (1 : Int32) (2 : Int32))) + (spec2 (FP.l2d A2) vv (2 : Int32) (2 : Int32))) + (spec2 (FP.l2d A3) vv (3 : Int32) (2 : Int32))))])) st28 ?_
    have e28 : T28.heap = T21.heap := Kc28
    have X28 := o_same X28 rfl rfl
    refine o_iadd (pc' := 162) X28 hx (hb hby at_161)  rfl ?_
    refine o_dload (pc' := 164) X28 hx (hb hby at_162) rfl rfl ?_
    refine o_dload (pc' := 166) X28 hx (hb hby at_164) rfl rfl ?_
    refine o_iconst (pc' := 167) (v := (5 : Int32)) X28 hx (hb hby at_166) rfl rfl ?_
    refine o_iload (pc' := 169) X28 hx (hb hby at_167) rfl rfl ?_
    obtain ⟨r29, T29, L29, X29, hq29, st29⟩ := o_callS X28 hx hZ hown (hw _ (List.mem_of_getElem? (i := 6) rfl)) (hw _ (List.mem_of_getElem? (i := 7) rfl)) (hw _ (List.mem_of_getElem? (i := 3) rfl)) (hw _ (List.mem_of_getElem? (i := 8) rfl)) (by decide) (rm2 l Z a0 hw (FP.l2d A5) vv (5 : Int32) (2 : Int32) T21.heap n0 Z23 ) e28 (pc' := 172) (Ls := #[.val (.int x0), .val (.int x1), .val (.int x2), .val (.int x3), .val (.int (2 : Int32)), .val (.double (FP.l2d A0)), .second, .val (.double (FP.l2d A1)), .second, .val (.double (FP.l2d A2)), .second, .val (.double (FP.l2d A3)), .second, .val (.double (FP.l2d A4)), .second, .val (.double (FP.l2d A5)), .second, .val (.double vv), .second, .val (.ref ar), .unset]) (by rw [hml]; rfl) [(.double (FP.l2d A5)), (.double vv), (.int (5 : Int32)), (.int (2 : Int32))] [(.int (((((spec2 (FP.l2d A0) vv (0 : Int32) (2 : Int32)) + (spec2 (FP.l2d A1) vv (1 : Int32) (2 : Int32))) + (spec2 (FP.l2d A2) vv (2 : Int32) (2 : Int32))) + (spec2 (FP.l2d A3) vv (3 : Int32) (2 : Int32))) + (spec2 (FP.l2d A4) vv (4 : Int32) (2 : Int32))))] rfl pd1 rfl rfl 1 (Nat.le_of_eq rfl) (hb hby at_169) rfl (by decide) (by decide) (by decide) (by decide)
    obtain ⟨rfl, rfl, Kc29⟩ := hq29
    refine oGo.step (f' := (mkF m 172 #[.val (.int x0), .val (.int x1), .val (.int x2), .val (.int x3), .val (.int (2 : Int32)), .val (.double (FP.l2d A0)), .second, .val (.double (FP.l2d A1)), .second, .val (.double (FP.l2d A2)), .second, .val (.double (FP.l2d A3)), .second, .val (.double (FP.l2d A4)), .second, .val (.double (FP.l2d A5)), .second, .val (.double vv), .second, .val (.ref ar), .unset] [(.int (spec2 (FP.l2d A5) vv (5 : Int32) (2 : Int32))), (.int (((((spec2 (FP.l2d A0) vv (0 : Int32) (2 : Int32)) + (spec2 (FP.l2d A1) vv (1 : Int32) (2 : Int32))) + (spec2 (FP.l2d A2) vv (2 : Int32) (2 : Int32))) + (spec2 (FP.l2d A3) vv (3 : Int32) (2 : Int32))) + (spec2 (FP.l2d A4) vv (4 : Int32) (2 : Int32))))])) st29 ?_
    have e29 : T29.heap = T21.heap := Kc29
    have X29 := o_same X29 rfl rfl
    refine o_iadd (pc' := 173) X29 hx (hb hby at_172)  rfl ?_
    refine o_istore (pc' := 175) (l' := #[.val (.int x0), .val (.int x1), .val (.int x2), .val (.int x3), .val (.int (2 : Int32)), .val (.double (FP.l2d A0)), .second, .val (.double (FP.l2d A1)), .second, .val (.double (FP.l2d A2)), .second, .val (.double (FP.l2d A3)), .second, .val (.double (FP.l2d A4)), .second, .val (.double (FP.l2d A5)), .second, .val (.double vv), .second, .val (.ref ar), .val (.int ((((((spec2 (FP.l2d A0) vv (0 : Int32) (2 : Int32)) + (spec2 (FP.l2d A1) vv (1 : Int32) (2 : Int32))) + (spec2 (FP.l2d A2) vv (2 : Int32) (2 : Int32))) + (spec2 (FP.l2d A3) vv (3 : Int32) (2 : Int32))) + (spec2 (FP.l2d A4) vv (4 : Int32) (2 : Int32))) + (spec2 (FP.l2d A5) vv (5 : Int32) (2 : Int32))))]) X29 hx (hb hby at_173) rfl rfl ?_
    refine o_aload (pc' := 177) X29 hx (hb hby at_175) rfl rfl rfl ?_
    refine o_dload (pc' := 179) X29 hx (hb hby at_177) rfl rfl ?_
    obtain ⟨r30, T30, L30, X30, hq30, st30⟩ := o_callS X29 hx hZ hown (hw _ (List.mem_of_getElem? (i := 9) rfl)) (hw _ (List.mem_of_getElem? (i := 10) rfl)) (hw _ (List.mem_of_getElem? (i := 11) rfl)) (hw _ (List.mem_of_getElem? (i := 12) rfl)) (by decide) (rm3_2 l Z a0 hw ar vv (FP.l2d A0) (FP.l2d A1) T21.heap n0 Z23 A21_) e29 (pc' := 182) (Ls := #[.val (.int x0), .val (.int x1), .val (.int x2), .val (.int x3), .val (.int (2 : Int32)), .val (.double (FP.l2d A0)), .second, .val (.double (FP.l2d A1)), .second, .val (.double (FP.l2d A2)), .second, .val (.double (FP.l2d A3)), .second, .val (.double (FP.l2d A4)), .second, .val (.double (FP.l2d A5)), .second, .val (.double vv), .second, .val (.ref ar), .val (.int ((((((spec2 (FP.l2d A0) vv (0 : Int32) (2 : Int32)) + (spec2 (FP.l2d A1) vv (1 : Int32) (2 : Int32))) + (spec2 (FP.l2d A2) vv (2 : Int32) (2 : Int32))) + (spec2 (FP.l2d A3) vv (3 : Int32) (2 : Int32))) + (spec2 (FP.l2d A4) vv (4 : Int32) (2 : Int32))) + (spec2 (FP.l2d A5) vv (5 : Int32) (2 : Int32))))]) (by rw [hml]; rfl) [(.ref ar), (.double vv)] [] rfl pd2 rfl rfl 0 (Nat.le_of_eq rfl) (hb hby at_179) rfl (by decide) (by decide) (by decide) (by decide)
    obtain ⟨rfl, rfl, Kc30⟩ := hq30
    refine oGo.step (f' := (mkF m 182 #[.val (.int x0), .val (.int x1), .val (.int x2), .val (.int x3), .val (.int (2 : Int32)), .val (.double (FP.l2d A0)), .second, .val (.double (FP.l2d A1)), .second, .val (.double (FP.l2d A2)), .second, .val (.double (FP.l2d A3)), .second, .val (.double (FP.l2d A4)), .second, .val (.double (FP.l2d A5)), .second, .val (.double vv), .second, .val (.ref ar), .val (.int ((((((spec2 (FP.l2d A0) vv (0 : Int32) (2 : Int32)) + (spec2 (FP.l2d A1) vv (1 : Int32) (2 : Int32))) + (spec2 (FP.l2d A2) vv (2 : Int32) (2 : Int32))) + (spec2 (FP.l2d A3) vv (3 : Int32) (2 : Int32))) + (spec2 (FP.l2d A4) vv (4 : Int32) (2 : Int32))) + (spec2 (FP.l2d A5) vv (5 : Int32) (2 : Int32))))] [(.int (spec3_2 vv (FP.l2d A0) (FP.l2d A1)))])) st30 ?_
    have e30 : T30.heap = T21.heap := Kc30
    have X30 := o_same X30 rfl rfl
    refine o_iload (pc' := 184) X30 hx (hb hby at_182) rfl rfl ?_
    have k0 := own_cmp bA0.1 (by omega) bQ0.1 bQ0.2
    rw [← hvv] at k0
    have k1 := own_cmp bA1.1 (by omega) bQ0.1 bQ0.2
    rw [← hvv] at k1
    have hE : (spec3_2 vv (FP.l2d A0) (FP.l2d A1)) = ((((((spec2 (FP.l2d A0) vv (0 : Int32) (2 : Int32)) + (spec2 (FP.l2d A1) vv (1 : Int32) (2 : Int32))) + (spec2 (FP.l2d A2) vv (2 : Int32) (2 : Int32))) + (spec2 (FP.l2d A3) vv (3 : Int32) (2 : Int32))) + (spec2 (FP.l2d A4) vv (4 : Int32) (2 : Int32))) + (spec2 (FP.l2d A5) vv (5 : Int32) (2 : Int32))) := own_fin2 vv (FP.l2d A0) (FP.l2d A1) (FP.l2d A2) (FP.l2d A3) (FP.l2d A4) (FP.l2d A5) k0 k1 (by omega)
    refine o_icmpF (pc' := 187) X30 hx (hb hby at_184) (XT.ii_ne_f hE) rfl ?_
    refine o_iconst (pc' := 188) (v := (1 : Int32)) X30 hx (hb hby at_187) rfl rfl ?_
    refine o_goto (pc' := 192) X30 hx (hb hby at_188) (by decide) (by decide) ?_
    refine o_retZ X30 hx hret hlk (hb hby at_192) (by decide) (by decide) (by decide) ?_
    exact ⟨rfl, N21_⟩
  · rw [hn]
    refine o_iloadN (pc' := 10) X0 hx (hb hby at_9) rfl rfl ?_
    refine o_bipush (pc' := 12) (v := (63 : Int32)) X0 hx (hb hby at_10) rfl rfl ?_
    refine o_iand (pc' := 13) X0 hx (hb hby at_12)  rfl ?_
    refine o_bipush (pc' := 15) (v := (32 : Int32)) X0 hx (hb hby at_13) rfl rfl ?_
    refine o_isub (pc' := 16) X0 hx (hb hby at_15)  rfl ?_
    obtain ⟨A0, hA0⟩ : ∃ z, z = (((x1 &&& (63 : Int32)) - (32 : Int32))).toInt64 := ⟨_, rfl⟩
    have bA0 : -32 ≤ A0.toInt ∧ A0.toInt ≤ 31 := by rw [hA0, own_sub x1 63 32 6 (by decide) (by decide) (by decide)]; have : (32 : Int32).toInt = 32 := rfl; omega
    refine o_i2d (pc' := 17) (v := FP.l2d A0) X0 hx (hb hby at_16) (by rw [i2d_w, hA0]) rfl ?_
    refine o_dstore (pc' := 19) (l' := #[.val (.int x0), .val (.int x1), .val (.int x2), .val (.int x3), .val (.int (3 : Int32)), .val (.double (FP.l2d A0)), .second, .unset, .unset, .unset, .unset, .unset, .unset, .unset, .unset, .unset, .unset, .unset, .unset, .unset, .unset]) X0 hx (hb hby at_17) rfl rfl ?_
    refine o_dload (pc' := 21) X0 hx (hb hby at_19) rfl rfl ?_
    refine o_iloadN (pc' := 22) X0 hx (hb hby at_21) rfl rfl ?_
    refine o_iconst (pc' := 23) (v := (3 : Int32)) X0 hx (hb hby at_22) rfl rfl ?_
    refine o_iand (pc' := 24) X0 hx (hb hby at_23)  rfl ?_
    obtain ⟨S1, hS1⟩ : ∃ z, z = ((x2 &&& (3 : Int32))).toInt64 := ⟨_, rfl⟩
    have bS1 : 0 ≤ S1.toInt ∧ S1.toInt ≤ 3 := by rw [hS1]; exact own_s3 x2
    refine o_i2d (pc' := 25) (v := FP.l2d S1) X0 hx (hb hby at_24) (by rw [i2d_w, hS1]) rfl ?_
    obtain ⟨A1, hA1⟩ : ∃ z, z = A0 + S1 := ⟨_, rfl⟩
    have eA1 : A1.toInt = A0.toInt + S1.toInt := by rw [hA1]; exact own_add64 ⟨by omega, by omega⟩ bS1
    have bA1 : -32 ≤ A1.toInt ∧ A1.toInt ≤ 34 := ⟨by omega, by omega⟩
    have qA1 := dadd_w (own_b53 ⟨by omega, by omega⟩ : B53 A0) (own_b53 ⟨by omega, by omega⟩ : B53 S1)
    refine o_dadd (pc' := 26) (v := FP.l2d A1) X0 hx (hb hby at_25) (by rw [qA1]; exact (Jvm.Free.Fl.l2d_fin _).noNaN) (by rw [qA1, hA1]) rfl ?_
    refine o_dstore (pc' := 28) (l' := #[.val (.int x0), .val (.int x1), .val (.int x2), .val (.int x3), .val (.int (3 : Int32)), .val (.double (FP.l2d A0)), .second, .val (.double (FP.l2d A1)), .second, .unset, .unset, .unset, .unset, .unset, .unset, .unset, .unset, .unset, .unset, .unset, .unset]) X0 hx (hb hby at_26) rfl rfl ?_
    refine o_dload (pc' := 30) X0 hx (hb hby at_28) rfl rfl ?_
    refine o_iloadN (pc' := 31) X0 hx (hb hby at_30) rfl rfl ?_
    refine o_iconst (pc' := 32) (v := (2 : Int32)) X0 hx (hb hby at_31) rfl rfl ?_
    refine o_iushr (pc' := 33) X0 hx (hb hby at_32)  rfl ?_
    refine o_iconst (pc' := 34) (v := (3 : Int32)) X0 hx (hb hby at_33) rfl rfl ?_
    refine o_iand (pc' := 35) X0 hx (hb hby at_34)  rfl ?_
    obtain ⟨S2, hS2⟩ : ∃ z, z = (((XT.ushr x2 (2 : Int32)) &&& (3 : Int32))).toInt64 := ⟨_, rfl⟩
    have bS2 : 0 ≤ S2.toInt ∧ S2.toInt ≤ 3 := by rw [hS2]; exact own_s3 (XT.ushr x2 (2 : Int32))
    refine o_i2d (pc' := 36) (v := FP.l2d S2) X0 hx (hb hby at_35) (by rw [i2d_w, hS2]) rfl ?_
    obtain ⟨A2, hA2⟩ : ∃ z, z = A1 + S2 := ⟨_, rfl⟩
    have eA2 : A2.toInt = A1.toInt + S2.toInt := by rw [hA2]; exact own_add64 ⟨by omega, by omega⟩ bS2
    have bA2 : -32 ≤ A2.toInt ∧ A2.toInt ≤ 37 := ⟨by omega, by omega⟩
    have qA2 := dadd_w (own_b53 ⟨by omega, by omega⟩ : B53 A1) (own_b53 ⟨by omega, by omega⟩ : B53 S2)
    refine o_dadd (pc' := 37) (v := FP.l2d A2) X0 hx (hb hby at_36) (by rw [qA2]; exact (Jvm.Free.Fl.l2d_fin _).noNaN) (by rw [qA2, hA2]) rfl ?_
    refine o_dstore (pc' := 39) (l' := #[.val (.int x0), .val (.int x1), .val (.int x2), .val (.int x3), .val (.int (3 : Int32)), .val (.double (FP.l2d A0)), .second, .val (.double (FP.l2d A1)), .second, .val (.double (FP.l2d A2)), .second, .unset, .unset, .unset, .unset, .unset, .unset, .unset, .unset, .unset, .unset]) X0 hx (hb hby at_37) rfl rfl ?_
    refine o_dload (pc' := 41) X0 hx (hb hby at_39) rfl rfl ?_
    refine o_iloadN (pc' := 42) X0 hx (hb hby at_41) rfl rfl ?_
    refine o_iconst (pc' := 43) (v := (4 : Int32)) X0 hx (hb hby at_42) rfl rfl ?_
    refine o_iushr (pc' := 44) X0 hx (hb hby at_43)  rfl ?_
    refine o_iconst (pc' := 45) (v := (3 : Int32)) X0 hx (hb hby at_44) rfl rfl ?_
    refine o_iand (pc' := 46) X0 hx (hb hby at_45)  rfl ?_
    obtain ⟨S3, hS3⟩ : ∃ z, z = (((XT.ushr x2 (4 : Int32)) &&& (3 : Int32))).toInt64 := ⟨_, rfl⟩
    have bS3 : 0 ≤ S3.toInt ∧ S3.toInt ≤ 3 := by rw [hS3]; exact own_s3 (XT.ushr x2 (4 : Int32))
    refine o_i2d (pc' := 47) (v := FP.l2d S3) X0 hx (hb hby at_46) (by rw [i2d_w, hS3]) rfl ?_
    obtain ⟨A3, hA3⟩ : ∃ z, z = A2 + S3 := ⟨_, rfl⟩
    have eA3 : A3.toInt = A2.toInt + S3.toInt := by rw [hA3]; exact own_add64 ⟨by omega, by omega⟩ bS3
    have bA3 : -32 ≤ A3.toInt ∧ A3.toInt ≤ 40 := ⟨by omega, by omega⟩
    have qA3 := dadd_w (own_b53 ⟨by omega, by omega⟩ : B53 A2) (own_b53 ⟨by omega, by omega⟩ : B53 S3)
    refine o_dadd (pc' := 48) (v := FP.l2d A3) X0 hx (hb hby at_47) (by rw [qA3]; exact (Jvm.Free.Fl.l2d_fin _).noNaN) (by rw [qA3, hA3]) rfl ?_
    refine o_dstore (pc' := 50) (l' := #[.val (.int x0), .val (.int x1), .val (.int x2), .val (.int x3), .val (.int (3 : Int32)), .val (.double (FP.l2d A0)), .second, .val (.double (FP.l2d A1)), .second, .val (.double (FP.l2d A2)), .second, .val (.double (FP.l2d A3)), .second, .unset, .unset, .unset, .unset, .unset, .unset, .unset, .unset]) X0 hx (hb hby at_48) rfl rfl ?_
    refine o_dload (pc' := 52) X0 hx (hb hby at_50) rfl rfl ?_
    refine o_iloadN (pc' := 53) X0 hx (hb hby at_52) rfl rfl ?_
    refine o_bipush (pc' := 55) (v := (6 : Int32)) X0 hx (hb hby at_53) rfl rfl ?_
    refine o_iushr (pc' := 56) X0 hx (hb hby at_55)  rfl ?_
    refine o_iconst (pc' := 57) (v := (3 : Int32)) X0 hx (hb hby at_56) rfl rfl ?_
    refine o_iand (pc' := 58) X0 hx (hb hby at_57)  rfl ?_
    obtain ⟨S4, hS4⟩ : ∃ z, z = (((XT.ushr x2 (6 : Int32)) &&& (3 : Int32))).toInt64 := ⟨_, rfl⟩
    have bS4 : 0 ≤ S4.toInt ∧ S4.toInt ≤ 3 := by rw [hS4]; exact own_s3 (XT.ushr x2 (6 : Int32))
    refine o_i2d (pc' := 59) (v := FP.l2d S4) X0 hx (hb hby at_58) (by rw [i2d_w, hS4]) rfl ?_
    obtain ⟨A4, hA4⟩ : ∃ z, z = A3 + S4 := ⟨_, rfl⟩
    have eA4 : A4.toInt = A3.toInt + S4.toInt := by rw [hA4]; exact own_add64 ⟨by omega, by omega⟩ bS4
    have bA4 : -32 ≤ A4.toInt ∧ A4.toInt ≤ 43 := ⟨by omega, by omega⟩
    have qA4 := dadd_w (own_b53 ⟨by omega, by omega⟩ : B53 A3) (own_b53 ⟨by omega, by omega⟩ : B53 S4)
    refine o_dadd (pc' := 60) (v := FP.l2d A4) X0 hx (hb hby at_59) (by rw [qA4]; exact (Jvm.Free.Fl.l2d_fin _).noNaN) (by rw [qA4, hA4]) rfl ?_
    refine o_dstore (pc' := 62) (l' := #[.val (.int x0), .val (.int x1), .val (.int x2), .val (.int x3), .val (.int (3 : Int32)), .val (.double (FP.l2d A0)), .second, .val (.double (FP.l2d A1)), .second, .val (.double (FP.l2d A2)), .second, .val (.double (FP.l2d A3)), .second, .val (.double (FP.l2d A4)), .second, .unset, .unset, .unset, .unset, .unset, .unset]) X0 hx (hb hby at_60) rfl rfl ?_
    refine o_dload (pc' := 64) X0 hx (hb hby at_62) rfl rfl ?_
    refine o_iloadN (pc' := 65) X0 hx (hb hby at_64) rfl rfl ?_
    refine o_bipush (pc' := 67) (v := (8 : Int32)) X0 hx (hb hby at_65) rfl rfl ?_
    refine o_iushr (pc' := 68) X0 hx (hb hby at_67)  rfl ?_
    refine o_iconst (pc' := 69) (v := (3 : Int32)) X0 hx (hb hby at_68) rfl rfl ?_
    refine o_iand (pc' := 70) X0 hx (hb hby at_69)  rfl ?_
    obtain ⟨S5, hS5⟩ : ∃ z, z = (((XT.ushr x2 (8 : Int32)) &&& (3 : Int32))).toInt64 := ⟨_, rfl⟩
    have bS5 : 0 ≤ S5.toInt ∧ S5.toInt ≤ 3 := by rw [hS5]; exact own_s3 (XT.ushr x2 (8 : Int32))
    refine o_i2d (pc' := 71) (v := FP.l2d S5) X0 hx (hb hby at_70) (by rw [i2d_w, hS5]) rfl ?_
    obtain ⟨A5, hA5⟩ : ∃ z, z = A4 + S5 := ⟨_, rfl⟩
    have eA5 : A5.toInt = A4.toInt + S5.toInt := by rw [hA5]; exact own_add64 ⟨by omega, by omega⟩ bS5
    have bA5 : -32 ≤ A5.toInt ∧ A5.toInt ≤ 46 := ⟨by omega, by omega⟩
    have qA5 := dadd_w (own_b53 ⟨by omega, by omega⟩ : B53 A4) (own_b53 ⟨by omega, by omega⟩ : B53 S5)
    refine o_dadd (pc' := 72) (v := FP.l2d A5) X0 hx (hb hby at_71) (by rw [qA5]; exact (Jvm.Free.Fl.l2d_fin _).noNaN) (by rw [qA5, hA5]) rfl ?_
    refine o_dstore (pc' := 74) (l' := #[.val (.int x0), .val (.int x1), .val (.int x2), .val (.int x3), .val (.int (3 : Int32)), .val (.double (FP.l2d A0)), .second, .val (.double (FP.l2d A1)), .second, .val (.double (FP.l2d A2)), .second, .val (.double (FP.l2d A3)), .second, .val (.double (FP.l2d A4)), .second, .val (.double (FP.l2d A5)), .second, .unset, .unset, .unset, .unset]) X0 hx (hb hby at_72) rfl rfl ?_
    refine o_iloadN (pc' := 75) X0 hx (hb hby at_74) rfl rfl ?_
    refine o_sipush (pc' := 78) (v := (255 : Int32)) X0 hx (hb hby at_75) rfl rfl ?_
    refine o_iand (pc' := 79) X0 hx (hb hby at_78)  rfl ?_
    refine o_bipush (pc' := 81) (v := (96 : Int32)) X0 hx (hb hby at_79) rfl rfl ?_
    refine o_isub (pc' := 82) X0 hx (hb hby at_81)  rfl ?_
    obtain ⟨Q0, hQ0⟩ : ∃ z, z = (((x3 &&& (255 : Int32)) - (96 : Int32))).toInt64 := ⟨_, rfl⟩
    have bQ0 : -96 ≤ Q0.toInt ∧ Q0.toInt ≤ 159 := by rw [hQ0, own_sub x3 255 96 8 (by decide) (by decide) (by decide)]; have : (96 : Int32).toInt = 96 := rfl; omega
    refine o_i2d (pc' := 83) (v := FP.l2d Q0) X0 hx (hb hby at_82) (by rw [i2d_w, hQ0]) rfl ?_
    refine o_ldc2d (pc' := 86) (b := (4611686018427387904 : UInt64)) X0 hx hZ hown (hw _ (List.mem_of_getElem? (i := 0) rfl)) (hb hby at_83) rfl ?_
    obtain ⟨vv, hvv⟩ : ∃ z, z = FP.ddiv (FP.l2d Q0) (4611686018427387904 : UInt64) := ⟨_, rfl⟩
    refine o_ddiv (pc' := 87) (v := vv) X0 hx (hb hby at_86) (own_nn bQ0.1 bQ0.2) hvv.symm rfl ?_
    refine o_dstore (pc' := 89) (l' := #[.val (.int x0), .val (.int x1), .val (.int x2), .val (.int x3), .val (.int (3 : Int32)), .val (.double (FP.l2d A0)), .second, .val (.double (FP.l2d A1)), .second, .val (.double (FP.l2d A2)), .second, .val (.double (FP.l2d A3)), .second, .val (.double (FP.l2d A4)), .second, .val (.double (FP.l2d A5)), .second, .val (.double vv), .second, .unset, .unset]) X0 hx (hb hby at_87) rfl rfl ?_
    refine o_iload (pc' := 91) X0 hx (hb hby at_89) rfl rfl ?_
    refine o_dload (pc' := 93) X0 hx (hb hby at_91) rfl rfl ?_
    refine o_dload (pc' := 95) X0 hx (hb hby at_93) rfl rfl ?_
    refine o_dload (pc' := 97) X0 hx (hb hby at_95) rfl rfl ?_
    refine o_dload (pc' := 99) X0 hx (hb hby at_97) rfl rfl ?_
    refine o_dload (pc' := 101) X0 hx (hb hby at_99) rfl rfl ?_
    refine o_dload (pc' := 103) X0 hx (hb hby at_101) rfl rfl ?_
    obtain ⟨r31, T31, L31, X31, hq31, st31⟩ := o_callS X0 hx hZ hown (hw _ (List.mem_of_getElem? (i := 1) rfl)) (hw _ (List.mem_of_getElem? (i := 2) rfl)) (hw _ (List.mem_of_getElem? (i := 3) rfl)) (hw _ (List.mem_of_getElem? (i := 4) rfl)) (by decide) (rm1_3 l Z a0 hw (FP.l2d A0) (FP.l2d A1) (FP.l2d A2) (FP.l2d A3) (FP.l2d A4) (FP.l2d A5) h0 n0 Z0) e0 (pc' := 106) (Ls := #[.val (.int x0), .val (.int x1), .val (.int x2), .val (.int x3), .val (.int (3 : Int32)), .val (.double (FP.l2d A0)), .second, .val (.double (FP.l2d A1)), .second, .val (.double (FP.l2d A2)), .second, .val (.double (FP.l2d A3)), .second, .val (.double (FP.l2d A4)), .second, .val (.double (FP.l2d A5)), .second, .val (.double vv), .second, .unset, .unset]) (by rw [hml]; rfl) [(.int (3 : Int32)), (.double (FP.l2d A0)), (.double (FP.l2d A1)), (.double (FP.l2d A2)), (.double (FP.l2d A3)), (.double (FP.l2d A4)), (.double (FP.l2d A5))] [] rfl pd0 rfl rfl 0 (Nat.le_of_eq rfl) (hb hby at_103) rfl (by decide) (by decide) (by decide) (by decide)
    obtain ⟨rfl, N31, Kc31, A31_⟩ := hq31
    have ge_ar : n0 ≤ h0.size := Z0
    obtain ⟨ar, g_ar⟩ : ∃ z, z = h0.size := ⟨_, rfl⟩
    rw [← g_ar] at ge_ar st31 A31_
    refine oGo.step (f' := (mkF m 106 #[.val (.int x0), .val (.int x1), .val (.int x2), .val (.int x3), .val (.int (3 : Int32)), .val (.double (FP.l2d A0)), .second, .val (.double (FP.l2d A1)), .second, .val (.double (FP.l2d A2)), .second, .val (.double (FP.l2d A3)), .second, .val (.double (FP.l2d A4)), .second, .val (.double (FP.l2d A5)), .second, .val (.double vv), .second, .unset, .unset] [(.ref ar)])) st31 ?_
    have N31_ := Fr.app N0 N31
    have K32 := Kc31
    have Z33 := Nat.le_trans Z0 K32.1
    refine o_astore (pc' := 108) (l' := #[.val (.int x0), .val (.int x1), .val (.int x2), .val (.int x3), .val (.int (3 : Int32)), .val (.double (FP.l2d A0)), .second, .val (.double (FP.l2d A1)), .second, .val (.double (FP.l2d A2)), .second, .val (.double (FP.l2d A3)), .second, .val (.double (FP.l2d A4)), .second, .val (.double (FP.l2d A5)), .second, .val (.double vv), .second, .val (.ref ar), .unset]) X31 hx (hb hby at_106) rfl rfl rfl ?_
    refine o_dload (pc' := 110) X31 hx (hb hby at_108) rfl rfl ?_
    refine o_dload (pc' := 112) X31 hx (hb hby at_110) rfl rfl ?_
    refine o_iconst (pc' := 113) (v := (0 : Int32)) X31 hx (hb hby at_112) rfl rfl ?_
    refine o_iload (pc' := 115) X31 hx (hb hby at_113) rfl rfl ?_
    obtain ⟨r34, T34, L34, X34, hq34, st34⟩ := o_callS X31 hx hZ hown (hw _ (List.mem_of_getElem? (i := 6) rfl)) (hw _ (List.mem_of_getElem? (i := 7) rfl)) (hw _ (List.mem_of_getElem? (i := 3) rfl)) (hw _ (List.mem_of_getElem? (i := 8) rfl)) (by decide) (rm2 l Z a0 hw (FP.l2d A0) vv (0 : Int32) (3 : Int32) T31.heap n0 Z33 ) (rfl : T31.heap = _) (pc' := 118) (Ls := #[.val (.int x0), .val (.int x1), .val (.int x2), .val (.int x3), .val (.int (3 : Int32)), .val (.double (FP.l2d A0)), .second, .val (.double (FP.l2d A1)), .second, .val (.double (FP.l2d A2)), .second, .val (.double (FP.l2d A3)), .second, .val (.double (FP.l2d A4)), .second, .val (.double (FP.l2d A5)), .second, .val (.double vv), .second, .val (.ref ar), .unset]) (by rw [hml]; rfl) [(.double (FP.l2d A0)), (.double vv), (.int (0 : Int32)), (.int (3 : Int32))] [] rfl pd1 rfl rfl 0 (Nat.le_of_eq rfl) (hb hby at_115) rfl (by decide) (by decide) (by decide) (by decide)
    obtain ⟨rfl, rfl, Kc34⟩ := hq34
    refine oGo.step (f' := (mkF m 118 #[.val (.int x0), .val (.int x1), .val (.int x2), .val (.int x3), .val (.int (3 : Int32)), .val (.double (FP.l2d A0)), .second, .val (.double (FP.l2d A1)), .second, .val (.double (FP.l2d A2)), .second, .val (.double (FP.l2d A3)), .second, .val (.double (FP.l2d A4)), .second, .val (.double (FP.l2d A5)), .second, .val (.double vv), .second, .val (.ref ar), .unset] [(.int (spec2 (FP.l2d A0) vv (0 : Int32) (3 : Int32)))])) st34 ?_
    have e34 : T34.heap = T31.heap := Kc34
    have X34 := o_same X34 rfl rfl
    refine o_dload (pc' := 120) X34 hx (hb hby at_118) rfl rfl ?_
    refine o_dload (pc' := 122) X34 hx (hb hby at_120) rfl rfl ?_
    refine o_iconst (pc' := 123) (v := (1 : Int32)) X34 hx (hb hby at_122) rfl rfl ?_
    refine o_iload (pc' := 125) X34 hx (hb hby at_123) rfl rfl ?_
    obtain ⟨r35, T35, L35, X35, hq35, st35⟩ := o_callS X34 hx hZ hown (hw _ (List.mem_of_getElem? (i := 6) rfl)) (hw _ (List.mem_of_getElem? (i := 7) rfl)) (hw _ (List.mem_of_getElem? (i := 3) rfl)) (hw _ (List.mem_of_getElem? (i := 8) rfl)) (by decide) (rm2 l Z a0 hw (FP.l2d A1) vv (1 : Int32) (3 : Int32) T31.heap n0 Z33 ) e34 (pc' := 128) (Ls := #[.val (.int x0), .val (.int x1), .val (.int x2), .val (.int x3), .val (.int (3 : Int32)), .val (.double (FP.l2d A0)), .second, .val (.double (FP.l2d A1)), .second, .val (.double (FP.l2d A2)), .second, .val (.double (FP.l2d A3)), .second, .val (.double (FP.l2d A4)), .second, .val (.double (FP.l2d A5)), .second, .val (.double vv), .second, .val (.ref ar), .unset]) (by rw [hml]; rfl) [(.double (FP.l2d A1)), (.double vv), (.int (1 : Int32)), (.int (3 : Int32))] [(.int (spec2 (FP.l2d A0) vv (0 : Int32) (3 : Int32)))] rfl pd1 rfl rfl 1 (Nat.le_of_eq rfl) (hb hby at_125) rfl (by decide) (by decide) (by decide) (by decide)
    obtain ⟨rfl, rfl, Kc35⟩ := hq35
    refine oGo.step (f' := (mkF m 128 #[.val (.int x0), .val (.int x1), .val (.int x2), .val (.int x3), .val (.int (3 : Int32)), .val (.double (FP.l2d A0)), .second, .val (.double (FP.l2d A1)), .second, .val (.double (FP.l2d A2)), .second, .val (.double (FP.l2d A3)), .second, .val (.double (FP.l2d A4)), .second, .val (.double (FP.l2d A5)), .second, .val (.double vv), .second, .val (.ref ar), .unset] [(.int (spec2 (FP.l2d A1) vv (1 : Int32) (3 : Int32))), (.int (spec2 (FP.l2d A0) vv (0 : Int32) (3 : Int32)))])) st35 ?_
    have e35 : T35.heap = T31.heap := Kc35
    have X35 := o_same X35 rfl rfl
    refine o_iadd (pc' := 129) X35 hx (hb hby at_128)  rfl ?_
    refine o_dload (pc' := 131) X35 hx (hb hby at_129) rfl rfl ?_
    refine o_dload (pc' := 133) X35 hx (hb hby at_131) rfl rfl ?_
    refine o_iconst (pc' := 134) (v := (2 : Int32)) X35 hx (hb hby at_133) rfl rfl ?_
    refine o_iload (pc' := 136) X35 hx (hb hby at_134) rfl rfl ?_
    obtain ⟨r36, T36, L36, X36, hq36, st36⟩ := o_callS X35 hx hZ hown (hw _ (List.mem_of_getElem? (i := 6) rfl)) (hw _ (List.mem_of_getElem? (i := 7) rfl)) (hw _ (List.mem_of_getElem? (i := 3) rfl)) (hw _ (List.mem_of_getElem? (i := 8) rfl)) (by decide) (rm2 l Z a0 hw (FP.l2d A2) vv (2 : Int32) (3 : Int32) T31.heap n0 Z33 ) e35 (pc' := 139) (Ls := #[.val (.int x0), .val (.int x1), .val (.int x2), .val (.int x3), .val (.int (3 : Int32)), .val (.double (FP.l2d A0)), .second, .val (.double (FP.l2d A1)), .second, .val (.double (FP.l2d A2)), .second, .val (.double (FP.l2d A3)), .second, .val (.double (FP.l2d A4)), .second, .val (.double (FP.l2d A5)), .second, .val (.double vv), .second, .val (.ref ar), .unset]) (by rw [hml]; rfl) [(.double (FP.l2d A2)), (.double vv), (.int (2 : Int32)), (.int (3 : Int32))] [(.int ((spec2 (FP.l2d A0) vv (0 : Int32) (3 : Int32)) + (spec2 (FP.l2d A1) vv (1 : Int32) (3 : Int32))))] rfl pd1 rfl rfl 1 (Nat.le_of_eq rfl) (hb hby at_136) rfl (by decide) (by decide) (by decide) (by decide)
    obtain ⟨rfl, rfl, Kc36⟩ := hq36
    refine oGo.step (f' := (mkF m 139 #[.val (.int x0), .val (.int x1), .val (.int x2), .val (.int x3), .val (.int (3 : Int32)), .val (.double (FP.l2d A0)), .second, .val (.double (FP.l2d A1)), .second, .val (.double (FP.l2d A2)), .second, .val (.double (FP.l2d A3)), .second, .val (.double (FP.l2d A4)), .second, .val (.double (FP.l2d A5)), .second, .val (.double vv), .second, .val (.ref ar), .unset] [(.int (spec2 (FP.l2d A2) vv (2 : Int32) (3 : Int32))), (.int ((spec2 (FP.l2d A0) vv (0 : Int32) (3 : Int32)) + (spec2 (FP.l2d A1) vv (1 : Int32) (3 : Int32))))])) st36 ?_
    have e36 : T36.heap = T31.heap := Kc36
    have X36 := o_same X36 rfl rfl
    refine o_iadd (pc' := 140) X36 hx (hb hby at_139)  rfl ?_
    refine o_dload (pc' := 142) X36 hx (hb hby at_140) rfl rfl ?_
    refine o_dload (pc' := 144) X36 hx (hb hby at_142) rfl rfl ?_
    refine o_iconst (pc' := 145) (v := (3 : Int32)) X36 hx (hb hby at_144) rfl rfl ?_
    refine o_iload (pc' := 147) X36 hx (hb hby at_145) rfl rfl ?_
    obtain ⟨r37, T37, L37, X37, hq37, st37⟩ := o_callS X36 hx hZ hown (hw _ (List.mem_of_getElem? (i := 6) rfl)) (hw _ (List.mem_of_getElem? (i := 7) rfl)) (hw _ (List.mem_of_getElem? (i := 3) rfl)) (hw _ (List.mem_of_getElem? (i := 8) rfl)) (by decide) (rm2 l Z a0 hw (FP.l2d A3) vv (3 : Int32) (3 : Int32) T31.heap n0 Z33 ) e36 (pc' := 150) (Ls := #[.val (.int x0), .val (.int x1), .val (.int x2), .val (.int x3), .val (.int (3 : Int32)), .val (.double (FP.l2d A0)), .second, .val (.double (FP.l2d A1)), .second, .val (.double (FP.l2d A2)), .second, .val (.double (FP.l2d A3)), .second, .val (.double (FP.l2d A4)), .second, .val (.double (FP.l2d A5)), .second, .val (.double vv), .second, .val (.ref ar), .unset]) (by rw [hml]; rfl) [(.double (FP.l2d A3)), (.double vv), (.int (3 : Int32)), (.int (3 : Int32))] [(.int (((spec2 (FP.l2d A0) vv (0 : Int32) (3 : Int32)) + (spec2 (FP.l2d A1) vv (1 : Int32) (3 : Int32))) + (spec2 (FP.l2d A2) vv (2 : Int32) (3 : Int32))))] rfl pd1 rfl rfl 1 (Nat.le_of_eq rfl) (hb hby at_147) rfl (by decide) (by decide) (by decide) (by decide)
    obtain ⟨rfl, rfl, Kc37⟩ := hq37
    refine oGo.step (f' := (mkF m 150 #[.val (.int x0), .val (.int x1), .val (.int x2), .val (.int x3), .val (.int (3 : Int32)), .val (.double (FP.l2d A0)), .second, .val (.double (FP.l2d A1)), .second, .val (.double (FP.l2d A2)), .second, .val (.double (FP.l2d A3)), .second, .val (.double (FP.l2d A4)), .second, .val (.double (FP.l2d A5)), .second, .val (.double vv), .second, .val (.ref ar), .unset] [(.int (spec2 (FP.l2d A3) vv (3 : Int32) (3 : Int32))), (.int (((spec2 (FP.l2d A0) vv (0 : Int32) (3 : Int32)) + (spec2 (FP.l2d A1) vv (1 : Int32) (3 : Int32))) + (spec2 (FP.l2d A2) vv (2 : Int32) (3 : Int32))))])) st37 ?_
    have e37 : T37.heap = T31.heap := Kc37
    have X37 := o_same X37 rfl rfl
    refine o_iadd (pc' := 151) X37 hx (hb hby at_150)  rfl ?_
    refine o_dload (pc' := 153) X37 hx (hb hby at_151) rfl rfl ?_
    refine o_dload (pc' := 155) X37 hx (hb hby at_153) rfl rfl ?_
    refine o_iconst (pc' := 156) (v := (4 : Int32)) X37 hx (hb hby at_155) rfl rfl ?_
    refine o_iload (pc' := 158) X37 hx (hb hby at_156) rfl rfl ?_
    obtain ⟨r38, T38, L38, X38, hq38, st38⟩ := o_callS X37 hx hZ hown (hw _ (List.mem_of_getElem? (i := 6) rfl)) (hw _ (List.mem_of_getElem? (i := 7) rfl)) (hw _ (List.mem_of_getElem? (i := 3) rfl)) (hw _ (List.mem_of_getElem? (i := 8) rfl)) (by decide) (rm2 l Z a0 hw (FP.l2d A4) vv (4 : Int32) (3 : Int32) T31.heap n0 Z33 ) e37 (pc' := 161) (Ls := #[.val (.int x0), .val (.int x1), .val (.int x2), .val (.int x3), .val (.int (3 : Int32)), .val (.double (FP.l2d A0)), .second, .val (.double (FP.l2d A1)), .second, .val (.double (FP.l2d A2)), .second, .val (.double (FP.l2d A3)), .second, .val (.double (FP.l2d A4)), .second, .val (.double (FP.l2d A5)), .second, .val (.double vv), .second, .val (.ref ar), .unset]) (by rw [hml]; rfl) [(.double (FP.l2d A4)), (.double vv), (.int (4 : Int32)), (.int (3 : Int32))] [(.int ((((spec2 (FP.l2d A0) vv (0 : Int32) (3 : Int32)) + (spec2 (FP.l2d A1) vv (1 : Int32) (3 : Int32))) + (spec2 (FP.l2d A2) vv (2 : Int32) (3 : Int32))) + (spec2 (FP.l2d A3) vv (3 : Int32) (3 : Int32))))] rfl pd1 rfl rfl 1 (Nat.le_of_eq rfl) (hb hby at_158) rfl (by decide) (by decide) (by decide) (by decide)
    obtain ⟨rfl, rfl, Kc38⟩ := hq38
    refine oGo.step (f' := (mkF m 161 #[.val (.int x0), .val (.int x1), .val (.int x2), .val (.int x3), .val (.int (3 : Int32)), .val (.double (FP.l2d A0)), .second, .val (.double (FP.l2d A1)), .second, .val (.double (FP.l2d A2)), .second, .val (.double (FP.l2d A3)), .second, .val (.double (FP.l2d A4)), .second, .val (.double (FP.l2d A5)), .second, .val (.double vv), .second, .val (.ref ar), .unset] [(.int (spec2 (FP.l2d A4) vv (4 : Int32) (3 : Int32))), (.int ((((spec2 (FP.l2d A0) vv (0 : Int32) (3 : Int32)) + (spec2 (FP.l2d A1) vv (1 : Int32) (3 : Int32))) + (spec2 (FP.l2d A2) vv (2 : Int32) (3 : Int32))) + (spec2 (FP.l2d A3) vv (3 : Int32) (3 : Int32))))])) st38 ?_
    have e38 : T38.heap = T31.heap := Kc38
    have X38 := o_same X38 rfl rfl
    refine o_iadd (pc' := 162) X38 hx (hb hby at_161)  rfl ?_
    refine o_dload (pc' := 164) X38 hx (hb hby at_162) rfl rfl ?_
    refine o_dload (pc' := 166) X38 hx (hb hby at_164) rfl rfl ?_
    refine o_iconst (pc' := 167) (v := (5 : Int32)) X38 hx (hb hby at_166) rfl rfl ?_
    refine o_iload (pc' := 169) X38 hx (hb hby at_167) rfl rfl ?_
    obtain ⟨r39, T39, L39, X39, hq39, st39⟩ := o_callS X38 hx hZ hown (hw _ (List.mem_of_getElem? (i := 6) rfl)) (hw _ (List.mem_of_getElem? (i := 7) rfl)) (hw _ (List.mem_of_getElem? (i := 3) rfl)) (hw _ (List.mem_of_getElem? (i := 8) rfl)) (by decide) (rm2 l Z a0 hw (FP.l2d A5) vv (5 : Int32) (3 : Int32) T31.heap n0 Z33 ) e38 (pc' := 172) (Ls := #[.val (.int x0), .val (.int x1), .val (.int x2), .val (.int x3), .val (.int (3 : Int32)), .val (.double (FP.l2d A0)), .second, .val (.double (FP.l2d A1)), .second, .val (.double (FP.l2d A2)), .second, .val (.double (FP.l2d A3)), .second, .val (.double (FP.l2d A4)), .second, .val (.double (FP.l2d A5)), .second, .val (.double vv), .second, .val (.ref ar), .unset]) (by rw [hml]; rfl) [(.double (FP.l2d A5)), (.double vv), (.int (5 : Int32)), (.int (3 : Int32))] [(.int (((((spec2 (FP.l2d A0) vv (0 : Int32) (3 : Int32)) + (spec2 (FP.l2d A1) vv (1 : Int32) (3 : Int32))) + (spec2 (FP.l2d A2) vv (2 : Int32) (3 : Int32))) + (spec2 (FP.l2d A3) vv (3 : Int32) (3 : Int32))) + (spec2 (FP.l2d A4) vv (4 : Int32) (3 : Int32))))] rfl pd1 rfl rfl 1 (Nat.le_of_eq rfl) (hb hby at_169) rfl (by decide) (by decide) (by decide) (by decide)
    obtain ⟨rfl, rfl, Kc39⟩ := hq39
    refine oGo.step (f' := (mkF m 172 #[.val (.int x0), .val (.int x1), .val (.int x2), .val (.int x3), .val (.int (3 : Int32)), .val (.double (FP.l2d A0)), .second, .val (.double (FP.l2d A1)), .second, .val (.double (FP.l2d A2)), .second, .val (.double (FP.l2d A3)), .second, .val (.double (FP.l2d A4)), .second, .val (.double (FP.l2d A5)), .second, .val (.double vv), .second, .val (.ref ar), .unset] [(.int (spec2 (FP.l2d A5) vv (5 : Int32) (3 : Int32))), (.int (((((spec2 (FP.l2d A0) vv (0 : Int32) (3 : Int32)) + (spec2 (FP.l2d A1) vv (1 : Int32) (3 : Int32))) + (spec2 (FP.l2d A2) vv (2 : Int32) (3 : Int32))) + (spec2 (FP.l2d A3) vv (3 : Int32) (3 : Int32))) + (spec2 (FP.l2d A4) vv (4 : Int32) (3 : Int32))))])) st39 ?_
    have e39 : T39.heap = T31.heap := Kc39
    have X39 := o_same X39 rfl rfl
    refine o_iadd (pc' := 173) X39 hx (hb hby at_172)  rfl ?_
    refine o_istore (pc' := 175) (l' := #[.val (.int x0), .val (.int x1), .val (.int x2), .val (.int x3), .val (.int (3 : Int32)), .val (.double (FP.l2d A0)), .second, .val (.double (FP.l2d A1)), .second, .val (.double (FP.l2d A2)), .second, .val (.double (FP.l2d A3)), .second, .val (.double (FP.l2d A4)), .second, .val (.double (FP.l2d A5)), .second, .val (.double vv), .second, .val (.ref ar), .val (.int ((((((spec2 (FP.l2d A0) vv (0 : Int32) (3 : Int32)) + (spec2 (FP.l2d A1) vv (1 : Int32) (3 : Int32))) + (spec2 (FP.l2d A2) vv (2 : Int32) (3 : Int32))) + (spec2 (FP.l2d A3) vv (3 : Int32) (3 : Int32))) + (spec2 (FP.l2d A4) vv (4 : Int32) (3 : Int32))) + (spec2 (FP.l2d A5) vv (5 : Int32) (3 : Int32))))]) X39 hx (hb hby at_173) rfl rfl ?_
    refine o_aload (pc' := 177) X39 hx (hb hby at_175) rfl rfl rfl ?_
    refine o_dload (pc' := 179) X39 hx (hb hby at_177) rfl rfl ?_
    obtain ⟨r40, T40, L40, X40, hq40, st40⟩ := o_callS X39 hx hZ hown (hw _ (List.mem_of_getElem? (i := 9) rfl)) (hw _ (List.mem_of_getElem? (i := 10) rfl)) (hw _ (List.mem_of_getElem? (i := 11) rfl)) (hw _ (List.mem_of_getElem? (i := 12) rfl)) (by decide) (rm3_3 l Z a0 hw ar vv (FP.l2d A0) (FP.l2d A1) (FP.l2d A2) T31.heap n0 Z33 A31_) e39 (pc' := 182) (Ls := #[.val (.int x0), .val (.int x1), .val (.int x2), .val (.int x3), .val (.int (3 : Int32)), .val (.double (FP.l2d A0)), .second, .val (.double (FP.l2d A1)), .second, .val (.double (FP.l2d A2)), .second, .val (.double (FP.l2d A3)), .second, .val (.double (FP.l2d A4)), .second, .val (.double (FP.l2d A5)), .second, .val (.double vv), .second, .val (.ref ar), .val (.int ((((((spec2 (FP.l2d A0) vv (0 : Int32) (3 : Int32)) + (spec2 (FP.l2d A1) vv (1 : Int32) (3 : Int32))) + (spec2 (FP.l2d A2) vv (2 : Int32) (3 : Int32))) + (spec2 (FP.l2d A3) vv (3 : Int32) (3 : Int32))) + (spec2 (FP.l2d A4) vv (4 : Int32) (3 : Int32))) + (spec2 (FP.l2d A5) vv (5 : Int32) (3 : Int32))))]) (by rw [hml]; rfl) [(.ref ar), (.double vv)] [] rfl pd2 rfl rfl 0 (Nat.le_of_eq rfl) (hb hby at_179) rfl (by decide) (by decide) (by decide) (by decide)
    obtain ⟨rfl, rfl, Kc40⟩ := hq40
    refine oGo.step (f' := (mkF m 182 #[.val (.int x0), .val (.int x1), .val (.int x2), .val (.int x3), .val (.int (3 : Int32)), .val (.double (FP.l2d A0)), .second, .val (.double (FP.l2d A1)), .second, .val (.double (FP.l2d A2)), .second, .val (.double (FP.l2d A3)), .second, .val (.double (FP.l2d A4)), .second, .val (.double (FP.l2d A5)), .second, .val (.double vv), .second, .val (.ref ar), .val (.int ((((((spec2 (FP.l2d A0) vv (0 : Int32) (3 : Int32)) + (spec2 (FP.l2d A1) vv (1 : Int32) (3 : Int32))) + (spec2 (FP.l2d A2) vv (2 : Int32) (3 : Int32))) + (spec2 (FP.l2d A3) vv (3 : Int32) (3 : Int32))) + (spec2 (FP.l2d A4) vv (4 : Int32) (3 : Int32))) + (spec2 (FP.l2d A5) vv (5 : Int32) (3 : Int32))))] [(.int (spec3_3 vv (FP.l2d A0) (FP.l2d A1) (FP.l2d A2)))])) st40 ?_
    have e40 : T40.heap = T31.heap := Kc40
    have X40 := o_same X40 rfl rfl
    refine o_iload (pc' := 184) X40 hx (hb hby at_182) rfl rfl ?_
    have k0 := own_cmp bA0.1 (by omega) bQ0.1 bQ0.2
    rw [← hvv] at k0
    have k1 := own_cmp bA1.1 (by omega) bQ0.1 bQ0.2
    rw [← hvv] at k1
    have k2 := own_cmp bA2.1 (by omega) bQ0.1 bQ0.2
    rw [← hvv] at k2
    have hE : (spec3_3 vv (FP.l2d A0) (FP.l2d A1) (FP.l2d A2)) = ((((((spec2 (FP.l2d A0) vv (0 : Int32) (3 : Int32)) + (spec2 (FP.l2d A1) vv (1 : Int32) (3 : Int32))) + (spec2 (FP.l2d A2) vv (2 : Int32) (3 : Int32))) + (spec2 (FP.l2d A3) vv (3 : Int32) (3 : Int32))) + (spec2 (FP.l2d A4) vv (4 : Int32) (3 : Int32))) + (spec2 (FP.l2d A5) vv (5 : Int32) (3 : Int32))) := own_fin3 vv (FP.l2d A0) (FP.l2d A1) (FP.l2d A2) (FP.l2d A3) (FP.l2d A4) (FP.l2d A5) k0 k1 k2 (by omega) (by omega)
    refine o_icmpF (pc' := 187) X40 hx (hb hby at_184) (XT.ii_ne_f hE) rfl ?_
    refine o_iconst (pc' := 188) (v := (1 : Int32)) X40 hx (hb hby at_187) rfl rfl ?_
    refine o_goto (pc' := 192) X40 hx (hb hby at_188) (by decide) (by decide) ?_
    refine o_retZ X40 hx hret hlk (hb hby at_192) (by decide) (by decide) (by decide) ?_
    exact ⟨rfl, N31_⟩
  · rw [hn]
    refine o_iloadN (pc' := 10) X0 hx (hb hby at_9) rfl rfl ?_
    refine o_bipush (pc' := 12) (v := (63 : Int32)) X0 hx (hb hby at_10) rfl rfl ?_
    refine o_iand (pc' := 13) X0 hx (hb hby at_12)  rfl ?_
    refine o_bipush (pc' := 15) (v := (32 : Int32)) X0 hx (hb hby at_13) rfl rfl ?_
    refine o_isub (pc' := 16) X0 hx (hb hby at_15)  rfl ?_
    obtain ⟨A0, hA0⟩ : ∃ z, z = (((x1 &&& (63 : Int32)) - (32 : Int32))).toInt64 := ⟨_, rfl⟩
    have bA0 : -32 ≤ A0.toInt ∧ A0.toInt ≤ 31 := by rw [hA0, own_sub x1 63 32 6 (by decide) (by decide) (by decide)]; have : (32 : Int32).toInt = 32 := rfl; omega
    refine o_i2d (pc' := 17) (v := FP.l2d A0) X0 hx (hb hby at_16) (by rw [i2d_w, hA0]) rfl ?_
    refine o_dstore (pc' := 19) (l' := #[.val (.int x0), .val (.int x1), .val (.int x2), .val (.int x3), .val (.int (4 : Int32)), .val (.double (FP.l2d A0)), .second, .unset, .unset, .unset, .unset, .unset, .unset, .unset, .unset, .unset, .unset, .unset, .unset, .unset, .unset]) X0 hx (hb hby at_17) rfl rfl ?_
    refine o_dload (pc' := 21) X0 hx (hb hby at_19) rfl rfl ?_
    refine o_iloadN (pc' := 22) X0 hx (hb hby at_21) rfl rfl ?_
    refine o_iconst (pc' := 23) (v := (3 : Int32)) X0 hx (hb hby at_22) rfl rfl ?_
    refine o_iand (pc' := 24) X0 hx (hb hby at_23)  rfl ?_
    obtain ⟨S1, hS1⟩ : ∃ z, z = ((x2 &&& (3 : Int32))).toInt64 := ⟨_, rfl⟩
    have bS1 : 0 ≤ S1.toInt ∧ S1.toInt ≤ 3 := by rw [hS1]; exact own_s3 x2
    refine o_i2d (pc' := 25) (v := FP.l2d S1) X0 hx (hb hby at_24) (by rw [i2d_w, hS1]) rfl ?_
    obtain ⟨A1, hA1⟩ : ∃ z, z = A0 + S1 := ⟨_, rfl⟩
    have eA1 : A1.toInt = A0.toInt + S1.toInt := by rw [hA1]; exact own_add64 ⟨by omega, by omega⟩ bS1
    have bA1 : -32 ≤ A1.toInt ∧ A1.toInt ≤ 34 := ⟨by omega, by omega⟩
    have qA1 := dadd_w (own_b53 ⟨by omega, by omega⟩ : B53 A0) (own_b53 ⟨by omega, by omega⟩ : B53 S1)
    refine o_dadd (pc' := 26) (v := FP.l2d A1) X0 hx (hb hby at_25) (by rw [qA1]; exact (Jvm.Free.Fl.l2d_fin _).noNaN) (by rw [qA1, hA1]) rfl ?_
    refine o_dstore (pc' := 28) (l' := #[.val (.int x0), .val (.int x1), .val (.int x2), .val (.int x3), .val (.int (4 : Int32)), .val (.double (FP.l2d A0)), .second, .val (.double (FP.l2d A1)), .second, .unset, .unset, .unset, .unset, .unset, .unset, .unset, .unset, .unset, .unset, .unset, .unset]) X0 hx (hb hby at_26) rfl rfl ?_
    refine o_dload (pc' := 30) X0 hx (hb hby at_28) rfl rfl ?_
    refine o_iloadN (pc' := 31) X0 hx (hb hby at_30) rfl rfl ?_
    refine o_iconst (pc' := 32) (v := (2 : Int32)) X0 hx (hb hby at_31) rfl rfl ?_
    refine o_iushr (pc' := 33) X0 hx (hb hby at_32)  rfl ?_
    refine o_iconst (pc' := 34) (v := (3 : Int32)) X0 hx (hb hby at_33) rfl rfl ?_
    refine o_iand (pc' := 35) X0 hx (hb hby at_34)  rfl ?_
    obtain ⟨S2, hS2⟩ : ∃ z, z = (((XT.ushr x2 (2 : Int32)) &&& (3 : Int32))).toInt64 := ⟨_, rfl⟩
    have bS2 : 0 ≤ S2.toInt ∧ S2.toInt ≤ 3 := by rw [hS2]; exact own_s3 (XT.ushr x2 (2 : Int32))
    refine o_i2d (pc' := 36) (v := FP.l2d S2) X0 hx (hb hby at_35) (by rw [i2d_w, hS2]) rfl ?_
    obtain ⟨A2, hA2⟩ : ∃ z, z = A1 + S2 := ⟨_, rfl⟩
    have eA2 : A2.toInt = A1.toInt + S2.toInt := by rw [hA2]; exact own_add64 ⟨by omega, by omega⟩ bS2
    have bA2 : -32 ≤ A2.toInt ∧ A2.toInt ≤ 37 := ⟨by omega, by omega⟩
    have qA2 := dadd_w (own_b53 ⟨by omega, by omega⟩ : B53 A1) (own_b53 ⟨by omega, by omega⟩ : B53 S2)
    refine o_dadd (pc' := 37) (v := FP.l2d A2) X0 hx (hb hby at_36) (by rw [qA2]; exact (Jvm.Free.Fl.l2d_fin _).noNaN) (by rw [qA2, hA2]) rfl ?_
    refine o_dstore (pc' := 39) (l' := #[.val (.int x0), .val (.int x1), .val (.int x2), .val (.int x3), .val (.int (4 : Int32)), .val (.double (FP.l2d A0)), .second, .val (.double (FP.l2d A1)), .second, .val (.double (FP.l2d A2)), .second, .unset, .unset, .unset, .unset, .unset, .unset, .unset, .unset, .unset, .unset]) X0 hx (hb hby at_37) rfl rfl ?_
    refine o_dload (pc' := 41) X0 hx (hb hby at_39) rfl rfl ?_
    refine o_iloadN (pc' := 42) X0 hx (hb hby at_41) rfl rfl ?_
    refine o_iconst (pc' := 43) (v := (4 : Int32)) X0 hx (hb hby at_42) rfl rfl ?_
    refine o_iushr (pc' := 44) X0 hx (hb hby at_43)  rfl ?_
    refine o_iconst (pc' := 45) (v := (3 : Int32)) X0 hx (hb hby at_44) rfl rfl ?_
    refine o_iand (pc' := 46) X0 hx (hb hby at_45)  rfl ?_
    obtain ⟨S3, hS3⟩ : ∃ z, z = (((XT.ushr x2 (4 : Int32)) &&& (3 : Int32))).toInt64 := ⟨_, rfl⟩
    have bS3 : 0 ≤ S3.toInt ∧ S3.toInt ≤ 3 := by rw [hS3]; exact own_s3 (XT.ushr x2 (4 : Int32))
    refine o_i2d (pc' := 47) (v := FP.l2d S3) X0 hx (hb hby at_46) (by rw [i2d_w, hS3]) rfl ?_
    obtain ⟨A3, hA3⟩ : ∃ z, z = A2 + S3 := ⟨_, rfl⟩
    have eA3 : A3.toInt = A2.toInt + S3.toInt := by rw [hA3]; exact own_add64 ⟨by omega, by omega⟩ bS3
    have bA3 : -32 ≤ A3.toInt ∧ A3.toInt ≤ 40 := ⟨by omega, by omega⟩
    have qA3 := dadd_w (own_b53 ⟨by omega, by omega⟩ : B53 A2) (own_b53 ⟨by omega, by omega⟩ : B53 S3)
    refine o_dadd (pc' := 48) (v := FP.l2d A3) X0 hx (hb hby at_47) (by rw [qA3]; exact (Jvm.Free.Fl.l2d_fin _).noNaN) (by rw [qA3, hA3]) rfl ?_
    refine o_dstore (pc' := 50) (l' := #[.val (.int x0), .val (.int x1), .val (.int x2), .val (.int x3), .val (.int (4 : Int32)), .val (.double (FP.l2d A0)), .second, .val (.double (FP.l2d A1)), .second, .val (.double (FP.l2d A2)), .second, .val (.double (FP.l2d A3)), .second, .unset, .unset, .unset, .unset, .unset, .unset, .unset, .unset]) X0 hx (hb hby at_48) rfl rfl ?_
    refine o_dload (pc' := 52) X0 hx (hb hby at_50) rfl rfl ?_
    refine o_iloadN (pc' := 53) X0 hx (hb hby at_52) rfl rfl ?_
    refine o_bipush (pc' := 55) (v := (6 : Int32)) X0 hx (hb hby at_53) rfl rfl ?_
    refine o_iushr (pc' := 56) X0 hx (hb hby at_55)  rfl ?_
    refine o_iconst (pc' := 57) (v := (3 : Int32)) X0 hx (hb hby at_56) rfl rfl ?_
    refine o_iand (pc' := 58) X0 hx (hb hby at_57)  rfl ?_
    obtain ⟨S4, hS4⟩ : ∃ z, z = (((XT.ushr x2 (6 : Int32)) &&& (3 : Int32))).toInt64 := ⟨_, rfl⟩
    have bS4 : 0 ≤ S4.toInt ∧ S4.toInt ≤ 3 := by rw [hS4]; exact own_s3 (XT.ushr x2 (6 : Int32))
    refine o_i2d (pc' := 59) (v := FP.l2d S4) X0 hx (hb hby at_58) (by rw [i2d_w, hS4]) rfl ?_
    obtain ⟨A4, hA4⟩ : ∃ z, z = A3 + S4 := ⟨_, rfl⟩
    have eA4 : A4.toInt = A3.toInt + S4.toInt := by rw [hA4]; exact own_add64 ⟨by omega, by omega⟩ bS4
    have bA4 : -32 ≤ A4.toInt ∧ A4.toInt ≤ 43 := ⟨by omega, by omega⟩
    have qA4 := dadd_w (own_b53 ⟨by omega, by omega⟩ : B53 A3) (own_b53 ⟨by omega, by omega⟩ : B53 S4)
    refine o_dadd (pc' := 60) (v := FP.l2d A4) X0 hx (hb hby at_59) (by rw [qA4]; exact (Jvm.Free.Fl.l2d_fin _).noNaN) (by rw [qA4, hA4]) rfl ?_
    refine o_dstore (pc' := 62) (l' := #[.val (.int x0), .val (.int x1), .val (.int x2), .val (.int x3), .val (.int (4 : Int32)), .val (.double (FP.l2d A0)), .second, .val (.double (FP.l2d A1)), .second, .val (.double (FP.l2d A2)), .second, .val (.double (FP.l2d A3)), .second, .val (.double (FP.l2d A4)), .second, .unset, .unset, .unset, .unset, .unset, .unset]) X0 hx (hb hby at_60) rfl rfl ?_
    refine o_dload (pc' := 64) X0 hx (hb hby at_62) rfl rfl ?_
    refine o_iloadN (pc' := 65) X0 hx (hb hby at_64) rfl rfl ?_
    refine o_bipush (pc' := 67) (v := (8 : Int32)) X0 hx (hb hby at_65) rfl rfl ?_
    refine o_iushr (pc' := 68) X0 hx (hb hby at_67)  rfl ?_
    refine o_iconst (pc' := 69) (v := (3 : Int32)) X0 hx (hb hby at_68) rfl rfl ?_
    refine o_iand (pc' := 70) X0 hx (hb hby at_69)  rfl ?_
    obtain ⟨S5, hS5⟩ : ∃ z, z = (((XT.ushr x2 (8 : Int32)) &&& (3 : Int32))).toInt64 := ⟨_, rfl⟩
    have bS5 : 0 ≤ S5.toInt ∧ S5.toInt ≤ 3 := by rw [hS5]; exact own_s3 (XT.ushr x2 (8 : Int32))
    refine o_i2d (pc' := 71) (v := FP.l2d S5) X0 hx (hb hby at_70) (by rw [i2d_w, hS5]) rfl ?_
    obtain ⟨A5, hA5⟩ : ∃ z, z = A4 + S5 := ⟨_, rfl⟩
    have eA5 : A5.toInt = A4.toInt + S5.toInt := by rw [hA5]; exact own_add64 ⟨by omega, by omega⟩ bS5
    have bA5 : -32 ≤ A5.toInt ∧ A5.toInt ≤ 46 := ⟨by omega, by omega⟩
    have qA5 := dadd_w (own_b53 ⟨by omega, by omega⟩ : B53 A4) (own_b53 ⟨by omega, by omega⟩ : B53 S5)
    refine o_dadd (pc' := 72) (v := FP.l2d A5) X0 hx (hb hby at_71) (by rw [qA5]; exact (Jvm.Free.Fl.l2d_fin _).noNaN) (by rw [qA5, hA5]) rfl ?_
    refine o_dstore (pc' := 74) (l' := #[.val (.int x0), .val (.int x1), .val (.int x2), .val (.int x3), .val (.int (4 : Int32)), .val (.double (FP.l2d A0)), .second, .val (.double (FP.l2d A1)), .second, .val (.double (FP.l2d A2)), .second, .val (.double (FP.l2d A3)), .second, .val (.double (FP.l2d A4)), .second, .val (.double (FP.l2d A5)), .second, .unset, .unset, .unset, .unset]) X0 hx (hb hby at_72) rfl rfl ?_
    refine o_iloadN (pc' := 75) X0 hx (hb hby at_74) rfl rfl ?_
    refine o_sipush (pc' := 78) (v := (255 : Int32)) X0 hx (hb hby at_75) rfl rfl ?_
    refine o_iand (pc' := 79) X0 hx (hb hby at_78)  rfl ?_
    refine o_bipush (pc' := 81) (v := (96 : Int32)) X0 hx (hb hby at_79) rfl rfl ?_
    refine o_isub (pc' := 82) X0 hx (hb hby at_81)  rfl ?_
    obtain ⟨Q0, hQ0⟩ : ∃ z, z = (((x3 &&& (255 : Int32)) - (96 : Int32))).toInt64 := ⟨_, rfl⟩
    have bQ0 : -96 ≤ Q0.toInt ∧ Q0.toInt ≤ 159 := by rw [hQ0, own_sub x3 255 96 8 (by decide) (by decide) (by decide)]; have : (96 : Int32).toInt = 96 := rfl; omega
    refine o_i2d (pc' := 83) (v := FP.l2d Q0) X0 hx (hb hby at_82) (by rw [i2d_w, hQ0]) rfl ?_
    refine o_ldc2d (pc' := 86) (b := (4611686018427387904 : UInt64)) X0 hx hZ hown (hw _ (List.mem_of_getElem? (i := 0) rfl)) (hb hby at_83) rfl ?_
    obtain ⟨vv, hvv⟩ : ∃ z, z = FP.ddiv (FP.l2d Q0) (4611686018427387904 : UInt64) := ⟨_, rfl⟩
    refine o_ddiv (pc' := 87) (v := vv) X0 hx (hb hby at_86) (own_nn bQ0.1 bQ0.2) hvv.symm rfl ?_
    refine o_dstore (pc' := 89) (l' := #[.val (.int x0), .val (.int x1), .val (.int x2), .val (.int x3), .val (.int (4 : Int32)), .val (.double (FP.l2d A0)), .second, .val (.double (FP.l2d A1)), .second, .val (.double (FP.l2d A2)), .second, .val (.double (FP.l2d A3)), .second, .val (.double (FP.l2d A4)), .second, .val (.double (FP.l2d A5)), .second, .val (.double vv), .second, .unset, .unset]) X0 hx (hb hby at_87) rfl rfl ?_
    refine o_iload (pc' := 91) X0 hx (hb hby at_89) rfl rfl ?_
    refine o_dload (pc' := 93) X0 hx (hb hby at_91) rfl rfl ?_
    refine o_dload (pc' := 95) X0 hx (hb hby at_93) rfl rfl ?_
    refine o_dload (pc' := 97) X0 hx (hb hby at_95) rfl rfl ?_
    refine o_dload (pc' := 99) X0 hx (hb hby at_97) rfl rfl ?_
    refine o_dload (pc' := 101) X0 hx (hb hby at_99) rfl rfl ?_
    refine o_dload (pc' := 103) X0 hx (hb hby at_101) rfl rfl ?_
    obtain ⟨r41, T41, L41, X41, hq41, st41⟩ := o_callS X0 hx hZ hown (hw _ (List.mem_of_getElem? (i := 1) rfl)) (hw _ (List.mem_of_getElem? (i := 2) rfl)) (hw _ (List.mem_of_getElem? (i := 3) rfl)) (hw _ (List.mem_of_getElem? (i := 4) rfl)) (by decide) (rm1_4 l Z a0 hw (FP.l2d A0) (FP.l2d A1) (FP.l2d A2) (FP.l2d A3) (FP.l2d A4) (FP.l2d A5) h0 n0 Z0) e0 (pc' := 106) (Ls := #[.val (.int x0), .val (.int x1), .val (.int x2), .val (.int x3), .val (.int (4 : Int32)), .val (.double (FP.l2d A0)), .second, .val (.double (FP.l2d A1)), .second, .val (.double (FP.l2d A2)), .second, .val (.double (FP.l2d A3)), .second, .val (.double (FP.l2d A4)), .second, .val (.double (FP.l2d A5)), .second, .val (.double vv), .second, .unset, .unset]) (by rw [hml]; rfl) [(.int (4 : Int32)), (.double (FP.l2d A0)), (.double (FP.l2d A1)), (.double (FP.l2d A2)), (.double (FP.l2d A3)), (.double (FP.l2d A4)), (.double (FP.l2d A5))] [] rfl pd0 rfl rfl 0 (Nat.le_of_eq rfl) (hb hby at_103) rfl (by decide) (by decide) (by decide) (by decide)
    obtain ⟨rfl, N41, Kc41, A41_⟩ := hq41
    have ge_ar : n0 ≤ h0.size := Z0
    obtain ⟨ar, g_ar⟩ : ∃ z, z = h0.size := ⟨_, rfl⟩
    rw [← g_ar] at ge_ar st41 A41_
    refine oGo.step (f' := (mkF m 106 #[.val (.int x0), .val (.int x1), .val (.int x2), .val (.int x3), .val (.int (4 : Int32)), .val (.double (FP.l2d A0)), .second, .val (.double (FP.l2d A1)), .second, .val (.double (FP.l2d A2)), .second, .val (.double (FP.l2d A3)), .second, .val (.double (FP.l2d A4)), .second, .val (.double (FP.l2d A5)), .second, .val (.double vv), .second, .unset, .unset] [(.ref ar)])) st41 ?_
    have N41_ := Fr.app N0 N41
    have K42 := Kc41
    have Z43 := Nat.le_trans Z0 K42.1
    refine o_astore (pc' := 108) (l' := #[.val (.int x0), .val (.int x1), .val (.int x2), .val (.int x3), .val (.int (4 : Int32)), .val (.double (FP.l2d A0)), .second, .val (.double (FP.l2d A1)), .second, .val (.double (FP.l2d A2)), .second, .val (.double (FP.l2d A3)), .second, .val (.double (FP.l2d A4)), .second, .val (.double (FP.l2d A5)), .second, .val (.double vv), .second, .val (.ref ar), .unset]) X41 hx (hb hby at_106) rfl rfl rfl ?_
    refine o_dload (pc' := 110) X41 hx (hb hby at_108) rfl rfl ?_
    refine o_dload (pc' := 112) X41 hx (hb hby at_110) rfl rfl ?_
    refine o_iconst (pc' := 113) (v := (0 : Int32)) X41 hx (hb hby at_112) rfl rfl ?_
    refine o_iload (pc' := 115) X41 hx (hb hby at_113) rfl rfl ?_
    obtain ⟨r44, T44, L44, X44, hq44, st44⟩ := o_callS X41 hx hZ hown (hw _ (List.mem_of_getElem? (i := 6) rfl)) (hw _ (List.mem_of_getElem? (i := 7) rfl)) (hw _ (List.mem_of_getElem? (i := 3) rfl)) (hw _ (List.mem_of_getElem? (i := 8) rfl)) (by decide) (rm2 l Z a0 hw (FP.l2d A0) vv (0 : Int32) (4 : Int32) T41.heap n0 Z43 ) (rfl : T41.heap = _) (pc' := 118) (Ls := #[.val (.int x0), .val (.int x1), .val (.int x2), .val (.int x3), .val (.int (4 : Int32)), .val (.double (FP.l2d A0)), .second, .val (.double (FP.l2d A1)), .second, .val (.double (FP.l2d A2)), .second, .val (.double (FP.l2d A3)), .second, .val (.double (FP.l2d A4)), .second, .val (.double (FP.l2d A5)), .second, .val (.double vv), .second, .val (.ref ar), .unset]) (by rw [hml]; rfl) [(.double (FP.l2d A0)), (.double vv), (.int (0 : Int32)), (.int (4 : Int32))] [] rfl pd1 rfl rfl 0 (Nat.le_of_eq rfl) (hb hby at_115) rfl (by decide) (by decide) (by decide) (by decide)
    obtain ⟨rfl, rfl, Kc44⟩ := hq44
    refine oGo.step (f' := (mkF m 118 #[.val (.int x0), .val (.int x1), .val (.int x2), .val (.int x3), .val (.int (4 : Int32)), .val (.double (FP.l2d A0)), .second, .val (.double (FP.l2d A1)), .second, .val (.double (FP.l2d A2)), .second, .val (.double (FP.l2d A3)), .second, .val (.double (FP.l2d A4)), .second, .val (.double (FP.l2d A5)), .second, .val (.double vv), .second, .val (.ref ar), .unset] [(.int (spec2 (FP.l2d A0) vv (0 : Int32) (4 : Int32)))])) st44 ?_
    have e44 : T44.heap = T41.heap := Kc44
    have X44 := o_same X44 rfl rfl
    refine o_dload (pc' := 120) X44 hx (hb hby at_118) rfl rfl ?_
    refine o_dload (pc' := 122) X44 hx (hb hby at_120) rfl rfl ?_
    refine o_iconst (pc' := 123) (v := (1 : Int32)) X44 hx (hb hby at_122) rfl rfl ?_
    refine o_iload (pc' := 125) X44 hx (hb hby at_123) rfl rfl ?_
    obtain ⟨r45, T45, L45, X45, hq45, st45⟩ := o_callS X44 hx hZ hown (hw _ (List.mem_of_getElem? (i := 6) rfl)) (hw _ (List.mem_of_getElem? (i := 7) rfl)) (hw _ (List.mem_of_getElem? (i := 3) rfl)) (hw _ (List.mem_of_getElem? (i := 8) rfl)) (by decide) (rm2 l Z a0 hw (FP.l2d A1) vv (1 : Int32) (4 : Int32) T41.heap n0 Z43 ) e44 (pc' := 128) (Ls := #[.val (.int x0), .val (.int x1), .val (.int x2), .val (.int x3), .val (.int (4 : Int32)), .val (.double (FP.l2d A0)), .second, .val (.double (FP.l2d A1)), .second, .val (.double (FP.l2d A2)), .second, .val (.double (FP.l2d A3)), .second, .val (.double (FP.l2d A4)), .second, .val (.double (FP.l2d A5)), .second, .val (.double vv), .second, .val (.ref ar), .unset]) (by rw [hml]; rfl) [(.double (FP.l2d A1)), (.double vv), (.int (1 : Int32)), (.int (4 : Int32))] [(.int (spec2 (FP.l2d A0) vv (0 : Int32) (4 : Int32)))] rfl pd1 rfl rfl 1 (Nat.le_of_eq rfl) (hb hby at_125) rfl (by decide) (by decide) (by decide) (by decide)
    obtain ⟨rfl, rfl, Kc45⟩ := hq45
    refine oGo.step (f' := (mkF m 128 #[.val (.int x0), .val (.int x1), .val (.int x2), .val (.int x3), .val (.int (4 : Int32)), .val (.double (FP.l2d A0)), .second, .val (.double (FP.l2d A1)), .second, .val (.double (FP.l2d A2)), .second, .val (.double (FP.l2d A3)), .second, .val (.double (FP.l2d A4)), .second, .val (.double (FP.l2d A5)), .second, .val (.double vv), .second, .val (.ref ar), .unset] [(.int (spec2 (FP.l2d A1) vv (1 : Int32) (4 : Int32))), (.int (spec2 (FP.l2d A0) vv (0 : Int32) (4 : Int32)))])) st45 ?_
    have e45 : T45.heap = T41.heap := Kc45
    have X45 := o_same X45 rfl rfl
    refine o_iadd (pc' := 129) X45 hx (hb hby at_128)  rfl ?_
    refine o_dload (pc' := 131) X45 hx (hb hby at_129) rfl rfl ?_
    refine o_dload (pc' := 133) X45 hx (hb hby at_131) rfl rfl ?_
    refine o_iconst (pc' := 134) (v := (2 : Int32)) X45 hx (hb hby at_133) rfl rfl ?_
    refine o_iload (pc' := 136) X45 hx (hb hby at_134) rfl rfl ?_
    obtain ⟨r46, T46, L46, X46, hq46, st46⟩ := o_callS X45 hx hZ hown (hw _ (List.mem_of_getElem? (i := 6) rfl)) (hw _ (List.mem_of_getElem? (i := 7) rfl)) (hw _ (List.mem_of_getElem? (i := 3) rfl)) (hw _ (List.mem_of_getElem? (i := 8) rfl)) (by decide) (rm2 l Z a0 hw (FP.l2d A2) vv (2 : Int32) (4 : Int32) T41.heap n0 Z43 ) e45 (pc' := 139) (Ls := #[.val (.int x0), .val (.int x1), .val (.int x2), .val (.int x3), .val (.int (4 : Int32)), .val (.double (FP.l2d A0)), .second, .val (.double (FP.l2d A1)), .second, .val (.double (FP.l2d A2)), .second, .val (.double (FP.l2d A3)), .second, .val (.double (FP.l2d A4)), .second, .val (.double (FP.l2d A5)), .second, .val (.double vv), .second, .val (.ref ar), .unset]) (by rw [hml]; rfl) [(.double (FP.l2d A2)), (.double vv), (.int (2 : Int32)), (.int (4 : Int32))] [(.int ((spec2 (FP.l2d A0) vv (0 : Int32) (4 : Int32)) + (spec2 (FP.l2d A1) vv (1 : Int32) (4 : Int32))))] rfl pd1 rfl rfl 1 (Nat.le_of_eq rfl) (hb hby at_136) rfl (by decide) (by decide) (by decide) (by decide)
    obtain ⟨rfl, rfl, Kc46⟩ := hq46
    refine oGo.step (f' := (mkF m 139 #[.val (.int x0), .val (.int x1), .val (.int x2), .val (.int x3), .val (.int (4 : Int32)), .val (.double (FP.l2d A0)), .second, .val (.double (FP.l2d A1)), .second, .val (.double (FP.l2d A2)), .second, .val (.double (FP.l2d A3)), .second, .val (.double (FP.l2d A4)), .second, .val (.double (FP.l2d A5)), .second, .val (.double vv), .second, .val (.ref ar), .unset] [(.int (spec2 (FP.l2d A2) vv (2 : Int32) (4 : Int32))), (.int ((spec2 (FP.l2d A0) vv (0 : Int32) (4 : Int32)) + (spec2 (FP.l2d A1) vv (1 : Int32) (4 : Int32))))])) st46 ?_
    have e46 : T46.heap = T41.heap := Kc46
    have X46 := o_same X46 rfl rfl
    refine o_iadd (pc' := 140) X46 hx (hb hby at_139)  rfl ?_
    refine o_dload (pc' := 142) X46 hx (hb hby at_140) rfl rfl ?_
    refine o_dload (pc' := 144) X46 hx (hb hby at_142) rfl rfl ?_
    refine o_iconst (pc' := 145) (v := (3 : Int32)) X46 hx (hb hby at_144) rfl rfl ?_
    refine o_iload (pc' := 147) X46 hx (hb hby at_145) rfl rfl ?_
    obtain ⟨r47, T47, L47, X47, hq47, st47⟩ := o_callS X46 hx hZ hown (hw _ (List.mem_of_getElem? (i := 6) rfl)) (hw _ (List.mem_of_getElem? (i := 7) rfl)) (hw _ (List.mem_of_getElem? (i := 3) rfl)) (hw _ (List.mem_of_getElem? (i := 8) rfl)) (by decide) (rm2 l Z a0 hw (FP.l2d A3) vv (3 : Int32) (4 : Int32) T41.heap n0 Z43 ) e46 (pc' := 150) (Ls := #[.val (.int x0), .val (.int x1), .val (.int x2), .val (.int x3), .val (.int (4 : Int32)), .val (.double (FP.l2d A0)), .second, .val (.double (FP.l2d A1)), .second, .val (.double (FP.l2d A2)), .second, .val (.double (FP.l2d A3)), .second, .val (.double (FP.l2d A4)), .second, .val (.double (FP.l2d A5)), .second, .val (.double vv), .second, .val (.ref ar), .unset]) (by rw [hml]; rfl) [(.double (FP.l2d A3)), (.double vv), (.int (3 : Int32)), (.int (4 : Int32))] [(.int (((spec2 (FP.l2d A0) vv (0 : Int32) (4 : Int32)) + (spec2 (FP.l2d A1) vv (1 : Int32) (4 : Int32))) + (spec2 (FP.l2d A2) vv (2 : Int32) (4 : Int32))))] rfl pd1 rfl rfl 1 (Nat.le_of_eq rfl) (hb hby at_147) rfl (by decide) (by decide) (by decide) (by decide)
    obtain ⟨rfl, rfl, Kc47⟩ := hq47
    refine oGo.step (f' := (mkF m 150 #[.val (.int x0), .val (.int x1), .val (.int x2), .val (.int x3), .val (.int (4 : Int32)), .val (.double (FP.l2d A0)), .second, .val (.double (FP.l2d A1)), .second, .val (.double (FP.l2d A2)), .second, .val (.double (FP.l2d A3)), .second, .val (.double (FP.l2d A4)), .second, .val (.double (FP.l2d A5)), .second, .val (.double vv), .second, .val (.ref ar), .unset] [(.int (spec2 (FP.l2d A3) vv (3 : Int32) (4 : Int32))), (.int (((spec2 (FP.l2d A0) vv (0 : Int32) (4 : Int32)) + (spec2 (FP.l2d A1) vv (1 : Int32) (4 : Int32))) + (spec2 (FP.l2d A2) vv (2 : Int32) (4 : Int32))))])) st47 ?_
    have e47 : T47.heap = T41.heap := Kc47
    have X47 := o_same X47 rfl rfl
    refine o_iadd (pc' := 151) X47 hx (hb hby at_150)  rfl ?_
    refine o_dload (pc' := 153) X47 hx (hb hby at_151) rfl rfl ?_
    refine o_dload (pc' := 155) X47 hx (hb hby at_153) rfl rfl ?_
    refine o_iconst (pc' := 156) (v := (4 : Int32)) X47 hx (hb hby at_155) rfl rfl ?_
    refine o_iload (pc' := 158) X47 hx (hb hby at_156) rfl rfl ?_
    obtain ⟨r48, T48, L48, X48, hq48, st48⟩ := o_callS X47 hx hZ hown (hw _ (List.mem_of_getElem? (i := 6) rfl)) (hw _ (List.mem_of_getElem? (i := 7) rfl)) (hw _ (List.mem_of_getElem? (i := 3) rfl)) (hw _ (List.mem_of_getElem? (i := 8) rfl)) (by decide) (rm2 l Z a0 hw (FP.l2d A4) vv (4 : Int32) (4 : Int32) T41.heap n0 Z43 ) e47 (pc' := 161) (Ls := #[.val (.int x0), .val (.int x1), .val (.int x2), .val (.int x3), .val (.int (4 : Int32)), .val (.double (FP.l2d A0)), .second, .val (.double (FP.l2d A1)), .second, .val (.double (FP.l2d A2)), .second, .val (.double (FP.l2d A3)), .second, .val (.double (FP.l2d A4)), .second, .val (.double (FP.l2d A5)), .second, .val (.double vv), .second, .val (.ref ar), .unset]) (by rw [hml]; rfl) [(.double (FP.l2d A4)), (.double vv), (.int (4 : Int32)), (.int (4 : Int32))] [(.int ((((spec2 (FP.l2d A0) vv (0 : Int32) (4 : Int32)) + (spec2 (FP.l2d A1) vv (1 : Int32) (4 : Int32))) + (spec2 (FP.l2d A2) vv (2 : Int32) (4 : Int32))) + (spec2 (FP.l2d A3) vv (3 : Int32) (4 : Int32))))] rfl pd1 rfl rfl 1 (Nat.le_of_eq rfl) (hb hby at_158) rfl (by decide) (by decide) (by decide) (by decide)
    obtain ⟨rfl, rfl, Kc48⟩ := hq48
    refine oGo.step (f' := (mkF m 161 #[.val (.int x0), .val (.int x1), .val (.int x2), .val (.int x3), .val (.int (4 : Int32)), .val (.double (FP.l2d A0)), .second, .val (.double (FP.l2d A1)), .second, .val (.double (FP.l2d A2)), .second, .val (.double (FP.l2d A3)), .second, .val (.double (FP.l2d A4)), .second, .val (.double (FP.l2d A5)), .second, .val (.double vv), .second, .val (.ref ar), .unset] [(.int (spec2 (FP.l2d A4) vv (4 : Int32) (4 : Int32))), (.int ((((spec2 (FP.l2d A0) vv (0 : Int32) (4 : Int32)) + (spec2 (FP.l2d A1) vv (1 : Int32) (4 : Int32))) + (spec2 (FP.l2d A2) vv (2 : Int32) (4 : Int32))) + (spec2 (FP.l2d A3) vv (3 : Int32) (4 : Int32))))])) st48 ?_
    have e48 : T48.heap = T41.heap := Kc48
    have X48 := o_same X48 rfl rfl
    refine o_iadd (pc' := 162) X48 hx (hb hby at_161)  rfl ?_
    refine o_dload (pc' := 164) X48 hx (hb hby at_162) rfl rfl ?_
    refine o_dload (pc' := 166) X48 hx (hb hby at_164) rfl rfl ?_
    refine o_iconst (pc' := 167) (v := (5 : Int32)) X48 hx (hb hby at_166) rfl rfl ?_
    refine o_iload (pc' := 169) X48 hx (hb hby at_167) rfl rfl ?_
    obtain ⟨r49, T49, L49, X49, hq49, st49⟩ := o_callS X48 hx hZ hown (hw _ (List.mem_of_getElem? (i := 6) rfl)) (hw _ (List.mem_of_getElem? (i := 7) rfl)) (hw _ (List.mem_of_getElem? (i := 3) rfl)) (hw _ (List.mem_of_getElem? (i := 8) rfl)) (by decide) (rm2 l Z a0 hw (FP.l2d A5) vv (5 : Int32) (4 : Int32) T41.heap n0 Z43 ) e48 (pc' := 172) (Ls := #[.val (.int x0), .val (.int x1), .val (.int x2), .val (.int x3), .val (.int (4 : Int32)), .val (.double (FP.l2d A0)), .second, .val (.double (FP.l2d A1)), .second, .val (.double (FP.l2d A2)), .second, .val (.double (FP.l2d A3)), .second, .val (.double (FP.l2d A4)), .second, .val (.double (FP.l2d A5)), .second, .val (.double vv), .second, .val (.ref ar), .unset]) (by rw [hml]; rfl) [(.double (FP.l2d A5)), (.double vv), (.int (5 : Int32)), (.int (4 : Int32))] [(.int (((((spec2 (FP.l2d A0) vv (0 : Int32) (4 : Int32)) + (spec2 (FP.l2d A1) vv (1 : Int32) (4 : Int32))) + (spec2 (FP.l2d A2) vv (2 : Int32) (4 : Int32))) + (spec2 (FP.l2d A3) vv (3 : Int32) (4 : Int32))) + (spec2 (FP.l2d A4) vv (4 : Int32) (4 : Int32))))] rfl pd1 rfl rfl 1 (Nat.le_of_eq rfl) (hb hby at_169) rfl (by decide) (by decide) (by decide) (by decide)
    obtain ⟨rfl, rfl, Kc49⟩ := hq49
    refine oGo.step (f' := (mkF m 172 #[.val (.int x0), .val (.int x1), .val (.int x2), .val (.int x3), .val (.int (4 : Int32)), .val (.double (FP.l2d A0)), .second, .val (.double (FP.l2d A1)), .second, .val (.double (FP.l2d A2)), .second, .val (.double (FP.l2d A3)), .second, .val (.double (FP.l2d A4)), .second, .val (.double (FP.l2d A5)), .second, .val (.double vv), .second, .val (.ref ar), .unset] [(.int (spec2 (FP.l2d A5) vv (5 : Int32) (4 : Int32))), (.int (((((spec2 (FP.l2d A0) vv (0 : Int32) (4 : Int32)) + (spec2 (FP.l2d A1) vv (1 : Int32) (4 : Int32))) + (spec2 (FP.l2d A2) vv (2 : Int32) (4 : Int32))) + (spec2 (FP.l2d A3) vv (3 : Int32) (4 : Int32))) + (spec2 (FP.l2d A4) vv (4 : Int32) (4 : Int32))))])) st49 ?_
    have e49 : T49.heap = T41.heap := Kc49
    have X49 := o_same X49 rfl rfl
    refine o_iadd (pc' := 173) X49 hx (hb hby at_172)  rfl ?_
    refine o_istore (pc' := 175) (l' := #[.val (.int x0), .val (.int x1), .val (.int x2), .val (.int x3), .val (.int (4 : Int32)), .val (.double (FP.l2d A0)), .second, .val (.double (FP.l2d A1)), .second, .val (.double (FP.l2d A2)), .second, .val (.double (FP.l2d A3)), .second, .val (.double (FP.l2d A4)), .second, .val (.double (FP.l2d A5)), .second, .val (.double vv), .second, .val (.ref ar), .val (.int ((((((spec2 (FP.l2d A0) vv (0 : Int32) (4 : Int32)) + (spec2 (FP.l2d A1) vv (1 : Int32) (4 : Int32))) + (spec2 (FP.l2d A2) vv (2 : Int32) (4 : Int32))) + (spec2 (FP.l2d A3) vv (3 : Int32) (4 : Int32))) + (spec2 (FP.l2d A4) vv (4 : Int32) (4 : Int32))) + (spec2 (FP.l2d A5) vv (5 : Int32) (4 : Int32))))]) X49 hx (hb hby at_173) rfl rfl ?_
    refine o_aload (pc' := 177) X49 hx (hb hby at_175) rfl rfl rfl ?_
    refine o_dload (pc' := 179) X49 hx (hb hby at_177) rfl rfl ?_
    obtain ⟨r50, T50, L50, X50, hq50, st50⟩ := o_callS X49 hx hZ hown (hw _ (List.mem_of_getElem? (i := 9) rfl)) (hw _ (List.mem_of_getElem? (i := 10) rfl)) (hw _ (List.mem_of_getElem? (i := 11) rfl)) (hw _ (List.mem_of_getElem? (i := 12) rfl)) (by decide) (rm3_4 l Z a0 hw ar vv (FP.l2d A0) (FP.l2d A1) (FP.l2d A2) (FP.l2d A3) T41.heap n0 Z43 A41_) e49 (pc' := 182) (Ls := #[.val (.int x0), .val (.int x1), .val (.int x2), .val (.int x3), .val (.int (4 : Int32)), .val (.double (FP.l2d A0)), .second, .val (.double (FP.l2d A1)), .second, .val (.double (FP.l2d A2)), .second, .val (.double (FP.l2d A3)), .second, .val (.double (FP.l2d A4)), .second, .val (.double (FP.l2d A5)), .second, .val (.double vv), .second, .val (.ref ar), .val (.int ((((((spec2 (FP.l2d A0) vv (0 : Int32) (4 : Int32)) + (spec2 (FP.l2d A1) vv (1 : Int32) (4 : Int32))) + (spec2 (FP.l2d A2) vv (2 : Int32) (4 : Int32))) + (spec2 (FP.l2d A3) vv (3 : Int32) (4 : Int32))) + (spec2 (FP.l2d A4) vv (4 : Int32) (4 : Int32))) + (spec2 (FP.l2d A5) vv (5 : Int32) (4 : Int32))))]) (by rw [hml]; rfl) [(.ref ar), (.double vv)] [] rfl pd2 rfl rfl 0 (Nat.le_of_eq rfl) (hb hby at_179) rfl (by decide) (by decide) (by decide) (by decide)
    obtain ⟨rfl, rfl, Kc50⟩ := hq50
    refine oGo.step (f' := (mkF m 182 #[.val (.int x0), .val (.int x1), .val (.int x2), .val (.int x3), .val (.int (4 : Int32)), .val (.double (FP.l2d A0)), .second, .val (.double (FP.l2d A1)), .second, .val (.double (FP.l2d A2)), .second, .val (.double (FP.l2d A3)), .second, .val (.double (FP.l2d A4)), .second, .val (.double (FP.l2d A5)), .second, .val (.double vv), .second, .val (.ref ar), .val (.int ((((((spec2 (FP.l2d A0) vv (0 : Int32) (4 : Int32)) + (spec2 (FP.l2d A1) vv (1 : Int32) (4 : Int32))) + (spec2 (FP.l2d A2) vv (2 : Int32) (4 : Int32))) + (spec2 (FP.l2d A3) vv (3 : Int32) (4 : Int32))) + (spec2 (FP.l2d A4) vv (4 : Int32) (4 : Int32))) + (spec2 (FP.l2d A5) vv (5 : Int32) (4 : Int32))))] [(.int (spec3_4 vv (FP.l2d A0) (FP.l2d A1) (FP.l2d A2) (FP.l2d A3)))])) st50 ?_
    have e50 : T50.heap = T41.heap := Kc50
    have X50 := o_same X50 rfl rfl
    refine o_iload (pc' := 184) X50 hx (hb hby at_182) rfl rfl ?_
    have k0 := own_cmp bA0.1 (by omega) bQ0.1 bQ0.2
    rw [← hvv] at k0
    have k1 := own_cmp bA1.1 (by omega) bQ0.1 bQ0.2
    rw [← hvv] at k1
    have k2 := own_cmp bA2.1 (by omega) bQ0.1 bQ0.2
    rw [← hvv] at k2
    have k3 := own_cmp bA3.1 (by omega) bQ0.1 bQ0.2
    rw [← hvv] at k3
    have hE : (spec3_4 vv (FP.l2d A0) (FP.l2d A1) (FP.l2d A2) (FP.l2d A3)) = ((((((spec2 (FP.l2d A0) vv (0 : Int32) (4 : Int32)) + (spec2 (FP.l2d A1) vv (1 : Int32) (4 : Int32))) + (spec2 (FP.l2d A2) vv (2 : Int32) (4 : Int32))) + (spec2 (FP.l2d A3) vv (3 : Int32) (4 : Int32))) + (spec2 (FP.l2d A4) vv (4 : Int32) (4 : Int32))) + (spec2 (FP.l2d A5) vv (5 : Int32) (4 : Int32))) := own_fin4 vv (FP.l2d A0) (FP.l2d A1) (FP.l2d A2) (FP.l2d A3) (FP.l2d A4) (FP.l2d A5) k0 k1 k2 k3 (by omega) (by omega) (by omega)
    refine o_icmpF (pc' := 187) X50 hx (hb hby at_184) (XT.ii_ne_f hE) rfl ?_
    refine o_iconst (pc' := 188) (v := (1 : Int32)) X50 hx (hb hby at_187) rfl rfl ?_
    refine o_goto (pc' := 192) X50 hx (hb hby at_188) (by decide) (by decide) ?_
    refine o_retZ X50 hx hret hlk (hb hby at_192) (by decide) (by decide) (by decide) ?_
    exact ⟨rfl, N41_⟩
  · rw [hn]
    refine o_iloadN (pc' := 10) X0 hx (hb hby at_9) rfl rfl ?_
    refine o_bipush (pc' := 12) (v := (63 : Int32)) X0 hx (hb hby at_10) rfl rfl ?_
    refine o_iand (pc' := 13) X0 hx (hb hby at_12)  rfl ?_
    refine o_bipush (pc' := 15) (v := (32 : Int32)) X0 hx (hb hby at_13) rfl rfl ?_
    refine o_isub (pc' := 16) X0 hx (hb hby at_15)  rfl ?_
    obtain ⟨A0, hA0⟩ : ∃ z, z = (((x1 &&& (63 : Int32)) - (32 : Int32))).toInt64 := ⟨_, rfl⟩
    have bA0 : -32 ≤ A0.toInt ∧ A0.toInt ≤ 31 := by rw [hA0, own_sub x1 63 32 6 (by decide) (by decide) (by decide)]; have : (32 : Int32).toInt = 32 := rfl; omega
    refine o_i2d (pc' := 17) (v := FP.l2d A0) X0 hx (hb hby at_16) (by rw [i2d_w, hA0]) rfl ?_
    refine o_dstore (pc' := 19) (l' := #[.val (.int x0), .val (.int x1), .val (.int x2), .val (.int x3), .val (.int (5 : Int32)), .val (.double (FP.l2d A0)), .second, .unset, .unset, .unset, .unset, .unset, .unset, .unset, .unset, .unset, .unset, .unset, .unset, .unset, .unset]) X0 hx (hb hby at_17) rfl rfl ?_
    refine o_dload (pc' := 21) X0 hx (hb hby at_19) rfl rfl ?_
    refine o_iloadN (pc' := 22) X0 hx (hb hby at_21) rfl rfl ?_
    refine o_iconst (pc' := 23) (v := (3 : Int32)) X0 hx (hb hby at_22) rfl rfl ?_
    refine o_iand (pc' := 24) X0 hx (hb hby at_23)  rfl ?_
    obtain ⟨S1, hS1⟩ : ∃ z, z = ((x2 &&& (3 : Int32))).toInt64 := ⟨_, rfl⟩
    have bS1 : 0 ≤ S1.toInt ∧ S1.toInt ≤ 3 := by rw [hS1]; exact own_s3 x2
    refine o_i2d (pc' := 25) (v := FP.l2d S1) X0 hx (hb hby at_24) (by rw [i2d_w, hS1]) rfl ?_
    obtain ⟨A1, hA1⟩ : ∃ z, z = A0 + S1 := ⟨_, rfl⟩
    have eA1 : A1.toInt = A0.toInt + S1.toInt := by rw [hA1]; exact own_add64 ⟨by omega, by omega⟩ bS1
    have bA1 : -32 ≤ A1.toInt ∧ A1.toInt ≤ 34 := ⟨by omega, by omega⟩
    have qA1 := dadd_w (own_b53 ⟨by omega, by omega⟩ : B53 A0) (own_b53 ⟨by omega, by omega⟩ : B53 S1)
    refine o_dadd (pc' := 26) (v := FP.l2d A1) X0 hx (hb hby at_25) (by rw [qA1]; exact (Jvm.Free.Fl.l2d_fin _).noNaN) (by rw [qA1, hA1]) rfl ?_
    refine o_dstore (pc' := 28) (l' := #[.val (.int x0), .val (.int x1), .val (.int x2), .val (.int x3), .val (.int (5 : Int32)), .val (.double (FP.l2d A0)), .second, .val (.double (FP.l2d A1)), .second, .unset, .unset, .unset, .unset, .unset, .unset, .unset, .unset, .unset, .unset, .unset, .unset]) X0 hx (hb hby at_26) rfl rfl ?_
    refine o_dload (pc' := 30) X0 hx (hb hby at_28) rfl rfl ?_
    refine o_iloadN (pc' := 31) X0 hx (hb hby at_30) rfl rfl ?_
    refine o_iconst (pc' := 32) (v := (2 : Int32)) X0 hx (hb hby at_31) rfl rfl ?_
    refine o_iushr (pc' := 33) X0 hx (hb hby at_32)  rfl ?_
    refine o_iconst (pc' := 34) (v := (3 : Int32)) X0 hx (hb hby at_33) rfl rfl ?_
    refine o_iand (pc' := 35) X0 hx (hb hby at_34)  rfl ?_
    obtain ⟨S2, hS2⟩ : ∃ z, z = (((XT.ushr x2 (2 : Int32)) &&& (3 : Int32))).toInt64 := ⟨_, rfl⟩
    have bS2 : 0 ≤ S2.toInt ∧ S2.toInt ≤ 3 := by rw [hS2]; exact own_s3 (XT.ushr x2 (2 : Int32))
    refine o_i2d (pc' := 36) (v := FP.l2d S2) X0 hx (hb hby at_35) (by rw [i2d_w, hS2]) rfl ?_
    obtain ⟨A2, hA2⟩ : ∃ z, z = A1 + S2 := ⟨_, rfl⟩
    have eA2 : A2.toInt = A1.toInt + S2.toInt := by rw [hA2]; exact own_add64 ⟨by omega, by omega⟩ bS2
    have bA2 : -32 ≤ A2.toInt ∧ A2.toInt ≤ 37 := ⟨by omega, by omega⟩
    have qA2 := dadd_w (own_b53 ⟨by omega, by omega⟩ : B53 A1) (own_b53 ⟨by omega, by omega⟩ : B53 S2)
    refine o_dadd (pc' := 37) (v := FP.l2d A2) X0 hx (hb hby at_36) (by rw [qA2]; exact (Jvm.Free.Fl.l2d_fin _).noNaN) (by rw [qA2, hA2]) rfl ?_
    refine o_dstore (pc' := 39) (l' := #[.val (.int x0), .val (.int x1), .val (.int x2), .val (.int x3), .val (.int (5 : Int32)), .val (.double (FP.l2d A0)), .second, .val (.double (FP.l2d A1)), .second, .val (.double (FP.l2d A2)), .second, .unset, .unset, .unset, .unset, .unset, .unset, .unset, .unset, .unset, .unset]) X0 hx (hb hby at_37) rfl rfl ?_
    refine o_dload (pc' := 41) X0 hx (hb hby at_39) rfl rfl ?_
    refine o_iloadN (pc' := 42) X0 hx (hb hby at_41) rfl rfl ?_
    refine o_iconst (pc' := 43) (v := (4 : Int32)) X0 hx (hb hby at_42) rfl rfl ?_
    refine o_iushr (pc' := 44) X0 hx (hb hby at_43)  rfl ?_
    refine o_iconst (pc' := 45) (v := (3 : Int32)) X0 hx (hb hby at_44) rfl rfl ?_
    refine o_iand (pc' := 46) X0 hx (hb hby at_45)  rfl ?_
    obtain ⟨S3, hS3⟩ : ∃ z, z = (((XT.ushr x2 (4 : Int32)) &&& (3 : Int32))).toInt64 := ⟨_, rfl⟩
    have bS3 : 0 ≤ S3.toInt ∧ S3.toInt ≤ 3 := by rw [hS3]; exact own_s3 (XT.ushr x2 (4 : Int32))
    refine o_i2d (pc' := 47) (v := FP.l2d S3) X0 hx (hb hby at_46) (by rw [i2d_w, hS3]) rfl ?_
    obtain ⟨A3, hA3⟩ : ∃ z, z = A2 + S3 := ⟨_, rfl⟩
    have eA3 : A3.toInt = A2.toInt + S3.toInt := by rw [hA3]; exact own_add64 ⟨by omega, by omega⟩ bS3
    have bA3 : -32 ≤ A3.toInt ∧ A3.toInt ≤ 40 := ⟨by omega, by omega⟩
    have qA3 := dadd_w (own_b53 ⟨by omega, by omega⟩ : B53 A2) (own_b53 ⟨by omega, by omega⟩ : B53 S3)
    refine o_dadd (pc' := 48) (v := FP.l2d A3) X0 hx (hb hby at_47) (by rw [qA3]; exact (Jvm.Free.Fl.l2d_fin _).noNaN) (by rw [qA3, hA3]) rfl ?_
    refine o_dstore (pc' := 50) (l' := #[.val (.int x0), .val (.int x1), .val (.int x2), .val (.int x3), .val (.int (5 : Int32)), .val (.double (FP.l2d A0)), .second, .val (.double (FP.l2d A1)), .second, .val (.double (FP.l2d A2)), .second, .val (.double (FP.l2d A3)), .second, .unset, .unset, .unset, .unset, .unset, .unset, .unset, .unset]) X0 hx (hb hby at_48) rfl rfl ?_
    refine o_dload (pc' := 52) X0 hx (hb hby at_50) rfl rfl ?_
    refine o_iloadN (pc' := 53) X0 hx (hb hby at_52) rfl rfl ?_
    refine o_bipush (pc' := 55) (v := (6 : Int32)) X0 hx (hb hby at_53) rfl rfl ?_
    refine o_iushr (pc' := 56) X0 hx (hb hby at_55)  rfl ?_
    refine o_iconst (pc' := 57) (v := (3 : Int32)) X0 hx (hb hby at_56) rfl rfl ?_
    refine o_iand (pc' := 58) X0 hx (hb hby at_57)  rfl ?_
    obtain ⟨S4, hS4⟩ : ∃ z, z = (((XT.ushr x2 (6 : Int32)) &&& (3 : Int32))).toInt64 := ⟨_, rfl⟩
    have bS4 : 0 ≤ S4.toInt ∧ S4.toInt ≤ 3 := by rw [hS4]; exact own_s3 (XT.ushr x2 (6 : Int32))
    refine o_i2d (pc' := 59) (v := FP.l2d S4) X0 hx (hb hby at_58) (by rw [i2d_w, hS4]) rfl ?_
    obtain ⟨A4, hA4⟩ : ∃ z, z = A3 + S4 := ⟨_, rfl⟩
    have eA4 : A4.toInt = A3.toInt + S4.toInt := by rw [hA4]; exact own_add64 ⟨by omega, by omega⟩ bS4
    have bA4 : -32 ≤ A4.toInt ∧ A4.toInt ≤ 43 := ⟨by omega, by omega⟩
    have qA4 := dadd_w (own_b53 ⟨by omega, by omega⟩ : B53 A3) (own_b53 ⟨by omega, by omega⟩ : B53 S4)
    refine o_dadd (pc' := 60) (v := FP.l2d A4) X0 hx (hb hby at_59) (by rw [qA4]; exact (Jvm.Free.Fl.l2d_fin _).noNaN) (by rw [qA4, hA4]) rfl ?_
    refine o_dstore (pc' := 62) (l' := #[.val (.int x0), .val (.int x1), .val (.int x2), .val (.int x3), .val (.int (5 : Int32)), .val (.double (FP.l2d A0)), .second, .val (.double (FP.l2d A1)), .second, .val (.double (FP.l2d A2)), .second, .val (.double (FP.l2d A3)), .second, .val (.double (FP.l2d A4)), .second, .unset, .unset, .unset, .unset, .unset, .unset]) X0 hx (hb hby at_60) rfl rfl ?_
    refine o_dload (pc' := 64) X0 hx (hb hby at_62) rfl rfl ?_
    refine o_iloadN (pc' := 65) X0 hx (hb hby at_64) rfl rfl ?_
    refine o_bipush (pc' := 67) (v := (8 : Int32)) X0 hx (hb hby at_65) rfl rfl ?_
    refine o_iushr (pc' := 68) X0 hx (hb hby at_67)  rfl ?_
    refine o_iconst (pc' := 69) (v := (3 : Int32)) X0 hx (hb hby at_68) rfl rfl ?_
    refine o_iand (pc' := 70) X0 hx (hb hby at_69)  rfl ?_
    obtain ⟨S5, hS5⟩ : ∃ z, z = (((XT.ushr x2 (8 : Int32)) &&& (3 : Int32))).toInt64 := ⟨_, rfl⟩
    have bS5 : 0 ≤ S5.toInt ∧ S5.toInt ≤ 3 := by rw [hS5]; exact own_s3 (XT.ushr x2 (8 : Int32))
    refine o_i2d (pc' := 71) (v := FP.l2d S5) X0 hx (hb hby at_70) (by rw [i2d_w, hS5]) rfl ?_
    obtain ⟨A5, hA5⟩ : ∃ z, z = A4 + S5 := ⟨_, rfl⟩
    have eA5 : A5.toInt = A4.toInt + S5.toInt := by rw [hA5]; exact own_add64 ⟨by omega, by omega⟩ bS5
    have bA5 : -32 ≤ A5.toInt ∧ A5.toInt ≤ 46 := ⟨by omega, by omega⟩
    have qA5 := dadd_w (own_b53 ⟨by omega, by omega⟩ : B53 A4) (own_b53 ⟨by omega, by omega⟩ : B53 S5)
    refine o_dadd (pc' := 72) (v := FP.l2d A5) X0 hx (hb hby at_71) (by rw [qA5]; exact (Jvm.Free.Fl.l2d_fin _).noNaN) (by rw [qA5, hA5]) rfl ?_
    refine o_dstore (pc' := 74) (l' := #[.val (.int x0), .val (.int x1), .val (.int x2), .val (.int x3), .val (.int (5 : Int32)), .val (.double (FP.l2d A0)), .second, .val (.double (FP.l2d A1)), .second, .val (.double (FP.l2d A2)), .second, .val (.double (FP.l2d A3)), .second, .val (.double (FP.l2d A4)), .second, .val (.double (FP.l2d A5)), .second, .unset, .unset, .unset, .unset]) X0 hx (hb hby at_72) rfl rfl ?_
    refine o_iloadN (pc' := 75) X0 hx (hb hby at_74) rfl rfl ?_
    refine o_sipush (pc' := 78) (v := (255 : Int32)) X0 hx (hb hby at_75) rfl rfl ?_
    refine o_iand (pc' := 79) X0 hx (hb hby at_78)  rfl ?_
    refine o_bipush (pc' := 81) (v := (96 : Int32)) X0 hx (hb hby at_79) rfl rfl ?_
    refine o_isub (pc' := 82) X0 hx (hb hby at_81)  rfl ?_
    obtain ⟨Q0, hQ0⟩ : ∃ z, z = (((x3 &&& (255 : Int32)) - (96 : Int32))).toInt64 := ⟨_, rfl⟩
    have bQ0 : -96 ≤ Q0.toInt ∧ Q0.toInt ≤ 159 := by rw [hQ0, own_sub x3 255 96 8 (by decide) (by decide) (by decide)]; have : (96 : Int32).toInt = 96 := rfl; omega
    refine o_i2d (pc' := 83) (v := FP.l2d Q0) X0 hx (hb hby at_82) (by rw [i2d_w, hQ0]) rfl ?_
    refine o_ldc2d (pc' := 86) (b := (4611686018427387904 : UInt64)) X0 hx hZ hown (hw _ (List.mem_of_getElem? (i := 0) rfl)) (hb hby at_83) rfl ?_
    obtain ⟨vv, hvv⟩ : ∃ z, z = FP.ddiv (FP.l2d Q0) (4611686018427387904 : UInt64) := ⟨_, rfl⟩
    refine o_ddiv (pc' := 87) (v := vv) X0 hx (hb hby at_86) (own_nn bQ0.1 bQ0.2) hvv.symm rfl ?_
    refine o_dstore (pc' := 89) (l' := #[.val (.int x0), .val (.int x1), .val (.int x2), .val (.int x3), .val (.int (5 : Int32)), .val (.double (FP.l2d A0)), .second, .val (.double (FP.l2d A1)), .second, .val (.double (FP.l2d A2)), .second, .val (.double (FP.l2d A3)), .second, .val (.double (FP.l2d A4)), .second, .val (.double (FP.l2d A5)), .second, .val (.double vv), .second, .unset, .unset]) X0 hx (hb hby at_87) rfl rfl ?_
    refine o_iload (pc' := 91) X0 hx (hb hby at_89) rfl rfl ?_
    refine o_dload (pc' := 93) X0 hx (hb hby at_91) rfl rfl ?_
    refine o_dload (pc' := 95) X0 hx (hb hby at_93) rfl rfl ?_
    refine o_dload (pc' := 97) X0 hx (hb hby at_95) rfl rfl ?_
    refine o_dload (pc' := 99) X0 hx (hb hby at_97) rfl rfl ?_
    refine o_dload (pc' := 101) X0 hx (hb hby at_99) rfl rfl ?_
    refine o_dload (pc' := 103) X0 hx (hb hby at_101) rfl rfl ?_
    obtain ⟨r51, T51, L51, X51, hq51, st51⟩ := o_callS X0 hx hZ hown (hw _ (List.mem_of_getElem? (i := 1) rfl)) (hw _ (List.mem_of_getElem? (i := 2) rfl)) (hw _ (List.mem_of_getElem? (i := 3) rfl)) (hw _ (List.mem_of_getElem? (i := 4) rfl)) (by decide) (rm1_5 l Z a0 hw (FP.l2d A0) (FP.l2d A1) (FP.l2d A2) (FP.l2d A3) (FP.l2d A4) (FP.l2d A5) h0 n0 Z0) e0 (pc' := 106) (Ls := #[.val (.int x0), .val (.int x1), .val (.int x2), .val (.int x3), .val (.int (5 : Int32)), .val (.double (FP.l2d A0)), .second, .val (.double (FP.l2d A1)), .second, .val (.double (FP.l2d A2)), .second, .val (.double (FP.l2d A3)), .second, .val (.double (FP.l2d A4)), .second, .val (.double (FP.l2d A5)), .second, .val (.double vv), .second, .unset, .unset]) (by rw [hml]; rfl) [(.int (5 : Int32)), (.double (FP.l2d A0)), (.double (FP.l2d A1)), (.double (FP.l2d A2)), (.double (FP.l2d A3)), (.double (FP.l2d A4)), (.double (FP.l2d A5))] [] rfl pd0 rfl rfl 0 (Nat.le_of_eq rfl) (hb hby at_103) rfl (by decide) (by decide) (by decide) (by decide)
    obtain ⟨rfl, N51, Kc51, A51_⟩ := hq51
    have ge_ar : n0 ≤ h0.size := Z0
    obtain ⟨ar, g_ar⟩ : ∃ z, z = h0.size := ⟨_, rfl⟩
    rw [← g_ar] at ge_ar st51 A51_
    refine oGo.step (f' := (mkF m 106 #[.val (.int x0), .val (.int x1), .val (.int x2), .val (.int x3), .val (.int (5 : Int32)), .val (.double (FP.l2d A0)), .second, .val (.double (FP.l2d A1)), .second, .val (.double (FP.l2d A2)), .second, .val (.double (FP.l2d A3)), .second, .val (.double (FP.l2d A4)), .second, .val (.double (FP.l2d A5)), .second, .val (.double vv), .second, .unset, .unset] [(.ref ar)])) st51 ?_
    have N51_ := Fr.app N0 N51
    have K52 := Kc51
    have Z53 := Nat.le_trans Z0 K52.1
    refine o_astore (pc' := 108) (l' := #[.val (.int x0), .val (.int x1), .val (.int x2), .val (.int x3), .val (.int (5 : Int32)), .val (.double (FP.l2d A0)), .second, .val (.double (FP.l2d A1)), .second, .val (.double (FP.l2d A2)), .second, .val (.double (FP.l2d A3)), .second, .val (.double (FP.l2d A4)), .second, .val (.double (FP.l2d A5)), .second, .val (.double vv), .second, .val (.ref ar), .unset]) X51 hx (hb hby at_106) rfl rfl rfl ?_
    refine o_dload (pc' := 110) X51 hx (hb hby at_108) rfl rfl ?_
    refine o_dload (pc' := 112) X51 hx (hb hby at_110) rfl rfl ?_
    refine o_iconst (pc' := 113) (v := (0 : Int32)) X51 hx (hb hby at_112) rfl rfl ?_
    refine o_iload (pc' := 115) X51 hx (hb hby at_113) rfl rfl ?_
    obtain ⟨r54, T54, L54, X54, hq54, st54⟩ := o_callS X51 hx hZ hown (hw _ (List.mem_of_getElem? (i := 6) rfl)) (hw _ (List.mem_of_getElem? (i := 7) rfl)) (hw _ (List.mem_of_getElem? (i := 3) rfl)) (hw _ (List.mem_of_getElem? (i := 8) rfl)) (by decide) (rm2 l Z a0 hw (FP.l2d A0) vv (0 : Int32) (5 : Int32) T51.heap n0 Z53 ) (rfl : T51.heap = _) (pc' := 118) (Ls := #[.val (.int x0), .val (.int x1), .val (.int x2), .val (.int x3), .val (.int (5 : Int32)), .val (.double (FP.l2d A0)), .second, .val (.double (FP.l2d A1)), .second, .val (.double (FP.l2d A2)), .second, .val (.double (FP.l2d A3)), .second, .val (.double (FP.l2d A4)), .second, .val (.double (FP.l2d A5)), .second, .val (.double vv), .second, .val (.ref ar), .unset]) (by rw [hml]; rfl) [(.double (FP.l2d A0)), (.double vv), (.int (0 : Int32)), (.int (5 : Int32))] [] rfl pd1 rfl rfl 0 (Nat.le_of_eq rfl) (hb hby at_115) rfl (by decide) (by decide) (by decide) (by decide)
    obtain ⟨rfl, rfl, Kc54⟩ := hq54
    refine oGo.step (f' := (mkF m 118 #[.val (.int x0), .val (.int x1), .val (.int x2), .val (.int x3), .val (.int (5 : Int32)), .val (.double (FP.l2d A0)), .second, .val (.double (FP.l2d A1)), .second, .val (.double (FP.l2d A2)), .second, .val (.double (FP.l2d A3)), .second, .val (.double (FP.l2d A4)), .second, .val (.double (FP.l2d A5)), .second, .val (.double vv), .second, .val (.ref ar), .unset] [(.int (spec2 (FP.l2d A0) vv (0 : Int32) (5 : Int32)))])) st54 ?_
    have e54 : T54.heap = T51.heap := Kc54
    have X54 := o_same X54 rfl rfl
    refine o_dload (pc' := 120) X54 hx (hb hby at_118) rfl rfl ?_
    refine o_dload (pc' := 122) X54 hx (hb hby at_120) rfl rfl ?_
    refine o_iconst (pc' := 123) (v := (1 : Int32)) X54 hx (hb hby at_122) rfl rfl ?_
    refine o_iload (pc' := 125) X54 hx (hb hby at_123) rfl rfl ?_
    obtain ⟨r55, T55, L55, X55, hq55, st55⟩ := o_callS X54 hx hZ hown (hw _ (List.mem_of_getElem? (i := 6) rfl)) (hw _ (List.mem_of_getElem? (i := 7) rfl)) (hw _ (List.mem_of_getElem? (i := 3) rfl)) (hw _ (List.mem_of_getElem? (i := 8) rfl)) (by decide) (rm2 l Z a0 hw (FP.l2d A1) vv (1 : Int32) (5 : Int32) T51.heap n0 Z53 ) e54 (pc' := 128) (Ls := #[.val (.int x0), .val (.int x1), .val (.int x2), .val (.int x3), .val (.int (5 : Int32)), .val (.double (FP.l2d A0)), .second, .val (.double (FP.l2d A1)), .second, .val (.double (FP.l2d A2)), .second, .val (.double (FP.l2d A3)), .second, .val (.double (FP.l2d A4)), .second, .val (.double (FP.l2d A5)), .second, .val (.double vv), .second, .val (.ref ar), .unset]) (by rw [hml]; rfl) [(.double (FP.l2d A1)), (.double vv), (.int (1 : Int32)), (.int (5 : Int32))] [(.int (spec2 (FP.l2d A0) vv (0 : Int32) (5 : Int32)))] rfl pd1 rfl rfl 1 (Nat.le_of_eq rfl) (hb hby at_125) rfl (by decide) (by decide) (by decide) (by decide)
    obtain ⟨rfl, rfl, Kc55⟩ := hq55
    refine oGo.step (f' := (mkF m 128 #[.val (.int x0), .val (.int x1), .val (.int x2), .val (.int x3), .val (.int (5 : Int32)), .val (.double (FP.l2d A0)), .second, .val (.double (FP.l2d A1)), .second, .val (.double (FP.l2d A2)), .second, .val (.double (FP.l2d A3)), .second, .val (.double (FP.l2d A4)), .second, .val (.double (FP.l2d A5)), .second, .val (.double vv), .second, .val (.ref ar), .unset] [(.int (spec2 (FP.l2d A1) vv (1 : Int32) (5 : Int32))), (.int (spec2 (FP.l2d A0) vv (0 : Int32) (5 : Int32)))])) st55 ?_
    have e55 : T55.heap = T51.heap := Kc55
    have X55 := o_same X55 rfl rfl
    refine o_iadd (pc' := 129) X55 hx (hb hby at_128)  rfl ?_
    refine o_dload (pc' := 131) X55 hx (hb hby at_129) rfl rfl ?_
    refine o_dload (pc' := 133) X55 hx (hb hby at_131) rfl rfl ?_
    refine o_iconst (pc' := 134) (v := (2 : Int32)) X55 hx (hb hby at_133) rfl rfl ?_
    refine o_iload (pc' := 136) X55 hx (hb hby at_134) rfl rfl ?_
    obtain ⟨r56, T56, L56, X56, hq56, st56⟩ := o_callS X55 hx hZ hown (hw _ (List.mem_of_getElem? (i := 6) rfl)) (hw _ (List.mem_of_getElem? (i := 7) rfl)) (hw _ (List.mem_of_getElem? (i := 3) rfl)) (hw _ (List.mem_of_getElem? (i := 8) rfl)) (by decide) (rm2 l Z a0 hw (FP.l2d A2) vv (2 : Int32) (5 : Int32) T51.heap n0 Z53 ) e55 (pc' := 139) (Ls := #[.val (.int x0), .val (.int x1), .val (.int x2), .val (.int x3), .val (.int (5 : Int32)), .val (.double (FP.l2d A0)), .second, .val (.double (FP.l2d A1)), .second, .val (.double (FP.l2d A2)), .second, .val (.double (FP.l2d A3)), .second, .val (.double (FP.l2d A4)), .second, .val (.double (FP.l2d A5)), .second, .val (.double vv), .second, .val (.ref ar), .unset]) (by rw [hml]; rfl) [(.double (FP.l2d A2)), (.double vv), (.int (2 : Int32)), (.int (5 : Int32))] [(.int ((spec2 (FP.l2d A0) vv (0 : Int32) (5 : Int32)) + (spec2 (FP.l2d A1) vv (1 : Int32) (5 : Int32))))] rfl pd1 rfl rfl 1 (Nat.le_of_eq rfl) (hb hby at_136) rfl (by decide) (by decide) (by decide) (by decide)
    obtain ⟨rfl, rfl, Kc56⟩ := hq56
    refine oGo.step (f' := (mkF m 139 #[.val (.int x0), .val (.int x1), .val (.int x2), .val (.int x3), .val (.int (5 : Int32)), .val (.double (FP.l2d A0)), .second, .val (.double (FP.l2d A1)), .second, .val (.double (FP.l2d A2)), .second, .val (.double (FP.l2d A3)), .second, .val (.double (FP.l2d A4)), .second, .val (.double (FP.l2d A5)), .second, .val (.double vv), .second, .val (.ref ar), .unset] [(.int (spec2 (FP.l2d A2) vv (2 : Int32) (5 : Int32))), (.int ((spec2 (FP.l2d A0) vv (0 : Int32) (5 : Int32)) + (spec2 (FP.l2d A1) vv (1 : Int32) (5 : Int32))))])) st56 ?_
    have e56 : T56.heap = T51.heap := Kc56
    have X56 := o_same X56 rfl rfl
    refine o_iadd (pc' := 140) X56 hx (hb hby at_139)  rfl ?_
    refine o_dload (pc' := 142) X56 hx (hb hby at_140) rfl rfl ?_
    refine o_dload (pc' := 144) X56 hx (hb hby at_142) rfl rfl ?_
    refine o_iconst (pc' := 145) (v := (3 : Int32)) X56 hx (hb hby at_144) rfl rfl ?_
    refine o_iload (pc' := 147) X56 hx (hb hby at_145) rfl rfl ?_
    obtain ⟨r57, T57, L57, X57, hq57, st57⟩ := o_callS X56 hx hZ hown (hw _ (List.mem_of_getElem? (i := 6) rfl)) (hw _ (List.mem_of_getElem? (i := 7) rfl)) (hw _ (List.mem_of_getElem? (i := 3) rfl)) (hw _ (List.mem_of_getElem? (i := 8) rfl)) (by decide) (rm2 l Z a0 hw (FP.l2d A3) vv (3 : Int32) (5 : Int32) T51.heap n0 Z53 ) e56 (pc' := 150) (Ls := #[.val (.int x0), .val (.int x1), .val (.int x2), .val (.int x3), .val (.int (5 : Int32)), .val (.double (FP.l2d A0)), .second, .val (.double (FP.l2d A1)), .second, .val (.double (FP.l2d A2)), .second, .val (.double (FP.l2d A3)), .second, .val (.double (FP.l2d A4)), .second, .val (.double (FP.l2d A5)), .second, .val (.double vv), .second, .val (.ref ar), .unset]) (by rw [hml]; rfl) [(.double (FP.l2d A3)), (.double vv), (.int (3 : Int32)), (.int (5 : Int32))] [(.int (((spec2 (FP.l2d A0) vv (0 : Int32) (5 : Int32)) + (spec2 (FP.l2d A1) vv (1 : Int32) (5 : Int32))) + (spec2 (FP.l2d A2) vv (2 : Int32) (5 : Int32))))] rfl pd1 rfl rfl 1 (Nat.le_of_eq rfl) (hb hby at_147) rfl (by decide) (by decide) (by decide) (by decide)
    obtain ⟨rfl, rfl, Kc57⟩ := hq57
    refine oGo.step (f' := (mkF m 150 #[.val (.int x0), .val (.int x1), .val (.int x2), .val (.int x3), .val (.int (5 : Int32)), .val (.double (FP.l2d A0)), .second, .val (.double (FP.l2d A1)), .second, .val (.double (FP.l2d A2)), .second, .val (.double (FP.l2d A3)), .second, .val (.double (FP.l2d A4)), .second, .val (.double (FP.l2d A5)), .second, .val (.double vv), .second, .val (.ref ar), .unset] [(.int (spec2 (FP.l2d A3) vv (3 : Int32) (5 : Int32))), (.int (((spec2 (FP.l2d A0) vv (0 : Int32) (5 : Int32)) + (spec2 (FP.l2d A1) vv (1 : Int32) (5 : Int32))) + (spec2 (FP.l2d A2) vv (2 : Int32) (5 : Int32))))])) st57 ?_
    have e57 : T57.heap = T51.heap := Kc57
    have X57 := o_same X57 rfl rfl
    refine o_iadd (pc' := 151) X57 hx (hb hby at_150)  rfl ?_
    refine o_dload (pc' := 153) X57 hx (hb hby at_151) rfl rfl ?_
    refine o_dload (pc' := 155) X57 hx (hb hby at_153) rfl rfl ?_
    refine o_iconst (pc' := 156) (v := (4 : Int32)) X57 hx (hb hby at_155) rfl rfl ?_
    refine o_iload (pc' := 158) X57 hx (hb hby at_156) rfl rfl ?_
    obtain ⟨r58, T58, L58, X58, hq58, st58⟩ := o_callS X57 hx hZ hown (hw _ (List.mem_of_getElem? (i := 6) rfl)) (hw _ (List.mem_of_getElem? (i := 7) rfl)) (hw _ (List.mem_of_getElem? (i := 3) rfl)) (hw _ (List.mem_of_getElem? (i := 8) rfl)) (by decide) (rm2 l Z a0 hw (FP.l2d A4) vv (4 : Int32) (5 : Int32) T51.heap n0 Z53 ) e57 (pc' := 161) (Ls := #[.val (.int x0), .val (.int x1), .val (.int x2), .val (.int x3), .val (.int (5 : Int32)), .val (.double (FP.l2d A0)), .second, .val (.double (FP.l2d A1)), .second, .val (.double (FP.l2d A2)), .second, .val (.double (FP.l2d A3)), .second, .val (.double (FP.l2d A4)), .second, .val (.double (FP.l2d A5)), .second, .val (.double vv), .second, .val (.ref ar), .unset]) (by rw [hml]; rfl) [(.double (FP.l2d A4)), (.double vv), (.int (4 : Int32)), (.int (5 : Int32))] [(.int ((((spec2 (FP.l2d A0) vv (0 : Int32) (5 : Int32)) + (spec2 (FP.l2d A1) vv (1 : Int32) (5 : Int32))) + (spec2 (FP.l2d A2) vv (2 : Int32) (5 : Int32))) + (spec2 (FP.l2d A3) vv (3 : Int32) (5 : Int32))))] rfl pd1 rfl rfl 1 (Nat.le_of_eq rfl) (hb hby at_158) rfl (by decide) (by decide) (by decide) (by decide)
    obtain ⟨rfl, rfl, Kc58⟩ := hq58
    refine oGo.step (f' := (mkF m 161 #[.val (.int x0), .val (.int x1), .val (.int x2), .val (.int x3), .val (.int (5 : Int32)), .val (.double (FP.l2d A0)), .second, .val (.double (FP.l2d A1)), .second, .val (.double (FP.l2d A2)), .second, .val (.double (FP.l2d A3)), .second, .val (.double (FP.l2d A4)), .second, .val (.double (FP.l2d A5)), .second, .val (.double vv), .second, .val (.ref ar), .unset] [(.int (spec2 (FP.l2d A4) vv (4 : Int32) (5 : Int32))), (.int ((((spec2 (FP.l2d A0) vv (0 : Int32) (5 : Int32)) + (spec2 (FP.l2d A1) vv (1 : Int32) (5 : Int32))) + (spec2 (FP.l2d A2) vv (2 : Int32) (5 : Int32))) + (spec2 (FP.l2d A3) vv (3 : Int32) (5 : Int32))))])) st58 ?_
    have e58 : T58.heap = T51.heap := Kc58
    have X58 := o_same X58 rfl rfl
    refine o_iadd (pc' := 162) X58 hx (hb hby at_161)  rfl ?_
    refine o_dload (pc' := 164) X58 hx (hb hby at_162) rfl rfl ?_
    refine o_dload (pc' := 166) X58 hx (hb hby at_164) rfl rfl ?_
    refine o_iconst (pc' := 167) (v := (5 : Int32)) X58 hx (hb hby at_166) rfl rfl ?_
    refine o_iload (pc' := 169) X58 hx (hb hby at_167) rfl rfl ?_
    obtain ⟨r59, T59, L59, X59, hq59, st59⟩ := o_callS X58 hx hZ hown (hw _ (List.mem_of_getElem? (i := 6) rfl)) (hw _ (List.mem_of_getElem? (i := 7) rfl)) (hw _ (List.mem_of_getElem? (i := 3) rfl)) (hw _ (List.mem_of_getElem? (i := 8) rfl)) (by decide) (rm2 l Z a0 hw (FP.l2d A5) vv (5 : Int32) (5 : Int32) T51.heap n0 Z53 ) e58 (pc' := 172) (Ls := #[.val (.int x0), .val (.int x1), .val (.int x2), .val (.int x3), .val (.int (5 : Int32)), .val (.double (FP.l2d A0)), .second, .val (.double (FP.l2d A1)), .second, .val (.double (FP.l2d A2)), .second, .val (.double (FP.l2d A3)), .second, .val (.double (FP.l2d A4)), .second, .val (.double (FP.l2d A5)), .second, .val (.double vv), .second, .val (.ref ar), .unset]) (by rw [hml]; rfl) [(.double (FP.l2d A5)), (.double vv), (.int (5 : Int32)), (.int (5 : Int32))] [(.int (((((spec2 (FP.l2d A0) vv (0 : Int32) (5 : Int32)) + (spec2 (FP.l2d A1) vv (1 : Int32) (5 : Int32))) + (spec2 (FP.l2d A2) vv (2 : Int32) (5 : Int32))) + (spec2 (FP.l2d A3) vv (3 : Int32) (5 : Int32))) + (spec2 (FP.l2d A4) vv (4 : Int32) (5 : Int32))))] rfl pd1 rfl rfl 1 (Nat.le_of_eq rfl) (hb hby at_169) rfl (by decide) (by decide) (by decide) (by decide)
    obtain ⟨rfl, rfl, Kc59⟩ := hq59
    refine oGo.step (f' := (mkF m 172 #[.val (.int x0), .val (.int x1), .val (.int x2), .val (.int x3), .val (.int (5 : Int32)), .val (.double (FP.l2d A0)), .second, .val (.double (FP.l2d A1)), .second, .val (.double (FP.l2d A2)), .second, .val (.double (FP.l2d A3)), .second, .val (.double (FP.l2d A4)), .second, .val (.double (FP.l2d A5)), .second, .val (.double vv), .second, .val (.ref ar), .unset] [(.int (spec2 (FP.l2d A5) vv (5 : Int32) (5 : Int32))), (.int (((((spec2 (FP.l2d A0) vv (0 : Int32) (5 : Int32)) + (spec2 (FP.l2d A1) vv (1 : Int32) (5 : Int32))) + (spec2 (FP.l2d A2) vv (2 : Int32) (5 : Int32))) + (spec2 (FP.l2d A3) vv (3 : Int32) (5 : Int32))) + (spec2 (FP.l2d A4) vv (4 : Int32) (5 : Int32))))])) st59 ?_
    have e59 : T59.heap = T51.heap := Kc59
    have X59 := o_same X59 rfl rfl
    refine o_iadd (pc' := 173) X59 hx (hb hby at_172)  rfl ?_
    refine o_istore (pc' := 175) (l' := #[.val (.int x0), .val (.int x1), .val (.int x2), .val (.int x3), .val (.int (5 : Int32)), .val (.double (FP.l2d A0)), .second, .val (.double (FP.l2d A1)), .second, .val (.double (FP.l2d A2)), .second, .val (.double (FP.l2d A3)), .second, .val (.double (FP.l2d A4)), .second, .val (.double (FP.l2d A5)), .second, .val (.double vv), .second, .val (.ref ar), .val (.int ((((((spec2 (FP.l2d A0) vv (0 : Int32) (5 : Int32)) + (spec2 (FP.l2d A1) vv (1 : Int32) (5 : Int32))) + (spec2 (FP.l2d A2) vv (2 : Int32) (5 : Int32))) + (spec2 (FP.l2d A3) vv (3 : Int32) (5 : Int32))) + (spec2 (FP.l2d A4) vv (4 : Int32) (5 : Int32))) + (spec2 (FP.l2d A5) vv (5 : Int32) (5 : Int32))))]) X59 hx (hb hby at_173) rfl rfl ?_
    refine o_aload (pc' := 177) X59 hx (hb hby at_175) rfl rfl rfl ?_
    refine o_dload (pc' := 179) X59 hx (hb hby at_177) rfl rfl ?_
    obtain ⟨r60, T60, L60, X60, hq60, st60⟩ := o_callS X59 hx hZ hown (hw _ (List.mem_of_getElem? (i := 9) rfl)) (hw _ (List.mem_of_getElem? (i := 10) rfl)) (hw _ (List.mem_of_getElem? (i := 11) rfl)) (hw _ (List.mem_of_getElem? (i := 12) rfl)) (by decide) (rm3_5 l Z a0 hw ar vv (FP.l2d A0) (FP.l2d A1) (FP.l2d A2) (FP.l2d A3) (FP.l2d A4) T51.heap n0 Z53 A51_) e59 (pc' := 182) (Ls := #[.val (.int x0), .val (.int x1), .val (.int x2), .val (.int x3), .val (.int (5 : Int32)), .val (.double (FP.l2d A0)), .second, .val (.double (FP.l2d A1)), .second, .val (.double (FP.l2d A2)), .second, .val (.double (FP.l2d A3)), .second, .val (.double (FP.l2d A4)), .second, .val (.double (FP.l2d A5)), .second, .val (.double vv), .second, .val (.ref ar), .val (.int ((((((spec2 (FP.l2d A0) vv (0 : Int32) (5 : Int32)) + (spec2 (FP.l2d A1) vv (1 : Int32) (5 : Int32))) + (spec2 (FP.l2d A2) vv (2 : Int32) (5 : Int32))) + (spec2 (FP.l2d A3) vv (3 : Int32) (5 : Int32))) + (spec2 (FP.l2d A4) vv (4 : Int32) (5 : Int32))) + (spec2 (FP.l2d A5) vv (5 : Int32) (5 : Int32))))]) (by rw [hml]; rfl) [(.ref ar), (.double vv)] [] rfl pd2 rfl rfl 0 (Nat.le_of_eq rfl) (hb hby at_179) rfl (by decide) (by decide) (by decide) (by decide)
    obtain ⟨rfl, rfl, Kc60⟩ := hq60
    refine oGo.step (f' := (mkF m 182 #[.val (.int x0), .val (.int x1), .val (.int x2), .val (.int x3), .val (.int (5 : Int32)), .val (.double (FP.l2d A0)), .second, .val (.double (FP.l2d A1)), .second, .val (.double (FP.l2d A2)), .second, .val (.double (FP.l2d A3)), .second, .val (.double (FP.l2d A4)), .second, .val (.double (FP.l2d A5)), .second, .val (.double vv), .second, .val (.ref ar), .val (.int ((((((spec2 (FP.l2d A0) vv (0 : Int32) (5 : Int32)) + (spec2 (FP.l2d A1) vv (1 : Int32) (5 : Int32))) + (spec2 (FP.l2d A2) vv (2 : Int32) (5 : Int32))) + (spec2 (FP.l2d A3) vv (3 : Int32) (5 : Int32))) + (spec2 (FP.l2d A4) vv (4 : Int32) (5 : Int32))) + (spec2 (FP.l2d A5) vv (5 : Int32) (5 : Int32))))] [(.int (spec3_5 vv (FP.l2d A0) (FP.l2d A1) (FP.l2d A2) (FP.l2d A3) (FP.l2d A4)))])) st60 ?_
    have e60 : T60.heap = T51.heap := Kc60
    have X60 := o_same X60 rfl rfl
    refine o_iload (pc' := 184) X60 hx (hb hby at_182) rfl rfl ?_
    have k0 := own_cmp bA0.1 (by omega) bQ0.1 bQ0.2
    rw [← hvv] at k0
    have k1 := own_cmp bA1.1 (by omega) bQ0.1 bQ0.2
    rw [← hvv] at k1
    have k2 := own_cmp bA2.1 (by omega) bQ0.1 bQ0.2
    rw [← hvv] at k2
    have k3 := own_cmp bA3.1 (by omega) bQ0.1 bQ0.2
    rw [← hvv] at k3
    have k4 := own_cmp bA4.1 (by omega) bQ0.1 bQ0.2
    rw [← hvv] at k4
    have hE : (spec3_5 vv (FP.l2d A0) (FP.l2d A1) (FP.l2d A2) (FP.l2d A3) (FP.l2d A4)) = ((((((spec2 (FP.l2d A0) vv (0 : Int32) (5 : Int32)) + (spec2 (FP.l2d A1) vv (1 : Int32) (5 : Int32))) + (spec2 (FP.l2d A2) vv (2 : Int32) (5 : Int32))) + (spec2 (FP.l2d A3) vv (3 : Int32) (5 : Int32))) + (spec2 (FP.l2d A4) vv (4 : Int32) (5 : Int32))) + (spec2 (FP.l2d A5) vv (5 : Int32) (5 : Int32))) := own_fin5 vv (FP.l2d A0) (FP.l2d A1) (FP.l2d A2) (FP.l2d A3) (FP.l2d A4) (FP.l2d A5) k0 k1 k2 k3 k4 (by omega) (by omega) (by omega) (by omega)
    refine o_icmpF (pc' := 187) X60 hx (hb hby at_184) (XT.ii_ne_f hE) rfl ?_
    refine o_iconst (pc' := 188) (v := (1 : Int32)) X60 hx (hb hby at_187) rfl rfl ?_
    refine o_goto (pc' := 192) X60 hx (hb hby at_188) (by decide) (by decide) ?_
    refine o_retZ X60 hx hret hlk (hb hby at_192) (by decide) (by decide) (by decide) ?_
    exact ⟨rfl, N51_⟩
  · rw [hn]
    refine o_iloadN (pc' := 10) X0 hx (hb hby at_9) rfl rfl ?_
    refine o_bipush (pc' := 12) (v := (63 : Int32)) X0 hx (hb hby at_10) rfl rfl ?_
    refine o_iand (pc' := 13) X0 hx (hb hby at_12)  rfl ?_
    refine o_bipush (pc' := 15) (v := (32 : Int32)) X0 hx (hb hby at_13) rfl rfl ?_
    refine o_isub (pc' := 16) X0 hx (hb hby at_15)  rfl ?_
    obtain ⟨A0, hA0⟩ : ∃ z, z = (((x1 &&& (63 : Int32)) - (32 : Int32))).toInt64 := ⟨_, rfl⟩
    have bA0 : -32 ≤ A0.toInt ∧ A0.toInt ≤ 31 := by rw [hA0, own_sub x1 63 32 6 (by decide) (by decide) (by decide)]; have : (32 : Int32).toInt = 32 := rfl; omega
    refine o_i2d (pc' := 17) (v := FP.l2d A0) X0 hx (hb hby at_16) (by rw [i2d_w, hA0]) rfl ?_
    refine o_dstore (pc' := 19) (l' := #[.val (.int x0), .val (.int x1), .val (.int x2), .val (.int x3), .val (.int (6 : Int32)), .val (.double (FP.l2d A0)), .second, .unset, .unset, .unset, .unset, .unset, .unset, .unset, .unset, .unset, .unset, .unset, .unset, .unset, .unset]) X0 hx (hb hby at_17) rfl rfl ?_
    refine o_dload (pc' := 21) X0 hx (hb hby at_19) rfl rfl ?_
    refine o_iloadN (pc' := 22) X0 hx (hb hby at_21) rfl rfl ?_
    refine o_iconst (pc' := 23) (v := (3 : Int32)) X0 hx (hb hby at_22) rfl rfl ?_
    refine o_iand (pc' := 24) X0 hx (hb hby at_23)  rfl ?_
    obtain ⟨S1, hS1⟩ : ∃ z, z = ((x2 &&& (3 : Int32))).toInt64 := ⟨_, rfl⟩
    have bS1 : 0 ≤ S1.toInt ∧ S1.toInt ≤ 3 := by rw [hS1]; exact own_s3 x2
    refine o_i2d (pc' := 25) (v := FP.l2d S1) X0 hx (hb hby at_24) (by rw [i2d_w, hS1]) rfl ?_
    obtain ⟨A1, hA1⟩ : ∃ z, z = A0 + S1 := ⟨_, rfl⟩
    have eA1 : A1.toInt = A0.toInt + S1.toInt := by rw [hA1]; exact own_add64 ⟨by omega, by omega⟩ bS1
    have bA1 : -32 ≤ A1.toInt ∧ A1.toInt ≤ 34 := ⟨by omega, by omega⟩
    have qA1 := dadd_w (own_b53 ⟨by omega, by omega⟩ : B53 A0) (own_b53 ⟨by omega, by omega⟩ : B53 S1)
    refine o_dadd (pc' := 26) (v := FP.l2d A1) X0 hx (hb hby at_25) (by rw [qA1]; exact (Jvm.Free.Fl.l2d_fin _).noNaN) (by rw [qA1, hA1]) rfl ?_
    refine o_dstore (pc' := 28) (l' := #[.val (.int x0), .val (.int x1), .val (.int x2), .val (.int x3), .val (.int (6 : Int32)), .val (.double (FP.l2d A0)), .second, .val (.double (FP.l2d A1)), .second, .unset, .unset, .unset, .unset, .unset, .unset, .unset, .unset, .unset, .unset, .unset, .unset]) X0 hx (hb hby at_26) rfl rfl ?_
    refine o_dload (pc' := 30) X0 hx (hb hby at_28) rfl rfl ?_
    refine o_iloadN (pc' := 31) X0 hx (hb hby at_30) rfl rfl ?_
    refine o_iconst (pc' := 32) (v := (2 : Int32)) X0 hx (hb hby at_31) rfl rfl ?_
    refine o_iushr (pc' := 33) X0 hx (hb hby at_32)  rfl ?_
    refine o_iconst (pc' := 34) (v := (3 : Int32)) X0 hx (hb hby at_33) rfl rfl ?_
    refine o_iand (pc' := 35) X0 hx (hb hby at_34)  rfl ?_
    obtain ⟨S2, hS2⟩ : ∃ z, z = (((XT.ushr x2 (2 : Int32)) &&& (3 : Int32))).toInt64 := ⟨_, rfl⟩
    have bS2 : 0 ≤ S2.toInt ∧ S2.toInt ≤ 3 := by rw [hS2]; exact own_s3 (XT.ushr x2 (2 : Int32))
    refine o_i2d (pc' := 36) (v := FP.l2d S2) X0 hx (hb hby at_35) (by rw [i2d_w, hS2]) rfl ?_
    obtain ⟨A2, hA2⟩ : ∃ z, z = A1 + S2 := ⟨_, rfl⟩
    have eA2 : A2.toInt = A1.toInt + S2.toInt := by rw [hA2]; exact own_add64 ⟨by omega, by omega⟩ bS2
    have bA2 : -32 ≤ A2.toInt ∧ A2.toInt ≤ 37 := ⟨by omega, by omega⟩
    have qA2 := dadd_w (own_b53 ⟨by omega, by omega⟩ : B53 A1) (own_b53 ⟨by omega, by omega⟩ : B53 S2)
    refine o_dadd (pc' := 37) (v := FP.l2d A2) X0 hx (hb hby at_36) (by rw [qA2]; exact (Jvm.Free.Fl.l2d_fin _).noNaN) (by rw [qA2, hA2]) rfl ?_
    refine o_dstore (pc' := 39) (l' := #[.val (.int x0), .val (.int x1), .val (.int x2), .val (.int x3), .val (.int (6 : Int32)), .val (.double (FP.l2d A0)), .second, .val (.double (FP.l2d A1)), .second, .val (.double (FP.l2d A2)), .second, .unset, .unset, .unset, .unset, .unset, .unset, .unset, .unset, .unset, .unset]) X0 hx (hb hby at_37) rfl rfl ?_
    refine o_dload (pc' := 41) X0 hx (hb hby at_39) rfl rfl ?_
    refine o_iloadN (pc' := 42) X0 hx (hb hby at_41) rfl rfl ?_
    refine o_iconst (pc' := 43) (v := (4 : Int32)) X0 hx (hb hby at_42) rfl rfl ?_
    refine o_iushr (pc' := 44) X0 hx (hb hby at_43)  rfl ?_
    refine o_iconst (pc' := 45) (v := (3 : Int32)) X0 hx (hb hby at_44) rfl rfl ?_
    refine o_iand (pc' := 46) X0 hx (hb hby at_45)  rfl ?_
    obtain ⟨S3, hS3⟩ : ∃ z, z = (((XT.ushr x2 (4 : Int32)) &&& (3 : Int32))).toInt64 := ⟨_, rfl⟩
    have bS3 : 0 ≤ S3.toInt ∧ S3.toInt ≤ 3 := by rw [hS3]; exact own_s3 (XT.ushr x2 (4 : Int32))
    refine o_i2d (pc' := 47) (v := FP.l2d S3) X0 hx (hb hby at_46) (by rw [i2d_w, hS3]) rfl ?_
    obtain ⟨A3, hA3⟩ : ∃ z, z = A2 + S3 := ⟨_, rfl⟩
    have eA3 : A3.toInt = A2.toInt + S3.toInt := by rw [hA3]; exact own_add64 ⟨by omega, by omega⟩ bS3
    have bA3 : -32 ≤ A3.toInt ∧ A3.toInt ≤ 40 := ⟨by omega, by omega⟩
    have qA3 := dadd_w (own_b53 ⟨by omega, by omega⟩ : B53 A2) (own_b53 ⟨by omega, by omega⟩ : B53 S3)
    refine o_dadd (pc' := 48) (v := FP.l2d A3) X0 hx (hb hby at_47) (by rw [qA3]; exact (Jvm.Free.Fl.l2d_fin _).noNaN) (by rw [qA3, hA3]) rfl ?_
    refine o_dstore (pc' := 50) (l' := #[.val (.int x0), .val (.int x1), .val (.int x2), .val (.int x3), .val (.int (6 : Int32)), .val (.double (FP.l2d A0)), .second, .val (.double (FP.l2d A1)), .second, .val (.double (FP.l2d A2)), .second, .val (.double (FP.l2d A3)), .second, .unset, .unset, .unset, .unset, .unset, .unset, .unset, .unset]) X0 hx (hb hby at_48) rfl rfl ?_
    refine o_dload (pc' := 52) X0 hx (hb hby at_50) rfl rfl ?_
    refine o_iloadN (pc' := 53) X0 hx (hb hby at_52) rfl rfl ?_
    refine o_bipush (pc' := 55) (v := (6 : Int32)) X0 hx (hb hby at_53) rfl rfl ?_
    refine o_iushr (pc' := 56) X0 hx (hb hby at_55)  rfl ?_
    refine o_iconst (pc' := 57) (v := (3 : Int32)) X0 hx (hb hby at_56) rfl rfl ?_
    refine o_iand (pc' := 58) X0 hx (hb hby at_57)  rfl ?_
    obtain ⟨S4, hS4⟩ : ∃ z, z = (((XT.ushr x2 (6 : Int32)) &&& (3 : Int32))).toInt64 := ⟨_, rfl⟩
    have bS4 : 0 ≤ S4.toInt ∧ S4.toInt ≤ 3 := by rw [hS4]; exact own_s3 (XT.ushr x2 (6 : Int32))
    refine o_i2d (pc' := 59) (v := FP.l2d S4) X0 hx (hb hby at_58) (by rw [i2d_w, hS4]) rfl ?_
    obtain ⟨A4, hA4⟩ : ∃ z, z = A3 + S4 := ⟨_, rfl⟩
    have eA4 : A4.toInt = A3.toInt + S4.toInt := by rw [hA4]; exact own_add64 ⟨by omega, by omega⟩ bS4
    have bA4 : -32 ≤ A4.toInt ∧ A4.toInt ≤ 43 := ⟨by omega, by omega⟩
    have qA4 := dadd_w (own_b53 ⟨by omega, by omega⟩ : B53 A3) (own_b53 ⟨by omega, by omega⟩ : B53 S4)
    refine o_dadd (pc' := 60) (v := FP.l2d A4) X0 hx (hb hby at_59) (by rw [qA4]; exact (Jvm.Free.Fl.l2d_fin _).noNaN) (by rw [qA4, hA4]) rfl ?_
    refine o_dstore (pc' := 62) (l' := #[.val (.int x0), .val (.int x1), .val (.int x2), .val (.int x3), .val (.int (6 : Int32)), .val (.double (FP.l2d A0)), .second, .val (.double (FP.l2d A1)), .second, .val (.double (FP.l2d A2)), .second, .val (.double (FP.l2d A3)), .second, .val (.double (FP.l2d A4)), .second, .unset, .unset, .unset, .unset, .unset, .unset]) X0 hx (hb hby at_60) rfl rfl ?_
    refine o_dload (pc' := 64) X0 hx (hb hby at_62) rfl rfl ?_
    refine o_iloadN (pc' := 65) X0 hx (hb hby at_64) rfl rfl ?_
    refine o_bipush (pc' := 67) (v := (8 : Int32)) X0 hx (hb hby at_65) rfl rfl ?_
    refine o_iushr (pc' := 68) X0 hx (hb hby at_67)  rfl ?_
    refine o_iconst (pc' := 69) (v := (3 : Int32)) X0 hx (hb hby at_68) rfl rfl ?_
    refine o_iand (pc' := 70) X0 hx (hb hby at_69)  rfl ?_
    obtain ⟨S5, hS5⟩ : ∃ z, z = (((XT.ushr x2 (8 : Int32)) &&& (3 : Int32))).toInt64 := ⟨_, rfl⟩
    have bS5 : 0 ≤ S5.toInt ∧ S5.toInt ≤ 3 := by rw [hS5]; exact own_s3 (XT.ushr x2 (8 : Int32))
    refine o_i2d (pc' := 71) (v := FP.l2d S5) X0 hx (hb hby at_70) (by rw [i2d_w, hS5]) rfl ?_
    obtain ⟨A5, hA5⟩ : ∃ z, z = A4 + S5 := ⟨_, rfl⟩
    have eA5 : A5.toInt = A4.toInt + S5.toInt := by rw [hA5]; exact own_add64 ⟨by omega, by omega⟩ bS5
    have bA5 : -32 ≤ A5.toInt ∧ A5.toInt ≤ 46 := ⟨by omega, by omega⟩
    have qA5 := dadd_w (own_b53 ⟨by omega, by omega⟩ : B53 A4) (own_b53 ⟨by omega, by omega⟩ : B53 S5)
    refine o_dadd (pc' := 72) (v := FP.l2d A5) X0 hx (hb hby at_71) (by rw [qA5]; exact (Jvm.Free.Fl.l2d_fin _).noNaN) (by rw [qA5, hA5]) rfl ?_
    refine o_dstore (pc' := 74) (l' := #[.val (.int x0), .val (.int x1), .val (.int x2), .val (.int x3), .val (.int (6 : Int32)), .val (.double (FP.l2d A0)), .second, .val (.double (FP.l2d A1)), .second, .val (.double (FP.l2d A2)), .second, .val (.double (FP.l2d A3)), .second, .val (.double (FP.l2d A4)), .second, .val (.double (FP.l2d A5)), .second, .unset, .unset, .unset, .unset]) X0 hx (hb hby at_72) rfl rfl ?_
    refine o_iloadN (pc' := 75) X0 hx (hb hby at_74) rfl rfl ?_
    refine o_sipush (pc' := 78) (v := (255 : Int32)) X0 hx (hb hby at_75) rfl rfl ?_
    refine o_iand (pc' := 79) X0 hx (hb hby at_78)  rfl ?_
    refine o_bipush (pc' := 81) (v := (96 : Int32)) X0 hx (hb hby at_79) rfl rfl ?_
    refine o_isub (pc' := 82) X0 hx (hb hby at_81)  rfl ?_
    obtain ⟨Q0, hQ0⟩ : ∃ z, z = (((x3 &&& (255 : Int32)) - (96 : Int32))).toInt64 := ⟨_, rfl⟩
    have bQ0 : -96 ≤ Q0.toInt ∧ Q0.toInt ≤ 159 := by rw [hQ0, own_sub x3 255 96 8 (by decide) (by decide) (by decide)]; have : (96 : Int32).toInt = 96 := rfl; omega
    refine o_i2d (pc' := 83) (v := FP.l2d Q0) X0 hx (hb hby at_82) (by rw [i2d_w, hQ0]) rfl ?_
    refine o_ldc2d (pc' := 86) (b := (4611686018427387904 : UInt64)) X0 hx hZ hown (hw _ (List.mem_of_getElem? (i := 0) rfl)) (hb hby at_83) rfl ?_
    obtain ⟨vv, hvv⟩ : ∃ z, z = FP.ddiv (FP.l2d Q0) (4611686018427387904 : UInt64) := ⟨_, rfl⟩
    refine o_ddiv (pc' := 87) (v := vv) X0 hx (hb hby at_86) (own_nn bQ0.1 bQ0.2) hvv.symm rfl ?_
    refine o_dstore (pc' := 89) (l' := #[.val (.int x0), .val (.int x1), .val (.int x2), .val (.int x3), .val (.int (6 : Int32)), .val (.double (FP.l2d A0)), .second, .val (.double (FP.l2d A1)), .second, .val (.double (FP.l2d A2)), .second, .val (.double (FP.l2d A3)), .second, .val (.double (FP.l2d A4)), .second, .val (.double (FP.l2d A5)), .second, .val (.double vv), .second, .unset, .unset]) X0 hx (hb hby at_87) rfl rfl ?_
    refine o_iload (pc' := 91) X0 hx (hb hby at_89) rfl rfl ?_
    refine o_dload (pc' := 93) X0 hx (hb hby at_91) rfl rfl ?_
    refine o_dload (pc' := 95) X0 hx (hb hby at_93) rfl rfl ?_
    refine o_dload (pc' := 97) X0 hx (hb hby at_95) rfl rfl ?_
    refine o_dload (pc' := 99) X0 hx (hb hby at_97) rfl rfl ?_
    refine o_dload (pc' := 101) X0 hx (hb hby at_99) rfl rfl ?_
    refine o_dload (pc' := 103) X0 hx (hb hby at_101) rfl rfl ?_
    obtain ⟨r61, T61, L61, X61, hq61, st61⟩ := o_callS X0 hx hZ hown (hw _ (List.mem_of_getElem? (i := 1) rfl)) (hw _ (List.mem_of_getElem? (i := 2) rfl)) (hw _ (List.mem_of_getElem? (i := 3) rfl)) (hw _ (List.mem_of_getElem? (i := 4) rfl)) (by decide) (rm1_6 l Z a0 hw (FP.l2d A0) (FP.l2d A1) (FP.l2d A2) (FP.l2d A3) (FP.l2d A4) (FP.l2d A5) h0 n0 Z0) e0 (pc' := 106) (Ls := #[.val (.int x0), .val (.int x1), .val (.int x2), .val (.int x3), .val (.int (6 : Int32)), .val (.double (FP.l2d A0)), .second, .val (.double (FP.l2d A1)), .second, .val (.double (FP.l2d A2)), .second, .val (.double (FP.l2d A3)), .second, .val (.double (FP.l2d A4)), .second, .val (.double (FP.l2d A5)), .second, .val (.double vv), .second, .unset, .unset]) (by rw [hml]; rfl) [(.int (6 : Int32)), (.double (FP.l2d A0)), (.double (FP.l2d A1)), (.double (FP.l2d A2)), (.double (FP.l2d A3)), (.double (FP.l2d A4)), (.double (FP.l2d A5))] [] rfl pd0 rfl rfl 0 (Nat.le_of_eq rfl) (hb hby at_103) rfl (by decide) (by decide) (by decide) (by decide)
    obtain ⟨rfl, N61, Kc61, A61_⟩ := hq61
    have ge_ar : n0 ≤ h0.size := Z0
    obtain ⟨ar, g_ar⟩ : ∃ z, z = h0.size := ⟨_, rfl⟩
    rw [← g_ar] at ge_ar st61 A61_
    refine oGo.step (f' := (mkF m 106 #[.val (.int x0), .val (.int x1), .val (.int x2), .val (.int x3), .val (.int (6 : Int32)), .val (.double (FP.l2d A0)), .second, .val (.double (FP.l2d A1)), .second, .val (.double (FP.l2d A2)), .second, .val (.double (FP.l2d A3)), .second, .val (.double (FP.l2d A4)), .second, .val (.double (FP.l2d A5)), .second, .val (.double vv), .second, .unset, .unset] [(.ref ar)])) st61 ?_
    have N61_ := Fr.app N0 N61
    have K62 := Kc61
    have Z63 := Nat.le_trans Z0 K62.1
    refine o_astore (pc' := 108) (l' := #[.val (.int x0), .val (.int x1), .val (.int x2), .val (.int x3), .val (.int (6 : Int32)), .val (.double (FP.l2d A0)), .second, .val (.double (FP.l2d A1)), .second, .val (.double (FP.l2d A2)), .second, .val (.double (FP.l2d A3)), .second, .val (.double (FP.l2d A4)), .second, .val (.double (FP.l2d A5)), .second, .val (.double vv), .second, .val (.ref ar), .unset]) X61 hx (hb hby at_106) rfl rfl rfl ?_
    refine o_dload (pc' := 110) X61 hx (hb hby at_108) rfl rfl ?_
    refine o_dload (pc' := 112) X61 hx (hb hby at_110) rfl rfl ?_
    refine o_iconst (pc' := 113) (v := (0 : Int32)) X61 hx (hb hby at_112) rfl rfl ?_
    refine o_iload (pc' := 115) X61 hx (hb hby at_113) rfl rfl ?_
    obtain ⟨r64, T64, L64, X64, hq64, st64⟩ := o_callS X61 hx hZ hown (hw _ (List.mem_of_getElem? (i := 6) rfl)) (hw _ (List.mem_of_getElem? (i := 7) rfl)) (hw _ (List.mem_of_getElem? (i := 3) rfl)) (hw _ (List.mem_of_getElem? (i := 8) rfl)) (by decide) (rm2 l Z a0 hw (FP.l2d A0) vv (0 : Int32) (6 : Int32) T61.heap n0 Z63 ) (rfl : T61.heap = _) (pc' := 118) (Ls := #[.val (.int x0), .val (.int x1), .val (.int x2), .val (.int x3), .val (.int (6 : Int32)), .val (.double (FP.l2d A0)), .second, .val (.double (FP.l2d A1)), .second, .val (.double (FP.l2d A2)), .second, .val (.double (FP.l2d A3)), .second, .val (.double (FP.l2d A4)), .second, .val (.double (FP.l2d A5)), .second, .val (.double vv), .second, .val (.ref ar), .unset]) (by rw [hml]; rfl) [(.double (FP.l2d A0)), (.double vv), (.int (0 : Int32)), (.int (6 : Int32))] [] rfl pd1 rfl rfl 0 (Nat.le_of_eq rfl) (hb hby at_115) rfl (by decide) (by decide) (by decide) (by decide)
    obtain ⟨rfl, rfl, Kc64⟩ := hq64
    refine oGo.step (f' := (mkF m 118 #[.val (.int x0), .val (.int x1), .val (.int x2), .val (.int x3), .val (.int (6 : Int32)), .val (.double (FP.l2d A0)), .second, .val (.double (FP.l2d A1)), .second, .val (.double (FP.l2d A2)), .second, .val (.double (FP.l2d A3)), .second, .val (.double (FP.l2d A4)), .second, .val (.double (FP.l2d A5)), .second, .val (.double vv), .second, .val (.ref ar), .unset] [(.int (spec2 (FP.l2d A0) vv (0 : Int32) (6 : Int32)))])) st64 ?_
    have e64 : T64.heap = T61.heap := Kc64
    have X64 := o_same X64 rfl rfl
    refine o_dload (pc' := 120) X64 hx (hb hby at_118) rfl rfl ?_
    refine o_dload (pc' := 122) X64 hx (hb hby at_120) rfl rfl ?_
    refine o_iconst (pc' := 123) (v := (1 : Int32)) X64 hx (hb hby at_122) rfl rfl ?_
    refine o_iload (pc' := 125) X64 hx (hb hby at_123) rfl rfl ?_
    obtain ⟨r65, T65, L65, X65, hq65, st65⟩ := o_callS X64 hx hZ hown (hw _ (List.mem_of_getElem? (i := 6) rfl)) (hw _ (List.mem_of_getElem? (i := 7) rfl)) (hw _ (List.mem_of_getElem? (i := 3) rfl)) (hw _ (List.mem_of_getElem? (i := 8) rfl)) (by decide) (rm2 l Z a0 hw (FP.l2d A1) vv (1 : Int32) (6 : Int32) T61.heap n0 Z63 ) e64 (pc' := 128) (Ls := #[.val (.int x0), .val (.int x1), .val (.int x2), .val (.int x3), .val (.int (6 : Int32)), .val (.double (FP.l2d A0)), .second, .val (.double (FP.l2d A1)), .second, .val (.double (FP.l2d A2)), .second, .val (.double (FP.l2d A3)), .second, .val (.double (FP.l2d A4)), .second, .val (.double (FP.l2d A5)), .second, .val (.double vv), .second, .val (.ref ar), .unset]) (by rw [hml]; rfl) [(.double (FP.l2d A1)), (.double vv), (.int (1 : Int32)), (.int (6 : Int32))] [(.int (spec2 (FP.l2d A0) vv (0 : Int32) (6 : Int32)))] rfl pd1 rfl rfl 1 (Nat.le_of_eq rfl) (hb hby at_125) rfl (by decide) (by decide) (by decide) (by decide)
    obtain ⟨rfl, rfl, Kc65⟩ := hq65
    refine oGo.step (f' := (mkF m 128 #[.val (.int x0), .val (.int x1), .val (.int x2), .val (.int x3), .val (.int (6 : Int32)), .val (.double (FP.l2d A0)), .second, .val (.double (FP.l2d A1)), .second, .val (.double (FP.l2d A2)), .second, .val (.double (FP.l2d A3)), .second, .val (.double (FP.l2d A4)), .second, .val (.double (FP.l2d A5)), .second, .val (.double vv), .second, .val (.ref ar), .unset] [(.int (spec2 (FP.l2d A1) vv (1 : Int32) (6 : Int32))), (.int (spec2 (FP.l2d A0) vv (0 : Int32) (6 : Int32)))])) st65 ?_
    have e65 : T65.heap = T61.heap := Kc65
    have X65 := o_same X65 rfl rfl
    refine o_iadd (pc' := 129) X65 hx (hb hby at_128)  rfl ?_
    refine o_dload (pc' := 131) X65 hx (hb hby at_129) rfl rfl ?_
    refine o_dload (pc' := 133) X65 hx (hb hby at_131) rfl rfl ?_
    refine o_iconst (pc' := 134) (v := (2 : Int32)) X65 hx (hb hby at_133) rfl rfl ?_
    refine o_iload (pc' := 136) X65 hx (hb hby at_134) rfl rfl ?_
    obtain ⟨r66, T66, L66, X66, hq66, st66⟩ := o_callS X65 hx hZ hown (hw _ (List.mem_of_getElem? (i := 6) rfl)) (hw _ (List.mem_of_getElem? (i := 7) rfl)) (hw _ (List.mem_of_getElem? (i := 3) rfl)) (hw _ (List.mem_of_getElem? (i := 8) rfl)) (by decide) (rm2 l Z a0 hw (FP.l2d A2) vv (2 : Int32) (6 : Int32) T61.heap n0 Z63 ) e65 (pc' := 139) (Ls := #[.val (.int x0), .val (.int x1), .val (.int x2), .val (.int x3), .val (.int (6 : Int32)), .val (.double (FP.l2d A0)), .second, .val (.double (FP.l2d A1)), .second, .val (.double (FP.l2d A2)), .second, .val (.double (FP.l2d A3)), .second, .val (.double (FP.l2d A4)), .second, .val (.double (FP.l2d A5)), .second, .val (.double vv), .second, .val (.ref ar), .unset]) (by rw [hml]; rfl) [(.double (FP.l2d A2)), (.double vv), (.int (2 : Int32)), (.int (6 : Int32))] [(.int ((spec2 (FP.l2d A0) vv (0 : Int32) (6 : Int32)) + (spec2 (FP.l2d A1) vv (1 : Int32) (6 : Int32))))] rfl pd1 rfl rfl 1 (Nat.le_of_eq rfl) (hb hby at_136) rfl (by decide) (by decide) (by decide) (by decide)
    obtain ⟨rfl, rfl, Kc66⟩ := hq66
    refine oGo.step (f' := (mkF m 139 #[.val (.int x0), .val (.int x1), .val (.int x2), .val (.int x3), .val (.int (6 : Int32)), .val (.double (FP.l2d A0)), .second, .val (.double (FP.l2d A1)), .second, .val (.double (FP.l2d A2)), .second, .val (.double (FP.l2d A3)), .second, .val (.double (FP.l2d A4)), .second, .val (.double (FP.l2d A5)), .second, .val (.double vv), .second, .val (.ref ar), .unset] [(.int (spec2 (FP.l2d A2) vv (2 : Int32) (6 : Int32))), (.int ((spec2 (FP.l2d A0) vv (0 : Int32) (6 : Int32)) + (spec2 (FP.l2d A1) vv (1 : Int32) (6 : Int32))))])) st66 ?_
    have e66 : T66.heap = T61.heap := Kc66
    have X66 := o_same X66 rfl rfl
    refine o_iadd (pc' := 140) X66 hx (hb hby at_139)  rfl ?_
    refine o_dload (pc' := 142) X66 hx (hb hby at_140) rfl rfl ?_
    refine o_dload (pc' := 144) X66 hx (hb hby at_142) rfl rfl ?_
    refine o_iconst (pc' := 145) (v := (3 : Int32)) X66 hx (hb hby at_144) rfl rfl ?_
    refine o_iload (pc' := 147) X66 hx (hb hby at_145) rfl rfl ?_
    obtain ⟨r67, T67, L67, X67, hq67, st67⟩ := o_callS X66 hx hZ hown (hw _ (List.mem_of_getElem? (i := 6) rfl)) (hw _ (List.mem_of_getElem? (i := 7) rfl)) (hw _ (List.mem_of_getElem? (i := 3) rfl)) (hw _ (List.mem_of_getElem? (i := 8) rfl)) (by decide) (rm2 l Z a0 hw (FP.l2d A3) vv (3 : Int32) (6 : Int32) T61.heap n0 Z63 ) e66 (pc' := 150) (Ls := #[.val (.int x0), .val (.int x1), .val (.int x2), .val (.int x3), .val (.int (6 : Int32)), .val (.double (FP.l2d A0)), .second, .val (.double (FP.l2d A1)), .second, .val (.double (FP.l2d A2)), .second, .val (.double (FP.l2d A3)), .second, .val (.double (FP.l2d A4)), .second, .val (.double (FP.l2d A5)), .second, .val (.double vv), .second, .val (.ref ar), .unset]) (by rw [hml]; rfl) [(.double (FP.l2d A3)), (.double vv), (.int (3 : Int32)), (.int (6 : Int32))] [(.int (((spec2 (FP.l2d A0) vv (0 : Int32) (6 : Int32)) + (spec2 (FP.l2d A1) vv (1 : Int32) (6 : Int32))) + (spec2 (FP.l2d A2) vv (2 : Int32) (6 : Int32))))] rfl pd1 rfl rfl 1 (Nat.le_of_eq rfl) (hb hby at_147) rfl (by decide) (by decide) (by decide) (by decide)
    obtain ⟨rfl, rfl, Kc67⟩ := hq67
    refine oGo.step (f' := (mkF m 150 #[.val (.int x0), .val (.int x1), .val (.int x2), .val (.int x3), .val (.int (6 : Int32)), .val (.double (FP.l2d A0)), .second, .val (.double (FP.l2d A1)), .second, .val (.double (FP.l2d A2)), .second, .val (.double (FP.l2d A3)), .second, .val (.double (FP.l2d A4)), .second, .val (.double (FP.l2d A5)), .second, .val (.double vv), .second, .val (.ref ar), .unset] [(.int (spec2 (FP.l2d A3) vv (3 : Int32) (6 : Int32))), (.int (((spec2 (FP.l2d A0) vv (0 : Int32) (6 : Int32)) + (spec2 (FP.l2d A1) vv (1 : Int32) (6 : Int32))) + (spec2 (FP.l2d A2) vv (2 : Int32) (6 : Int32))))])) st67 ?_
    have e67 : T67.heap = T61.heap := Kc67
    have X67 := o_same X67 rfl rfl
    refine o_iadd (pc' := 151) X67 hx (hb hby at_150)  rfl ?_
    refine o_dload (pc' := 153) X67 hx (hb hby at_151) rfl rfl ?_
    refine o_dload (pc' := 155) X67 hx (hb hby at_153) rfl rfl ?_
    refine o_iconst (pc' := 156) (v := (4 : Int32)) X67 hx (hb hby at_155) rfl rfl ?_
    refine o_iload (pc' := 158) X67 hx (hb hby at_156) rfl rfl ?_
    obtain ⟨r68, T68, L68, X68, hq68, st68⟩ := o_callS X67 hx hZ hown (hw _ (List.mem_of_getElem? (i := 6) rfl)) (hw _ (List.mem_of_getElem? (i := 7) rfl)) (hw _ (List.mem_of_getElem? (i := 3) rfl)) (hw _ (List.mem_of_getElem? (i := 8) rfl)) (by decide) (rm2 l Z a0 hw (FP.l2d A4) vv (4 : Int32) (6 : Int32) T61.heap n0 Z63 ) e67 (pc' := 161) (Ls := #[.val (.int x0), .val (.int x1), .val (.int x2), .val (.int x3), .val (.int (6 : Int32)), .val (.double (FP.l2d A0)), .second, .val (.double (FP.l2d A1)), .second, .val (.double (FP.l2d A2)), .second, .val (.double (FP.l2d A3)), .second, .val (.double (FP.l2d A4)), .second, .val (.double (FP.l2d A5)), .second, .val (.double vv), .second, .val (.ref ar), .unset]) (by rw [hml]; rfl) [(.double (FP.l2d A4)), (.double vv), (.int (4 : Int32)), (.int (6 : Int32))] [(.int ((((spec2 (FP.l2d A0) vv (0 : Int32) (6 : Int32)) + (spec2 (FP.l2d A1) vv (1 : Int32) (6 : Int32))) + (spec2 (FP.l2d A2) vv (2 : Int32) (6 : Int32))) + (spec2 (FP.l2d A3) vv (3 : Int32) (6 : Int32))))] rfl pd1 rfl rfl 1 (Nat.le_of_eq rfl) (hb hby at_158) rfl (by decide) (by decide) (by decide) (by decide)
    obtain ⟨rfl, rfl, Kc68⟩ := hq68
    refine oGo.step (f' := (mkF m 161 #[.val (.int x0), .val (.int x1), .val (.int x2), .val (.int x3), .val (.int (6 : Int32)), .val (.double (FP.l2d A0)), .second, .val (.double (FP.l2d A1)), .second, .val (.double (FP.l2d A2)), .second, .val (.double (FP.l2d A3)), .second, .val (.double (FP.l2d A4)), .second, .val (.double (FP.l2d A5)), .second, .val (.double vv), .second, .val (.ref ar), .unset] [(.int (spec2 (FP.l2d A4) vv (4 : Int32) (6 : Int32))), (.int ((((spec2 (FP.l2d A0) vv (0 : Int32) (6 : Int32)) + (spec2 (FP.l2d A1) vv (1 : Int32) (6 : Int32))) + (spec2 (FP.l2d A2) vv (2 : Int32) (6 : Int32))) + (spec2 (FP.l2d A3) vv (3 : Int32) (6 : Int32))))])) st68 ?_
    have e68 : T68.heap = T61.heap := Kc68
    have X68 := o_same X68 rfl rfl
    refine o_iadd (pc' := 162) X68 hx (hb hby at_161)  rfl ?_
    refine o_dload (pc' := 164) X68 hx (hb hby at_162) rfl rfl ?_
    refine o_dload (pc' := 166) X68 hx (hb hby at_164) rfl rfl ?_
    refine o_iconst (pc' := 167) (v := (5 : Int32)) X68 hx (hb hby at_166) rfl rfl ?_
    refine o_iload (pc' := 169) X68 hx (hb hby at_167) rfl rfl ?_
    obtain ⟨r69, T69, L69, X69, hq69, st69⟩ := o_callS X68 hx hZ hown (hw _ (List.mem_of_getElem? (i := 6) rfl)) (hw _ (List.mem_of_getElem? (i := 7) rfl)) (hw _ (List.mem_of_getElem? (i := 3) rfl)) (hw _ (List.mem_of_getElem? (i := 8) rfl)) (by decide) (rm2 l Z a0 hw (FP.l2d A5) vv (5 : Int32) (6 : Int32) T61.heap n0 Z63 ) e68 (pc' := 172) (Ls := #[.val (.int x0), .val (.int x1), .val (.int x2), .val (.int x3), .val (.int (6 : Int32)), .val (.double (FP.l2d A0)), .second, .val (.double (FP.l2d A1)), .second, .val (.double (FP.l2d A2)), .second, .val (.double (FP.l2d A3)), .second, .val (.double (FP.l2d A4)), .second, .val (.double (FP.l2d A5)), .second, .val (.double vv), .second, .val (.ref ar), .unset]) (by rw [hml]; rfl) [(.double (FP.l2d A5)), (.double vv), (.int (5 : Int32)), (.int (6 : Int32))] [(.int (((((spec2 (FP.l2d A0) vv (0 : Int32) (6 : Int32)) + (spec2 (FP.l2d A1) vv (1 : Int32) (6 : Int32))) + (spec2 (FP.l2d A2) vv (2 : Int32) (6 : Int32))) + (spec2 (FP.l2d A3) vv (3 : Int32) (6 : Int32))) + (spec2 (FP.l2d A4) vv (4 : Int32) (6 : Int32))))] rfl pd1 rfl rfl 1 (Nat.le_of_eq rfl) (hb hby at_169) rfl (by decide) (by decide) (by decide) (by decide)
    obtain ⟨rfl, rfl, Kc69⟩ := hq69
    refine oGo.step (f' := (mkF m 172 #[.val (.int x0), .val (.int x1), .val (.int x2), .val (.int x3), .val (.int (6 : Int32)), .val (.double (FP.l2d A0)), .second, .val (.double (FP.l2d A1)), .second, .val (.double (FP.l2d A2)), .second, .val (.double (FP.l2d A3)), .second, .val (.double (FP.l2d A4)), .second, .val (.double (FP.l2d A5)), .second, .val (.double vv), .second, .val (.ref ar), .unset] [(.int (spec2 (FP.l2d A5) vv (5 : Int32) (6 : Int32))), (.int (((((spec2 (FP.l2d A0) vv (0 : Int32) (6 : Int32)) + (spec2 (FP.l2d A1) vv (1 : Int32) (6 : Int32))) + (spec2 (FP.l2d A2) vv (2 : Int32) (6 : Int32))) + (spec2 (FP.l2d A3) vv (3 : Int32) (6 : Int32))) + (spec2 (FP.l2d A4) vv (4 : Int32) (6 : Int32))))])) st69 ?_
    have e69 : T69.heap = T61.heap := Kc69
    have X69 := o_same X69 rfl rfl
    refine o_iadd (pc' := 173) X69 hx (hb hby at_172)  rfl ?_
    refine o_istore (pc' := 175) (l' := #[.val (.int x0), .val (.int x1), .val (.int x2), .val (.int x3), .val (.int (6 : Int32)), .val (.double (FP.l2d A0)), .second, .val (.double (FP.l2d A1)), .second, .val (.double (FP.l2d A2)), .second, .val (.double (FP.l2d A3)), .second, .val (.double (FP.l2d A4)), .second, .val (.double (FP.l2d A5)), .second, .val (.double vv), .second, .val (.ref ar), .val (.int ((((((spec2 (FP.l2d A0) vv (0 : Int32) (6 : Int32)) + (spec2 (FP.l2d A1) vv (1 : Int32) (6 : Int32))) + (spec2 (FP.l2d A2) vv (2 : Int32) (6 : Int32))) + (spec2 (FP.l2d A3) vv (3 : Int32) (6 : Int32))) + (spec2 (FP.l2d A4) vv (4 : Int32) (6 : Int32))) + (spec2 (FP.l2d A5) vv (5 : Int32) (6 : Int32))))]) X69 hx (hb hby at_173) rfl rfl ?_
    refine o_aload (pc' := 177) X69 hx (hb hby at_175) rfl rfl rfl ?_
    refine o_dload (pc' := 179) X69 hx (hb hby at_177) rfl rfl ?_
    obtain ⟨r70, T70, L70, X70, hq70, st70⟩ := o_callS X69 hx hZ hown (hw _ (List.mem_of_getElem? (i := 9) rfl)) (hw _ (List.mem_of_getElem? (i := 10) rfl)) (hw _ (List.mem_of_getElem? (i := 11) rfl)) (hw _ (List.mem_of_getElem? (i := 12) rfl)) (by decide) (rm3_6 l Z a0 hw ar vv (FP.l2d A0) (FP.l2d A1) (FP.l2d A2) (FP.l2d A3) (FP.l2d A4) (FP.l2d A5) T61.heap n0 Z63 A61_) e69 (pc' := 182) (Ls := #[.val (.int x0), .val (.int x1), .val (.int x2), .val (.int x3), .val (.int (6 : Int32)), .val (.double (FP.l2d A0)), .second, .val (.double (FP.l2d A1)), .second, .val (.double (FP.l2d A2)), .second, .val (.double (FP.l2d A3)), .second, .val (.double (FP.l2d A4)), .second, .val (.double (FP.l2d A5)), .second, .val (.double vv), .second, .val (.ref ar), .val (.int ((((((spec2 (FP.l2d A0) vv (0 : Int32) (6 : Int32)) + (spec2 (FP.l2d A1) vv (1 : Int32) (6 : Int32))) + (spec2 (FP.l2d A2) vv (2 : Int32) (6 : Int32))) + (spec2 (FP.l2d A3) vv (3 : Int32) (6 : Int32))) + (spec2 (FP.l2d A4) vv (4 : Int32) (6 : Int32))) + (spec2 (FP.l2d A5) vv (5 : Int32) (6 : Int32))))]) (by rw [hml]; rfl) [(.ref ar), (.double vv)] [] rfl pd2 rfl rfl 0 (Nat.le_of_eq rfl) (hb hby at_179) rfl (by decide) (by decide) (by decide) (by decide)
    obtain ⟨rfl, rfl, Kc70⟩ := hq70
    refine oGo.step (f' := (mkF m 182 #[.val (.int x0), .val (.int x1), .val (.int x2), .val (.int x3), .val (.int (6 : Int32)), .val (.double (FP.l2d A0)), .second, .val (.double (FP.l2d A1)), .second, .val (.double (FP.l2d A2)), .second, .val (.double (FP.l2d A3)), .second, .val (.double (FP.l2d A4)), .second, .val (.double (FP.l2d A5)), .second, .val (.double vv), .second, .val (.ref ar), .val (.int ((((((spec2 (FP.l2d A0) vv (0 : Int32) (6 : Int32)) + (spec2 (FP.l2d A1) vv (1 : Int32) (6 : Int32))) + (spec2 (FP.l2d A2) vv (2 : Int32) (6 : Int32))) + (spec2 (FP.l2d A3) vv (3 : Int32) (6 : Int32))) + (spec2 (FP.l2d A4) vv (4 : Int32) (6 : Int32))) + (spec2 (FP.l2d A5) vv (5 : Int32) (6 : Int32))))] [(.int (spec3_6 vv (FP.l2d A0) (FP.l2d A1) (FP.l2d A2) (FP.l2d A3) (FP.l2d A4) (FP.l2d A5)))])) st70 ?_
    have e70 : T70.heap = T61.heap := Kc70
    have X70 := o_same X70 rfl rfl
    refine o_iload (pc' := 184) X70 hx (hb hby at_182) rfl rfl ?_
    have k0 := own_cmp bA0.1 (by omega) bQ0.1 bQ0.2
    rw [← hvv] at k0
    have k1 := own_cmp bA1.1 (by omega) bQ0.1 bQ0.2
    rw [← hvv] at k1
    have k2 := own_cmp bA2.1 (by omega) bQ0.1 bQ0.2
    rw [← hvv] at k2
    have k3 := own_cmp bA3.1 (by omega) bQ0.1 bQ0.2
    rw [← hvv] at k3
    have k4 := own_cmp bA4.1 (by omega) bQ0.1 bQ0.2
    rw [← hvv] at k4
    have k5 := own_cmp bA5.1 (by omega) bQ0.1 bQ0.2
    rw [← hvv] at k5
    have hE : (spec3_6 vv (FP.l2d A0) (FP.l2d A1) (FP.l2d A2) (FP.l2d A3) (FP.l2d A4) (FP.l2d A5)) = ((((((spec2 (FP.l2d A0) vv (0 : Int32) (6 : Int32)) + (spec2 (FP.l2d A1) vv (1 : Int32) (6 : Int32))) + (spec2 (FP.l2d A2) vv (2 : Int32) (6 : Int32))) + (spec2 (FP.l2d A3) vv (3 : Int32) (6 : Int32))) + (spec2 (FP.l2d A4) vv (4 : Int32) (6 : Int32))) + (spec2 (FP.l2d A5) vv (5 : Int32) (6 : Int32))) := own_fin6 vv (FP.l2d A0) (FP.l2d A1) (FP.l2d A2) (FP.l2d A3) (FP.l2d A4) (FP.l2d A5) k0 k1 k2 k3 k4 k5 (by omega) (by omega) (by omega) (by omega) (by omega)
    refine o_icmpF (pc' := 187) X70 hx (hb hby at_184) (XT.ii_ne_f hE) rfl ?_
    refine o_iconst (pc' := 188) (v := (1 : Int32)) X70 hx (hb hby at_187) rfl rfl ?_
    refine o_goto (pc' := 192) X70 hx (hb hby at_188) (by decide) (by decide) ?_
    refine o_retZ X70 hx hret hlk (hb hby at_192) (by decide) (by decide) (by decide) ?_
    exact ⟨rfl, N61_⟩
set_option maxRecDepth 65536 in
set_option maxHeartbeats 40000000 in
theorem comes_1 {Post : Tables → Env → Array Value → State → Outcome → State → Prop} (hpost : ∀ tb e args s v u, (limb_1_1.after args s (.returned v) u = true ∧ limb_1_2.after args s (.returned v) u = true ∧ True) → FrameEnd s (.returned v) u (Jvm.fieldLocs frame_1_writes args s ++ Jvm.arrayLocs frame_1_arrays args s ++ Jvm.staticLocs frame_1_statics s) 16 128 → Post tb e args s (.returned v) u) :
    ArmFor flags0 classFile x code maxLocals ret World_1 tables_1 room_1 Calls_1 rest_1 Pre_1 Post := by
  intro l hfl _ _ p e ha hc hk s m args below hf hA hF happ hP
  obtain ⟨hcalls, hrest, hpre⟩ := hP
  obtain ⟨-, -, -, hnamed, -, -, -, hat⟩ := (Spec.applies_iff hf).mp happ
  obtain ⟨hg, hn⟩ := and_e (Cond.before_iff.mp (show (Jvm.Cond.and given_1 narrow_1).before args s = true from hpre))
  obtain ⟨hcount, q0⟩ := and_e hg
  obtain ⟨a0, q1⟩ := and_e q0
  obtain ⟨a1, q2⟩ := and_e q1
  obtain ⟨a2, q3⟩ := and_e q2
  obtain ⟨w0, w1, w2, w3, rfl⟩ : ∃ w0 w1 w2 w3 : Value, args = #[w0, w1, w2, w3] := by
    have hs : args.size = 4 := by simpa [Cond.value, given_1] using hcount
    obtain ⟨L⟩ := args
    match L, hs with
    | [w0, w1, w2, w3], _ => exact ⟨w0, w1, w2, w3, rfl⟩
  have hw := fun d (hd : d ∈ tables_1) => atoms_spec (ws := Jvm.Cond.code x code maxLocals ret :: tables_1) hat d (List.mem_cons_of_mem _ hd)
  have hfit : Fit s := fun {y c} hc i hi => by
    obtain ⟨ha, rfl⟩ := Array.getElem?_eq_some_iff.mp hc
    have q := List.all_eq_true.mp ((Array.all_eq_true_iff_forall_mem.mp hF) _ (Array.getElem_mem ha)) i (List.mem_range.mpr hi)
    simpa [Array.getElem?_eq_getElem hi] using q
  obtain ⟨x0, e0⟩ := is_v a0
  obtain rfl : w0 = (.int x0) := Option.some.inj e0
  obtain ⟨x1, e1⟩ := is_v a1
  obtain rfl : w1 = (.int x1) := Option.some.inj e1
  obtain ⟨x2, e2⟩ := is_v a2
  obtain rfl : w2 = (.int x2) := Option.some.inj e2
  obtain ⟨x3, e3⟩ := is_v q3
  obtain rfl : w3 = (.int x3) := Option.some.inj e3
  obtain ⟨n, o, h1, h2, h3, _, L, rfl, ⟨rfl, N⟩, hq⟩ := rm0 l s _ hw x0 x1 x2 x3  s.heap s.heap.size (Nat.le_refl _)  tables_1 p e ha hc hk s m _ below hf ((Spec.applies_iff_loose hf).mp happ).1 ⟨rfl, State.Warmed39.refl s, rfl⟩ trivial
  refine ⟨n, _, h1, h2, h3, hpost _ _ _ _ _ _ ⟨Cond.after_iff.mpr rfl, Cond.after_iff.mpr (eq_i res_at (Term.int_eval (1)) rfl), trivial⟩ ⟨hq.1, hq.2.1, (hq.2.2.sift fun y hy => Or.inr (N y hy)).mono (by decide) (by decide)⟩⟩
theorem main_1_1 : Claimed_1_1 := comes_1 fun _ _ _ _ _ _ h hF => ⟨h.1, hF⟩
theorem main_1_2 : Claimed_1_2 := comes_1 fun _ _ _ _ _ _ h hF => ⟨h.2.1, hF⟩
end Jvm.Pilot.@@N@@
namespace Jvm.Pilot.@@N@@
open Jvm Jvm.ClassFile Sem Op Lib Jvm.Free Jvm.Stand Jvm.Pilot.@@N@@.Jvm.D
/-! MADE BY PROGRAM (witnessworld.py) out of the Statement's table words and the real class files: 11 classes; the members and pool entries that the words name. The judged class is class 1, her method 1. -/
namespace start1
open Jvm.ClassFile
def u (s : String) : CpInfo := .utf8 (stringToUtf16 s)
/-- a pool by its gaps: so many unusable entries, then the entry; so many at the end -/
def gap : Nat → List CpInfo → List CpInfo
  | 0, r => r
  | n + 1, r => .unusable :: gap n r
def poolList (es : List (Nat × CpInfo)) (last : Nat) : List CpInfo := es.foldr (fun e r => gap e.1 (e.2 :: r)) (gap last [])
def pool (es : List (Nat × CpInfo)) (last : Nat) : Array CpInfo := ⟨poolList es last⟩
def fileOf (pool : Array CpInfo) (this : Nat) (attrs : Array Attribute := #[]) (ms : Array MethodInfo := #[]) (fl : Nat := 33) (sup : Nat := 0) (ifs : Array Nat := #[]) (fds : Array FieldInfo := #[]) : ClassFile where
  minorVersion := 0
  majorVersion := 65
  constantPool := pool
  accessFlags := fl
  thisClass := this
  superClass := sup
  interfaces := ifs
  fields := fds
  methods := ms
  attributes := attrs
def plain (name : String) (sup : Option ClassId) : Class where
  name := name
  kind := .ordinary
  loader := none
  accessFlags := 33
  super := sup
  interfaces := #[]
  cf := none
  fields := #[]
  methods := #[]
  instanceTypes := #[]
  staticTypes := #[]
  resolved := #[]
  callSites := []
  init := .initialized
  statics := none
  mirror := none

def pool0 : Array CpInfo := pool [(5, u "<init>"), (0, u "()V"), (1, .class_ 10), (1, u "java/lang/Object")] 113

def k0m0 : Method := { name := "<init>", desc := "()V", sig := { parameters := [], returnType := none }, accessFlags := 1, code := none }
/-- java/lang/Object -/
def k0 : Class := { plain "java/lang/Object" none with
  accessFlags := 33
  interfaces := #[]
  cf := some (fileOf pool0 8 #[] #[{ accessFlags := 1, nameIndex := 5, descriptorIndex := 6, attributes := #[] }] 33 0 #[] #[])
  fields := #[]
  methods := #[k0m0]
  instanceTypes := #[]
  staticTypes := #[]
  resolved := Array.replicate 124 none
  statics := none }

def pool1 : Array CpInfo := pool [(2, .class_ 4), (1, u "java/lang/Object"), (0, u "<init>"), (0, u "()V"), (0, .double 4611686018427387904), (1, .methodref 10 11), (0, .class_ 12), (0, .nameAndType 13 14), (0, u "com/example/glyphweave/glyphweave/SlotsLowerBoundPinLaw"), (0, u "make"), (0, u "(IDDDDDD)[D"), (0, .methodref 10 16), (0, .nameAndType 17 18), (0, u "below"), (0, u "(DDII)I"), (0, .methodref 20 21), (0, .class_ 22), (0, .nameAndType 23 24), (0, u "com/example/glyphweave/glyphweave/Slots"), (0, u "lowerBound"), (0, u "([DD)I"), (2, u "law"), (0, u "(IIII)Z")] 5

def k1m0 : Method := { name := "<init>", desc := "()V", sig := { parameters := [], returnType := none }, accessFlags := 1, code := none }
def k1c1 : Code := { maxStack := 13, maxLocals := 21, code := code, exceptionTable := #[], attributes := #[] }
def k1m1 : Method := { name := "law", desc := "(IIII)Z", sig := { parameters := [.int, .int, .int, .int], returnType := some .boolean }, accessFlags := 9, code := some k1c1 }
def k1c2 : Code := { maxStack := 4, maxLocals := 6, code := method_3_code, exceptionTable := #[], attributes := #[] }
def k1m2 : Method := { name := "below", desc := "(DDII)I", sig := { parameters := [.double, .double, .int, .int], returnType := some .int }, accessFlags := 10, code := some k1c2 }
def k1c3 : Code := { maxStack := 5, maxLocals := 13, code := method_4_code, exceptionTable := #[], attributes := #[] }
def k1m3 : Method := { name := "make", desc := "(IDDDDDD)[D", sig := { parameters := [.int, .double, .double, .double, .double, .double, .double], returnType := some (.array .double) }, accessFlags := 10, code := some k1c3 }
/-- com/example/glyphweave/glyphweave/SlotsLowerBoundPinLaw -/
def k1 : Class := { plain "com/example/glyphweave/glyphweave/SlotsLowerBoundPinLaw" (some 0) with
  accessFlags := 49
  interfaces := #[]
  cf := some (fileOf pool1 10 #[] #[{ accessFlags := 1, nameIndex := 5, descriptorIndex := 6, attributes := #[] }, { accessFlags := 9, nameIndex := 27, descriptorIndex := 28, attributes := #[] }, { accessFlags := 10, nameIndex := 17, descriptorIndex := 18, attributes := #[] }, { accessFlags := 10, nameIndex := 13, descriptorIndex := 14, attributes := #[] }] 49 2 #[] #[])
  fields := #[]
  methods := #[k1m0, k1m1, k1m2, k1m3]
  instanceTypes := #[]
  staticTypes := #[]
  resolved := Array.replicate 34 none
  statics := none }

def pool2 : Array CpInfo := pool [(2, .class_ 4), (1, u "java/lang/Object"), (0, u "<init>"), (0, u "()V"), (1, .class_ 10), (1, u "com/example/glyphweave/glyphweave/Slots"), (0, u "lowerBound"), (0, u "([DD)I")] 12

def k2m0 : Method := { name := "<init>", desc := "()V", sig := { parameters := [], returnType := none }, accessFlags := 2, code := none }
def k2c1 : Code := { maxStack := 4, maxLocals := 6, code := prog_60_method_3_code, exceptionTable := #[], attributes := #[] }
def k2m1 : Method := { name := "lowerBound", desc := "([DD)I", sig := { parameters := [(.array .double), .double], returnType := some .int }, accessFlags := 8, code := some k2c1 }
/-- com/example/glyphweave/glyphweave/Slots -/
def k2 : Class := { plain "com/example/glyphweave/glyphweave/Slots" (some 0) with
  accessFlags := 48
  interfaces := #[]
  cf := some (fileOf pool2 8 #[] #[{ accessFlags := 2, nameIndex := 5, descriptorIndex := 6, attributes := #[] }, { accessFlags := 8, nameIndex := 11, descriptorIndex := 12, attributes := #[] }] 48 2 #[] #[])
  fields := #[]
  methods := #[k2m0, k2m1]
  instanceTypes := #[]
  staticTypes := #[]
  resolved := Array.replicate 25 none
  statics := none }

def pool3 : Array CpInfo := pool [(1, u "java/lang/Cloneable"), (0, .class_ 1), (0, u "java/lang/Object"), (0, .class_ 3)] 3

/-- java/lang/Cloneable -/
def k3 : Class := { plain "java/lang/Cloneable" (some 0) with
  accessFlags := 1537
  interfaces := #[]
  cf := some (fileOf pool3 2 #[] #[] 1537 4 #[] #[])
  fields := #[]
  methods := #[]
  instanceTypes := #[]
  staticTypes := #[]
  resolved := Array.replicate 8 none
  statics := none }

def pool4 : Array CpInfo := pool [(1, u "java/io/Serializable"), (0, .class_ 1), (0, u "java/lang/Object"), (0, .class_ 3)] 3

/-- java/io/Serializable -/
def k4 : Class := { plain "java/io/Serializable" (some 0) with
  accessFlags := 1537
  interfaces := #[]
  cf := some (fileOf pool4 2 #[] #[] 1537 4 #[] #[])
  fields := #[]
  methods := #[]
  instanceTypes := #[]
  staticTypes := #[]
  resolved := Array.replicate 8 none
  statics := none }

/-- the primitive byte -/
def k5 : Class := { plain "byte" none with kind := .primitive 'B', accessFlags := 0x411 }
/-- [B -/
def k6 : Class := { plain "[B" (some 0) with kind := .array 5 .byte, interfaces := #[3, 4], accessFlags := 1041 }

/-- the primitive double -/
def k7 : Class := { plain "double" none with kind := .primitive 'D', accessFlags := 0x411 }
/-- [D -/
def k8 : Class := { plain "[D" (some 0) with kind := .array 7 .double, interfaces := #[3, 4], accessFlags := 1041 }

/-- the primitive int -/
def k9 : Class := { plain "int" none with kind := .primitive 'I', accessFlags := 0x411 }
/-- [I -/
def k10 : Class := { plain "[I" (some 0) with kind := .array 9 .int, interfaces := #[3, 4], accessFlags := 1041 }

def heap : Heap := #[]
def classes : Array Class := #[k0, k1, k2, k3, k4, k5, k6, k7, k8, k9, k10]
def interned : List (Array UInt16 × Addr) := []
def slotsUsed : Nat := 0
def theMethod : MethodId := ⟨1, 1⟩
def args0 : Array Value := #[.int 5, .int 5, .int 5, .int 5]
def aboutOver (below : List Frame) : State where
  vm := { classes := classes, interned := interned.toArray }
  heap := heap
  slotsUsed := slotsUsed
  threads := #[{ frames := .invoking theMethod args0 :: below }]
def below0 : List Frame := [.native { method := ⟨0, 0⟩, args := #[] }]
def about1 : State := aboutOver below0
def p0 : Program := .bare "" "" ""
def e0 : Env := launch0.env 0 0 0
theorem w_frames : about1.frames = Frame.invoking theMethod args0 :: below0 := rfl
set_option maxRecDepth 65536 in
theorem w_args : argsFit about1.vm theMethod args0 = true := by decide +kernel
set_option maxRecDepth 65536 in
theorem w_heap : heapFits about1 = true := by decide +kernel
set_option maxRecDepth 65536 in
theorem w_runnable : about1.curStatus? = some .runnable := by decide +kernel
set_option maxRecDepth 65536 in
theorem w_alone : about1.alone = true := by decide +kernel
set_option maxRecDepth 65536 in
theorem w_named : about1.methodNamed? x = some theMethod := by decide +kernel
set_option maxRecDepth 65536 in
theorem w_hears : about1.hears theMethod below0 = true := by decide +kernel
set_option maxRecDepth 65536 in
theorem w_ripe : about1.ripe theMethod args0 below0 = true := by decide +kernel
theorem w_running : about1.status = .running := rfl
set_option maxRecDepth 65536 in
theorem w_room : about1.hasRoom e0.platform room_1 = true :=
  launch0.hasRoom_least _ room_1 (by decide +kernel) (by decide +kernel) (by decide +kernel) (by decide +kernel) (by decide +kernel) (by decide +kernel)
theorem allAtoms_all (ts : List Jvm.Cond) (a : Array Jvm.Value) (st : Jvm.State) : (allAtoms ts).before a st = ts.all (fun c => c.before a st) := by
  induction ts with
  | nil => rfl
  | cons c t ih =>
    show (Jvm.Cond.and c (allAtoms t)).before a st = _
    rw [Jvm.Cond.before_and, ih, List.all_cons]
def words1 : List Jvm.Cond := Jvm.Cond.code x code maxLocals ret :: tables_1
/-- a 'code' word, met by the world's own term for the bytes: nothing is compared byte by byte -/
theorem code_word {y : MethodName} {bytes : ByteArray} {mx : Nat} {rt : Option FieldType} {a : Array Value} {s : State} {m : MethodId} {meth : Method} {c : Code} (h1 : s.methodNamed? y = some m) (h2 : s.vm.method? m = some meth) (h3 : meth.code = some c) (h4 : c.code = bytes)
    (h5 : (c.maxLocals == mx && c.exceptionTable.isEmpty && decide (c.maxStack ≤ mostOperands) && decide (meth.sig.returnType = rt) && !meth.locks && decide (parseMethodDescriptor y.desc = some meth.sig)) = true) : (Jvm.Cond.code y bytes mx rt).before a s = true := by
  simp only [Bool.and_eq_true, beq_iff_eq, Bool.not_eq_true', decide_eq_true_eq] at h5
  obtain ⟨⟨⟨⟨⟨g1, g2⟩, g3⟩, g4⟩, g5⟩, g6⟩ := h5
  simp [Cond.before, Cond.holds, Cond.value, h1, h2, h3, h4, g1, g2, g3, g4, g5, g6]
def isCode : Jvm.Cond → Bool
  | .code _ _ _ _ => true
  | _ => false
theorem all_split {L : List Jvm.Cond} {P : Jvm.Cond → Bool} (h1 : L.all (fun c => isCode c || P c) = true) (h2 : ∀ c ∈ L.filter isCode, P c = true) : L.all P = true := by
  refine List.all_eq_true.mpr fun c hc => ?_
  have h := List.all_eq_true.mp h1 c hc
  rcases Bool.eq_false_or_eq_true (isCode c) with hi | hi
  · exact h2 c (List.mem_filter.mpr ⟨hc, hi⟩)
  · simpa [hi] using h
set_option maxRecDepth 65536 in
theorem w_c0 : (Jvm.Cond.code x code maxLocals ret).before args0 about1 = true := code_word (m := ⟨1, 1⟩) (meth := k1m1) (c := k1c1) (by decide +kernel) rfl rfl rfl (by decide +kernel)
set_option maxRecDepth 65536 in
theorem w_c1 : (Jvm.Cond.code ({ cls := "com/example/glyphweave/glyphweave/SlotsLowerBoundPinLaw", name := "make", desc := "(IDDDDDD)[D" } : Jvm.MethodName) method_4_code (13 : Nat) (Option.some (Jvm.ClassFile.FieldType.array Jvm.ClassFile.FieldType.double))).before args0 about1 = true := code_word (m := ⟨1, 3⟩) (meth := k1m3) (c := k1c3) (by decide +kernel) rfl rfl rfl (by decide +kernel)
set_option maxRecDepth 65536 in
theorem w_c2 : (Jvm.Cond.code ({ cls := "com/example/glyphweave/glyphweave/SlotsLowerBoundPinLaw", name := "below", desc := "(DDII)I" } : Jvm.MethodName) method_3_code (6 : Nat) (Option.some Jvm.ClassFile.FieldType.int)).before args0 about1 = true := code_word (m := ⟨1, 2⟩) (meth := k1m2) (c := k1c2) (by decide +kernel) rfl rfl rfl (by decide +kernel)
set_option maxRecDepth 65536 in
theorem w_c3 : (Jvm.Cond.code ({ cls := "com/example/glyphweave/glyphweave/Slots", name := "lowerBound", desc := "([DD)I" } : Jvm.MethodName) prog_60_method_3_code (6 : Nat) (Option.some Jvm.ClassFile.FieldType.int)).before args0 about1 = true := code_word (m := ⟨2, 1⟩) (meth := k2m1) (c := k2c1) (by decide +kernel) rfl rfl rfl (by decide +kernel)
def codes1 : List Jvm.Cond := [Jvm.Cond.code x code maxLocals ret, Jvm.Cond.code ({ cls := "com/example/glyphweave/glyphweave/SlotsLowerBoundPinLaw", name := "make", desc := "(IDDDDDD)[D" } : Jvm.MethodName) method_4_code (13 : Nat) (Option.some (Jvm.ClassFile.FieldType.array Jvm.ClassFile.FieldType.double)), Jvm.Cond.code ({ cls := "com/example/glyphweave/glyphweave/SlotsLowerBoundPinLaw", name := "below", desc := "(DDII)I" } : Jvm.MethodName) method_3_code (6 : Nat) (Option.some Jvm.ClassFile.FieldType.int), Jvm.Cond.code ({ cls := "com/example/glyphweave/glyphweave/Slots", name := "lowerBound", desc := "([DD)I" } : Jvm.MethodName) prog_60_method_3_code (6 : Nat) (Option.some Jvm.ClassFile.FieldType.int)]
set_option maxRecDepth 65536 in
theorem codes_eq : words1.filter isCode = codes1 := rfl
theorem w_codes : ∀ c ∈ words1.filter isCode, c.before args0 about1 = true := by
  rw [codes_eq]
  intro c hc
  simp only [codes1, List.mem_cons, List.not_mem_nil, or_false] at hc
  rcases hc with rfl | rfl | rfl | rfl
  · exact w_c0
  · exact w_c1
  · exact w_c2
  · exact w_c3
set_option maxRecDepth 65536 in
theorem w_t1 : words1.all (fun c => isCode c || c.before args0 about1) = true := by decide +kernel
theorem w_tables : (allAtoms (Jvm.Cond.code x code maxLocals ret :: tables_1)).before args0 about1 = true := by
  rw [allAtoms_all]
  show words1.all (fun c => c.before args0 about1) = true
  refine all_split ?_ w_codes
  rw [w_t1]
set_option maxRecDepth 65536 in
theorem w_case : (Jvm.Cond.and given_1 narrow_1).before args0 about1 = true := by decide +kernel
theorem w_applies : (headSpec (Jvm.Cond.code x code maxLocals ret :: tables_1) room_1).applies x e0.platform about1 = true :=
  (Spec.applies_iff w_frames).mpr ⟨w_running, w_runnable, w_alone, w_named, w_hears, w_ripe, w_room, w_tables⟩
theorem atStart : AtStart classFile x code maxLocals ret World_1 tables_1 room_1 Calls_1 rest_1 Pre_1 launch0 p0 e0 about1 theMethod args0 below0 :=
  ⟨lists_1, trivial, launch0.admits_env _ _ _, launch0.least_env, fairChoices_fair.cas, fairChoices_fair.clock, w_frames, w_args, w_heap, w_applies, trivial, trivial, w_case⟩
end start1
theorem witness_1 : WitnessClaimed_1 := ⟨start1.p0, start1.e0, start1.about1, start1.theMethod, start1.args0, start1.below0, start1.atStart⟩
end Jvm.Pilot.@@N@@
