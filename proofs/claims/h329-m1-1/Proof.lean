import JvmDerived
import JvmDerived.Pilot.@@N@@Statement
import JvmDerived.Pilot.@@N@@Code
set_option linter.unusedVariables false
set_option linter.unusedSimpArgs false
namespace Jvm.Pilot.@@N@@
open Jvm Jvm.ClassFile Sem Op Lib Jvm.Free Jvm.Stand Jvm.LawKit Jvm.RoadKit Bundle Jvm.Pilot.@@N@@.Jvm.D
section OwnKit
variable {p : Program} {l : Launch} {e : Env} {R : Room} {s : State} {m : MethodId} {args : Array Value} {below : List Frame} {meth : Method} {c : Code} {T : State} {locs : List Loc} {cells slots : Nat} {Z : State} {a0 : Array Value} {h : Heap} {G : Outcome → State → Prop}
def oGo (p : Program) (e : Env) (below : List Frame) (G : Outcome → State → Prop) (T : State) (f : JFrame) : Prop :=
  ∃ s₂ o, Steps p.tables e below (T.setTop f) s₂ ∧ s₂.status = .running ∧ Ended s₂ below o ∧ G o s₂
theorem oGo.step {T' : State} {f f' : JFrame} (st : ∀ t, Steps p.tables e below (T'.setTop f') t → Steps p.tables e below (T.setTop f) t) (k : oGo p e below G T' f') : oGo p e below G T f := by
  obtain ⟨s₂, o, h1, h2⟩ := k
  exact ⟨s₂, o, st _ h1, h2⟩
def oG (s : State) (Q : Option Value → Heap → List Loc → Prop) (C N : Nat) : Outcome → State → Prop := fun o U' => ∃ v L, o = .returned v ∧ Q v U'.heap L ∧ FrameEnd s o U' L C N
def oCon (l : Launch) (Z : State) (y : MethodName) (bytes : ByteArray) (maxL : Nat) (ret : Option FieldType) (rm : Room) (as' : Array Value) (h : Heap) (Q : Option Value → Heap → List Loc → Prop) : Prop :=
  ∀ ws, MetFree l y (head1 (Jvm.Cond.code y bytes maxL ret :: ws) rm) (fun a U => a = as' ∧ Z.Warmed39 U.vm ∧ U.heap = h) (fun _ _ _ _ _ => True) (fun _ U o U' => ∃ v L, o = .returned v ∧ Q v U'.heap L ∧ FrameEnd U o U' L rm.cells rm.slots)
theorem oCon.of {y : MethodName} {bytes : ByteArray} {maxL : Nat} {ret : Option FieldType} {rm : Room} {as' : Array Value} {Q : Option Value → Heap → List Loc → Prop} (hpn : plainFor y = true)
    (body : ∀ p e s m below meth c s₁, p.tables.exec = Jvm.exec → c.code = bytes → c.maxLocals = maxL → s.vm.findClass y.cls = some m.cls → meth.name = y.name → meth.sig.returnType = ret → meth.locks = false → Z.Warmed39 s.vm → Stand p l e rm s m as' below meth c s₁ [] 0 0 → s₁.heap = h → oGo p e below (oG s Q rm.cells rm.slots) s₁ (entryFrame m as' maxL)) :
    oCon l Z y bytes maxL ret rm as' h Q := by
  intro ws
  refine MetFree.of_bodySF hpn hisR ?_
  intro p e s m args below meth c s₁ Bd hml0 hP hK
  obtain ⟨rfl, hZ, hh⟩ := hP
  exact body p e s m below meth c s₁ Bd.exec Bd.bytes hml0 (findClass_of_methodNamed Bd.named) (name_of_methodNamed Bd.named Bd.method).1 Bd.returns (BodyLoose.notSynchronized Bd) hZ (Stand.of_body Bd) (by rw [← hh, Bd.state]; rfl)
theorem o_iloadN (X : Stand p l e R s m args below meth c T locs cells slots) (hx : p.tables.exec = Jvm.exec) {pc pc' : Nat} {Ls : Array Slot} {st : List Value} {k : Fin 4} {v : Int32} (hd : decode c.code pc = .ok (.iload_n k, 1)) (hl : Ls[k.val]? = some (.val (.int v))) (hp : pc + 1 = pc') (q : oGo p e below G T (mkF m pc' Ls (.int v :: st))) : oGo p e below G T (mkF m pc Ls (st)) := by
  subst hp; exact q.step fun t r => XS.iloadN X.here hx rfl hd hl r
theorem o_iload (X : Stand p l e R s m args below meth c T locs cells slots) (hx : p.tables.exec = Jvm.exec) {pc pc' : Nat} {Ls : Array Slot} {st : List Value} {k : Nat} {v : Int32} (hd : decode c.code pc = .ok (.iload k, 2)) (hl : Ls[k]? = some (.val (.int v))) (hp : pc + 2 = pc') (q : oGo p e below G T (mkF m pc' Ls (.int v :: st))) : oGo p e below G T (mkF m pc Ls (st)) := by
  subst hp; exact q.step fun t r => XS.iload X.here hx rfl hd hl r
theorem o_istoreN (X : Stand p l e R s m args below meth c T locs cells slots) (hx : p.tables.exec = Jvm.exec) {pc pc' : Nat} {Ls : Array Slot} {st : List Value} {k : Fin 4} {v : Int32} {l' : Array Slot} (hd : decode c.code pc = .ok (.istore_n k, 1)) (hl : storeLocals Ls k.val (.int v) = some l') (hp : pc + 1 = pc') (q : oGo p e below G T (mkF m pc' l' (st))) : oGo p e below G T (mkF m pc Ls (.int v :: st)) := by
  subst hp; exact q.step fun t r => XS.istoreN X.here hx rfl hd rfl hl r
theorem o_istore (X : Stand p l e R s m args below meth c T locs cells slots) (hx : p.tables.exec = Jvm.exec) {pc pc' : Nat} {Ls : Array Slot} {st : List Value} {k : Nat} {v : Int32} {l' : Array Slot} (hd : decode c.code pc = .ok (.istore k, 2)) (hl : storeLocals Ls k (.int v) = some l') (hp : pc + 2 = pc') (q : oGo p e below G T (mkF m pc' l' (st))) : oGo p e below G T (mkF m pc Ls (.int v :: st)) := by
  subst hp; exact q.step fun t r => XS.istore X.here hx rfl hd rfl hl r
theorem o_lloadN (X : Stand p l e R s m args below meth c T locs cells slots) (hx : p.tables.exec = Jvm.exec) {pc pc' : Nat} {Ls : Array Slot} {st : List Value} {k : Fin 4} {v : Int64} (hd : decode c.code pc = .ok (.lload_n k, 1)) (hl : Ls[k.val]? = some (.val (.long v))) (hp : pc + 1 = pc') (q : oGo p e below G T (mkF m pc' Ls (.long v :: st))) : oGo p e below G T (mkF m pc Ls (st)) := by
  subst hp; exact q.step fun t r => XT.lloadN X.here hx rfl hd hl r
theorem o_lload (X : Stand p l e R s m args below meth c T locs cells slots) (hx : p.tables.exec = Jvm.exec) {pc pc' : Nat} {Ls : Array Slot} {st : List Value} {k : Nat} {v : Int64} (hd : decode c.code pc = .ok (.lload k, 2)) (hl : Ls[k]? = some (.val (.long v))) (hp : pc + 2 = pc') (q : oGo p e below G T (mkF m pc' Ls (.long v :: st))) : oGo p e below G T (mkF m pc Ls (st)) := by
  subst hp; exact q.step fun t r => XT.lload X.here hx rfl hd hl r
theorem o_lstoreN (X : Stand p l e R s m args below meth c T locs cells slots) (hx : p.tables.exec = Jvm.exec) {pc pc' : Nat} {Ls : Array Slot} {st : List Value} {k : Fin 4} {v : Int64} {l' : Array Slot} (hd : decode c.code pc = .ok (.lstore_n k, 1)) (hl : storeLocals Ls k.val (.long v) = some l') (hp : pc + 1 = pc') (q : oGo p e below G T (mkF m pc' l' (st))) : oGo p e below G T (mkF m pc Ls (.long v :: st)) := by
  subst hp; exact q.step fun t r => XT.lstoreN X.here hx rfl hd rfl hl r
theorem o_lstore (X : Stand p l e R s m args below meth c T locs cells slots) (hx : p.tables.exec = Jvm.exec) {pc pc' : Nat} {Ls : Array Slot} {st : List Value} {k : Nat} {v : Int64} {l' : Array Slot} (hd : decode c.code pc = .ok (.lstore k, 2)) (hl : storeLocals Ls k (.long v) = some l') (hp : pc + 2 = pc') (q : oGo p e below G T (mkF m pc' l' (st))) : oGo p e below G T (mkF m pc Ls (.long v :: st)) := by
  subst hp; exact q.step fun t r => XT.lstore X.here hx rfl hd rfl hl r
theorem o_aloadN (X : Stand p l e R s m args below meth c T locs cells slots) (hx : p.tables.exec = Jvm.exec) {pc pc' : Nat} {Ls : Array Slot} {st : List Value} {k : Fin 4} {v : Value} (hd : decode c.code pc = .ok (.aload_n k, 1)) (hl : Ls[k.val]? = some (.val v)) (hv : v.isRef = true) (hp : pc + 1 = pc') (q : oGo p e below G T (mkF m pc' Ls (v :: st))) : oGo p e below G T (mkF m pc Ls (st)) := by
  subst hp; exact q.step fun t r => XS.aloadN X.here hx rfl hd hl hv r
theorem o_aload (X : Stand p l e R s m args below meth c T locs cells slots) (hx : p.tables.exec = Jvm.exec) {pc pc' : Nat} {Ls : Array Slot} {st : List Value} {k : Nat} {v : Value} (hd : decode c.code pc = .ok (.aload k, 2)) (hl : Ls[k]? = some (.val v)) (hv : v.isRef = true) (hp : pc + 2 = pc') (q : oGo p e below G T (mkF m pc' Ls (v :: st))) : oGo p e below G T (mkF m pc Ls (st)) := by
  subst hp; exact q.step fun t r => XS.aload X.here hx rfl hd hl hv r
theorem o_astoreN (X : Stand p l e R s m args below meth c T locs cells slots) (hx : p.tables.exec = Jvm.exec) {pc pc' : Nat} {Ls : Array Slot} {st : List Value} {k : Fin 4} {v : Value} {l' : Array Slot} (hd : decode c.code pc = .ok (.astore_n k, 1)) (hv : v.isRef = true) (hl : storeLocals Ls k.val v = some l') (hp : pc + 1 = pc') (q : oGo p e below G T (mkF m pc' l' (st))) : oGo p e below G T (mkF m pc Ls (v :: st)) := by
  subst hp; exact q.step fun t r => XS.astoreN X.here hx rfl hd rfl hv hl r
theorem o_astore (X : Stand p l e R s m args below meth c T locs cells slots) (hx : p.tables.exec = Jvm.exec) {pc pc' : Nat} {Ls : Array Slot} {st : List Value} {k : Nat} {v : Value} {l' : Array Slot} (hd : decode c.code pc = .ok (.astore k, 2)) (hv : v.isRef = true) (hl : storeLocals Ls k v = some l') (hp : pc + 2 = pc') (q : oGo p e below G T (mkF m pc' l' (st))) : oGo p e below G T (mkF m pc Ls (v :: st)) := by
  subst hp; exact q.step fun t r => XS.astore X.here hx rfl hd rfl hv hl r
theorem o_iconst (X : Stand p l e R s m args below meth c T locs cells slots) (hx : p.tables.exec = Jvm.exec) {pc pc' : Nat} {Ls : Array Slot} {st : List Value} {i : Int} (v : Int32) (hd : decode c.code pc = .ok (.iconst i, 1)) (hv : Int32.ofInt i = v) (hp : pc + 1 = pc') (q : oGo p e below G T (mkF m pc' Ls (.int v :: st))) : oGo p e below G T (mkF m pc Ls (st)) := by
  subst hp; exact q.step fun t r => XT.iconstV X.here hx rfl v hd hv r
theorem o_bipush (X : Stand p l e R s m args below meth c T locs cells slots) (hx : p.tables.exec = Jvm.exec) {pc pc' : Nat} {Ls : Array Slot} {st : List Value} {i : Int} (v : Int32) (hd : decode c.code pc = .ok (.bipush i, 2)) (hv : (Int8.ofInt i).toInt32 = v) (hp : pc + 2 = pc') (q : oGo p e below G T (mkF m pc' Ls (.int v :: st))) : oGo p e below G T (mkF m pc Ls (st)) := by
  subst hp; exact q.step fun t r => XT.bipushV X.here hx rfl v hd hv r
theorem o_sipush (X : Stand p l e R s m args below meth c T locs cells slots) (hx : p.tables.exec = Jvm.exec) {pc pc' : Nat} {Ls : Array Slot} {st : List Value} {i : Int} (v : Int32) (hd : decode c.code pc = .ok (.sipush i, 3)) (hv : (Int16.ofInt i).toInt32 = v) (hp : pc + 3 = pc') (q : oGo p e below G T (mkF m pc' Ls (.int v :: st))) : oGo p e below G T (mkF m pc Ls (st)) := by
  subst hp; exact q.step fun t r => XT.sipushV X.here hx rfl v hd hv r
theorem o_lconst (X : Stand p l e R s m args below meth c T locs cells slots) (hx : p.tables.exec = Jvm.exec) {pc pc' : Nat} {Ls : Array Slot} {st : List Value} {k : Fin 2} (v : Int64) (hd : decode c.code pc = .ok (.lconst k, 1)) (hv : Int64.ofNat k = v) (hp : pc + 1 = pc') (q : oGo p e below G T (mkF m pc' Ls (.long v :: st))) : oGo p e below G T (mkF m pc Ls (st)) := by
  subst hp; exact q.step fun t r => XT.lconstV X.here hx rfl v hd hv r
theorem o_anull (X : Stand p l e R s m args below meth c T locs cells slots) (hx : p.tables.exec = Jvm.exec) {pc pc' : Nat} {Ls : Array Slot} {st : List Value} (hd : decode c.code pc = .ok (.aconst_null, 1)) (hp : pc + 1 = pc') (q : oGo p e below G T (mkF m pc' Ls (.null :: st))) : oGo p e below G T (mkF m pc Ls (st)) := by
  subst hp; exact q.step fun t r => XS.aconstNull X.here hx rfl hd r
theorem o_ldc (X : Stand p l e R s m args below meth c T locs cells slots) (hx : p.tables.exec = Jvm.exec) {pc pc' : Nat} {Ls : Array Slot} {st : List Value} {own : String} {index : Nat} {v : Int32} (hZ : Z.Warmed39 s.vm) (hown : s.vm.findClass own = some m.cls) (w : (Jvm.Cond.constant own index v).before a0 Z = true) (hd : decode c.code pc = .ok (.ldc index, 2)) (hp : pc + 2 = pc') (q : oGo p e below G T (mkF m pc' Ls (.int v :: st))) : oGo p e below G T (mkF m pc Ls (st)) := by
  subst hp; exact q.step fun t r => X.ldcI hx hown (mvT hZ w) rfl hd r
theorem o_ldcw (X : Stand p l e R s m args below meth c T locs cells slots) (hx : p.tables.exec = Jvm.exec) {pc pc' : Nat} {Ls : Array Slot} {st : List Value} {own : String} {index : Nat} {v : Int32} (hZ : Z.Warmed39 s.vm) (hown : s.vm.findClass own = some m.cls) (w : (Jvm.Cond.constant own index v).before a0 Z = true) (hd : decode c.code pc = .ok (.ldc_w index, 3)) (hp : pc + 3 = pc') (q : oGo p e below G T (mkF m pc' Ls (.int v :: st))) : oGo p e below G T (mkF m pc Ls (st)) := by
  subst hp; exact q.step fun t r => X.ldcWI hx hown (mvT hZ w) rfl hd r
theorem o_ldc2 (X : Stand p l e R s m args below meth c T locs cells slots) (hx : p.tables.exec = Jvm.exec) {pc pc' : Nat} {Ls : Array Slot} {st : List Value} {own : String} {index : Nat} {v : Int64} (hZ : Z.Warmed39 s.vm) (hown : s.vm.findClass own = some m.cls) (w : (Jvm.Cond.constantLong own index v).before a0 Z = true) (hd : decode c.code pc = .ok (.ldc2_w index, 3)) (hp : pc + 3 = pc') (q : oGo p e below G T (mkF m pc' Ls (.long v :: st))) : oGo p e below G T (mkF m pc Ls (st)) := by
  subst hp; exact q.step fun t r => X.ldc2J hx hown (mvT hZ w) rfl hd r
theorem o_iadd (X : Stand p l e R s m args below meth c T locs cells slots) (hx : p.tables.exec = Jvm.exec) {pc pc' : Nat} {Ls : Array Slot} {st : List Value} {x y : Int32} (hd : decode c.code pc = .ok (.iadd, 1)) (hp : pc + 1 = pc') (q : oGo p e below G T (mkF m pc' Ls (.int (x + y) :: st))) : oGo p e below G T (mkF m pc Ls (.int y :: .int x :: st)) := by
  subst hp; exact q.step fun t r => XS.iadd X.here hx rfl hd rfl r
theorem o_isub (X : Stand p l e R s m args below meth c T locs cells slots) (hx : p.tables.exec = Jvm.exec) {pc pc' : Nat} {Ls : Array Slot} {st : List Value} {x y : Int32} (hd : decode c.code pc = .ok (.isub, 1)) (hp : pc + 1 = pc') (q : oGo p e below G T (mkF m pc' Ls (.int (x - y) :: st))) : oGo p e below G T (mkF m pc Ls (.int y :: .int x :: st)) := by
  subst hp; exact q.step fun t r => XS.isub X.here hx rfl hd rfl r
theorem o_imul (X : Stand p l e R s m args below meth c T locs cells slots) (hx : p.tables.exec = Jvm.exec) {pc pc' : Nat} {Ls : Array Slot} {st : List Value} {x y : Int32} (hd : decode c.code pc = .ok (.imul, 1)) (hp : pc + 1 = pc') (q : oGo p e below G T (mkF m pc' Ls (.int (x * y) :: st))) : oGo p e below G T (mkF m pc Ls (.int y :: .int x :: st)) := by
  subst hp; exact q.step fun t r => XS.imul X.here hx rfl hd rfl r
theorem o_iand (X : Stand p l e R s m args below meth c T locs cells slots) (hx : p.tables.exec = Jvm.exec) {pc pc' : Nat} {Ls : Array Slot} {st : List Value} {x y : Int32} (hd : decode c.code pc = .ok (.iand, 1)) (hp : pc + 1 = pc') (q : oGo p e below G T (mkF m pc' Ls (.int (x &&& y) :: st))) : oGo p e below G T (mkF m pc Ls (.int y :: .int x :: st)) := by
  subst hp; exact q.step fun t r => XS.iand X.here hx rfl hd rfl r
theorem o_ior (X : Stand p l e R s m args below meth c T locs cells slots) (hx : p.tables.exec = Jvm.exec) {pc pc' : Nat} {Ls : Array Slot} {st : List Value} {x y : Int32} (hd : decode c.code pc = .ok (.ior, 1)) (hp : pc + 1 = pc') (q : oGo p e below G T (mkF m pc' Ls (.int (x ||| y) :: st))) : oGo p e below G T (mkF m pc Ls (.int y :: .int x :: st)) := by
  subst hp; exact q.step fun t r => XT.ior X.here hx rfl hd rfl r
theorem o_ixor (X : Stand p l e R s m args below meth c T locs cells slots) (hx : p.tables.exec = Jvm.exec) {pc pc' : Nat} {Ls : Array Slot} {st : List Value} {x y : Int32} (hd : decode c.code pc = .ok (.ixor, 1)) (hp : pc + 1 = pc') (q : oGo p e below G T (mkF m pc' Ls (.int (x ^^^ y) :: st))) : oGo p e below G T (mkF m pc Ls (.int y :: .int x :: st)) := by
  subst hp; exact q.step fun t r => XT.ixor X.here hx rfl hd rfl r
theorem o_ishl (X : Stand p l e R s m args below meth c T locs cells slots) (hx : p.tables.exec = Jvm.exec) {pc pc' : Nat} {Ls : Array Slot} {st : List Value} {x y : Int32} (hd : decode c.code pc = .ok (.ishl, 1)) (hp : pc + 1 = pc') (q : oGo p e below G T (mkF m pc' Ls (.int (x <<< (y &&& 31)) :: st))) : oGo p e below G T (mkF m pc Ls (.int y :: .int x :: st)) := by
  subst hp; exact q.step fun t r => XT.ishl X.here hx rfl hd rfl r
theorem o_ishr (X : Stand p l e R s m args below meth c T locs cells slots) (hx : p.tables.exec = Jvm.exec) {pc pc' : Nat} {Ls : Array Slot} {st : List Value} {x y : Int32} (hd : decode c.code pc = .ok (.ishr, 1)) (hp : pc + 1 = pc') (q : oGo p e below G T (mkF m pc' Ls (.int (x >>> (y &&& 31)) :: st))) : oGo p e below G T (mkF m pc Ls (.int y :: .int x :: st)) := by
  subst hp; exact q.step fun t r => XT.ishr X.here hx rfl hd rfl r
theorem o_iushr (X : Stand p l e R s m args below meth c T locs cells slots) (hx : p.tables.exec = Jvm.exec) {pc pc' : Nat} {Ls : Array Slot} {st : List Value} {x y : Int32} (hd : decode c.code pc = .ok (.iushr, 1)) (hp : pc + 1 = pc') (q : oGo p e below G T (mkF m pc' Ls (.int (XT.ushr x y) :: st))) : oGo p e below G T (mkF m pc Ls (.int y :: .int x :: st)) := by
  subst hp; exact q.step fun t r => XT.iushr X.here hx rfl hd rfl r
theorem o_ladd (X : Stand p l e R s m args below meth c T locs cells slots) (hx : p.tables.exec = Jvm.exec) {pc pc' : Nat} {Ls : Array Slot} {st : List Value} {x y : Int64} (hd : decode c.code pc = .ok (.ladd, 1)) (hp : pc + 1 = pc') (q : oGo p e below G T (mkF m pc' Ls (.long (x + y) :: st))) : oGo p e below G T (mkF m pc Ls (.long y :: .long x :: st)) := by
  subst hp; exact q.step fun t r => XT.ladd X.here hx rfl hd rfl r
theorem o_lsub (X : Stand p l e R s m args below meth c T locs cells slots) (hx : p.tables.exec = Jvm.exec) {pc pc' : Nat} {Ls : Array Slot} {st : List Value} {x y : Int64} (hd : decode c.code pc = .ok (.lsub, 1)) (hp : pc + 1 = pc') (q : oGo p e below G T (mkF m pc' Ls (.long (x - y) :: st))) : oGo p e below G T (mkF m pc Ls (.long y :: .long x :: st)) := by
  subst hp; exact q.step fun t r => XT.lsub X.here hx rfl hd rfl r
theorem o_lmul (X : Stand p l e R s m args below meth c T locs cells slots) (hx : p.tables.exec = Jvm.exec) {pc pc' : Nat} {Ls : Array Slot} {st : List Value} {x y : Int64} (hd : decode c.code pc = .ok (.lmul, 1)) (hp : pc + 1 = pc') (q : oGo p e below G T (mkF m pc' Ls (.long (x * y) :: st))) : oGo p e below G T (mkF m pc Ls (.long y :: .long x :: st)) := by
  subst hp; exact q.step fun t r => XT.lmul X.here hx rfl hd rfl r
theorem o_land (X : Stand p l e R s m args below meth c T locs cells slots) (hx : p.tables.exec = Jvm.exec) {pc pc' : Nat} {Ls : Array Slot} {st : List Value} {x y : Int64} (hd : decode c.code pc = .ok (.land, 1)) (hp : pc + 1 = pc') (q : oGo p e below G T (mkF m pc' Ls (.long (x &&& y) :: st))) : oGo p e below G T (mkF m pc Ls (.long y :: .long x :: st)) := by
  subst hp; exact q.step fun t r => XT.land X.here hx rfl hd rfl r
theorem o_lor (X : Stand p l e R s m args below meth c T locs cells slots) (hx : p.tables.exec = Jvm.exec) {pc pc' : Nat} {Ls : Array Slot} {st : List Value} {x y : Int64} (hd : decode c.code pc = .ok (.lor, 1)) (hp : pc + 1 = pc') (q : oGo p e below G T (mkF m pc' Ls (.long (x ||| y) :: st))) : oGo p e below G T (mkF m pc Ls (.long y :: .long x :: st)) := by
  subst hp; exact q.step fun t r => XT.lor X.here hx rfl hd rfl r
theorem o_lxor (X : Stand p l e R s m args below meth c T locs cells slots) (hx : p.tables.exec = Jvm.exec) {pc pc' : Nat} {Ls : Array Slot} {st : List Value} {x y : Int64} (hd : decode c.code pc = .ok (.lxor, 1)) (hp : pc + 1 = pc') (q : oGo p e below G T (mkF m pc' Ls (.long (x ^^^ y) :: st))) : oGo p e below G T (mkF m pc Ls (.long y :: .long x :: st)) := by
  subst hp; exact q.step fun t r => XT.lxor X.here hx rfl hd rfl r
theorem o_lshl (X : Stand p l e R s m args below meth c T locs cells slots) (hx : p.tables.exec = Jvm.exec) {pc pc' : Nat} {Ls : Array Slot} {st : List Value} {x : Int64} {y : Int32} (hd : decode c.code pc = .ok (.lshl, 1)) (hp : pc + 1 = pc') (q : oGo p e below G T (mkF m pc' Ls (.long (x <<< (y.toInt64 &&& 63)) :: st))) : oGo p e below G T (mkF m pc Ls (.int y :: .long x :: st)) := by
  subst hp; exact q.step fun t r => XT.lshl X.here hx rfl hd rfl r
theorem o_lshr (X : Stand p l e R s m args below meth c T locs cells slots) (hx : p.tables.exec = Jvm.exec) {pc pc' : Nat} {Ls : Array Slot} {st : List Value} {x : Int64} {y : Int32} (hd : decode c.code pc = .ok (.lshr, 1)) (hp : pc + 1 = pc') (q : oGo p e below G T (mkF m pc' Ls (.long (x >>> (y.toInt64 &&& 63)) :: st))) : oGo p e below G T (mkF m pc Ls (.int y :: .long x :: st)) := by
  subst hp; exact q.step fun t r => XT.lshr X.here hx rfl hd rfl r
theorem o_lushr (X : Stand p l e R s m args below meth c T locs cells slots) (hx : p.tables.exec = Jvm.exec) {pc pc' : Nat} {Ls : Array Slot} {st : List Value} {x : Int64} {y : Int32} (hd : decode c.code pc = .ok (.lushr, 1)) (hp : pc + 1 = pc') (q : oGo p e below G T (mkF m pc' Ls (.long (XT.ushrL x y) :: st))) : oGo p e below G T (mkF m pc Ls (.int y :: .long x :: st)) := by
  subst hp; exact q.step fun t r => XT.lushr X.here hx rfl hd rfl r
theorem o_lcmp (X : Stand p l e R s m args below meth c T locs cells slots) (hx : p.tables.exec = Jvm.exec) {pc pc' : Nat} {Ls : Array Slot} {st : List Value} {x y : Int64} (hd : decode c.code pc = .ok (.lcmp, 1)) (hp : pc + 1 = pc') (q : oGo p e below G T (mkF m pc' Ls (.int (XT.cmpL x y) :: st))) : oGo p e below G T (mkF m pc Ls (.long y :: .long x :: st)) := by
  subst hp; exact q.step fun t r => XT.lcmp X.here hx rfl hd rfl r
theorem o_irem (X : Stand p l e R s m args below meth c T locs cells slots) (hx : p.tables.exec = Jvm.exec) {pc pc' : Nat} {Ls : Array Slot} {st : List Value} {x y : Int32} (hd : decode c.code pc = .ok (.irem, 1)) (hy : y ≠ 0) (hp : pc + 1 = pc') (q : oGo p e below G T (mkF m pc' Ls (.int (x % y) :: st))) : oGo p e below G T (mkF m pc Ls (.int y :: .int x :: st)) := by
  subst hp; exact q.step fun t r => iremM X hx rfl hd rfl hy r
theorem o_lrem (X : Stand p l e R s m args below meth c T locs cells slots) (hx : p.tables.exec = Jvm.exec) {pc pc' : Nat} {Ls : Array Slot} {st : List Value} {x y : Int64} (hd : decode c.code pc = .ok (.lrem, 1)) (hy : y ≠ 0) (hp : pc + 1 = pc') (q : oGo p e below G T (mkF m pc' Ls (.long (x % y) :: st))) : oGo p e below G T (mkF m pc Ls (.long y :: .long x :: st)) := by
  subst hp; exact q.step fun t r => XT.lrem X.here hx rfl hd rfl hy (by rw [lrem_mod]; exact r)
theorem o_i2l (X : Stand p l e R s m args below meth c T locs cells slots) (hx : p.tables.exec = Jvm.exec) {pc pc' : Nat} {Ls : Array Slot} {st : List Value} {x : Int32} (hd : decode c.code pc = .ok (.i2l, 1)) (hp : pc + 1 = pc') (q : oGo p e below G T (mkF m pc' Ls (.long (x.toInt64) :: st))) : oGo p e below G T (mkF m pc Ls (.int x :: st)) := by
  subst hp; exact q.step fun t r => XT.i2l X.here hx rfl hd rfl r
theorem o_l2i (X : Stand p l e R s m args below meth c T locs cells slots) (hx : p.tables.exec = Jvm.exec) {pc pc' : Nat} {Ls : Array Slot} {st : List Value} {x : Int64} (hd : decode c.code pc = .ok (.l2i, 1)) (hp : pc + 1 = pc') (q : oGo p e below G T (mkF m pc' Ls (.int (x.toInt32) :: st))) : oGo p e below G T (mkF m pc Ls (.long x :: st)) := by
  subst hp; exact q.step fun t r => XT.l2i X.here hx rfl hd rfl r
theorem o_i2c (X : Stand p l e R s m args below meth c T locs cells slots) (hx : p.tables.exec = Jvm.exec) {pc pc' : Nat} {Ls : Array Slot} {st : List Value} {x : Int32} (hd : decode c.code pc = .ok (.i2c, 1)) (hp : pc + 1 = pc') (q : oGo p e below G T (mkF m pc' Ls (.int (x.toUInt32.toUInt16.toUInt32.toInt32) :: st))) : oGo p e below G T (mkF m pc Ls (.int x :: st)) := by
  subst hp; exact q.step fun t r => XT.i2c X.here hx rfl hd rfl r
theorem o_i2b (X : Stand p l e R s m args below meth c T locs cells slots) (hx : p.tables.exec = Jvm.exec) {pc pc' : Nat} {Ls : Array Slot} {st : List Value} {x : Int32} (hd : decode c.code pc = .ok (.i2b, 1)) (hp : pc + 1 = pc') (q : oGo p e below G T (mkF m pc' Ls (.int (x.toInt8.toInt32) :: st))) : oGo p e below G T (mkF m pc Ls (.int x :: st)) := by
  subst hp; exact q.step fun t r => XT.i2b X.here hx rfl hd rfl r
theorem o_iinc (X : Stand p l e R s m args below meth c T locs cells slots) (hx : p.tables.exec = Jvm.exec) {pc pc' : Nat} {Ls : Array Slot} {st : List Value} {k : Nat} {cst : Int} {x : Int32} {l' : Array Slot} (v : Int32) (hd : decode c.code pc = .ok (.iinc k cst, 3)) (hv : Int32.ofInt cst = v) (hl : Ls[k]? = some (.val (.int x))) (hl' : storeLocals Ls k (.int (x + v)) = some l') (hp : pc + 3 = pc') (q : oGo p e below G T (mkF m pc' l' (st))) : oGo p e below G T (mkF m pc Ls (st)) := by
  subst hp; exact q.step fun t r => XT.iincV X.here hx rfl v hd hv hl hl' r
theorem o_dup (X : Stand p l e R s m args below meth c T locs cells slots) (hx : p.tables.exec = Jvm.exec) {pc pc' : Nat} {Ls : Array Slot} {st : List Value} {v : Value} (hd : decode c.code pc = .ok (.dup, 1)) (hc : v.category = 1) (hp : pc + 1 = pc') (q : oGo p e below G T (mkF m pc' Ls (v :: v :: st))) : oGo p e below G T (mkF m pc Ls (v :: st)) := by
  subst hp; exact q.step fun t r => XS.dup X.here hx rfl hd rfl hc r
theorem o_pop (X : Stand p l e R s m args below meth c T locs cells slots) (hx : p.tables.exec = Jvm.exec) {pc pc' : Nat} {Ls : Array Slot} {st : List Value} {v : Value} (hd : decode c.code pc = .ok (.pop, 1)) (hc : v.category = 1) (hp : pc + 1 = pc') (q : oGo p e below G T (mkF m pc' Ls (st))) : oGo p e below G T (mkF m pc Ls (v :: st)) := by
  subst hp; exact q.step fun t r => XT.pop X.here hx rfl hd rfl hc r
theorem o_goto (X : Stand p l e R s m args below meth c T locs cells slots) (hx : p.tables.exec = Jvm.exec) {pc pc' : Nat} {Ls : Array Slot} {st : List Value} {o : Int} (hd : decode c.code pc = .ok (.goto o, 3)) (ho : 0 ≤ (pc : Int) + o) (hp : ((pc : Int) + o).toNat = pc') (q : oGo p e below G T (mkF m pc' Ls (st))) : oGo p e below G T (mkF m pc Ls (st)) :=
  q.step fun t r => XS.goto X.here hx rfl rfl hd ho hp r
theorem o_icmpT (X : Stand p l e R s m args below meth c T locs cells slots) (hx : p.tables.exec = Jvm.exec) {pc pc' : Nat} {Ls : Array Slot} {st : List Value} {o : Int} {cd : ClassFile.Cond} {x y : Int32} (hd : decode c.code pc = .ok (.if_icmp cd o, 3)) (hc : if_icmp.holds cd x y = true) (ho : 0 ≤ (pc : Int) + o) (hp : ((pc : Int) + o).toNat = pc') (q : oGo p e below G T (mkF m pc' Ls (st))) : oGo p e below G T (mkF m pc Ls (.int y :: .int x :: st)) :=
  q.step fun t r => XS.icmpYes X.here hx rfl rfl hd rfl hc ho hp r
theorem o_icmpF (X : Stand p l e R s m args below meth c T locs cells slots) (hx : p.tables.exec = Jvm.exec) {pc pc' : Nat} {Ls : Array Slot} {st : List Value} {o : Int} {cd : ClassFile.Cond} {x y : Int32} (hd : decode c.code pc = .ok (.if_icmp cd o, 3)) (hc : if_icmp.holds cd x y = false) (hp : pc + 3 = pc') (q : oGo p e below G T (mkF m pc' Ls (st))) : oGo p e below G T (mkF m pc Ls (.int y :: .int x :: st)) := by
  subst hp; exact q.step fun t r => XS.icmpNo X.here hx rfl hd rfl hc r
theorem o_ifT (X : Stand p l e R s m args below meth c T locs cells slots) (hx : p.tables.exec = Jvm.exec) {pc pc' : Nat} {Ls : Array Slot} {st : List Value} {o : Int} {cd : ClassFile.Cond} {x : Int32} (hd : decode c.code pc = .ok (.ifCond cd o, 3)) (hc : ifCond.holds cd x = true) (ho : 0 ≤ (pc : Int) + o) (hp : ((pc : Int) + o).toNat = pc') (q : oGo p e below G T (mkF m pc' Ls (st))) : oGo p e below G T (mkF m pc Ls (.int x :: st)) :=
  q.step fun t r => XS.ifYes X.here hx rfl rfl hd rfl hc ho hp r
theorem o_ifF (X : Stand p l e R s m args below meth c T locs cells slots) (hx : p.tables.exec = Jvm.exec) {pc pc' : Nat} {Ls : Array Slot} {st : List Value} {o : Int} {cd : ClassFile.Cond} {x : Int32} (hd : decode c.code pc = .ok (.ifCond cd o, 3)) (hc : ifCond.holds cd x = false) (hp : pc + 3 = pc') (q : oGo p e below G T (mkF m pc' Ls (st))) : oGo p e below G T (mkF m pc Ls (.int x :: st)) := by
  subst hp; exact q.step fun t r => XS.ifNo X.here hx rfl hd rfl hc r
theorem o_acmpT (X : Stand p l e R s m args below meth c T locs cells slots) (hx : p.tables.exec = Jvm.exec) {pc pc' : Nat} {Ls : Array Slot} {st : List Value} {o : Int} {cd : ClassFile.ACond} {x y : Value} (hd : decode c.code pc = .ok (.if_acmp cd o, 3)) (h1 : x.isRef = true) (h2 : y.isRef = true) (hc : XT.acmp cd x y = true) (ho : 0 ≤ (pc : Int) + o) (hp : ((pc : Int) + o).toNat = pc') (q : oGo p e below G T (mkF m pc' Ls (st))) : oGo p e below G T (mkF m pc Ls (y :: x :: st)) :=
  q.step fun t r => XT.acmpYes X.here hx rfl rfl hd rfl h1 h2 hc ho hp r
theorem o_acmpF (X : Stand p l e R s m args below meth c T locs cells slots) (hx : p.tables.exec = Jvm.exec) {pc pc' : Nat} {Ls : Array Slot} {st : List Value} {o : Int} {cd : ClassFile.ACond} {x y : Value} (hd : decode c.code pc = .ok (.if_acmp cd o, 3)) (h1 : x.isRef = true) (h2 : y.isRef = true) (hc : XT.acmp cd x y = false) (hp : pc + 3 = pc') (q : oGo p e below G T (mkF m pc' Ls (st))) : oGo p e below G T (mkF m pc Ls (y :: x :: st)) := by
  subst hp; exact q.step fun t r => XT.acmpNo X.here hx rfl hd rfl h1 h2 hc r
theorem o_retI (X : Stand p l e R s m args below meth c T locs cells slots) (hx : p.tables.exec = Jvm.exec) (hret : meth.sig.returnType = some .int) (hlk : meth.locks = false) {pc : Nat} {Ls : Array Slot} {st : List Value} {z : Int32} (hd : decode c.code pc = .ok (.ireturn, 1)) {Q : Option Value → Heap → List Loc → Prop} {C N : Nat} (hc : cells ≤ C) (hn : slots ≤ N) (hQ : Q (some (.int z)) T.heap locs) : oGo p e below (oG s Q C N) T (mkF m pc Ls (.int z :: st)) := by
  obtain ⟨fs, hr, hrun, hended, hW, hsame⟩ := X.leave (v := some (.int z)) (fun h => by rw [hret] at h; cases h) hlk
  exact ⟨_, _, retOut X hx hret rfl (Or.inl ⟨rfl, Or.inl rfl, _, rfl⟩) hd hr, hrun, hended, _, _, rfl, hQ, ⟨_, rfl⟩, hW, hsame.mono hc hn⟩
theorem o_retJ (X : Stand p l e R s m args below meth c T locs cells slots) (hx : p.tables.exec = Jvm.exec) (hret : meth.sig.returnType = some .long) (hlk : meth.locks = false) {pc : Nat} {Ls : Array Slot} {st : List Value} {z : Int64} (hd : decode c.code pc = .ok (.lreturn, 1)) {Q : Option Value → Heap → List Loc → Prop} {C N : Nat} (hc : cells ≤ C) (hn : slots ≤ N) (hQ : Q (some (.long z)) T.heap locs) : oGo p e below (oG s Q C N) T (mkF m pc Ls (.long z :: st)) := by
  obtain ⟨fs, hr, hrun, hended, hW, hsame⟩ := X.leave (v := some (.long z)) (fun h => by rw [hret] at h; cases h) hlk
  exact ⟨_, _, retOut X hx hret rfl (Or.inr (Or.inl ⟨rfl, rfl, _, rfl⟩)) hd hr, hrun, hended, _, _, rfl, hQ, ⟨_, rfl⟩, hW, hsame.mono hc hn⟩
theorem o_retD (X : Stand p l e R s m args below meth c T locs cells slots) (hx : p.tables.exec = Jvm.exec) (hret : meth.sig.returnType = some .double) (hlk : meth.locks = false) {pc : Nat} {Ls : Array Slot} {st : List Value} {z : UInt64} (hd : decode c.code pc = .ok (.dreturn, 1)) {Q : Option Value → Heap → List Loc → Prop} {C N : Nat} (hc : cells ≤ C) (hn : slots ≤ N) (hQ : Q (some (.double z)) T.heap locs) : oGo p e below (oG s Q C N) T (mkF m pc Ls (.double z :: st)) := by
  obtain ⟨fs, hr, hrun, hended, hW, hsame⟩ := X.leave (v := some (.double z)) (fun h => by rw [hret] at h; cases h) hlk
  exact ⟨_, _, retOut X hx hret rfl (Or.inr (Or.inr (Or.inl ⟨rfl, rfl, _, rfl⟩))) hd hr, hrun, hended, _, _, rfl, hQ, ⟨_, rfl⟩, hW, hsame.mono hc hn⟩
theorem o_retZ (X : Stand p l e R s m args below meth c T locs cells slots) (hx : p.tables.exec = Jvm.exec) (hret : meth.sig.returnType = some .boolean) (hlk : meth.locks = false) {pc : Nat} {Ls : Array Slot} {st : List Value} {z : Int32} (hd : decode c.code pc = .ok (.ireturn, 1)) (hz : z &&& 1 = z) {Q : Option Value → Heap → List Loc → Prop} {C N : Nat} (hc : cells ≤ C) (hn : slots ≤ N) (hQ : Q (some (.int z)) T.heap locs) : oGo p e below (oG s Q C N) T (mkF m pc Ls (.int z :: st)) := by
  obtain ⟨fs, hr, hrun, hended, hW, hsame⟩ := X.leave (v := some (.int z)) (fun h => by rw [hret] at h; cases h) hlk
  have hz' : nar .boolean z = z := hz
  exact ⟨_, _, retN X hx (t := .boolean) hret (Or.inl rfl) hd (by rw [hz']; exact hr), hrun, hended, _, _, rfl, hQ, ⟨_, rfl⟩, hW, hsame.mono hc hn⟩
theorem o_retA (X : Stand p l e R s m args below meth c T locs cells slots) (hx : p.tables.exec = Jvm.exec) {C1 : FieldType} (hret : meth.sig.returnType = some C1) (ht : C1.isReference = true) (hlk : meth.locks = false) {pc : Nat} {Ls : Array Slot} {st : List Value} {z : Value} (hz : z.isRef = true) (hna : narrow C1 z = z) (hd : decode c.code pc = .ok (.areturn, 1)) {Q : Option Value → Heap → List Loc → Prop} {C N : Nat} (hc : cells ≤ C) (hn : slots ≤ N) (hQ : Q (some z) T.heap locs) : oGo p e below (oG s Q C N) T (mkF m pc Ls (z :: st)) := by
  obtain ⟨fs, hr, hrun, hended, hW, hsame⟩ := X.leave (v := some z) (fun h => by rw [hret] at h; cases h) hlk
  exact ⟨_, _, retOut X hx hret hna (Or.inr (Or.inr (Or.inr (Or.inr ⟨rfl, ht, hz⟩)))) hd hr, hrun, hended, _, _, rfl, hQ, ⟨_, rfl⟩, hW, hsame.mono hc hn⟩
theorem o_retV (X : Stand p l e R s m args below meth c T locs cells slots) (hx : p.tables.exec = Jvm.exec) (hret : meth.sig.returnType = none) (hlk : meth.locks = false) {pc : Nat} {Ls : Array Slot} (hd : decode c.code pc = .ok (.return_, 1)) {Q : Option Value → Heap → List Loc → Prop} {C N : Nat} (hc : cells ≤ C) (hn : slots ≤ N) (hQ : Q none T.heap locs) : oGo p e below (oG s Q C N) T (mkF m pc Ls []) := by
  obtain ⟨fs, hr, hrun, hended, hW, hsame⟩ := X.leave (v := none) (fun _ => rfl) hlk
  exact ⟨_, _, X.returnOut hx hret hd hr, hrun, hended, _, _, rfl, hQ, ⟨_, rfl⟩, hW, hsame.mono hc hn⟩
theorem o_callS (X : Stand p l e R s m args below meth c T locs cells slots) (hx : p.tables.exec = Jvm.exec) (hZ : Z.Warmed39 s.vm) {own : String} {index : Nat} {y : MethodName} {bytes : ByteArray} {maxL : Nat} {ret : Option FieldType} (hown : s.vm.findClass own = some m.cls) (w1 : (Jvm.Cond.methodLink own index y).before a0 Z = true) (w2 : (Jvm.Cond.static y).before a0 Z = true) (w3 : (Jvm.Cond.initialized y.cls).before a0 Z = true) (w4 : (Jvm.Cond.code y bytes maxL ret).before a0 Z = true) (hy : y.cls ≠ "java/lang/invoke/MethodHandle" ∧ y.cls ≠ "java/lang/invoke/VarHandle") {rm : Room} {as' : Array Value} {Q : Option Value → Heap → List Loc → Prop} (hM : oCon l Z y bytes maxL ret rm as' h Q) (eT : T.heap = h) {pc pc' : Nat} {Ls : Array Slot} {st : List Value} (hsz : Ls.size = c.maxLocals) (argsL rest : List Value) (has : argsL.toArray = as') {ps : List FieldType} {rr : Option FieldType} (hpd : parseMethodDescriptor y.desc = some ⟨ps, rr⟩) (hlen : argsL.length = ps.length) (hst : st = argsL.reverse ++ rest) (W : Nat) (hW : (rest.map fun v => v.category).sum ≤ W) (hd : decode c.code pc = .ok (.invokestatic index, 3)) (hp : pc + 3 = pc') (hf : rm.frames + 1 ≤ R.frames) (hl : W + (maxL + 11) + rm.locals ≤ R.locals) (hc : cells + rm.cells ≤ R.cells) (hn : slots + rm.slots ≤ R.slots) :
    ∃ v T' L, Stand p l e R s m args below meth c T' (locs ++ L) (cells + rm.cells) (slots + rm.slots) ∧ Q v T'.heap L ∧ ∀ t, Steps p.tables e below (T'.setTop (mkF m pc' Ls (v.toList ++ rest))) t → Steps p.tables e below (T.setTop (mkF m pc Ls st)) t := by
  subst hp has
  obtain ⟨v, vm₁, ⟨T', L', k', n'⟩, -, X', ⟨Lc, hQ, l1, y1, z1⟩, st'⟩ := Jvm.LawKit.callS X hx hown (mvT hZ w1) (mvT hZ w2) (mvT hZ w3) (mvT hZ w4) hy (backOf (W := W) (hM []) hZ w4 w3 hf hl) (g := mkF m pc Ls st) rfl hsz (argsL := argsL) (rest := rest) (lenOf hpd hlen) hst (by show 2 * 0 + _ ≤ _; omega) hd (fun _ _ => ⟨rfl, eT, hc, hn⟩)
  dsimp only [Pt.U, Pt.locs, Pt.cells, Pt.slots] at X' l1 y1 z1 st' hQ
  subst l1 y1 z1
  exact ⟨v, T', Lc, X', hQ, st'⟩
theorem o_callN (X : Stand p l e R s m args below meth c T locs cells slots) (hx : p.tables.exec = Jvm.exec) (hZ : Z.Warmed39 s.vm) {own : String} {index : Nat} {y : MethodName} {bytes : ByteArray} {maxL : Nat} (hown : s.vm.findClass own = some m.cls) (hi : y.name = "<init>") (w1 : (Jvm.Cond.methodLink own index y).before a0 Z = true) (w2 : (Jvm.Cond.instanceMethod y).before a0 Z = true) (w3 : (Jvm.Cond.initialized y.cls).before a0 Z = true) (w4 : (Jvm.Cond.code y bytes maxL none).before a0 Z = true) (hy : y.cls ≠ "java/lang/invoke/MethodHandle" ∧ y.cls ≠ "java/lang/invoke/VarHandle") {rm : Room} {as' : Array Value} {Q : Option Value → Heap → List Loc → Prop} (hM : oCon l Z y bytes maxL none rm as' h Q) (eT : T.heap = h) {pc pc' : Nat} {Ls : Array Slot} {st : List Value} (hsz : Ls.size = c.maxLocals) {a : Addr} (argsL rest : List Value) (has : (Value.ref a :: argsL).toArray = as') {ps : List FieldType} {rr : Option FieldType} (hpd : parseMethodDescriptor y.desc = some ⟨ps, rr⟩) (hlen : argsL.length = ps.length) (hst : st = argsL.reverse ++ .ref a :: rest) (W : Nat) (hW : (rest.map fun v => v.category).sum ≤ W) (hd : decode c.code pc = .ok (.invokespecial index, 3)) (hp : pc + 3 = pc') (hf : rm.frames + 1 ≤ R.frames) (hl : W + (maxL + 11) + rm.locals ≤ R.locals) (hc : cells + rm.cells ≤ R.cells) (hn : slots + rm.slots ≤ R.slots) :
    ∃ v T' L, Stand p l e R s m args below meth c T' (locs ++ L) (cells + rm.cells) (slots + rm.slots) ∧ Q v T'.heap L ∧ ∀ t, Steps p.tables e below (T'.setTop (mkF m pc' Ls (v.toList ++ rest))) t → Steps p.tables e below (T.setTop (mkF m pc Ls st)) t := by
  subst hp has
  obtain ⟨v, vm₁, ⟨T', L', k', n'⟩, -, X', ⟨Lc, hQ, l1, y1, z1⟩, st'⟩ := X.specialBack hx hi hown (mvT hZ w1) (mvT hZ w2) (mvT hZ w4) hy (backOf (W := W) (hM []) hZ w4 w3 hf hl) (g := mkF m pc Ls st) rfl hsz (Steps.refl _) (a := a) (argsL := argsL) (rest := rest) (lenOf hpd hlen) hst (by show 2 * 0 + _ ≤ _; omega) hd (fun _ _ => ⟨rfl, eT, hc, hn⟩)
  dsimp only [Pt.U, Pt.locs, Pt.cells, Pt.slots] at X' l1 y1 z1 st' hQ
  subst l1 y1 z1
  exact ⟨v, T', Lc, X', hQ, fun t r => st'.trans r⟩
theorem o_callV (X : Stand p l e R s m args below meth c T locs cells slots) (hx : p.tables.exec = Jvm.exec) (hZ : Z.Warmed39 s.vm) {own : String} {index : Nat} {y : MethodName} {bytes : ByteArray} {maxL : Nat} {ret : Option FieldType} (hown : s.vm.findClass own = some m.cls) {C : String} (w1 : (Jvm.Cond.methodLink own index y).before a0 Z = true) (w2 : (Jvm.Cond.declares y).before a0 Z = true) (w5 : (Jvm.Cond.selects C y y).before a0 Z = true) (w6 : (Jvm.Cond.instanceMethod y).before a0 Z = true) (w3 : (Jvm.Cond.initialized y.cls).before a0 Z = true) (w4 : (Jvm.Cond.code y bytes maxL ret).before a0 Z = true) (hy : y.cls ≠ "java/lang/invoke/MethodHandle" ∧ y.cls ≠ "java/lang/invoke/VarHandle") {aa : Addr} (E : Exa Z h aa C) {rm : Room} {as' : Array Value} {Q : Option Value → Heap → List Loc → Prop} (hM : oCon l Z y bytes maxL ret rm as' h Q) (eT : T.heap = h) {pc pc' : Nat} {Ls : Array Slot} {st : List Value} (hsz : Ls.size = c.maxLocals) (argsL rest : List Value) (has : (Value.ref aa :: argsL).toArray = as') {ps : List FieldType} {rr : Option FieldType} (hpd : parseMethodDescriptor y.desc = some ⟨ps, rr⟩) (hlen : argsL.length = ps.length) (hst : st = argsL.reverse ++ .ref aa :: rest) (W : Nat) (hW : (rest.map fun v => v.category).sum ≤ W) (hd : decode c.code pc = .ok (.invokevirtual index, 3)) (hp : pc + 3 = pc') (hf : rm.frames + 1 ≤ R.frames) (hl : W + (maxL + 11) + rm.locals ≤ R.locals) (hc : cells + rm.cells ≤ R.cells) (hn : slots + rm.slots ≤ R.slots) :
    ∃ v T' L, Stand p l e R s m args below meth c T' (locs ++ L) (cells + rm.cells) (slots + rm.slots) ∧ Q v T'.heap L ∧ ∀ t, Steps p.tables e below (T'.setTop (mkF m pc' Ls (v.toList ++ rest))) t → Steps p.tables e below (T.setTop (mkF m pc Ls st)) t := by
  subst hp has
  obtain ⟨v, vm₁, ⟨T', L', k', n'⟩, -, X', ⟨Lc, hQ, l1, y1, z1⟩, st'⟩ := X.virtualBack hx hown (mvT hZ w1) (mvT hZ w2) (notFace_of_selects (args := #[]) (mvT hZ w5)) (mvT hZ w5) (mvT hZ w6) hy (backOf (W := W) (hM []) hZ w4 w3 hf hl) (isOf hZ eT E).choose_spec.choose_spec.1 (isOf hZ eT E).choose_spec.choose_spec.2.2 (g := mkF m pc Ls st) rfl hsz (Steps.refl _) (argsL := argsL) (rest := rest) (lenOf hpd hlen) hst (by show 2 * 0 + _ ≤ _; omega) hd (fun _ _ => ⟨rfl, eT, hc, hn⟩)
  dsimp only [Pt.U, Pt.locs, Pt.cells, Pt.slots] at X' l1 y1 z1 st' hQ
  subst l1 y1 z1
  exact ⟨v, T', Lc, X', hQ, fun t r => st'.trans r⟩
theorem o_bz (b : Prop) [Decidable b] : (if b then (1 : Int32) else 0) &&& 1 = if b then 1 else 0 := by by_cases q : b <;> simp [q]
theorem o_same {k n : Nat} (X : Stand p l e R s m args below meth c T (locs ++ []) (cells + k) (slots + n)) (hk : k = 0) (hn : n = 0) : Stand p l e R s m args below meth c T locs cells slots := by subst hk hn; simpa using X
theorem o_flat {k n : Nat} (X : Stand p l e R s m args below meth c T locs (cells + k) (slots + n)) (hk : k = 0) (hn : n = 0) : Stand p l e R s m args below meth c T locs cells slots := by subst hk hn; exact X
theorem o_fldI {a : Addr} {C n d : String} {x y : Int32} (q : y = x) (F : Fld Z h a C n d (.int x)) : Fld Z h a C n d (.int y) := q ▸ F
theorem o_fldJ {a : Addr} {C n d : String} {x y : Int64} (q : y = x) (F : Fld Z h a C n d (.long x)) : Fld Z h a C n d (.long y) := q ▸ F
theorem o_nb {z : Int32} (q : z = 0 ∨ z = 1) : narrow .boolean (.int z) = .int z := by rcases q with rfl | rfl <;> rfl
theorem o_fb {z : Int32} (q : z = 0 ∨ z = 1) : fits .boolean (.int z) = true := by rcases q with rfl | rfl <;> rfl
theorem o_zb {z : Int32} (q : z = 0 ∨ z = 1) : z &&& 1 = z := by rcases q with rfl | rfl <;> rfl
theorem o_or1 {z : Int32} (q : z = 0 ∨ z = 1) : (z ||| 1) = 0 ∨ (z ||| 1) = 1 := by rcases q with rfl | rfl <;> simp
theorem o_or0 {z : Int32} (q : z = 0 ∨ z = 1) : (z ||| 0) = 0 ∨ (z ||| 0) = 1 := by rcases q with rfl | rfl <;> simp
def oInts (Z : State) (h : Heap) (a : Addr) (xs : List Int32) : Prop := ∃ c : Cell, Arr Z h a c .int ∧ c.slots = (xs.map Value.int).toArray ∧ xs.length < 2 ^ 31
theorem oInts.lt {a : Addr} {xs : List Int32} (F : oInts Z h a xs) : a < h.size := by obtain ⟨c, A, -⟩ := F; exact A.lt
theorem oInts.ext {h' : Heap} {a : Addr} {xs : List Int32} (F : oInts Z h a xs) (E : Ext h h') : oInts Z h' a xs := by obtain ⟨c, A, r⟩ := F; exact ⟨c, A.ext E, r⟩
theorem oInts.keep {h' : Heap} {a : Addr} {xs : List Int32} {ws : List Addr} (F : oInts Z h a xs) (K : Keep h h' ws) (q : a ∉ ws) : oInts Z h' a xs := by obtain ⟨c, A, r⟩ := F; exact ⟨c, ⟨K.2.1 a c A.1 q, A.2⟩, r⟩
theorem oInts.set {h' : Heap} {a : Addr} {xs : List Int32} {i : Nat} {v : Int32} (F : oInts Z h a xs) (W : Wr h h' a i (.int v)) : oInts Z h' a (xs.set i v) := by
  obtain ⟨c, A, S, L⟩ := F
  refine ⟨_, A.same W, ?_, by simpa using L⟩
  simp [Cell.setSlot, S, List.map_set]
theorem oInts.new {a : Addr} {k : ClassId} {n : Int32} (A : Arr Z h a (newA k .int n) .int) (q : ¬ n < 0) : oInts Z h a (List.replicate n.toNatClampNeg 0) := by
  refine ⟨_, A, ?_, ?_⟩
  · simp [newA, defaultValue]
  · have := n.toInt_lt; simp only [List.length_replicate]; have h2 : n.toInt = (n.toNatClampNeg : Int) := nat_of q; omega
theorem oInts.at {a : Addr} {xs : List Int32} {j v : Int32} (F : oInts Z h a xs) (q : ¬ j < 0) (hj : xs[j.toNatClampNeg]? = some v) : ∃ c : Cell, Arr Z h a c .int ∧ ¬ (j < 0 ∨ c.slots.size ≤ j.toNatClampNeg) ∧ c.slots[j.toNatClampNeg]? = some (.int v) := by
  obtain ⟨c, A, S, L⟩ := F
  have hl : j.toNatClampNeg < xs.length := by
    rcases Nat.lt_or_ge j.toNatClampNeg xs.length with r | r
    · exact r
    · rw [List.getElem?_eq_none r] at hj; cases hj
  refine ⟨c, A, ?_, ?_⟩
  · rw [S]; simp only [List.size_toArray, List.length_map]; rintro (r | r)
    · exact q r
    · omega
  · rw [S]; simp [hj]
theorem o_iaload (X : Stand p l e R s m args below meth c T locs cells slots) (hx : p.tables.exec = Jvm.exec) (hZ : Z.Warmed39 s.vm) (eT : T.heap = h) {a : Addr} {xs : List Int32} (F : oInts Z h a xs) {pc pc' : Nat} {Ls : Array Slot} {st : List Value} {j v : Int32} (hd : decode c.code pc = .ok (.iaload, 1)) (q0 : ¬ j < 0) (hj : xs[j.toNatClampNeg]? = some v) (hp : pc + 1 = pc') (q : oGo p e below G T (mkF m pc' Ls (.int v :: st))) : oGo p e below G T (mkF m pc Ls (.int j :: .ref a :: st)) := by
  subst hp
  obtain ⟨cl, A, h1, h2⟩ := F.at q0 hj
  exact q.step fun t r => X.iaload (g := mkF m pc Ls (.int j :: .ref a :: st)) (rest := st) hx (by rw [eT]; exact A.1) (State.isArrayOf_alike hZ.alike A.2.1) A.2.2 h1 h2 rfl rfl hd t r
theorem o_alen (X : Stand p l e R s m args below meth c T locs cells slots) (hx : p.tables.exec = Jvm.exec) (hZ : Z.Warmed39 s.vm) (eT : T.heap = h) {a : Addr} {xs : List Int32} (F : oInts Z h a xs) {pc pc' : Nat} {Ls : Array Slot} {st : List Value} (hd : decode c.code pc = .ok (.arraylength, 1)) (hp : pc + 1 = pc') (q : oGo p e below G T (mkF m pc' Ls (.int xs.length.toInt32 :: st))) : oGo p e below G T (mkF m pc Ls (.ref a :: st)) := by
  subst hp
  obtain ⟨cl, A, S, L⟩ := F
  refine q.step fun t r => X.arraylength (g := mkF m pc Ls (.ref a :: st)) (rest := st) hx (by rw [eT]; exact A.1) (State.isArrayOf_alike hZ.alike A.2.1) rfl rfl hd t ?_
  have : cl.slots.size = xs.length := by rw [S]; simp
  rw [this]; exact r
theorem o_iastore (X : Stand p l e R s m args below meth c T locs cells slots) (hx : p.tables.exec = Jvm.exec) (hZ : Z.Warmed39 s.vm) (eT : T.heap = h) {a : Addr} {xs : List Int32} (F : oInts Z h a xs) {pc pc' : Nat} {Ls : Array Slot} {st : List Value} {j x : Int32} (hd : decode c.code pc = .ok (.iastore, 1)) (q0 : ¬ j < 0) (hj : j.toNatClampNeg < xs.length) (hp : pc + 1 = pc') :
    ∃ T' h', Stand p l e R s m args below meth c T' (locs ++ [⟨a, j.toNatClampNeg⟩]) cells slots ∧ T'.heap = h' ∧ Wr h h' a j.toNatClampNeg (.int x) ∧ ∀ t, Steps p.tables e below (T'.setTop (mkF m pc' Ls st)) t → Steps p.tables e below (T.setTop (mkF m pc Ls (.int x :: .int j :: .ref a :: st))) t := by
  subst hp
  obtain ⟨v, hv⟩ : ∃ v, xs[j.toNatClampNeg]? = some v := ⟨_, List.getElem?_eq_getElem hj⟩
  obtain ⟨cl, A, h1, h2⟩ := F.at q0 hv
  obtain ⟨T', h', X', e', W', st'⟩ := stI X hx hZ eT A (x := x) h1 (g := mkF m pc Ls (.int x :: .int j :: .ref a :: st)) (rest := st) rfl rfl hd
  exact ⟨T', h', X', e', W', st'⟩
theorem o_newI (X : Stand p l e R s m args below meth c T locs cells slots) (hx : p.tables.exec = Jvm.exec) (hZ : Z.Warmed39 s.vm) (w : (Jvm.Cond.arrayClass .int).before a0 Z = true) (eT : T.heap = h) {pc pc' : Nat} {Ls : Array Slot} {st : List Value} {n : Int32} (hd : decode c.code pc = .ok (.newarray .int, 2)) (hn : ¬ n < 0) (cap : Nat) (hcap : n.toNatClampNeg ≤ cap) (hb : cap * 8 ≤ 536870912) (hc : cells + 1 ≤ R.cells) (hl : slots + cap ≤ R.slots) (hp : pc + 2 = pc') :
    ∃ T' h', Stand p l e R s m args below meth c T' locs (cells + 1) (slots + cap) ∧ T'.heap = h' ∧ Ext h h' ∧ oInts Z h' h.size (List.replicate n.toNatClampNeg 0) ∧ ∀ t, Steps p.tables e below (T'.setTop (mkF m pc' Ls (.ref h.size :: st))) t → Steps p.tables e below (T.setTop (mkF m pc Ls (.int n :: st))) t := by
  subst hp
  obtain ⟨T', h', cA, X', e', E, A, st'⟩ := newP X hx hZ (aty := .int) w eT (g := mkF m pc Ls (.int n :: st)) rfl hd (n := n) (rest := st) rfl hn hcap hb hc hl
  have A' := oInts.new A hn
  exact ⟨T', h', X', e', E, A', st'⟩
end OwnKit
theorem d5_0 : decode method_2_code 0 = .ok (.lload_n 0, 1) := by decide +kernel
theorem d5_1 : decode method_2_code 1 = .ok (.lstore_n 2, 1) := by decide +kernel
theorem d5_2 : decode method_2_code 2 = .ok (.lload_n 2, 1) := by decide +kernel
theorem d5_3 : decode method_2_code 3 = .ok (.ldc2_w 7, 3) := by decide +kernel
theorem d5_6 : decode method_2_code 6 = .ok (.lload_n 0, 1) := by decide +kernel
theorem d5_7 : decode method_2_code 7 = .ok (.lload_n 2, 1) := by decide +kernel
theorem d5_8 : decode method_2_code 8 = .ok (.lmul, 1) := by decide +kernel
theorem d5_9 : decode method_2_code 9 = .ok (.lsub, 1) := by decide +kernel
theorem d5_10 : decode method_2_code 10 = .ok (.lmul, 1) := by decide +kernel
theorem d5_11 : decode method_2_code 11 = .ok (.lstore_n 2, 1) := by decide +kernel
theorem d5_12 : decode method_2_code 12 = .ok (.lload_n 2, 1) := by decide +kernel
theorem d5_13 : decode method_2_code 13 = .ok (.ldc2_w 7, 3) := by decide +kernel
theorem d5_16 : decode method_2_code 16 = .ok (.lload_n 0, 1) := by decide +kernel
theorem d5_17 : decode method_2_code 17 = .ok (.lload_n 2, 1) := by decide +kernel
theorem d5_18 : decode method_2_code 18 = .ok (.lmul, 1) := by decide +kernel
theorem d5_19 : decode method_2_code 19 = .ok (.lsub, 1) := by decide +kernel
theorem d5_20 : decode method_2_code 20 = .ok (.lmul, 1) := by decide +kernel
theorem d5_21 : decode method_2_code 21 = .ok (.lstore_n 2, 1) := by decide +kernel
theorem d5_22 : decode method_2_code 22 = .ok (.lload_n 2, 1) := by decide +kernel
theorem d5_23 : decode method_2_code 23 = .ok (.ldc2_w 7, 3) := by decide +kernel
theorem d5_26 : decode method_2_code 26 = .ok (.lload_n 0, 1) := by decide +kernel
theorem d5_27 : decode method_2_code 27 = .ok (.lload_n 2, 1) := by decide +kernel
theorem d5_28 : decode method_2_code 28 = .ok (.lmul, 1) := by decide +kernel
theorem d5_29 : decode method_2_code 29 = .ok (.lsub, 1) := by decide +kernel
theorem d5_30 : decode method_2_code 30 = .ok (.lmul, 1) := by decide +kernel
theorem d5_31 : decode method_2_code 31 = .ok (.lstore_n 2, 1) := by decide +kernel
theorem d5_32 : decode method_2_code 32 = .ok (.lload_n 2, 1) := by decide +kernel
theorem d5_33 : decode method_2_code 33 = .ok (.ldc2_w 7, 3) := by decide +kernel
theorem d5_36 : decode method_2_code 36 = .ok (.lload_n 0, 1) := by decide +kernel
theorem d5_37 : decode method_2_code 37 = .ok (.lload_n 2, 1) := by decide +kernel
theorem d5_38 : decode method_2_code 38 = .ok (.lmul, 1) := by decide +kernel
theorem d5_39 : decode method_2_code 39 = .ok (.lsub, 1) := by decide +kernel
theorem d5_40 : decode method_2_code 40 = .ok (.lmul, 1) := by decide +kernel
theorem d5_41 : decode method_2_code 41 = .ok (.lstore_n 2, 1) := by decide +kernel
theorem d5_42 : decode method_2_code 42 = .ok (.lload_n 2, 1) := by decide +kernel
theorem d5_43 : decode method_2_code 43 = .ok (.ldc2_w 7, 3) := by decide +kernel
theorem d5_46 : decode method_2_code 46 = .ok (.lload_n 0, 1) := by decide +kernel
theorem d5_47 : decode method_2_code 47 = .ok (.lload_n 2, 1) := by decide +kernel
theorem d5_48 : decode method_2_code 48 = .ok (.lmul, 1) := by decide +kernel
theorem d5_49 : decode method_2_code 49 = .ok (.lsub, 1) := by decide +kernel
theorem d5_50 : decode method_2_code 50 = .ok (.lmul, 1) := by decide +kernel
theorem d5_51 : decode method_2_code 51 = .ok (.lstore_n 2, 1) := by decide +kernel
theorem d5_52 : decode method_2_code 52 = .ok (.lload_n 2, 1) := by decide +kernel
theorem d5_53 : decode method_2_code 53 = .ok (.lreturn, 1) := by decide +kernel
theorem pn_5 : plainName "com/example/stratigraph/stratigraph/order/SeededRandomNextLongPinLaw" = true := by first | (simp [plainName, overriddenIn]; done) | decide +kernel
theorem ef_5 (m : MethodId) (x0 : Int64) : entryFrame m #[(.long x0)] 4 = mkF m 0 #[.val (.long x0), .second, .unset, .unset] [] := by first | (simp [entryFrame, mkF, argsToLocals, Value.category]; done) | rfl
def spec5 (x0 : Int64)  : Int64 := (((((x0 * ((2 : Int64) - (x0 * x0))) * ((2 : Int64) - (x0 * (x0 * ((2 : Int64) - (x0 * x0)))))) * ((2 : Int64) - (x0 * ((x0 * ((2 : Int64) - (x0 * x0))) * ((2 : Int64) - (x0 * (x0 * ((2 : Int64) - (x0 * x0))))))))) * ((2 : Int64) - (x0 * (((x0 * ((2 : Int64) - (x0 * x0))) * ((2 : Int64) - (x0 * (x0 * ((2 : Int64) - (x0 * x0)))))) * ((2 : Int64) - (x0 * ((x0 * ((2 : Int64) - (x0 * x0))) * ((2 : Int64) - (x0 * (x0 * ((2 : Int64) - (x0 * x0)))))))))))) * ((2 : Int64) - (x0 * ((((x0 * ((2 : Int64) - (x0 * x0))) * ((2 : Int64) - (x0 * (x0 * ((2 : Int64) - (x0 * x0)))))) * ((2 : Int64) - (x0 * ((x0 * ((2 : Int64) - (x0 * x0))) * ((2 : Int64) - (x0 * (x0 * ((2 : Int64) - (x0 * x0))))))))) * ((2 : Int64) - (x0 * (((x0 * ((2 : Int64) - (x0 * x0))) * ((2 : Int64) - (x0 * (x0 * ((2 : Int64) - (x0 * x0)))))) * ((2 : Int64) - (x0 * ((x0 * ((2 : Int64) - (x0 * x0))) * ((2 : Int64) - (x0 * (x0 * ((2 : Int64) - (x0 * x0)))))))))))))))
def room5 : Room := { frames := 0, cells := 0, slots := 0, locals := 0 }
set_option maxRecDepth 65536 in
set_option maxHeartbeats 40000000 in
theorem rm5 (l : Launch) (Z : State) (a0 : Array Value) (hw : ∀ d ∈ tables_1, d.before a0 Z = true) (x0 : Int64)  (h0 : Heap) (n0 : Nat) (Z0 : n0 ≤ h0.size)  :
    oCon l Z (⟨"com/example/stratigraph/stratigraph/order/SeededRandomNextLongPinLaw", "inverse", "(J)J"⟩ : MethodName) method_2_code 4 (some .long) room5 #[(.long x0)] h0 (fun v h L => v = some (.long (spec5 x0)) ∧ L = [] ∧ h = h0) := by
  refine oCon.of (plainFor_of_name pn_5) ?_
  intro p e s m below meth c s₁ hx hby hml hown hnm hret hlk hZ X0 e0
  rw [ef_5 m x0]
  have N0 := Fr.nil n0
  refine o_lloadN (pc' := 1) X0 hx (hb hby d5_0) rfl rfl ?_
  refine o_lstoreN (pc' := 2) (l' := #[.val (.long x0), .second, .val (.long x0), .second]) X0 hx (hb hby d5_1) rfl rfl ?_
  refine o_lloadN (pc' := 3) X0 hx (hb hby d5_2) rfl rfl ?_
  refine o_ldc2 (pc' := 6) (v := (2 : Int64)) X0 hx hZ hown (hw _ (List.mem_of_getElem? (i := 28) rfl)) (hb hby d5_3) rfl ?_
  refine o_lloadN (pc' := 7) X0 hx (hb hby d5_6) rfl rfl ?_
  refine o_lloadN (pc' := 8) X0 hx (hb hby d5_7) rfl rfl ?_
  refine o_lmul (pc' := 9) X0 hx (hb hby d5_8)  rfl ?_
  refine o_lsub (pc' := 10) X0 hx (hb hby d5_9)  rfl ?_
  refine o_lmul (pc' := 11) X0 hx (hb hby d5_10)  rfl ?_
  refine o_lstoreN (pc' := 12) (l' := #[.val (.long x0), .second, .val (.long (x0 * ((2 : Int64) - (x0 * x0)))), .second]) X0 hx (hb hby d5_11) rfl rfl ?_
  refine o_lloadN (pc' := 13) X0 hx (hb hby d5_12) rfl rfl ?_
  refine o_ldc2 (pc' := 16) (v := (2 : Int64)) X0 hx hZ hown (hw _ (List.mem_of_getElem? (i := 28) rfl)) (hb hby d5_13) rfl ?_
  refine o_lloadN (pc' := 17) X0 hx (hb hby d5_16) rfl rfl ?_
  refine o_lloadN (pc' := 18) X0 hx (hb hby d5_17) rfl rfl ?_
  refine o_lmul (pc' := 19) X0 hx (hb hby d5_18)  rfl ?_
  refine o_lsub (pc' := 20) X0 hx (hb hby d5_19)  rfl ?_
  refine o_lmul (pc' := 21) X0 hx (hb hby d5_20)  rfl ?_
  refine o_lstoreN (pc' := 22) (l' := #[.val (.long x0), .second, .val (.long ((x0 * ((2 : Int64) - (x0 * x0))) * ((2 : Int64) - (x0 * (x0 * ((2 : Int64) - (x0 * x0))))))), .second]) X0 hx (hb hby d5_21) rfl rfl ?_
  refine o_lloadN (pc' := 23) X0 hx (hb hby d5_22) rfl rfl ?_
  refine o_ldc2 (pc' := 26) (v := (2 : Int64)) X0 hx hZ hown (hw _ (List.mem_of_getElem? (i := 28) rfl)) (hb hby d5_23) rfl ?_
  refine o_lloadN (pc' := 27) X0 hx (hb hby d5_26) rfl rfl ?_
  refine o_lloadN (pc' := 28) X0 hx (hb hby d5_27) rfl rfl ?_
  refine o_lmul (pc' := 29) X0 hx (hb hby d5_28)  rfl ?_
  refine o_lsub (pc' := 30) X0 hx (hb hby d5_29)  rfl ?_
  refine o_lmul (pc' := 31) X0 hx (hb hby d5_30)  rfl ?_
  refine o_lstoreN (pc' := 32) (l' := #[.val (.long x0), .second, .val (.long (((x0 * ((2 : Int64) - (x0 * x0))) * ((2 : Int64) - (x0 * (x0 * ((2 : Int64) - (x0 * x0)))))) * ((2 : Int64) - (x0 * ((x0 * ((2 : Int64) - (x0 * x0))) * ((2 : Int64) - (x0 * (x0 * ((2 : Int64) - (x0 * x0)))))))))), .second]) X0 hx (hb hby d5_31) rfl rfl ?_
  refine o_lloadN (pc' := 33) X0 hx (hb hby d5_32) rfl rfl ?_
  refine o_ldc2 (pc' := 36) (v := (2 : Int64)) X0 hx hZ hown (hw _ (List.mem_of_getElem? (i := 28) rfl)) (hb hby d5_33) rfl ?_
  refine o_lloadN (pc' := 37) X0 hx (hb hby d5_36) rfl rfl ?_
  refine o_lloadN (pc' := 38) X0 hx (hb hby d5_37) rfl rfl ?_
  refine o_lmul (pc' := 39) X0 hx (hb hby d5_38)  rfl ?_
  refine o_lsub (pc' := 40) X0 hx (hb hby d5_39)  rfl ?_
  refine o_lmul (pc' := 41) X0 hx (hb hby d5_40)  rfl ?_
  refine o_lstoreN (pc' := 42) (l' := #[.val (.long x0), .second, .val (.long ((((x0 * ((2 : Int64) - (x0 * x0))) * ((2 : Int64) - (x0 * (x0 * ((2 : Int64) - (x0 * x0)))))) * ((2 : Int64) - (x0 * ((x0 * ((2 : Int64) - (x0 * x0))) * ((2 : Int64) - (x0 * (x0 * ((2 : Int64) - (x0 * x0))))))))) * ((2 : Int64) - (x0 * (((x0 * ((2 : Int64) - (x0 * x0))) * ((2 : Int64) - (x0 * (x0 * ((2 : Int64) - (x0 * x0)))))) * ((2 : Int64) - (x0 * ((x0 * ((2 : Int64) - (x0 * x0))) * ((2 : Int64) - (x0 * (x0 * ((2 : Int64) - (x0 * x0))))))))))))), .second]) X0 hx (hb hby d5_41) rfl rfl ?_
  refine o_lloadN (pc' := 43) X0 hx (hb hby d5_42) rfl rfl ?_
  refine o_ldc2 (pc' := 46) (v := (2 : Int64)) X0 hx hZ hown (hw _ (List.mem_of_getElem? (i := 28) rfl)) (hb hby d5_43) rfl ?_
  refine o_lloadN (pc' := 47) X0 hx (hb hby d5_46) rfl rfl ?_
  refine o_lloadN (pc' := 48) X0 hx (hb hby d5_47) rfl rfl ?_
  refine o_lmul (pc' := 49) X0 hx (hb hby d5_48)  rfl ?_
  refine o_lsub (pc' := 50) X0 hx (hb hby d5_49)  rfl ?_
  refine o_lmul (pc' := 51) X0 hx (hb hby d5_50)  rfl ?_
  refine o_lstoreN (pc' := 52) (l' := #[.val (.long x0), .second, .val (.long (((((x0 * ((2 : Int64) - (x0 * x0))) * ((2 : Int64) - (x0 * (x0 * ((2 : Int64) - (x0 * x0)))))) * ((2 : Int64) - (x0 * ((x0 * ((2 : Int64) - (x0 * x0))) * ((2 : Int64) - (x0 * (x0 * ((2 : Int64) - (x0 * x0))))))))) * ((2 : Int64) - (x0 * (((x0 * ((2 : Int64) - (x0 * x0))) * ((2 : Int64) - (x0 * (x0 * ((2 : Int64) - (x0 * x0)))))) * ((2 : Int64) - (x0 * ((x0 * ((2 : Int64) - (x0 * x0))) * ((2 : Int64) - (x0 * (x0 * ((2 : Int64) - (x0 * x0)))))))))))) * ((2 : Int64) - (x0 * ((((x0 * ((2 : Int64) - (x0 * x0))) * ((2 : Int64) - (x0 * (x0 * ((2 : Int64) - (x0 * x0)))))) * ((2 : Int64) - (x0 * ((x0 * ((2 : Int64) - (x0 * x0))) * ((2 : Int64) - (x0 * (x0 * ((2 : Int64) - (x0 * x0))))))))) * ((2 : Int64) - (x0 * (((x0 * ((2 : Int64) - (x0 * x0))) * ((2 : Int64) - (x0 * (x0 * ((2 : Int64) - (x0 * x0)))))) * ((2 : Int64) - (x0 * ((x0 * ((2 : Int64) - (x0 * x0))) * ((2 : Int64) - (x0 * (x0 * ((2 : Int64) - (x0 * x0)))))))))))))))), .second]) X0 hx (hb hby d5_51) rfl rfl ?_
  refine o_lloadN (pc' := 53) X0 hx (hb hby d5_52) rfl rfl ?_
  refine o_retJ X0 hx hret hlk (hb hby d5_53) (by decide) (by decide) ?_
  exact ⟨congrArg (fun z => some (Value.long z)) (show _ = spec5 x0  from (rfl).symm), rfl, e0⟩
theorem d4_0 : decode method_3_code 0 = .ok (.lload_n 0, 1) := by decide +kernel
theorem d4_1 : decode method_3_code 1 = .ok (.lload_n 0, 1) := by decide +kernel
theorem d4_2 : decode method_3_code 2 = .ok (.bipush 31, 2) := by decide +kernel
theorem d4_4 : decode method_3_code 4 = .ok (.lushr, 1) := by decide +kernel
theorem d4_5 : decode method_3_code 5 = .ok (.lxor, 1) := by decide +kernel
theorem d4_6 : decode method_3_code 6 = .ok (.lload_n 0, 1) := by decide +kernel
theorem d4_7 : decode method_3_code 7 = .ok (.bipush 62, 2) := by decide +kernel
theorem d4_9 : decode method_3_code 9 = .ok (.lushr, 1) := by decide +kernel
theorem d4_10 : decode method_3_code 10 = .ok (.lxor, 1) := by decide +kernel
theorem d4_11 : decode method_3_code 11 = .ok (.lstore_n 2, 1) := by decide +kernel
theorem d4_12 : decode method_3_code 12 = .ok (.lload_n 2, 1) := by decide +kernel
theorem d4_13 : decode method_3_code 13 = .ok (.ldc2_w 9, 3) := by decide +kernel
theorem d4_16 : decode method_3_code 16 = .ok (.invokestatic 11, 3) := by decide +kernel
theorem d4_19 : decode method_3_code 19 = .ok (.lmul, 1) := by decide +kernel
theorem d4_20 : decode method_3_code 20 = .ok (.lstore 4, 2) := by decide +kernel
theorem d4_22 : decode method_3_code 22 = .ok (.lload 4, 2) := by decide +kernel
theorem d4_24 : decode method_3_code 24 = .ok (.lload 4, 2) := by decide +kernel
theorem d4_26 : decode method_3_code 26 = .ok (.bipush 27, 2) := by decide +kernel
theorem d4_28 : decode method_3_code 28 = .ok (.lushr, 1) := by decide +kernel
theorem d4_29 : decode method_3_code 29 = .ok (.lxor, 1) := by decide +kernel
theorem d4_30 : decode method_3_code 30 = .ok (.lload 4, 2) := by decide +kernel
theorem d4_32 : decode method_3_code 32 = .ok (.bipush 54, 2) := by decide +kernel
theorem d4_34 : decode method_3_code 34 = .ok (.lushr, 1) := by decide +kernel
theorem d4_35 : decode method_3_code 35 = .ok (.lxor, 1) := by decide +kernel
theorem d4_36 : decode method_3_code 36 = .ok (.lstore 6, 2) := by decide +kernel
theorem d4_38 : decode method_3_code 38 = .ok (.lload 6, 2) := by decide +kernel
theorem d4_40 : decode method_3_code 40 = .ok (.ldc2_w 17, 3) := by decide +kernel
theorem d4_43 : decode method_3_code 43 = .ok (.invokestatic 11, 3) := by decide +kernel
theorem d4_46 : decode method_3_code 46 = .ok (.lmul, 1) := by decide +kernel
theorem d4_47 : decode method_3_code 47 = .ok (.lstore 8, 2) := by decide +kernel
theorem d4_49 : decode method_3_code 49 = .ok (.lload 8, 2) := by decide +kernel
theorem d4_51 : decode method_3_code 51 = .ok (.lload 8, 2) := by decide +kernel
theorem d4_53 : decode method_3_code 53 = .ok (.bipush 30, 2) := by decide +kernel
theorem d4_55 : decode method_3_code 55 = .ok (.lushr, 1) := by decide +kernel
theorem d4_56 : decode method_3_code 56 = .ok (.lxor, 1) := by decide +kernel
theorem d4_57 : decode method_3_code 57 = .ok (.lload 8, 2) := by decide +kernel
theorem d4_59 : decode method_3_code 59 = .ok (.bipush 60, 2) := by decide +kernel
theorem d4_61 : decode method_3_code 61 = .ok (.lushr, 1) := by decide +kernel
theorem d4_62 : decode method_3_code 62 = .ok (.lxor, 1) := by decide +kernel
theorem d4_63 : decode method_3_code 63 = .ok (.lreturn, 1) := by decide +kernel
theorem ef_4 (m : MethodId) (x0 : Int64) : entryFrame m #[(.long x0)] 10 = mkF m 0 #[.val (.long x0), .second, .unset, .unset, .unset, .unset, .unset, .unset, .unset, .unset] [] := by first | (simp [entryFrame, mkF, argsToLocals, Value.category]; done) | rfl
theorem pd0 : parseMethodDescriptor "(J)J" = some ⟨[.long], (some .long)⟩ := by decide +kernel
def spec4 (x0 : Int64)  : Int64 := ((((((((x0 ^^^ (XT.ushrL x0 (31 : Int32))) ^^^ (XT.ushrL x0 (62 : Int32))) * (spec5 (-7723592293110705685 : Int64))) ^^^ (XT.ushrL (((x0 ^^^ (XT.ushrL x0 (31 : Int32))) ^^^ (XT.ushrL x0 (62 : Int32))) * (spec5 (-7723592293110705685 : Int64))) (27 : Int32))) ^^^ (XT.ushrL (((x0 ^^^ (XT.ushrL x0 (31 : Int32))) ^^^ (XT.ushrL x0 (62 : Int32))) * (spec5 (-7723592293110705685 : Int64))) (54 : Int32))) * (spec5 (-4658895280553007687 : Int64))) ^^^ (XT.ushrL ((((((x0 ^^^ (XT.ushrL x0 (31 : Int32))) ^^^ (XT.ushrL x0 (62 : Int32))) * (spec5 (-7723592293110705685 : Int64))) ^^^ (XT.ushrL (((x0 ^^^ (XT.ushrL x0 (31 : Int32))) ^^^ (XT.ushrL x0 (62 : Int32))) * (spec5 (-7723592293110705685 : Int64))) (27 : Int32))) ^^^ (XT.ushrL (((x0 ^^^ (XT.ushrL x0 (31 : Int32))) ^^^ (XT.ushrL x0 (62 : Int32))) * (spec5 (-7723592293110705685 : Int64))) (54 : Int32))) * (spec5 (-4658895280553007687 : Int64))) (30 : Int32))) ^^^ (XT.ushrL ((((((x0 ^^^ (XT.ushrL x0 (31 : Int32))) ^^^ (XT.ushrL x0 (62 : Int32))) * (spec5 (-7723592293110705685 : Int64))) ^^^ (XT.ushrL (((x0 ^^^ (XT.ushrL x0 (31 : Int32))) ^^^ (XT.ushrL x0 (62 : Int32))) * (spec5 (-7723592293110705685 : Int64))) (27 : Int32))) ^^^ (XT.ushrL (((x0 ^^^ (XT.ushrL x0 (31 : Int32))) ^^^ (XT.ushrL x0 (62 : Int32))) * (spec5 (-7723592293110705685 : Int64))) (54 : Int32))) * (spec5 (-4658895280553007687 : Int64))) (60 : Int32)))
def room4 : Room := { frames := 1, cells := 0, slots := 0, locals := 17 }
set_option maxRecDepth 65536 in
set_option maxHeartbeats 40000000 in
theorem rm4 (l : Launch) (Z : State) (a0 : Array Value) (hw : ∀ d ∈ tables_1, d.before a0 Z = true) (x0 : Int64)  (h0 : Heap) (n0 : Nat) (Z0 : n0 ≤ h0.size)  :
    oCon l Z (⟨"com/example/stratigraph/stratigraph/order/SeededRandomNextLongPinLaw", "unmix", "(J)J"⟩ : MethodName) method_3_code 10 (some .long) room4 #[(.long x0)] h0 (fun v h L => v = some (.long (spec4 x0)) ∧ L = [] ∧ h = h0) := by
  refine oCon.of (plainFor_of_name pn_5) ?_
  intro p e s m below meth c s₁ hx hby hml hown hnm hret hlk hZ X0 e0
  rw [ef_4 m x0]
  have N0 := Fr.nil n0
  refine o_lloadN (pc' := 1) X0 hx (hb hby d4_0) rfl rfl ?_
  refine o_lloadN (pc' := 2) X0 hx (hb hby d4_1) rfl rfl ?_
  refine o_bipush (pc' := 4) (v := (31 : Int32)) X0 hx (hb hby d4_2) rfl rfl ?_
  refine o_lushr (pc' := 5) X0 hx (hb hby d4_4)  rfl ?_
  refine o_lxor (pc' := 6) X0 hx (hb hby d4_5)  rfl ?_
  refine o_lloadN (pc' := 7) X0 hx (hb hby d4_6) rfl rfl ?_
  refine o_bipush (pc' := 9) (v := (62 : Int32)) X0 hx (hb hby d4_7) rfl rfl ?_
  refine o_lushr (pc' := 10) X0 hx (hb hby d4_9)  rfl ?_
  refine o_lxor (pc' := 11) X0 hx (hb hby d4_10)  rfl ?_
  refine o_lstoreN (pc' := 12) (l' := #[.val (.long x0), .second, .val (.long ((x0 ^^^ (XT.ushrL x0 (31 : Int32))) ^^^ (XT.ushrL x0 (62 : Int32)))), .second, .unset, .unset, .unset, .unset, .unset, .unset]) X0 hx (hb hby d4_11) rfl rfl ?_
  refine o_lloadN (pc' := 13) X0 hx (hb hby d4_12) rfl rfl ?_
  refine o_ldc2 (pc' := 16) (v := (-7723592293110705685 : Int64)) X0 hx hZ hown (hw _ (List.mem_of_getElem? (i := 24) rfl)) (hb hby d4_13) rfl ?_
  obtain ⟨r1, T1, L1, X1, hq1, st1⟩ := o_callS X0 hx hZ hown (hw _ (List.mem_of_getElem? (i := 25) rfl)) (hw _ (List.mem_of_getElem? (i := 26) rfl)) (hw _ (List.mem_of_getElem? (i := 22) rfl)) (hw _ (List.mem_of_getElem? (i := 27) rfl)) (by decide) (rm5 l Z a0 hw (-7723592293110705685 : Int64)  h0 n0 Z0 ) e0 (pc' := 19) (Ls := #[.val (.long x0), .second, .val (.long ((x0 ^^^ (XT.ushrL x0 (31 : Int32))) ^^^ (XT.ushrL x0 (62 : Int32)))), .second, .unset, .unset, .unset, .unset, .unset, .unset]) (by rw [hml]; rfl) [(.long (-7723592293110705685 : Int64))] [(.long ((x0 ^^^ (XT.ushrL x0 (31 : Int32))) ^^^ (XT.ushrL x0 (62 : Int32))))] rfl pd0 rfl rfl 2 (Nat.le_of_eq rfl) (hb hby d4_16) rfl (by decide) (by decide) (by decide) (by decide)
  obtain ⟨rfl, rfl, Kc1⟩ := hq1
  refine oGo.step (f' := (mkF m 19 #[.val (.long x0), .second, .val (.long ((x0 ^^^ (XT.ushrL x0 (31 : Int32))) ^^^ (XT.ushrL x0 (62 : Int32)))), .second, .unset, .unset, .unset, .unset, .unset, .unset] [(.long (spec5 (-7723592293110705685 : Int64))), (.long ((x0 ^^^ (XT.ushrL x0 (31 : Int32))) ^^^ (XT.ushrL x0 (62 : Int32))))])) st1 ?_
  have e1 : T1.heap = h0 := Kc1
  have X1 := o_same X1 rfl rfl
  refine o_lmul (pc' := 20) X1 hx (hb hby d4_19)  rfl ?_
  refine o_lstore (pc' := 22) (l' := #[.val (.long x0), .second, .val (.long ((x0 ^^^ (XT.ushrL x0 (31 : Int32))) ^^^ (XT.ushrL x0 (62 : Int32)))), .second, .val (.long (((x0 ^^^ (XT.ushrL x0 (31 : Int32))) ^^^ (XT.ushrL x0 (62 : Int32))) * (spec5 (-7723592293110705685 : Int64)))), .second, .unset, .unset, .unset, .unset]) X1 hx (hb hby d4_20) rfl rfl ?_
  refine o_lload (pc' := 24) X1 hx (hb hby d4_22) rfl rfl ?_
  refine o_lload (pc' := 26) X1 hx (hb hby d4_24) rfl rfl ?_
  refine o_bipush (pc' := 28) (v := (27 : Int32)) X1 hx (hb hby d4_26) rfl rfl ?_
  refine o_lushr (pc' := 29) X1 hx (hb hby d4_28)  rfl ?_
  refine o_lxor (pc' := 30) X1 hx (hb hby d4_29)  rfl ?_
  refine o_lload (pc' := 32) X1 hx (hb hby d4_30) rfl rfl ?_
  refine o_bipush (pc' := 34) (v := (54 : Int32)) X1 hx (hb hby d4_32) rfl rfl ?_
  refine o_lushr (pc' := 35) X1 hx (hb hby d4_34)  rfl ?_
  refine o_lxor (pc' := 36) X1 hx (hb hby d4_35)  rfl ?_
  refine o_lstore (pc' := 38) (l' := #[.val (.long x0), .second, .val (.long ((x0 ^^^ (XT.ushrL x0 (31 : Int32))) ^^^ (XT.ushrL x0 (62 : Int32)))), .second, .val (.long (((x0 ^^^ (XT.ushrL x0 (31 : Int32))) ^^^ (XT.ushrL x0 (62 : Int32))) * (spec5 (-7723592293110705685 : Int64)))), .second, .val (.long (((((x0 ^^^ (XT.ushrL x0 (31 : Int32))) ^^^ (XT.ushrL x0 (62 : Int32))) * (spec5 (-7723592293110705685 : Int64))) ^^^ (XT.ushrL (((x0 ^^^ (XT.ushrL x0 (31 : Int32))) ^^^ (XT.ushrL x0 (62 : Int32))) * (spec5 (-7723592293110705685 : Int64))) (27 : Int32))) ^^^ (XT.ushrL (((x0 ^^^ (XT.ushrL x0 (31 : Int32))) ^^^ (XT.ushrL x0 (62 : Int32))) * (spec5 (-7723592293110705685 : Int64))) (54 : Int32)))), .second, .unset, .unset]) X1 hx (hb hby d4_36) rfl rfl ?_
  refine o_lload (pc' := 40) X1 hx (hb hby d4_38) rfl rfl ?_
  refine o_ldc2 (pc' := 43) (v := (-4658895280553007687 : Int64)) X1 hx hZ hown (hw _ (List.mem_of_getElem? (i := 29) rfl)) (hb hby d4_40) rfl ?_
  obtain ⟨r2, T2, L2, X2, hq2, st2⟩ := o_callS X1 hx hZ hown (hw _ (List.mem_of_getElem? (i := 25) rfl)) (hw _ (List.mem_of_getElem? (i := 26) rfl)) (hw _ (List.mem_of_getElem? (i := 22) rfl)) (hw _ (List.mem_of_getElem? (i := 27) rfl)) (by decide) (rm5 l Z a0 hw (-4658895280553007687 : Int64)  h0 n0 Z0 ) e1 (pc' := 46) (Ls := #[.val (.long x0), .second, .val (.long ((x0 ^^^ (XT.ushrL x0 (31 : Int32))) ^^^ (XT.ushrL x0 (62 : Int32)))), .second, .val (.long (((x0 ^^^ (XT.ushrL x0 (31 : Int32))) ^^^ (XT.ushrL x0 (62 : Int32))) * (spec5 (-7723592293110705685 : Int64)))), .second, .val (.long (((((x0 ^^^ (XT.ushrL x0 (31 : Int32))) ^^^ (XT.ushrL x0 (62 : Int32))) * (spec5 (-7723592293110705685 : Int64))) ^^^ (XT.ushrL (((x0 ^^^ (XT.ushrL x0 (31 : Int32))) ^^^ (XT.ushrL x0 (62 : Int32))) * (spec5 (-7723592293110705685 : Int64))) (27 : Int32))) ^^^ (XT.ushrL (((x0 ^^^ (XT.ushrL x0 (31 : Int32))) ^^^ (XT.ushrL x0 (62 : Int32))) * (spec5 (-7723592293110705685 : Int64))) (54 : Int32)))), .second, .unset, .unset]) (by rw [hml]; rfl) [(.long (-4658895280553007687 : Int64))] [(.long (((((x0 ^^^ (XT.ushrL x0 (31 : Int32))) ^^^ (XT.ushrL x0 (62 : Int32))) * (spec5 (-7723592293110705685 : Int64))) ^^^ (XT.ushrL (((x0 ^^^ (XT.ushrL x0 (31 : Int32))) ^^^ (XT.ushrL x0 (62 : Int32))) * (spec5 (-7723592293110705685 : Int64))) (27 : Int32))) ^^^ (XT.ushrL (((x0 ^^^ (XT.ushrL x0 (31 : Int32))) ^^^ (XT.ushrL x0 (62 : Int32))) * (spec5 (-7723592293110705685 : Int64))) (54 : Int32))))] rfl pd0 rfl rfl 2 (Nat.le_of_eq rfl) (hb hby d4_43) rfl (by decide) (by decide) (by decide) (by decide)
  obtain ⟨rfl, rfl, Kc2⟩ := hq2
  refine oGo.step (f' := (mkF m 46 #[.val (.long x0), .second, .val (.long ((x0 ^^^ (XT.ushrL x0 (31 : Int32))) ^^^ (XT.ushrL x0 (62 : Int32)))), .second, .val (.long (((x0 ^^^ (XT.ushrL x0 (31 : Int32))) ^^^ (XT.ushrL x0 (62 : Int32))) * (spec5 (-7723592293110705685 : Int64)))), .second, .val (.long (((((x0 ^^^ (XT.ushrL x0 (31 : Int32))) ^^^ (XT.ushrL x0 (62 : Int32))) * (spec5 (-7723592293110705685 : Int64))) ^^^ (XT.ushrL (((x0 ^^^ (XT.ushrL x0 (31 : Int32))) ^^^ (XT.ushrL x0 (62 : Int32))) * (spec5 (-7723592293110705685 : Int64))) (27 : Int32))) ^^^ (XT.ushrL (((x0 ^^^ (XT.ushrL x0 (31 : Int32))) ^^^ (XT.ushrL x0 (62 : Int32))) * (spec5 (-7723592293110705685 : Int64))) (54 : Int32)))), .second, .unset, .unset] [(.long (spec5 (-4658895280553007687 : Int64))), (.long (((((x0 ^^^ (XT.ushrL x0 (31 : Int32))) ^^^ (XT.ushrL x0 (62 : Int32))) * (spec5 (-7723592293110705685 : Int64))) ^^^ (XT.ushrL (((x0 ^^^ (XT.ushrL x0 (31 : Int32))) ^^^ (XT.ushrL x0 (62 : Int32))) * (spec5 (-7723592293110705685 : Int64))) (27 : Int32))) ^^^ (XT.ushrL (((x0 ^^^ (XT.ushrL x0 (31 : Int32))) ^^^ (XT.ushrL x0 (62 : Int32))) * (spec5 (-7723592293110705685 : Int64))) (54 : Int32))))])) st2 ?_
  have e2 : T2.heap = h0 := Kc2
  have X2 := o_same X2 rfl rfl
  refine o_lmul (pc' := 47) X2 hx (hb hby d4_46)  rfl ?_
  refine o_lstore (pc' := 49) (l' := #[.val (.long x0), .second, .val (.long ((x0 ^^^ (XT.ushrL x0 (31 : Int32))) ^^^ (XT.ushrL x0 (62 : Int32)))), .second, .val (.long (((x0 ^^^ (XT.ushrL x0 (31 : Int32))) ^^^ (XT.ushrL x0 (62 : Int32))) * (spec5 (-7723592293110705685 : Int64)))), .second, .val (.long (((((x0 ^^^ (XT.ushrL x0 (31 : Int32))) ^^^ (XT.ushrL x0 (62 : Int32))) * (spec5 (-7723592293110705685 : Int64))) ^^^ (XT.ushrL (((x0 ^^^ (XT.ushrL x0 (31 : Int32))) ^^^ (XT.ushrL x0 (62 : Int32))) * (spec5 (-7723592293110705685 : Int64))) (27 : Int32))) ^^^ (XT.ushrL (((x0 ^^^ (XT.ushrL x0 (31 : Int32))) ^^^ (XT.ushrL x0 (62 : Int32))) * (spec5 (-7723592293110705685 : Int64))) (54 : Int32)))), .second, .val (.long ((((((x0 ^^^ (XT.ushrL x0 (31 : Int32))) ^^^ (XT.ushrL x0 (62 : Int32))) * (spec5 (-7723592293110705685 : Int64))) ^^^ (XT.ushrL (((x0 ^^^ (XT.ushrL x0 (31 : Int32))) ^^^ (XT.ushrL x0 (62 : Int32))) * (spec5 (-7723592293110705685 : Int64))) (27 : Int32))) ^^^ (XT.ushrL (((x0 ^^^ (XT.ushrL x0 (31 : Int32))) ^^^ (XT.ushrL x0 (62 : Int32))) * (spec5 (-7723592293110705685 : Int64))) (54 : Int32))) * (spec5 (-4658895280553007687 : Int64)))), .second]) X2 hx (hb hby d4_47) rfl rfl ?_
  refine o_lload (pc' := 51) X2 hx (hb hby d4_49) rfl rfl ?_
  refine o_lload (pc' := 53) X2 hx (hb hby d4_51) rfl rfl ?_
  refine o_bipush (pc' := 55) (v := (30 : Int32)) X2 hx (hb hby d4_53) rfl rfl ?_
  refine o_lushr (pc' := 56) X2 hx (hb hby d4_55)  rfl ?_
  refine o_lxor (pc' := 57) X2 hx (hb hby d4_56)  rfl ?_
  refine o_lload (pc' := 59) X2 hx (hb hby d4_57) rfl rfl ?_
  refine o_bipush (pc' := 61) (v := (60 : Int32)) X2 hx (hb hby d4_59) rfl rfl ?_
  refine o_lushr (pc' := 62) X2 hx (hb hby d4_61)  rfl ?_
  refine o_lxor (pc' := 63) X2 hx (hb hby d4_62)  rfl ?_
  refine o_retJ X2 hx hret hlk (hb hby d4_63) (by decide) (by decide) ?_
  exact ⟨congrArg (fun z => some (Value.long z)) (show _ = spec4 x0  from (rfl).symm), rfl, e2⟩
theorem d1_0 : decode prog_13_method_1_code 0 = .ok (.aload_n 0, 1) := by decide +kernel
theorem d1_1 : decode prog_13_method_1_code 1 = .ok (.invokespecial 1, 3) := by decide +kernel
theorem d1_4 : decode prog_13_method_1_code 4 = .ok (.aload_n 0, 1) := by decide +kernel
theorem d1_5 : decode prog_13_method_1_code 5 = .ok (.lload_n 1, 1) := by decide +kernel
theorem d1_6 : decode prog_13_method_1_code 6 = .ok (.putfield 7, 3) := by decide +kernel
theorem d1_9 : decode prog_13_method_1_code 9 = .ok (.return_, 1) := by decide +kernel
theorem pn_1 : plainName "com/example/stratigraph/stratigraph/order/SeededRandom" = true := by first | (simp [plainName, overriddenIn]; done) | decide +kernel
theorem ef1 (m : MethodId) (a1 : Addr) (x1 : Int64) : entryFrame m #[(.ref a1), (.long x1)] 3 = mkF m 0 #[.val (.ref a1), .val (.long x1), .second] [] := by first | (simp [entryFrame, mkF, argsToLocals, Value.category]; done) | rfl
def room1 : Room := { frames := 1, cells := 0, slots := 0, locals := 12 }
set_option maxRecDepth 65536 in
set_option maxHeartbeats 40000000 in
theorem rm1 (l : Launch) (Z : State) (a0 : Array Value) (hw : ∀ d ∈ tables_1, d.before a0 Z = true) (a1 : Addr) (x1 : Int64) (f_state : Int64) (h0 : Heap) (n0 : Nat) (Z0 : n0 ≤ h0.size) (E0 : Exa Z h0 a1 "com/example/stratigraph/stratigraph/order/SeededRandom") (F_state : Fld Z h0 a1 "com/example/stratigraph/stratigraph/order/SeededRandom" "state" "J" (.long f_state)) (ga : n0 ≤ a1)  :
    oCon l Z (⟨"com/example/stratigraph/stratigraph/order/SeededRandom", "<init>", "(J)V"⟩ : MethodName) prog_13_method_1_code 3 none room1 #[(.ref a1), (.long x1)] h0 (fun v h L => v = none ∧ Fr n0 L ∧ Keep h0 h [a1] ∧ Exa Z h a1 "com/example/stratigraph/stratigraph/order/SeededRandom" ∧ Fld Z h a1 "com/example/stratigraph/stratigraph/order/SeededRandom" "state" "J" (.long x1)) := by
  refine oCon.of (plainFor_of_name pn_1) ?_
  intro p e s m below meth c s₁ hx hby hml hown hnm hret hlk hZ X0 e0
  rw [ef1 m a1 x1]
  have N0 := Fr.nil n0
  have K0 := Keep.refl h0 [a1]
  refine o_aloadN (pc' := 1) X0 hx (hb hby d1_0) rfl rfl rfl ?_
  obtain ⟨T1, X1, e1, st1⟩ := initO X0 hx hZ hown (hw _ (List.mem_of_getElem? (i := 6) rfl)) (hw _ (List.mem_of_getElem? (i := 7) rfl)) (hw _ (List.mem_of_getElem? (i := 8) rfl)) e0 (g := (mkF m 1 #[.val (.ref a1), .val (.long x1), .second] [(.ref a1)])) rfl (by rw [hml]; rfl) rfl (hb hby d1_1) (by decide) (W := 0) (by show 2 * 0 + _ ≤ _; exact Nat.le_of_eq rfl) (by decide)
  refine oGo.step (f' := (mkF m 4 #[.val (.ref a1), .val (.long x1), .second] [])) st1 ?_
  refine o_aloadN (pc' := 5) X1 hx (hb hby d1_4) rfl rfl rfl ?_
  refine o_lloadN (pc' := 6) X1 hx (hb hby d1_5) rfl rfl ?_
  obtain ⟨T2, h2_, X2, e2, W2, st2⟩ := putF X1 hx hZ hown (host := "") (Or.inl (hw _ (List.mem_of_getElem? (i := 9) rfl))) Via.refl e1 F_state E0 (Or.inl (hw _ (List.mem_of_getElem? (i := 10) rfl))) (hw _ (List.mem_of_getElem? (i := 1) rfl)) (ty := .long) (by decide) rfl rfl (g := (mkF m 6 #[.val (.ref a1), .val (.long x1), .second] [(.long x1), (.ref a1)])) rfl rfl (hb hby d1_6)
  refine oGo.step (f' := (mkF m 9 #[.val (.ref a1), .val (.long x1), .second] [])) st2 ?_
  have N2 := Fr.snoc X2 N0 ga
  have F3 := E0.wr W2
  have F4 := F_state.same W2
  have K5 := K0.wr W2 (Or.inl (List.mem_of_getElem? (i := 0) rfl))
  refine o_retV X2 hx hret hlk (hb hby d1_9) (by decide) (by decide) ?_
  rw [e2]
  exact ⟨rfl, N2, K5, F3, F4⟩
theorem d3_0 : decode prog_13_method_2_code 0 = .ok (.aload_n 0, 1) := by decide +kernel
theorem d3_1 : decode prog_13_method_2_code 1 = .ok (.dup, 1) := by decide +kernel
theorem d3_2 : decode prog_13_method_2_code 2 = .ok (.getfield 7, 3) := by decide +kernel
theorem d3_5 : decode prog_13_method_2_code 5 = .ok (.ldc2_w 13, 3) := by decide +kernel
theorem d3_8 : decode prog_13_method_2_code 8 = .ok (.ladd, 1) := by decide +kernel
theorem d3_9 : decode prog_13_method_2_code 9 = .ok (.putfield 7, 3) := by decide +kernel
theorem d3_12 : decode prog_13_method_2_code 12 = .ok (.aload_n 0, 1) := by decide +kernel
theorem d3_13 : decode prog_13_method_2_code 13 = .ok (.getfield 7, 3) := by decide +kernel
theorem d3_16 : decode prog_13_method_2_code 16 = .ok (.lstore_n 1, 1) := by decide +kernel
theorem d3_17 : decode prog_13_method_2_code 17 = .ok (.lload_n 1, 1) := by decide +kernel
theorem d3_18 : decode prog_13_method_2_code 18 = .ok (.lload_n 1, 1) := by decide +kernel
theorem d3_19 : decode prog_13_method_2_code 19 = .ok (.bipush 30, 2) := by decide +kernel
theorem d3_21 : decode prog_13_method_2_code 21 = .ok (.lushr, 1) := by decide +kernel
theorem d3_22 : decode prog_13_method_2_code 22 = .ok (.lxor, 1) := by decide +kernel
theorem d3_23 : decode prog_13_method_2_code 23 = .ok (.ldc2_w 15, 3) := by decide +kernel
theorem d3_26 : decode prog_13_method_2_code 26 = .ok (.lmul, 1) := by decide +kernel
theorem d3_27 : decode prog_13_method_2_code 27 = .ok (.lstore_n 1, 1) := by decide +kernel
theorem d3_28 : decode prog_13_method_2_code 28 = .ok (.lload_n 1, 1) := by decide +kernel
theorem d3_29 : decode prog_13_method_2_code 29 = .ok (.lload_n 1, 1) := by decide +kernel
theorem d3_30 : decode prog_13_method_2_code 30 = .ok (.bipush 27, 2) := by decide +kernel
theorem d3_32 : decode prog_13_method_2_code 32 = .ok (.lushr, 1) := by decide +kernel
theorem d3_33 : decode prog_13_method_2_code 33 = .ok (.lxor, 1) := by decide +kernel
theorem d3_34 : decode prog_13_method_2_code 34 = .ok (.ldc2_w 17, 3) := by decide +kernel
theorem d3_37 : decode prog_13_method_2_code 37 = .ok (.lmul, 1) := by decide +kernel
theorem d3_38 : decode prog_13_method_2_code 38 = .ok (.lstore_n 1, 1) := by decide +kernel
theorem d3_39 : decode prog_13_method_2_code 39 = .ok (.lload_n 1, 1) := by decide +kernel
theorem d3_40 : decode prog_13_method_2_code 40 = .ok (.lload_n 1, 1) := by decide +kernel
theorem d3_41 : decode prog_13_method_2_code 41 = .ok (.bipush 31, 2) := by decide +kernel
theorem d3_43 : decode prog_13_method_2_code 43 = .ok (.lushr, 1) := by decide +kernel
theorem d3_44 : decode prog_13_method_2_code 44 = .ok (.lxor, 1) := by decide +kernel
theorem d3_45 : decode prog_13_method_2_code 45 = .ok (.lreturn, 1) := by decide +kernel
theorem ef3 (m : MethodId) (a1 : Addr) : entryFrame m #[(.ref a1)] 3 = mkF m 0 #[.val (.ref a1), .unset, .unset] [] := by first | (simp [entryFrame, mkF, argsToLocals, Value.category]; done) | rfl
def spec3 (f_state : Int64) : Int64 := ((((((f_state + (-7046029254386353131 : Int64)) ^^^ (XT.ushrL (f_state + (-7046029254386353131 : Int64)) (30 : Int32))) * (-4658895280553007687 : Int64)) ^^^ (XT.ushrL (((f_state + (-7046029254386353131 : Int64)) ^^^ (XT.ushrL (f_state + (-7046029254386353131 : Int64)) (30 : Int32))) * (-4658895280553007687 : Int64)) (27 : Int32))) * (-7723592293110705685 : Int64)) ^^^ (XT.ushrL (((((f_state + (-7046029254386353131 : Int64)) ^^^ (XT.ushrL (f_state + (-7046029254386353131 : Int64)) (30 : Int32))) * (-4658895280553007687 : Int64)) ^^^ (XT.ushrL (((f_state + (-7046029254386353131 : Int64)) ^^^ (XT.ushrL (f_state + (-7046029254386353131 : Int64)) (30 : Int32))) * (-4658895280553007687 : Int64)) (27 : Int32))) * (-7723592293110705685 : Int64)) (31 : Int32)))
def room3 : Room := { frames := 0, cells := 0, slots := 0, locals := 0 }
set_option maxRecDepth 65536 in
set_option maxHeartbeats 40000000 in
theorem rm3 (l : Launch) (Z : State) (a0 : Array Value) (hw : ∀ d ∈ tables_1, d.before a0 Z = true) (a1 : Addr) (f_state : Int64) (h0 : Heap) (n0 : Nat) (Z0 : n0 ≤ h0.size) (E0 : Exa Z h0 a1 "com/example/stratigraph/stratigraph/order/SeededRandom") (F_state : Fld Z h0 a1 "com/example/stratigraph/stratigraph/order/SeededRandom" "state" "J" (.long f_state)) (ga : n0 ≤ a1)  :
    oCon l Z (⟨"com/example/stratigraph/stratigraph/order/SeededRandom", "nextLong", "()J"⟩ : MethodName) prog_13_method_2_code 3 (some .long) room3 #[(.ref a1)] h0 (fun v h L => v = some (.long (spec3 f_state)) ∧ Fr n0 L ∧ Keep h0 h [a1] ∧ Exa Z h a1 "com/example/stratigraph/stratigraph/order/SeededRandom" ∧ Fld Z h a1 "com/example/stratigraph/stratigraph/order/SeededRandom" "state" "J" (.long (f_state + (-7046029254386353131 : Int64)))) := by
  refine oCon.of (plainFor_of_name pn_1) ?_
  intro p e s m below meth c s₁ hx hby hml hown hnm hret hlk hZ X0 e0
  rw [ef3 m a1]
  have N0 := Fr.nil n0
  have K0 := Keep.refl h0 [a1]
  refine o_aloadN (pc' := 1) X0 hx (hb hby d3_0) rfl rfl rfl ?_
  refine o_dup (pc' := 2) X0 hx (hb hby d3_1) rfl rfl ?_
  obtain ⟨T1, X1, e1, st1⟩ := getF X0 hx hZ hown (host := "") (Or.inl (hw _ (List.mem_of_getElem? (i := 9) rfl))) Via.refl e0 F_state (g := (mkF m 2 #[.val (.ref a1), .unset, .unset] [(.ref a1), (.ref a1)])) rfl rfl (hb hby d3_2)
  refine oGo.step (f' := (mkF m 5 #[.val (.ref a1), .unset, .unset] [(.long f_state), (.ref a1)])) st1 ?_
  refine o_ldc2 (pc' := 8) (v := (-7046029254386353131 : Int64)) X1 hx hZ hown (hw _ (List.mem_of_getElem? (i := 16) rfl)) (hb hby d3_5) rfl ?_
  refine o_ladd (pc' := 9) X1 hx (hb hby d3_8)  rfl ?_
  obtain ⟨T2, h2_, X2, e2, W2, st2⟩ := putF X1 hx hZ hown (host := "") (Or.inl (hw _ (List.mem_of_getElem? (i := 9) rfl))) Via.refl e1 F_state E0 (Or.inl (hw _ (List.mem_of_getElem? (i := 10) rfl))) (hw _ (List.mem_of_getElem? (i := 1) rfl)) (ty := .long) (by decide) rfl rfl (g := (mkF m 9 #[.val (.ref a1), .unset, .unset] [(.long (f_state + (-7046029254386353131 : Int64))), (.ref a1)])) rfl rfl (hb hby d3_9)
  refine oGo.step (f' := (mkF m 12 #[.val (.ref a1), .unset, .unset] [])) st2 ?_
  have N2 := Fr.snoc X2 N0 ga
  have F3 := E0.wr W2
  have F4 := F_state.same W2
  have K5 := K0.wr W2 (Or.inl (List.mem_of_getElem? (i := 0) rfl))
  refine o_aloadN (pc' := 13) X2 hx (hb hby d3_12) rfl rfl rfl ?_
  obtain ⟨T6, X6, e6, st6⟩ := getF X2 hx hZ hown (host := "") (Or.inl (hw _ (List.mem_of_getElem? (i := 9) rfl))) Via.refl e2 F4 (g := (mkF m 13 #[.val (.ref a1), .unset, .unset] [(.ref a1)])) rfl rfl (hb hby d3_13)
  refine oGo.step (f' := (mkF m 16 #[.val (.ref a1), .unset, .unset] [(.long (f_state + (-7046029254386353131 : Int64)))])) st6 ?_
  refine o_lstoreN (pc' := 17) (l' := #[.val (.ref a1), .val (.long (f_state + (-7046029254386353131 : Int64))), .second]) X6 hx (hb hby d3_16) rfl rfl ?_
  refine o_lloadN (pc' := 18) X6 hx (hb hby d3_17) rfl rfl ?_
  refine o_lloadN (pc' := 19) X6 hx (hb hby d3_18) rfl rfl ?_
  refine o_bipush (pc' := 21) (v := (30 : Int32)) X6 hx (hb hby d3_19) rfl rfl ?_
  refine o_lushr (pc' := 22) X6 hx (hb hby d3_21)  rfl ?_
  refine o_lxor (pc' := 23) X6 hx (hb hby d3_22)  rfl ?_
  refine o_ldc2 (pc' := 26) (v := (-4658895280553007687 : Int64)) X6 hx hZ hown (hw _ (List.mem_of_getElem? (i := 17) rfl)) (hb hby d3_23) rfl ?_
  refine o_lmul (pc' := 27) X6 hx (hb hby d3_26)  rfl ?_
  refine o_lstoreN (pc' := 28) (l' := #[.val (.ref a1), .val (.long (((f_state + (-7046029254386353131 : Int64)) ^^^ (XT.ushrL (f_state + (-7046029254386353131 : Int64)) (30 : Int32))) * (-4658895280553007687 : Int64))), .second]) X6 hx (hb hby d3_27) rfl rfl ?_
  refine o_lloadN (pc' := 29) X6 hx (hb hby d3_28) rfl rfl ?_
  refine o_lloadN (pc' := 30) X6 hx (hb hby d3_29) rfl rfl ?_
  refine o_bipush (pc' := 32) (v := (27 : Int32)) X6 hx (hb hby d3_30) rfl rfl ?_
  refine o_lushr (pc' := 33) X6 hx (hb hby d3_32)  rfl ?_
  refine o_lxor (pc' := 34) X6 hx (hb hby d3_33)  rfl ?_
  refine o_ldc2 (pc' := 37) (v := (-7723592293110705685 : Int64)) X6 hx hZ hown (hw _ (List.mem_of_getElem? (i := 18) rfl)) (hb hby d3_34) rfl ?_
  refine o_lmul (pc' := 38) X6 hx (hb hby d3_37)  rfl ?_
  refine o_lstoreN (pc' := 39) (l' := #[.val (.ref a1), .val (.long (((((f_state + (-7046029254386353131 : Int64)) ^^^ (XT.ushrL (f_state + (-7046029254386353131 : Int64)) (30 : Int32))) * (-4658895280553007687 : Int64)) ^^^ (XT.ushrL (((f_state + (-7046029254386353131 : Int64)) ^^^ (XT.ushrL (f_state + (-7046029254386353131 : Int64)) (30 : Int32))) * (-4658895280553007687 : Int64)) (27 : Int32))) * (-7723592293110705685 : Int64))), .second]) X6 hx (hb hby d3_38) rfl rfl ?_
  refine o_lloadN (pc' := 40) X6 hx (hb hby d3_39) rfl rfl ?_
  refine o_lloadN (pc' := 41) X6 hx (hb hby d3_40) rfl rfl ?_
  refine o_bipush (pc' := 43) (v := (31 : Int32)) X6 hx (hb hby d3_41) rfl rfl ?_
  refine o_lushr (pc' := 44) X6 hx (hb hby d3_43)  rfl ?_
  refine o_lxor (pc' := 45) X6 hx (hb hby d3_44)  rfl ?_
  refine o_retJ X6 hx hret hlk (hb hby d3_45) (by decide) (by decide) ?_
  rw [e6]
  exact ⟨rfl, N2, K5, F3, F4⟩
theorem ef_0 (m : MethodId) (x0 : Int64) : entryFrame m #[(.long x0)] maxLocals = mkF m 0 #[.val (.long x0), .second, .unset, .unset, .unset, .unset, .unset, .unset, .unset] [] := by first | (simp [entryFrame, mkF, argsToLocals, Value.category, maxLocals]; done) | rfl
theorem pd1 : parseMethodDescriptor "(J)V" = some ⟨[.long], none⟩ := by decide +kernel
theorem pd2 : parseMethodDescriptor "()J" = some ⟨[], (some .long)⟩ := by decide +kernel
def spec0 (x0 : Int64) : Int32 := (if (spec4 (spec3 x0)) = (x0 + (-7046029254386353131 : Int64)) then (if (spec4 (spec3 (x0 + (-7046029254386353131 : Int64)))) = ((x0 + (-7046029254386353131 : Int64)) + (-7046029254386353131 : Int64)) then (1 : Int32) else (0 : Int32)) else (0 : Int32))
theorem own_sh (x : Int64) : (XT.ushrL x 31).toBitVec = x.toBitVec >>> 31 ∧ (XT.ushrL x 62).toBitVec = x.toBitVec >>> 62 ∧ (XT.ushrL x 27).toBitVec = x.toBitVec >>> 27 ∧ (XT.ushrL x 54).toBitVec = x.toBitVec >>> 54 ∧ (XT.ushrL x 30).toBitVec = x.toBitVec >>> 30 ∧ (XT.ushrL x 60).toBitVec = x.toBitVec >>> 60 :=
  ⟨rfl, rfl, rfl, rfl, rfl, rfl⟩
theorem own_unx (z : BitVec 64) (k : Nat) (hk : 64 ≤ 3 * k) : ((z ^^^ z >>> k) ^^^ (z ^^^ z >>> k) >>> k) ^^^ (z ^^^ z >>> k) >>> (k + k) = z := by
  apply BitVec.eq_of_getLsbD_eq
  intro i hi
  simp only [BitVec.getLsbD_xor, BitVec.getLsbD_ushiftRight]
  have e1 : k + (k + i) = k + k + i := by omega
  have e2 : z.getLsbD (k + (k + k + i)) = false := BitVec.getLsbD_of_ge _ _ (by omega)
  rw [e1, e2]
  cases z.getLsbD i <;> cases z.getLsbD (k + i) <;> cases z.getLsbD (k + k + i) <;> rfl
theorem own_un31 (z : Int64) : ((z ^^^ XT.ushrL z 31) ^^^ XT.ushrL (z ^^^ XT.ushrL z 31) 31) ^^^ XT.ushrL (z ^^^ XT.ushrL z 31) 62 = z := by
  apply Int64.toBitVec_inj.mp
  simp only [Int64.toBitVec_xor, (own_sh _).1, (own_sh _).2.1]
  exact own_unx z.toBitVec 31 (by decide)
theorem own_un27 (z : Int64) : ((z ^^^ XT.ushrL z 27) ^^^ XT.ushrL (z ^^^ XT.ushrL z 27) 27) ^^^ XT.ushrL (z ^^^ XT.ushrL z 27) 54 = z := by
  apply Int64.toBitVec_inj.mp
  simp only [Int64.toBitVec_xor, (own_sh _).2.2.1, (own_sh _).2.2.2.1]
  exact own_unx z.toBitVec 27 (by decide)
theorem own_un30 (z : Int64) : ((z ^^^ XT.ushrL z 30) ^^^ XT.ushrL (z ^^^ XT.ushrL z 30) 30) ^^^ XT.ushrL (z ^^^ XT.ushrL z 30) 60 = z := by
  apply Int64.toBitVec_inj.mp
  simp only [Int64.toBitVec_xor, (own_sh _).2.2.2.2.1, (own_sh _).2.2.2.2.2]
  exact own_unx z.toBitVec 30 (by decide)
theorem own_inv1 : (-4658895280553007687 : Int64) * spec5 (-4658895280553007687 : Int64) = 1 := by decide +kernel
theorem own_inv2 : (-7723592293110705685 : Int64) * spec5 (-7723592293110705685 : Int64) = 1 := by decide +kernel
theorem own_mix (u : Int64) : spec4 (spec3 u) = u + (-7046029254386353131 : Int64) := by
  unfold spec4 spec3
  generalize u + (-7046029254386353131 : Int64) = s
  rw [own_un31, Int64.mul_assoc, own_inv2, Int64.mul_one, own_un27, Int64.mul_assoc, own_inv1, Int64.mul_one, own_un30]
theorem own_law (x0 : Int64) : spec0 x0 = 1 := by
  unfold spec0
  rw [if_pos (own_mix x0), if_pos (own_mix _)]
set_option maxRecDepth 65536 in
set_option maxHeartbeats 40000000 in
theorem rm0 (l : Launch) (Z : State) (a0 : Array Value) (hw : ∀ d ∈ tables_1, d.before a0 Z = true) (x0 : Int64) (h0 : Heap) (n0 : Nat) (Z0 : n0 ≤ h0.size)  :
    oCon l Z x code maxLocals ret room_1 #[(.long x0)] h0 (fun v h L => v = some (.int 1) ∧ Fr n0 L) := by
  refine oCon.of (plainFor_of_name pn_5) ?_
  intro p e s m below meth c s₁ hx hby hml hown hnm hret hlk hZ X0 e0
  replace hml : c.maxLocals = 9 := hml
  rw [ef_0 m x0]
  have N0 := Fr.nil n0
  obtain ⟨T1, h1_, X1, e1, E1, A1, D1, -, st1⟩ := newO X0 hx hZ hown (hw _ (List.mem_of_getElem? (i := 0) rfl)) (hw _ (List.mem_of_getElem? (i := 1) rfl)) (hw _ (List.mem_of_getElem? (i := 2) rfl)) e0 (g := (mkF m 0 #[.val (.long x0), .second, .unset, .unset, .unset, .unset, .unset, .unset, .unset] [])) rfl (hb hby at_0) (by decide) (by decide)
  obtain ⟨b1, g1⟩ : ∃ z, z = h0.size := ⟨_, rfl⟩
  rw [← g1] at A1 D1 st1
  have ge2 : n0 ≤ b1 := by rw [g1]; exact Z0
  have K3 := (Keep.refl h0 []).ext E1
  have Z4 := Nat.le_trans Z0 K3.1
  have F5 : Fld Z h1_ b1 "com/example/stratigraph/stratigraph/order/SeededRandom" "state" "J" (.long (0 : Int64)) := D1 (Or.inl (hw _ (List.mem_of_getElem? (i := 10) rfl))) (ty := .long) (by decide)
  refine oGo.step (f' := (mkF m 3 #[.val (.long x0), .second, .unset, .unset, .unset, .unset, .unset, .unset, .unset] [(.ref b1)])) st1 ?_
  refine o_dup (pc' := 4) X1 hx (hb hby at_3) rfl rfl ?_
  refine o_lloadN (pc' := 5) X1 hx (hb hby at_4) rfl rfl ?_
  obtain ⟨r6, T6, L6, X6, hq6, st6⟩ := o_callN X1 hx hZ hown rfl (hw _ (List.mem_of_getElem? (i := 3) rfl)) (hw _ (List.mem_of_getElem? (i := 4) rfl)) (hw _ (List.mem_of_getElem? (i := 2) rfl)) (hw _ (List.mem_of_getElem? (i := 5) rfl)) (by decide) (rm1 l Z a0 hw b1 x0 (0 : Int64) h1_ n0 Z4 A1 F5 ge2) e1 (pc' := 8) (Ls := #[.val (.long x0), .second, .unset, .unset, .unset, .unset, .unset, .unset, .unset]) (by rw [hml]; rfl) [(.long x0)] [(.ref b1)] rfl pd1 rfl rfl 1 (Nat.le_of_eq rfl) (hb hby at_5) rfl (by decide) (by decide) (by decide) (by decide)
  obtain ⟨rfl, N6, Kc6, E6_, F6_state⟩ := hq6
  refine oGo.step (f' := (mkF m 8 #[.val (.long x0), .second, .unset, .unset, .unset, .unset, .unset, .unset, .unset] [(.ref b1)])) st6 ?_
  have N6_ := Fr.app N0 N6
  have K7 := Kc6
  have F8 := A1.keep K7
  have Z10 := Nat.le_trans Z4 K7.1
  have X6 := o_flat X6 rfl rfl
  refine o_astoreN (pc' := 9) (l' := #[.val (.long x0), .second, .val (.ref b1), .unset, .unset, .unset, .unset, .unset, .unset]) X6 hx (hb hby at_8) rfl rfl rfl ?_
  refine o_aloadN (pc' := 10) X6 hx (hb hby at_9) rfl rfl rfl ?_
  obtain ⟨r11, T11, L11, X11, hq11, st11⟩ := o_callV X6 hx hZ hown (hw _ (List.mem_of_getElem? (i := 11) rfl)) (hw _ (List.mem_of_getElem? (i := 12) rfl)) (hw _ (List.mem_of_getElem? (i := 14) rfl)) (hw _ (List.mem_of_getElem? (i := 13) rfl)) (hw _ (List.mem_of_getElem? (i := 2) rfl)) (hw _ (List.mem_of_getElem? (i := 15) rfl)) (by decide) E6_ (rm3 l Z a0 hw b1 x0 T6.heap n0 Z10 E6_ F6_state ge2) (rfl : T6.heap = _) (pc' := 13) (Ls := #[.val (.long x0), .second, .val (.ref b1), .unset, .unset, .unset, .unset, .unset, .unset]) (by rw [hml]; rfl) [] [] rfl pd2 rfl rfl 0 (Nat.le_of_eq rfl) (hb hby at_10) rfl (by decide) (by decide) (by decide) (by decide)
  obtain ⟨rfl, N11, Kc11, E11_, F11_state⟩ := hq11
  refine oGo.step (f' := (mkF m 13 #[.val (.long x0), .second, .val (.ref b1), .unset, .unset, .unset, .unset, .unset, .unset] [(.long (spec3 x0))])) st11 ?_
  have N11_ := Fr.app N6_ N11
  have K12 := Kc11
  have F13 := E6_.keep K12
  have Z15 := Nat.le_trans Z10 K12.1
  have X11 := o_flat X11 rfl rfl
  refine o_lstoreN (pc' := 14) (l' := #[.val (.long x0), .second, .val (.ref b1), .val (.long (spec3 x0)), .second, .unset, .unset, .unset, .unset]) X11 hx (hb hby at_13) rfl rfl ?_
  refine o_aloadN (pc' := 15) X11 hx (hb hby at_14) rfl rfl rfl ?_
  obtain ⟨r16, T16, L16, X16, hq16, st16⟩ := o_callV X11 hx hZ hown (hw _ (List.mem_of_getElem? (i := 11) rfl)) (hw _ (List.mem_of_getElem? (i := 12) rfl)) (hw _ (List.mem_of_getElem? (i := 14) rfl)) (hw _ (List.mem_of_getElem? (i := 13) rfl)) (hw _ (List.mem_of_getElem? (i := 2) rfl)) (hw _ (List.mem_of_getElem? (i := 15) rfl)) (by decide) E11_ (rm3 l Z a0 hw b1 (x0 + (-7046029254386353131 : Int64)) T11.heap n0 Z15 E11_ F11_state ge2) (rfl : T11.heap = _) (pc' := 18) (Ls := #[.val (.long x0), .second, .val (.ref b1), .val (.long (spec3 x0)), .second, .unset, .unset, .unset, .unset]) (by rw [hml]; rfl) [] [] rfl pd2 rfl rfl 0 (Nat.le_of_eq rfl) (hb hby at_15) rfl (by decide) (by decide) (by decide) (by decide)
  obtain ⟨rfl, N16, Kc16, E16_, F16_state⟩ := hq16
  refine oGo.step (f' := (mkF m 18 #[.val (.long x0), .second, .val (.ref b1), .val (.long (spec3 x0)), .second, .unset, .unset, .unset, .unset] [(.long (spec3 (x0 + (-7046029254386353131 : Int64))))])) st16 ?_
  have N16_ := Fr.app N11_ N16
  have K17 := Kc16
  have F18 := E11_.keep K17
  have Z20 := Nat.le_trans Z15 K17.1
  have X16 := o_flat X16 rfl rfl
  refine o_lstore (pc' := 20) (l' := #[.val (.long x0), .second, .val (.ref b1), .val (.long (spec3 x0)), .second, .val (.long (spec3 (x0 + (-7046029254386353131 : Int64)))), .second, .unset, .unset]) X16 hx (hb hby at_18) rfl rfl ?_
  refine o_ldc2 (pc' := 23) (v := (-7046029254386353131 : Int64)) X16 hx hZ hown (hw _ (List.mem_of_getElem? (i := 19) rfl)) (hb hby at_20) rfl ?_
  refine o_lstore (pc' := 25) (l' := #[.val (.long x0), .second, .val (.ref b1), .val (.long (spec3 x0)), .second, .val (.long (spec3 (x0 + (-7046029254386353131 : Int64)))), .second, .val (.long (-7046029254386353131 : Int64)), .second]) X16 hx (hb hby at_23) rfl rfl ?_
  refine o_lloadN (pc' := 26) X16 hx (hb hby at_25) rfl rfl ?_
  obtain ⟨r21, T21, L21, X21, hq21, st21⟩ := o_callS X16 hx hZ hown (hw _ (List.mem_of_getElem? (i := 20) rfl)) (hw _ (List.mem_of_getElem? (i := 21) rfl)) (hw _ (List.mem_of_getElem? (i := 22) rfl)) (hw _ (List.mem_of_getElem? (i := 23) rfl)) (by decide) (rm4 l Z a0 hw (spec3 x0)  T16.heap n0 Z20 ) (rfl : T16.heap = _) (pc' := 29) (Ls := #[.val (.long x0), .second, .val (.ref b1), .val (.long (spec3 x0)), .second, .val (.long (spec3 (x0 + (-7046029254386353131 : Int64)))), .second, .val (.long (-7046029254386353131 : Int64)), .second]) (by rw [hml]; rfl) [(.long (spec3 x0))] [] rfl pd0 rfl rfl 0 (Nat.le_of_eq rfl) (hb hby at_26) rfl (by decide) (by decide) (by decide) (by decide)
  obtain ⟨rfl, rfl, Kc21⟩ := hq21
  refine oGo.step (f' := (mkF m 29 #[.val (.long x0), .second, .val (.ref b1), .val (.long (spec3 x0)), .second, .val (.long (spec3 (x0 + (-7046029254386353131 : Int64)))), .second, .val (.long (-7046029254386353131 : Int64)), .second] [(.long (spec4 (spec3 x0)))])) st21 ?_
  have e21 : T21.heap = T16.heap := Kc21
  have X21 := o_same X21 rfl rfl
  refine o_lloadN (pc' := 30) X21 hx (hb hby at_29) rfl rfl ?_
  refine o_lload (pc' := 32) X21 hx (hb hby at_30) rfl rfl ?_
  refine o_ladd (pc' := 33) X21 hx (hb hby at_32)  rfl ?_
  refine o_lcmp (pc' := 34) X21 hx (hb hby at_33)  rfl ?_
  have J23 : ∀ (T27 : State) (X27 : Stand p l e room_1 s m #[(.long x0)] below meth c T27 ((([] ++ L6) ++ L11) ++ L16) (0 + 1) (0 + 1)) (e27 : T27.heap = T16.heap) (v26 : Int32), v26 = (if (spec4 (spec3 x0)) = (x0 + (-7046029254386353131 : Int64)) then (if (spec4 (spec3 (x0 + (-7046029254386353131 : Int64)))) = ((x0 + (-7046029254386353131 : Int64)) + (-7046029254386353131 : Int64)) then (1 : Int32) else (0 : Int32)) else (0 : Int32)) → oGo p e below (oG s (fun v h L => v = some (.int 1) ∧ Fr n0 L) room_1.cells room_1.slots) T27 (mkF m 58 #[.val (.long x0), .second, .val (.ref b1), .val (.long (spec3 x0)), .second, .val (.long (spec3 (x0 + (-7046029254386353131 : Int64)))), .second, .val (.long (-7046029254386353131 : Int64)), .second] [(.int v26)]) := by
    intro T27 X27 e27 v26 hv26
    refine o_retZ X27 hx hret hlk (hb hby at_58) (by rw [hv26]; (repeat' split) <;> (first | rfl | assumption)) (by decide) (by decide) ?_
    subst hv26
    exact ⟨congrArg (fun z => some (Value.int z)) ((show _ = spec0 x0 from (rfl).symm).trans (own_law x0 )), N16_⟩
  by_cases c22 : (spec4 (spec3 x0)) = (x0 + (-7046029254386353131 : Int64))
  · refine o_ifF (pc' := 37) X21 hx (hb hby at_34) (XT.ll_ne_f c22) rfl ?_
    refine o_lload (pc' := 39) X21 hx (hb hby at_37) rfl rfl ?_
    obtain ⟨r24, T24, L24, X24, hq24, st24⟩ := o_callS X21 hx hZ hown (hw _ (List.mem_of_getElem? (i := 20) rfl)) (hw _ (List.mem_of_getElem? (i := 21) rfl)) (hw _ (List.mem_of_getElem? (i := 22) rfl)) (hw _ (List.mem_of_getElem? (i := 23) rfl)) (by decide) (rm4 l Z a0 hw (spec3 (x0 + (-7046029254386353131 : Int64)))  T16.heap n0 Z20 ) e21 (pc' := 42) (Ls := #[.val (.long x0), .second, .val (.ref b1), .val (.long (spec3 x0)), .second, .val (.long (spec3 (x0 + (-7046029254386353131 : Int64)))), .second, .val (.long (-7046029254386353131 : Int64)), .second]) (by rw [hml]; rfl) [(.long (spec3 (x0 + (-7046029254386353131 : Int64))))] [] rfl pd0 rfl rfl 0 (Nat.le_of_eq rfl) (hb hby at_39) rfl (by decide) (by decide) (by decide) (by decide)
    obtain ⟨rfl, rfl, Kc24⟩ := hq24
    refine oGo.step (f' := (mkF m 42 #[.val (.long x0), .second, .val (.ref b1), .val (.long (spec3 x0)), .second, .val (.long (spec3 (x0 + (-7046029254386353131 : Int64)))), .second, .val (.long (-7046029254386353131 : Int64)), .second] [(.long (spec4 (spec3 (x0 + (-7046029254386353131 : Int64)))))])) st24 ?_
    have e24 : T24.heap = T16.heap := Kc24
    have X24 := o_same X24 rfl rfl
    refine o_lloadN (pc' := 43) X24 hx (hb hby at_42) rfl rfl ?_
    refine o_lload (pc' := 45) X24 hx (hb hby at_43) rfl rfl ?_
    refine o_ladd (pc' := 46) X24 hx (hb hby at_45)  rfl ?_
    refine o_lload (pc' := 48) X24 hx (hb hby at_46) rfl rfl ?_
    refine o_ladd (pc' := 49) X24 hx (hb hby at_48)  rfl ?_
    refine o_lcmp (pc' := 50) X24 hx (hb hby at_49)  rfl ?_
    by_cases c25 : (spec4 (spec3 (x0 + (-7046029254386353131 : Int64)))) = ((x0 + (-7046029254386353131 : Int64)) + (-7046029254386353131 : Int64))
    · refine o_ifF (pc' := 53) X24 hx (hb hby at_50) (XT.ll_ne_f c25) rfl ?_
      refine o_iconst (pc' := 54) (v := (1 : Int32)) X24 hx (hb hby at_53) rfl rfl ?_
      refine o_goto (pc' := 58) X24 hx (hb hby at_54) (by decide) (by decide) ?_
      exact J23 T24 X24 e24 _ ((if_pos c22).trans (if_pos c25)).symm
    · refine o_ifT (pc' := 57) X24 hx (hb hby at_50) (XT.ll_ne_t c25) (by decide) (by decide) ?_
      refine o_iconst (pc' := 58) (v := (0 : Int32)) X24 hx (hb hby at_57) rfl rfl ?_
      exact J23 T24 X24 e24 _ ((if_pos c22).trans (if_neg c25)).symm
  · refine o_ifT (pc' := 57) X21 hx (hb hby at_34) (XT.ll_ne_t c22) (by decide) (by decide) ?_
    refine o_iconst (pc' := 58) (v := (0 : Int32)) X21 hx (hb hby at_57) rfl rfl ?_
    exact J23 T21 X21 e21 _ (if_neg c22).symm
set_option maxRecDepth 65536 in
set_option maxHeartbeats 40000000 in
theorem comes_1 {Post : Tables → Env → Array Value → State → Outcome → State → Prop} (hpost : ∀ tb e args s v u, (limb_1_1.after args s (.returned v) u = true ∧ limb_1_2.after args s (.returned v) u = true ∧ True) → FrameEnd s (.returned v) u (Jvm.fieldLocs frame_1_writes args s ++ Jvm.arrayLocs frame_1_arrays args s ++ Jvm.staticLocs frame_1_statics s) 16 128 → Post tb e args s (.returned v) u) :
    ArmFor flags0 classFile x code maxLocals ret World_1 tables_1 room_1 Calls_1 rest_1 Pre_1 Post := by
  intro l hfl _ _ p e ha hc hk s m args below hf hA hF happ hP
  obtain ⟨hcalls, hrest, hpre⟩ := hP
  obtain ⟨-, -, -, hnamed, -, -, -, hat⟩ := (Spec.applies_iff hf).mp happ
  obtain ⟨hg, hn⟩ := and_e (Cond.before_iff.mp (show (Jvm.Cond.and given_1 narrow_1).before args s = true from hpre))
  obtain ⟨hcount, q0⟩ := and_e hg
  obtain ⟨w0, rfl⟩ : ∃ w0 : Value, args = #[w0] := by
    have hs : args.size = 1 := by simpa [Cond.value, given_1] using hcount
    obtain ⟨L⟩ := args
    match L, hs with
    | [w0], _ => exact ⟨w0, rfl⟩
  have hw := fun d (hd : d ∈ tables_1) => atoms_spec (ws := Jvm.Cond.code x code maxLocals ret :: tables_1) hat d (List.mem_cons_of_mem _ hd)
  have hfit : Fit s := fun {y c} hc i hi => by
    obtain ⟨ha, rfl⟩ := Array.getElem?_eq_some_iff.mp hc
    have q := List.all_eq_true.mp ((Array.all_eq_true_iff_forall_mem.mp hF) _ (Array.getElem_mem ha)) i (List.mem_range.mpr hi)
    simpa [Array.getElem?_eq_getElem hi] using q
  obtain ⟨x0, e0⟩ := isL_v q0
  obtain rfl : w0 = (.long x0) := Option.some.inj e0
  obtain ⟨n, o, h1, h2, h3, _, L, rfl, ⟨rfl, N⟩, hq⟩ := rm0 l s _ hw x0  s.heap s.heap.size (Nat.le_refl _)  tables_1 p e ha hc hk s m _ below hf ((Spec.applies_iff_loose hf).mp happ).1 ⟨rfl, State.Warmed39.refl s, rfl⟩ trivial
  refine ⟨n, _, h1, h2, h3, hpost _ _ _ _ _ _ ⟨Cond.after_iff.mpr rfl, Cond.after_iff.mpr (eq_i res_at (Term.int_eval (1)) rfl), trivial⟩ ⟨hq.1, hq.2.1, (hq.2.2.sift fun y hy => Or.inr (N y hy)).mono (by decide) (by decide)⟩⟩
theorem main_1_1 : Claimed_1_1 := comes_1 fun _ _ _ _ _ _ h hF => ⟨h.1, hF⟩
theorem main_1_2 : Claimed_1_2 := comes_1 fun _ _ _ _ _ _ h hF => ⟨h.2.1, hF⟩
end Jvm.Pilot.@@N@@
namespace Jvm.Pilot.@@N@@
open Jvm Jvm.ClassFile Sem Op Lib Jvm.Free Jvm.Stand Jvm.Pilot.@@N@@.Jvm.D
/-! MADE BY PROGRAM (witnessworld.py) out of the Statement's table words and the real class files: 9 classes; the members and pool entries that the words name. The judged class is class 1, her method 3. -/
namespace start1
open Jvm.ClassFile
def u (s : String) : CpInfo := .utf8 (stringToUtf16 s)
/-- a pool by its gaps: so many unusable entries, then the entry; so many at the end -/
def gap : Nat → List CpInfo → List CpInfo
  | 0, r => r
  | n + 1, r => .unusable :: gap n r
def poolList (es : List (Nat × CpInfo)) (last : Nat) : List CpInfo := es.foldr (fun e r => gap e.1 (e.2 :: r)) (gap last [])
def pool (es : List (Nat × CpInfo)) (last : Nat) : Array CpInfo := ⟨poolList es last⟩
def fileOf (pool : Array CpInfo) (this : Nat) (attrs : Array Attribute := #[]) (ms : Array MethodInfo := #[]) (fl : Nat := 33) (sup : Nat := 0) (ifs : Array Nat := #[]) (fds : Array FieldInfo := #[]) : ClassFile where
  minorVersion := 0
  majorVersion := 65
  constantPool := pool
  accessFlags := fl
  thisClass := this
  superClass := sup
  interfaces := ifs
  fields := fds
  methods := ms
  attributes := attrs
def plain (name : String) (sup : Option ClassId) : Class where
  name := name
  kind := .ordinary
  loader := none
  accessFlags := 33
  super := sup
  interfaces := #[]
  cf := none
  fields := #[]
  methods := #[]
  instanceTypes := #[]
  staticTypes := #[]
  resolved := #[]
  callSites := []
  init := .initialized
  statics := none
  mirror := none

def pool0 : Array CpInfo := pool [(5, u "<init>"), (0, u "()V"), (1, .class_ 10), (1, u "java/lang/Object")] 113

def k0c0 : Code := { maxStack := 0, maxLocals := 1, code := object_method_1_code, exceptionTable := #[], attributes := #[] }
def k0m0 : Method := { name := "<init>", desc := "()V", sig := { parameters := [], returnType := none }, accessFlags := 1, code := some k0c0 }
/-- java/lang/Object -/
def k0 : Class := { plain "java/lang/Object" none with
  accessFlags := 33
  interfaces := #[]
  cf := some (fileOf pool0 8 #[] #[{ accessFlags := 1, nameIndex := 5, descriptorIndex := 6, attributes := #[] }] 33 0 #[] #[])
  fields := #[]
  methods := #[k0m0]
  instanceTypes := #[]
  staticTypes := #[]
  resolved := Array.replicate 124 none
  statics := none }

def pool1 : Array CpInfo := pool [(2, .class_ 4), (1, u "java/lang/Object"), (0, u "<init>"), (0, u "()V"), (0, .long 2), (1, .long 10723151780598845931), (1, .methodref 12 13), (0, .class_ 14), (0, .nameAndType 15 16), (0, u "com/example/stratigraph/stratigraph/order/SeededRandomNextLongPinLaw"), (0, u "inverse"), (0, u "(J)J"), (0, .long 13787848793156543929), (1, .class_ 20), (0, u "com/example/stratigraph/stratigraph/order/SeededRandom"), (0, .methodref 19 22), (0, .nameAndType 5 23), (0, u "(J)V"), (0, .methodref 19 25), (0, .nameAndType 26 27), (0, u "nextLong"), (0, u "()J"), (0, .long 11400714819323198485), (1, .methodref 12 31), (0, .nameAndType 32 16), (0, u "unmix"), (2, u "law"), (0, u "(J)Z")] 3

def k1m0 : Method := { name := "<init>", desc := "()V", sig := { parameters := [], returnType := none }, accessFlags := 2, code := none }
def k1c1 : Code := { maxStack := 8, maxLocals := 4, code := method_2_code, exceptionTable := #[], attributes := #[] }
def k1m1 : Method := { name := "inverse", desc := "(J)J", sig := { parameters := [.long], returnType := some .long }, accessFlags := 10, code := some k1c1 }
def k1c2 : Code := { maxStack := 5, maxLocals := 10, code := method_3_code, exceptionTable := #[], attributes := #[] }
def k1m2 : Method := { name := "unmix", desc := "(J)J", sig := { parameters := [.long], returnType := some .long }, accessFlags := 10, code := some k1c2 }
def k1c3 : Code := { maxStack := 6, maxLocals := 9, code := code, exceptionTable := #[], attributes := #[] }
def k1m3 : Method := { name := "law", desc := "(J)Z", sig := { parameters := [.long], returnType := some .boolean }, accessFlags := 9, code := some k1c3 }
/-- com/example/stratigraph/stratigraph/order/SeededRandomNextLongPinLaw -/
def k1 : Class := { plain "com/example/stratigraph/stratigraph/order/SeededRandomNextLongPinLaw" (some 0) with
  accessFlags := 49
  interfaces := #[]
  cf := some (fileOf pool1 12 #[] #[{ accessFlags := 2, nameIndex := 5, descriptorIndex := 6, attributes := #[] }, { accessFlags := 10, nameIndex := 15, descriptorIndex := 16, attributes := #[] }, { accessFlags := 10, nameIndex := 32, descriptorIndex := 16, attributes := #[] }, { accessFlags := 9, nameIndex := 35, descriptorIndex := 36, attributes := #[] }] 49 2 #[] #[])
  fields := #[]
  methods := #[k1m0, k1m1, k1m2, k1m3]
  instanceTypes := #[]
  staticTypes := #[]
  resolved := Array.replicate 40 none
  statics := none }

def pool2 : Array CpInfo := pool [(1, .methodref 2 3), (0, .class_ 4), (0, .nameAndType 5 6), (0, u "java/lang/Object"), (0, u "<init>"), (0, u "()V"), (0, .fieldref 8 9), (0, .class_ 10), (0, .nameAndType 11 12), (0, u "com/example/stratigraph/stratigraph/order/SeededRandom"), (0, u "state"), (0, u "J"), (0, .long 11400714819323198485), (1, .long 13787848793156543929), (1, .long 10723151780598845931), (3, u "nextLong"), (0, u "()J"), (10, u "GOLDEN_GAMMA"), (1, u "(J)V")] 9

def k2c0 : Code := { maxStack := 3, maxLocals := 3, code := prog_13_method_1_code, exceptionTable := #[], attributes := #[] }
def k2m0 : Method := { name := "<init>", desc := "(J)V", sig := { parameters := [.long], returnType := none }, accessFlags := 1, code := some k2c0 }
def k2c1 : Code := { maxStack := 5, maxLocals := 3, code := prog_13_method_2_code, exceptionTable := #[], attributes := #[] }
def k2m1 : Method := { name := "nextLong", desc := "()J", sig := { parameters := [], returnType := some .long }, accessFlags := 0, code := some k2c1 }
/-- com/example/stratigraph/stratigraph/order/SeededRandom -/
def k2 : Class := { plain "com/example/stratigraph/stratigraph/order/SeededRandom" (some 0) with
  accessFlags := 49
  interfaces := #[]
  cf := some (fileOf pool2 8 #[] #[{ accessFlags := 1, nameIndex := 5, descriptorIndex := 35, attributes := #[] }, { accessFlags := 0, nameIndex := 21, descriptorIndex := 22, attributes := #[] }] 49 2 #[] #[{ accessFlags := 26, nameIndex := 33, descriptorIndex := 12, attributes := #[] }, { accessFlags := 2, nameIndex := 11, descriptorIndex := 12, attributes := #[] }])
  fields := #[{ name := "GOLDEN_GAMMA", type := .long, accessFlags := 26, slot := 0, constantValue := 0 }, { name := "state", type := .long, accessFlags := 2, slot := 0, constantValue := 0 }]
  methods := #[k2m0, k2m1]
  instanceTypes := #[.long]
  staticTypes := #[.long]
  resolved := Array.replicate 45 none
  statics := none }

def pool3 : Array CpInfo := pool [(1, u "java/lang/Cloneable"), (0, .class_ 1), (0, u "java/lang/Object"), (0, .class_ 3)] 3

/-- java/lang/Cloneable -/
def k3 : Class := { plain "java/lang/Cloneable" (some 0) with
  accessFlags := 1537
  interfaces := #[]
  cf := some (fileOf pool3 2 #[] #[] 1537 4 #[] #[])
  fields := #[]
  methods := #[]
  instanceTypes := #[]
  staticTypes := #[]
  resolved := Array.replicate 8 none
  statics := none }

def pool4 : Array CpInfo := pool [(1, u "java/io/Serializable"), (0, .class_ 1), (0, u "java/lang/Object"), (0, .class_ 3)] 3

/-- java/io/Serializable -/
def k4 : Class := { plain "java/io/Serializable" (some 0) with
  accessFlags := 1537
  interfaces := #[]
  cf := some (fileOf pool4 2 #[] #[] 1537 4 #[] #[])
  fields := #[]
  methods := #[]
  instanceTypes := #[]
  staticTypes := #[]
  resolved := Array.replicate 8 none
  statics := none }

/-- the primitive byte -/
def k5 : Class := { plain "byte" none with kind := .primitive 'B', accessFlags := 0x411 }
/-- [B -/
def k6 : Class := { plain "[B" (some 0) with kind := .array 5 .byte, interfaces := #[3, 4], accessFlags := 1041 }

/-- the primitive int -/
def k7 : Class := { plain "int" none with kind := .primitive 'I', accessFlags := 0x411 }
/-- [I -/
def k8 : Class := { plain "[I" (some 0) with kind := .array 7 .int, interfaces := #[3, 4], accessFlags := 1041 }

def heap : Heap := #[]
def classes : Array Class := #[k0, k1, k2, k3, k4, k5, k6, k7, k8]
def interned : List (Array UInt16 × Addr) := []
def slotsUsed : Nat := 0
def theMethod : MethodId := ⟨1, 3⟩
def args0 : Array Value := #[.long 5]
def aboutOver (below : List Frame) : State where
  vm := { classes := classes, interned := interned.toArray }
  heap := heap
  slotsUsed := slotsUsed
  threads := #[{ frames := .invoking theMethod args0 :: below }]
def below0 : List Frame := [.native { method := ⟨0, 0⟩, args := #[] }]
def about1 : State := aboutOver below0
def p0 : Program := .bare "" "" ""
def e0 : Env := launch0.env 0 0 0
theorem w_frames : about1.frames = Frame.invoking theMethod args0 :: below0 := rfl
set_option maxRecDepth 65536 in
theorem w_args : argsFit about1.vm theMethod args0 = true := by decide +kernel
set_option maxRecDepth 65536 in
theorem w_heap : heapFits about1 = true := by decide +kernel
set_option maxRecDepth 65536 in
theorem w_runnable : about1.curStatus? = some .runnable := by decide +kernel
set_option maxRecDepth 65536 in
theorem w_alone : about1.alone = true := by decide +kernel
set_option maxRecDepth 65536 in
theorem w_named : about1.methodNamed? x = some theMethod := by decide +kernel
set_option maxRecDepth 65536 in
theorem w_hears : about1.hears theMethod below0 = true := by decide +kernel
set_option maxRecDepth 65536 in
theorem w_ripe : about1.ripe theMethod args0 below0 = true := by decide +kernel
theorem w_running : about1.status = .running := rfl
set_option maxRecDepth 65536 in
theorem w_room : about1.hasRoom e0.platform room_1 = true :=
  launch0.hasRoom_least _ room_1 (by decide +kernel) (by decide +kernel) (by decide +kernel) (by decide +kernel) (by decide +kernel) (by decide +kernel)
theorem allAtoms_all (ts : List Jvm.Cond) (a : Array Jvm.Value) (st : Jvm.State) : (allAtoms ts).before a st = ts.all (fun c => c.before a st) := by
  induction ts with
  | nil => rfl
  | cons c t ih =>
    show (Jvm.Cond.and c (allAtoms t)).before a st = _
    rw [Jvm.Cond.before_and, ih, List.all_cons]
def words1 : List Jvm.Cond := Jvm.Cond.code x code maxLocals ret :: tables_1
/-- a 'code' word, met by the world's own term for the bytes: nothing is compared byte by byte -/
theorem code_word {y : MethodName} {bytes : ByteArray} {mx : Nat} {rt : Option FieldType} {a : Array Value} {s : State} {m : MethodId} {meth : Method} {c : Code} (h1 : s.methodNamed? y = some m) (h2 : s.vm.method? m = some meth) (h3 : meth.code = some c) (h4 : c.code = bytes)
    (h5 : (c.maxLocals == mx && c.exceptionTable.isEmpty && decide (c.maxStack ≤ mostOperands) && decide (meth.sig.returnType = rt) && !meth.locks && decide (parseMethodDescriptor y.desc = some meth.sig)) = true) : (Jvm.Cond.code y bytes mx rt).before a s = true := by
  simp only [Bool.and_eq_true, beq_iff_eq, Bool.not_eq_true', decide_eq_true_eq] at h5
  obtain ⟨⟨⟨⟨⟨g1, g2⟩, g3⟩, g4⟩, g5⟩, g6⟩ := h5
  simp [Cond.before, Cond.holds, Cond.value, h1, h2, h3, h4, g1, g2, g3, g4, g5, g6]
def isCode : Jvm.Cond → Bool
  | .code _ _ _ _ => true
  | _ => false
theorem all_split {L : List Jvm.Cond} {P : Jvm.Cond → Bool} (h1 : L.all (fun c => isCode c || P c) = true) (h2 : ∀ c ∈ L.filter isCode, P c = true) : L.all P = true := by
  refine List.all_eq_true.mpr fun c hc => ?_
  have h := List.all_eq_true.mp h1 c hc
  rcases Bool.eq_false_or_eq_true (isCode c) with hi | hi
  · exact h2 c (List.mem_filter.mpr ⟨hc, hi⟩)
  · simpa [hi] using h
set_option maxRecDepth 65536 in
theorem w_c0 : (Jvm.Cond.code x code maxLocals ret).before args0 about1 = true := code_word (m := ⟨1, 3⟩) (meth := k1m3) (c := k1c3) (by decide +kernel) rfl rfl rfl (by decide +kernel)
set_option maxRecDepth 65536 in
theorem w_c1 : (Jvm.Cond.code ({ cls := "com/example/stratigraph/stratigraph/order/SeededRandom", name := "<init>", desc := "(J)V" } : Jvm.MethodName) prog_13_method_1_code (3 : Nat) (Option.none : Option Jvm.ClassFile.FieldType)).before args0 about1 = true := code_word (m := ⟨2, 0⟩) (meth := k2m0) (c := k2c0) (by decide +kernel) rfl rfl rfl (by decide +kernel)
set_option maxRecDepth 65536 in
theorem w_c2 : (Jvm.Cond.code ({ cls := "java/lang/Object", name := "<init>", desc := "()V" } : Jvm.MethodName) object_method_1_code (1 : Nat) (Option.none : Option Jvm.ClassFile.FieldType)).before args0 about1 = true := code_word (m := ⟨0, 0⟩) (meth := k0m0) (c := k0c0) (by decide +kernel) rfl rfl rfl (by decide +kernel)
set_option maxRecDepth 65536 in
theorem w_c3 : (Jvm.Cond.code ({ cls := "com/example/stratigraph/stratigraph/order/SeededRandom", name := "nextLong", desc := "()J" } : Jvm.MethodName) prog_13_method_2_code (3 : Nat) (Option.some Jvm.ClassFile.FieldType.long)).before args0 about1 = true := code_word (m := ⟨2, 1⟩) (meth := k2m1) (c := k2c1) (by decide +kernel) rfl rfl rfl (by decide +kernel)
set_option maxRecDepth 65536 in
theorem w_c4 : (Jvm.Cond.code ({ cls := "com/example/stratigraph/stratigraph/order/SeededRandomNextLongPinLaw", name := "unmix", desc := "(J)J" } : Jvm.MethodName) method_3_code (10 : Nat) (Option.some Jvm.ClassFile.FieldType.long)).before args0 about1 = true := code_word (m := ⟨1, 2⟩) (meth := k1m2) (c := k1c2) (by decide +kernel) rfl rfl rfl (by decide +kernel)
set_option maxRecDepth 65536 in
theorem w_c5 : (Jvm.Cond.code ({ cls := "com/example/stratigraph/stratigraph/order/SeededRandomNextLongPinLaw", name := "inverse", desc := "(J)J" } : Jvm.MethodName) method_2_code (4 : Nat) (Option.some Jvm.ClassFile.FieldType.long)).before args0 about1 = true := code_word (m := ⟨1, 1⟩) (meth := k1m1) (c := k1c1) (by decide +kernel) rfl rfl rfl (by decide +kernel)
def codes1 : List Jvm.Cond := [Jvm.Cond.code x code maxLocals ret, Jvm.Cond.code ({ cls := "com/example/stratigraph/stratigraph/order/SeededRandom", name := "<init>", desc := "(J)V" } : Jvm.MethodName) prog_13_method_1_code (3 : Nat) (Option.none : Option Jvm.ClassFile.FieldType), Jvm.Cond.code ({ cls := "java/lang/Object", name := "<init>", desc := "()V" } : Jvm.MethodName) object_method_1_code (1 : Nat) (Option.none : Option Jvm.ClassFile.FieldType), Jvm.Cond.code ({ cls := "com/example/stratigraph/stratigraph/order/SeededRandom", name := "nextLong", desc := "()J" } : Jvm.MethodName) prog_13_method_2_code (3 : Nat) (Option.some Jvm.ClassFile.FieldType.long), Jvm.Cond.code ({ cls := "com/example/stratigraph/stratigraph/order/SeededRandomNextLongPinLaw", name := "unmix", desc := "(J)J" } : Jvm.MethodName) method_3_code (10 : Nat) (Option.some Jvm.ClassFile.FieldType.long), Jvm.Cond.code ({ cls := "com/example/stratigraph/stratigraph/order/SeededRandomNextLongPinLaw", name := "inverse", desc := "(J)J" } : Jvm.MethodName) method_2_code (4 : Nat) (Option.some Jvm.ClassFile.FieldType.long)]
set_option maxRecDepth 65536 in
theorem codes_eq : words1.filter isCode = codes1 := rfl
theorem w_codes : ∀ c ∈ words1.filter isCode, c.before args0 about1 = true := by
  rw [codes_eq]
  intro c hc
  simp only [codes1, List.mem_cons, List.not_mem_nil, or_false] at hc
  rcases hc with rfl | rfl | rfl | rfl | rfl | rfl
  · exact w_c0
  · exact w_c1
  · exact w_c2
  · exact w_c3
  · exact w_c4
  · exact w_c5
set_option maxRecDepth 65536 in
theorem w_t1 : (words1.take 24).all (fun c => isCode c || c.before args0 about1) = true := by decide +kernel
set_option maxRecDepth 65536 in
theorem w_t2 : (words1.drop 24).all (fun c => isCode c || c.before args0 about1) = true := by decide +kernel
theorem w_tables : (allAtoms (Jvm.Cond.code x code maxLocals ret :: tables_1)).before args0 about1 = true := by
  rw [allAtoms_all]
  show words1.all (fun c => c.before args0 about1) = true
  refine all_split ?_ w_codes
  rw [← List.take_append_drop 24 words1, List.all_append, w_t1, w_t2]
  rfl
set_option maxRecDepth 65536 in
theorem w_case : (Jvm.Cond.and given_1 narrow_1).before args0 about1 = true := by decide +kernel
theorem w_applies : (headSpec (Jvm.Cond.code x code maxLocals ret :: tables_1) room_1).applies x e0.platform about1 = true :=
  (Spec.applies_iff w_frames).mpr ⟨w_running, w_runnable, w_alone, w_named, w_hears, w_ripe, w_room, w_tables⟩
theorem atStart : AtStart classFile x code maxLocals ret World_1 tables_1 room_1 Calls_1 rest_1 Pre_1 launch0 p0 e0 about1 theMethod args0 below0 :=
  ⟨lists_1, trivial, launch0.admits_env _ _ _, launch0.least_env, fairChoices_fair.cas, fairChoices_fair.clock, w_frames, w_args, w_heap, w_applies, trivial, trivial, w_case⟩
end start1
theorem witness_1 : WitnessClaimed_1 := ⟨start1.p0, start1.e0, start1.about1, start1.theMethod, start1.args0, start1.below0, start1.atStart⟩
end Jvm.Pilot.@@N@@
