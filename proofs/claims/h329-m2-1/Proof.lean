import JvmDerived
import JvmDerived.Pilot.@@N@@Statement
import JvmDerived.Pilot.@@N@@Code
set_option linter.unusedVariables false
set_option linter.unusedSimpArgs false
namespace Jvm.Pilot.@@N@@
open Jvm Jvm.ClassFile Sem Op Lib Jvm.Free Jvm.Stand Jvm.LawKit Jvm.RoadKit Bundle Jvm.Pilot.@@N@@.Jvm.D
section OwnKit
variable {p : Program} {l : Launch} {e : Env} {R : Room} {s : State} {m : MethodId} {args : Array Value} {below : List Frame} {meth : Method} {c : Code} {T : State} {locs : List Loc} {cells slots : Nat} {Z : State} {a0 : Array Value} {h : Heap} {G : Outcome → State → Prop}
def oGo (p : Program) (e : Env) (below : List Frame) (G : Outcome → State → Prop) (T : State) (f : JFrame) : Prop :=
  ∃ s₂ o, Steps p.tables e below (T.setTop f) s₂ ∧ s₂.status = .running ∧ Ended s₂ below o ∧ G o s₂
theorem oGo.step {T' : State} {f f' : JFrame} (st : ∀ t, Steps p.tables e below (T'.setTop f') t → Steps p.tables e below (T.setTop f) t) (k : oGo p e below G T' f') : oGo p e below G T f := by
  obtain ⟨s₂, o, h1, h2⟩ := k
  exact ⟨s₂, o, st _ h1, h2⟩
def oG (s : State) (Q : Option Value → Heap → List Loc → Prop) (C N : Nat) : Outcome → State → Prop := fun o U' => ∃ v L, o = .returned v ∧ Q v U'.heap L ∧ FrameEnd s o U' L C N
def oCon (l : Launch) (Z : State) (y : MethodName) (bytes : ByteArray) (maxL : Nat) (ret : Option FieldType) (rm : Room) (as' : Array Value) (h : Heap) (Q : Option Value → Heap → List Loc → Prop) : Prop :=
  ∀ ws, MetFree l y (head1 (Jvm.Cond.code y bytes maxL ret :: ws) rm) (fun a U => a = as' ∧ Z.Warmed39 U.vm ∧ U.heap = h) (fun _ _ _ _ _ => True) (fun _ U o U' => ∃ v L, o = .returned v ∧ Q v U'.heap L ∧ FrameEnd U o U' L rm.cells rm.slots)
theorem oCon.of {y : MethodName} {bytes : ByteArray} {maxL : Nat} {ret : Option FieldType} {rm : Room} {as' : Array Value} {Q : Option Value → Heap → List Loc → Prop} (hpn : plainFor y = true)
    (body : ∀ p e s m below meth c s₁, p.tables.exec = Jvm.exec → c.code = bytes → c.maxLocals = maxL → s.vm.findClass y.cls = some m.cls → meth.name = y.name → meth.sig.returnType = ret → meth.locks = false → Z.Warmed39 s.vm → Stand p l e rm s m as' below meth c s₁ [] 0 0 → s₁.heap = h → oGo p e below (oG s Q rm.cells rm.slots) s₁ (entryFrame m as' maxL)) :
    oCon l Z y bytes maxL ret rm as' h Q := by
  intro ws
  refine MetFree.of_bodySF hpn hisR ?_
  intro p e s m args below meth c s₁ Bd hml0 hP hK
  obtain ⟨rfl, hZ, hh⟩ := hP
  exact body p e s m below meth c s₁ Bd.exec Bd.bytes hml0 (findClass_of_methodNamed Bd.named) (name_of_methodNamed Bd.named Bd.method).1 Bd.returns (BodyLoose.notSynchronized Bd) hZ (Stand.of_body Bd) (by rw [← hh, Bd.state]; rfl)
theorem o_iloadN (X : Stand p l e R s m args below meth c T locs cells slots) (hx : p.tables.exec = Jvm.exec) {pc pc' : Nat} {Ls : Array Slot} {st : List Value} {k : Fin 4} {v : Int32} (hd : decode c.code pc = .ok (.iload_n k, 1)) (hl : Ls[k.val]? = some (.val (.int v))) (hp : pc + 1 = pc') (q : oGo p e below G T (mkF m pc' Ls (.int v :: st))) : oGo p e below G T (mkF m pc Ls (st)) := by
  subst hp; exact q.step fun t r => XS.iloadN X.here hx rfl hd hl r
theorem o_iload (X : Stand p l e R s m args below meth c T locs cells slots) (hx : p.tables.exec = Jvm.exec) {pc pc' : Nat} {Ls : Array Slot} {st : List Value} {k : Nat} {v : Int32} (hd : decode c.code pc = .ok (.iload k, 2)) (hl : Ls[k]? = some (.val (.int v))) (hp : pc + 2 = pc') (q : oGo p e below G T (mkF m pc' Ls (.int v :: st))) : oGo p e below G T (mkF m pc Ls (st)) := by
  subst hp; exact q.step fun t r => XS.iload X.here hx rfl hd hl r
theorem o_istoreN (X : Stand p l e R s m args below meth c T locs cells slots) (hx : p.tables.exec = Jvm.exec) {pc pc' : Nat} {Ls : Array Slot} {st : List Value} {k : Fin 4} {v : Int32} {l' : Array Slot} (hd : decode c.code pc = .ok (.istore_n k, 1)) (hl : storeLocals Ls k.val (.int v) = some l') (hp : pc + 1 = pc') (q : oGo p e below G T (mkF m pc' l' (st))) : oGo p e below G T (mkF m pc Ls (.int v :: st)) := by
  subst hp; exact q.step fun t r => XS.istoreN X.here hx rfl hd rfl hl r
theorem o_istore (X : Stand p l e R s m args below meth c T locs cells slots) (hx : p.tables.exec = Jvm.exec) {pc pc' : Nat} {Ls : Array Slot} {st : List Value} {k : Nat} {v : Int32} {l' : Array Slot} (hd : decode c.code pc = .ok (.istore k, 2)) (hl : storeLocals Ls k (.int v) = some l') (hp : pc + 2 = pc') (q : oGo p e below G T (mkF m pc' l' (st))) : oGo p e below G T (mkF m pc Ls (.int v :: st)) := by
  subst hp; exact q.step fun t r => XS.istore X.here hx rfl hd rfl hl r
theorem o_lloadN (X : Stand p l e R s m args below meth c T locs cells slots) (hx : p.tables.exec = Jvm.exec) {pc pc' : Nat} {Ls : Array Slot} {st : List Value} {k : Fin 4} {v : Int64} (hd : decode c.code pc = .ok (.lload_n k, 1)) (hl : Ls[k.val]? = some (.val (.long v))) (hp : pc + 1 = pc') (q : oGo p e below G T (mkF m pc' Ls (.long v :: st))) : oGo p e below G T (mkF m pc Ls (st)) := by
  subst hp; exact q.step fun t r => XT.lloadN X.here hx rfl hd hl r
theorem o_lload (X : Stand p l e R s m args below meth c T locs cells slots) (hx : p.tables.exec = Jvm.exec) {pc pc' : Nat} {Ls : Array Slot} {st : List Value} {k : Nat} {v : Int64} (hd : decode c.code pc = .ok (.lload k, 2)) (hl : Ls[k]? = some (.val (.long v))) (hp : pc + 2 = pc') (q : oGo p e below G T (mkF m pc' Ls (.long v :: st))) : oGo p e below G T (mkF m pc Ls (st)) := by
  subst hp; exact q.step fun t r => XT.lload X.here hx rfl hd hl r
theorem o_lstoreN (X : Stand p l e R s m args below meth c T locs cells slots) (hx : p.tables.exec = Jvm.exec) {pc pc' : Nat} {Ls : Array Slot} {st : List Value} {k : Fin 4} {v : Int64} {l' : Array Slot} (hd : decode c.code pc = .ok (.lstore_n k, 1)) (hl : storeLocals Ls k.val (.long v) = some l') (hp : pc + 1 = pc') (q : oGo p e below G T (mkF m pc' l' (st))) : oGo p e below G T (mkF m pc Ls (.long v :: st)) := by
  subst hp; exact q.step fun t r => XT.lstoreN X.here hx rfl hd rfl hl r
theorem o_lstore (X : Stand p l e R s m args below meth c T locs cells slots) (hx : p.tables.exec = Jvm.exec) {pc pc' : Nat} {Ls : Array Slot} {st : List Value} {k : Nat} {v : Int64} {l' : Array Slot} (hd : decode c.code pc = .ok (.lstore k, 2)) (hl : storeLocals Ls k (.long v) = some l') (hp : pc + 2 = pc') (q : oGo p e below G T (mkF m pc' l' (st))) : oGo p e below G T (mkF m pc Ls (.long v :: st)) := by
  subst hp; exact q.step fun t r => XT.lstore X.here hx rfl hd rfl hl r
theorem o_aloadN (X : Stand p l e R s m args below meth c T locs cells slots) (hx : p.tables.exec = Jvm.exec) {pc pc' : Nat} {Ls : Array Slot} {st : List Value} {k : Fin 4} {v : Value} (hd : decode c.code pc = .ok (.aload_n k, 1)) (hl : Ls[k.val]? = some (.val v)) (hv : v.isRef = true) (hp : pc + 1 = pc') (q : oGo p e below G T (mkF m pc' Ls (v :: st))) : oGo p e below G T (mkF m pc Ls (st)) := by
  subst hp; exact q.step fun t r => XS.aloadN X.here hx rfl hd hl hv r
theorem o_aload (X : Stand p l e R s m args below meth c T locs cells slots) (hx : p.tables.exec = Jvm.exec) {pc pc' : Nat} {Ls : Array Slot} {st : List Value} {k : Nat} {v : Value} (hd : decode c.code pc = .ok (.aload k, 2)) (hl : Ls[k]? = some (.val v)) (hv : v.isRef = true) (hp : pc + 2 = pc') (q : oGo p e below G T (mkF m pc' Ls (v :: st))) : oGo p e below G T (mkF m pc Ls (st)) := by
  subst hp; exact q.step fun t r => XS.aload X.here hx rfl hd hl hv r
theorem o_astoreN (X : Stand p l e R s m args below meth c T locs cells slots) (hx : p.tables.exec = Jvm.exec) {pc pc' : Nat} {Ls : Array Slot} {st : List Value} {k : Fin 4} {v : Value} {l' : Array Slot} (hd : decode c.code pc = .ok (.astore_n k, 1)) (hv : v.isRef = true) (hl : storeLocals Ls k.val v = some l') (hp : pc + 1 = pc') (q : oGo p e below G T (mkF m pc' l' (st))) : oGo p e below G T (mkF m pc Ls (v :: st)) := by
  subst hp; exact q.step fun t r => XS.astoreN X.here hx rfl hd rfl hv hl r
theorem o_astore (X : Stand p l e R s m args below meth c T locs cells slots) (hx : p.tables.exec = Jvm.exec) {pc pc' : Nat} {Ls : Array Slot} {st : List Value} {k : Nat} {v : Value} {l' : Array Slot} (hd : decode c.code pc = .ok (.astore k, 2)) (hv : v.isRef = true) (hl : storeLocals Ls k v = some l') (hp : pc + 2 = pc') (q : oGo p e below G T (mkF m pc' l' (st))) : oGo p e below G T (mkF m pc Ls (v :: st)) := by
  subst hp; exact q.step fun t r => XS.astore X.here hx rfl hd rfl hv hl r
theorem o_iconst (X : Stand p l e R s m args below meth c T locs cells slots) (hx : p.tables.exec = Jvm.exec) {pc pc' : Nat} {Ls : Array Slot} {st : List Value} {i : Int} (v : Int32) (hd : decode c.code pc = .ok (.iconst i, 1)) (hv : Int32.ofInt i = v) (hp : pc + 1 = pc') (q : oGo p e below G T (mkF m pc' Ls (.int v :: st))) : oGo p e below G T (mkF m pc Ls (st)) := by
  subst hp; exact q.step fun t r => XT.iconstV X.here hx rfl v hd hv r
theorem o_bipush (X : Stand p l e R s m args below meth c T locs cells slots) (hx : p.tables.exec = Jvm.exec) {pc pc' : Nat} {Ls : Array Slot} {st : List Value} {i : Int} (v : Int32) (hd : decode c.code pc = .ok (.bipush i, 2)) (hv : (Int8.ofInt i).toInt32 = v) (hp : pc + 2 = pc') (q : oGo p e below G T (mkF m pc' Ls (.int v :: st))) : oGo p e below G T (mkF m pc Ls (st)) := by
  subst hp; exact q.step fun t r => XT.bipushV X.here hx rfl v hd hv r
theorem o_sipush (X : Stand p l e R s m args below meth c T locs cells slots) (hx : p.tables.exec = Jvm.exec) {pc pc' : Nat} {Ls : Array Slot} {st : List Value} {i : Int} (v : Int32) (hd : decode c.code pc = .ok (.sipush i, 3)) (hv : (Int16.ofInt i).toInt32 = v) (hp : pc + 3 = pc') (q : oGo p e below G T (mkF m pc' Ls (.int v :: st))) : oGo p e below G T (mkF m pc Ls (st)) := by
  subst hp; exact q.step fun t r => XT.sipushV X.here hx rfl v hd hv r
theorem o_lconst (X : Stand p l e R s m args below meth c T locs cells slots) (hx : p.tables.exec = Jvm.exec) {pc pc' : Nat} {Ls : Array Slot} {st : List Value} {k : Fin 2} (v : Int64) (hd : decode c.code pc = .ok (.lconst k, 1)) (hv : Int64.ofNat k = v) (hp : pc + 1 = pc') (q : oGo p e below G T (mkF m pc' Ls (.long v :: st))) : oGo p e below G T (mkF m pc Ls (st)) := by
  subst hp; exact q.step fun t r => XT.lconstV X.here hx rfl v hd hv r
theorem o_anull (X : Stand p l e R s m args below meth c T locs cells slots) (hx : p.tables.exec = Jvm.exec) {pc pc' : Nat} {Ls : Array Slot} {st : List Value} (hd : decode c.code pc = .ok (.aconst_null, 1)) (hp : pc + 1 = pc') (q : oGo p e below G T (mkF m pc' Ls (.null :: st))) : oGo p e below G T (mkF m pc Ls (st)) := by
  subst hp; exact q.step fun t r => XS.aconstNull X.here hx rfl hd r
theorem o_ldc (X : Stand p l e R s m args below meth c T locs cells slots) (hx : p.tables.exec = Jvm.exec) {pc pc' : Nat} {Ls : Array Slot} {st : List Value} {own : String} {index : Nat} {v : Int32} (hZ : Z.Warmed39 s.vm) (hown : s.vm.findClass own = some m.cls) (w : (Jvm.Cond.constant own index v).before a0 Z = true) (hd : decode c.code pc = .ok (.ldc index, 2)) (hp : pc + 2 = pc') (q : oGo p e below G T (mkF m pc' Ls (.int v :: st))) : oGo p e below G T (mkF m pc Ls (st)) := by
  subst hp; exact q.step fun t r => X.ldcI hx hown (mvT hZ w) rfl hd r
theorem o_ldcw (X : Stand p l e R s m args below meth c T locs cells slots) (hx : p.tables.exec = Jvm.exec) {pc pc' : Nat} {Ls : Array Slot} {st : List Value} {own : String} {index : Nat} {v : Int32} (hZ : Z.Warmed39 s.vm) (hown : s.vm.findClass own = some m.cls) (w : (Jvm.Cond.constant own index v).before a0 Z = true) (hd : decode c.code pc = .ok (.ldc_w index, 3)) (hp : pc + 3 = pc') (q : oGo p e below G T (mkF m pc' Ls (.int v :: st))) : oGo p e below G T (mkF m pc Ls (st)) := by
  subst hp; exact q.step fun t r => X.ldcWI hx hown (mvT hZ w) rfl hd r
theorem o_ldc2 (X : Stand p l e R s m args below meth c T locs cells slots) (hx : p.tables.exec = Jvm.exec) {pc pc' : Nat} {Ls : Array Slot} {st : List Value} {own : String} {index : Nat} {v : Int64} (hZ : Z.Warmed39 s.vm) (hown : s.vm.findClass own = some m.cls) (w : (Jvm.Cond.constantLong own index v).before a0 Z = true) (hd : decode c.code pc = .ok (.ldc2_w index, 3)) (hp : pc + 3 = pc') (q : oGo p e below G T (mkF m pc' Ls (.long v :: st))) : oGo p e below G T (mkF m pc Ls (st)) := by
  subst hp; exact q.step fun t r => X.ldc2J hx hown (mvT hZ w) rfl hd r
theorem o_iadd (X : Stand p l e R s m args below meth c T locs cells slots) (hx : p.tables.exec = Jvm.exec) {pc pc' : Nat} {Ls : Array Slot} {st : List Value} {x y : Int32} (hd : decode c.code pc = .ok (.iadd, 1)) (hp : pc + 1 = pc') (q : oGo p e below G T (mkF m pc' Ls (.int (x + y) :: st))) : oGo p e below G T (mkF m pc Ls (.int y :: .int x :: st)) := by
  subst hp; exact q.step fun t r => XS.iadd X.here hx rfl hd rfl r
theorem o_isub (X : Stand p l e R s m args below meth c T locs cells slots) (hx : p.tables.exec = Jvm.exec) {pc pc' : Nat} {Ls : Array Slot} {st : List Value} {x y : Int32} (hd : decode c.code pc = .ok (.isub, 1)) (hp : pc + 1 = pc') (q : oGo p e below G T (mkF m pc' Ls (.int (x - y) :: st))) : oGo p e below G T (mkF m pc Ls (.int y :: .int x :: st)) := by
  subst hp; exact q.step fun t r => XS.isub X.here hx rfl hd rfl r
theorem o_imul (X : Stand p l e R s m args below meth c T locs cells slots) (hx : p.tables.exec = Jvm.exec) {pc pc' : Nat} {Ls : Array Slot} {st : List Value} {x y : Int32} (hd : decode c.code pc = .ok (.imul, 1)) (hp : pc + 1 = pc') (q : oGo p e below G T (mkF m pc' Ls (.int (x * y) :: st))) : oGo p e below G T (mkF m pc Ls (.int y :: .int x :: st)) := by
  subst hp; exact q.step fun t r => XS.imul X.here hx rfl hd rfl r
theorem o_iand (X : Stand p l e R s m args below meth c T locs cells slots) (hx : p.tables.exec = Jvm.exec) {pc pc' : Nat} {Ls : Array Slot} {st : List Value} {x y : Int32} (hd : decode c.code pc = .ok (.iand, 1)) (hp : pc + 1 = pc') (q : oGo p e below G T (mkF m pc' Ls (.int (x &&& y) :: st))) : oGo p e below G T (mkF m pc Ls (.int y :: .int x :: st)) := by
  subst hp; exact q.step fun t r => XS.iand X.here hx rfl hd rfl r
theorem o_ior (X : Stand p l e R s m args below meth c T locs cells slots) (hx : p.tables.exec = Jvm.exec) {pc pc' : Nat} {Ls : Array Slot} {st : List Value} {x y : Int32} (hd : decode c.code pc = .ok (.ior, 1)) (hp : pc + 1 = pc') (q : oGo p e below G T (mkF m pc' Ls (.int (x ||| y) :: st))) : oGo p e below G T (mkF m pc Ls (.int y :: .int x :: st)) := by
  subst hp; exact q.step fun t r => XT.ior X.here hx rfl hd rfl r
theorem o_ixor (X : Stand p l e R s m args below meth c T locs cells slots) (hx : p.tables.exec = Jvm.exec) {pc pc' : Nat} {Ls : Array Slot} {st : List Value} {x y : Int32} (hd : decode c.code pc = .ok (.ixor, 1)) (hp : pc + 1 = pc') (q : oGo p e below G T (mkF m pc' Ls (.int (x ^^^ y) :: st))) : oGo p e below G T (mkF m pc Ls (.int y :: .int x :: st)) := by
  subst hp; exact q.step fun t r => XT.ixor X.here hx rfl hd rfl r
theorem o_ishl (X : Stand p l e R s m args below meth c T locs cells slots) (hx : p.tables.exec = Jvm.exec) {pc pc' : Nat} {Ls : Array Slot} {st : List Value} {x y : Int32} (hd : decode c.code pc = .ok (.ishl, 1)) (hp : pc + 1 = pc') (q : oGo p e below G T (mkF m pc' Ls (.int (x <<< (y &&& 31)) :: st))) : oGo p e below G T (mkF m pc Ls (.int y :: .int x :: st)) := by
  subst hp; exact q.step fun t r => XT.ishl X.here hx rfl hd rfl r
theorem o_ishr (X : Stand p l e R s m args below meth c T locs cells slots) (hx : p.tables.exec = Jvm.exec) {pc pc' : Nat} {Ls : Array Slot} {st : List Value} {x y : Int32} (hd : decode c.code pc = .ok (.ishr, 1)) (hp : pc + 1 = pc') (q : oGo p e below G T (mkF m pc' Ls (.int (x >>> (y &&& 31)) :: st))) : oGo p e below G T (mkF m pc Ls (.int y :: .int x :: st)) := by
  subst hp; exact q.step fun t r => XT.ishr X.here hx rfl hd rfl r
theorem o_iushr (X : Stand p l e R s m args below meth c T locs cells slots) (hx : p.tables.exec = Jvm.exec) {pc pc' : Nat} {Ls : Array Slot} {st : List Value} {x y : Int32} (hd : decode c.code pc = .ok (.iushr, 1)) (hp : pc + 1 = pc') (q : oGo p e below G T (mkF m pc' Ls (.int (XT.ushr x y) :: st))) : oGo p e below G T (mkF m pc Ls (.int y :: .int x :: st)) := by
  subst hp; exact q.step fun t r => XT.iushr X.here hx rfl hd rfl r
theorem o_ladd (X : Stand p l e R s m args below meth c T locs cells slots) (hx : p.tables.exec = Jvm.exec) {pc pc' : Nat} {Ls : Array Slot} {st : List Value} {x y : Int64} (hd : decode c.code pc = .ok (.ladd, 1)) (hp : pc + 1 = pc') (q : oGo p e below G T (mkF m pc' Ls (.long (x + y) :: st))) : oGo p e below G T (mkF m pc Ls (.long y :: .long x :: st)) := by
  subst hp; exact q.step fun t r => XT.ladd X.here hx rfl hd rfl r
theorem o_lsub (X : Stand p l e R s m args below meth c T locs cells slots) (hx : p.tables.exec = Jvm.exec) {pc pc' : Nat} {Ls : Array Slot} {st : List Value} {x y : Int64} (hd : decode c.code pc = .ok (.lsub, 1)) (hp : pc + 1 = pc') (q : oGo p e below G T (mkF m pc' Ls (.long (x - y) :: st))) : oGo p e below G T (mkF m pc Ls (.long y :: .long x :: st)) := by
  subst hp; exact q.step fun t r => XT.lsub X.here hx rfl hd rfl r
theorem o_lmul (X : Stand p l e R s m args below meth c T locs cells slots) (hx : p.tables.exec = Jvm.exec) {pc pc' : Nat} {Ls : Array Slot} {st : List Value} {x y : Int64} (hd : decode c.code pc = .ok (.lmul, 1)) (hp : pc + 1 = pc') (q : oGo p e below G T (mkF m pc' Ls (.long (x * y) :: st))) : oGo p e below G T (mkF m pc Ls (.long y :: .long x :: st)) := by
  subst hp; exact q.step fun t r => XT.lmul X.here hx rfl hd rfl r
theorem o_land (X : Stand p l e R s m args below meth c T locs cells slots) (hx : p.tables.exec = Jvm.exec) {pc pc' : Nat} {Ls : Array Slot} {st : List Value} {x y : Int64} (hd : decode c.code pc = .ok (.land, 1)) (hp : pc + 1 = pc') (q : oGo p e below G T (mkF m pc' Ls (.long (x &&& y) :: st))) : oGo p e below G T (mkF m pc Ls (.long y :: .long x :: st)) := by
  subst hp; exact q.step fun t r => XT.land X.here hx rfl hd rfl r
theorem o_lor (X : Stand p l e R s m args below meth c T locs cells slots) (hx : p.tables.exec = Jvm.exec) {pc pc' : Nat} {Ls : Array Slot} {st : List Value} {x y : Int64} (hd : decode c.code pc = .ok (.lor, 1)) (hp : pc + 1 = pc') (q : oGo p e below G T (mkF m pc' Ls (.long (x ||| y) :: st))) : oGo p e below G T (mkF m pc Ls (.long y :: .long x :: st)) := by
  subst hp; exact q.step fun t r => XT.lor X.here hx rfl hd rfl r
theorem o_lxor (X : Stand p l e R s m args below meth c T locs cells slots) (hx : p.tables.exec = Jvm.exec) {pc pc' : Nat} {Ls : Array Slot} {st : List Value} {x y : Int64} (hd : decode c.code pc = .ok (.lxor, 1)) (hp : pc + 1 = pc') (q : oGo p e below G T (mkF m pc' Ls (.long (x ^^^ y) :: st))) : oGo p e below G T (mkF m pc Ls (.long y :: .long x :: st)) := by
  subst hp; exact q.step fun t r => XT.lxor X.here hx rfl hd rfl r
theorem o_lshl (X : Stand p l e R s m args below meth c T locs cells slots) (hx : p.tables.exec = Jvm.exec) {pc pc' : Nat} {Ls : Array Slot} {st : List Value} {x : Int64} {y : Int32} (hd : decode c.code pc = .ok (.lshl, 1)) (hp : pc + 1 = pc') (q : oGo p e below G T (mkF m pc' Ls (.long (x <<< (y.toInt64 &&& 63)) :: st))) : oGo p e below G T (mkF m pc Ls (.int y :: .long x :: st)) := by
  subst hp; exact q.step fun t r => XT.lshl X.here hx rfl hd rfl r
theorem o_lshr (X : Stand p l e R s m args below meth c T locs cells slots) (hx : p.tables.exec = Jvm.exec) {pc pc' : Nat} {Ls : Array Slot} {st : List Value} {x : Int64} {y : Int32} (hd : decode c.code pc = .ok (.lshr, 1)) (hp : pc + 1 = pc') (q : oGo p e below G T (mkF m pc' Ls (.long (x >>> (y.toInt64 &&& 63)) :: st))) : oGo p e below G T (mkF m pc Ls (.int y :: .long x :: st)) := by
  subst hp; exact q.step fun t r => XT.lshr X.here hx rfl hd rfl r
theorem o_lushr (X : Stand p l e R s m args below meth c T locs cells slots) (hx : p.tables.exec = Jvm.exec) {pc pc' : Nat} {Ls : Array Slot} {st : List Value} {x : Int64} {y : Int32} (hd : decode c.code pc = .ok (.lushr, 1)) (hp : pc + 1 = pc') (q : oGo p e below G T (mkF m pc' Ls (.long (XT.ushrL x y) :: st))) : oGo p e below G T (mkF m pc Ls (.int y :: .long x :: st)) := by
  subst hp; exact q.step fun t r => XT.lushr X.here hx rfl hd rfl r
theorem o_lcmp (X : Stand p l e R s m args below meth c T locs cells slots) (hx : p.tables.exec = Jvm.exec) {pc pc' : Nat} {Ls : Array Slot} {st : List Value} {x y : Int64} (hd : decode c.code pc = .ok (.lcmp, 1)) (hp : pc + 1 = pc') (q : oGo p e below G T (mkF m pc' Ls (.int (XT.cmpL x y) :: st))) : oGo p e below G T (mkF m pc Ls (.long y :: .long x :: st)) := by
  subst hp; exact q.step fun t r => XT.lcmp X.here hx rfl hd rfl r
theorem o_irem (X : Stand p l e R s m args below meth c T locs cells slots) (hx : p.tables.exec = Jvm.exec) {pc pc' : Nat} {Ls : Array Slot} {st : List Value} {x y : Int32} (hd : decode c.code pc = .ok (.irem, 1)) (hy : y ≠ 0) (hp : pc + 1 = pc') (q : oGo p e below G T (mkF m pc' Ls (.int (x % y) :: st))) : oGo p e below G T (mkF m pc Ls (.int y :: .int x :: st)) := by
  subst hp; exact q.step fun t r => iremM X hx rfl hd rfl hy r
theorem o_lrem (X : Stand p l e R s m args below meth c T locs cells slots) (hx : p.tables.exec = Jvm.exec) {pc pc' : Nat} {Ls : Array Slot} {st : List Value} {x y : Int64} (hd : decode c.code pc = .ok (.lrem, 1)) (hy : y ≠ 0) (hp : pc + 1 = pc') (q : oGo p e below G T (mkF m pc' Ls (.long (x % y) :: st))) : oGo p e below G T (mkF m pc Ls (.long y :: .long x :: st)) := by
  subst hp; exact q.step fun t r => XT.lrem X.here hx rfl hd rfl hy (by rw [lrem_mod]; exact r)
theorem o_i2l (X : Stand p l e R s m args below meth c T locs cells slots) (hx : p.tables.exec = Jvm.exec) {pc pc' : Nat} {Ls : Array Slot} {st : List Value} {x : Int32} (hd : decode c.code pc = .ok (.i2l, 1)) (hp : pc + 1 = pc') (q : oGo p e below G T (mkF m pc' Ls (.long (x.toInt64) :: st))) : oGo p e below G T (mkF m pc Ls (.int x :: st)) := by
  subst hp; exact q.step fun t r => XT.i2l X.here hx rfl hd rfl r
theorem o_l2i (X : Stand p l e R s m args below meth c T locs cells slots) (hx : p.tables.exec = Jvm.exec) {pc pc' : Nat} {Ls : Array Slot} {st : List Value} {x : Int64} (hd : decode c.code pc = .ok (.l2i, 1)) (hp : pc + 1 = pc') (q : oGo p e below G T (mkF m pc' Ls (.int (x.toInt32) :: st))) : oGo p e below G T (mkF m pc Ls (.long x :: st)) := by
  subst hp; exact q.step fun t r => XT.l2i X.here hx rfl hd rfl r
theorem o_i2c (X : Stand p l e R s m args below meth c T locs cells slots) (hx : p.tables.exec = Jvm.exec) {pc pc' : Nat} {Ls : Array Slot} {st : List Value} {x : Int32} (hd : decode c.code pc = .ok (.i2c, 1)) (hp : pc + 1 = pc') (q : oGo p e below G T (mkF m pc' Ls (.int (x.toUInt32.toUInt16.toUInt32.toInt32) :: st))) : oGo p e below G T (mkF m pc Ls (.int x :: st)) := by
  subst hp; exact q.step fun t r => XT.i2c X.here hx rfl hd rfl r
theorem o_i2b (X : Stand p l e R s m args below meth c T locs cells slots) (hx : p.tables.exec = Jvm.exec) {pc pc' : Nat} {Ls : Array Slot} {st : List Value} {x : Int32} (hd : decode c.code pc = .ok (.i2b, 1)) (hp : pc + 1 = pc') (q : oGo p e below G T (mkF m pc' Ls (.int (x.toInt8.toInt32) :: st))) : oGo p e below G T (mkF m pc Ls (.int x :: st)) := by
  subst hp; exact q.step fun t r => XT.i2b X.here hx rfl hd rfl r
theorem o_iinc (X : Stand p l e R s m args below meth c T locs cells slots) (hx : p.tables.exec = Jvm.exec) {pc pc' : Nat} {Ls : Array Slot} {st : List Value} {k : Nat} {cst : Int} {x : Int32} {l' : Array Slot} (v : Int32) (hd : decode c.code pc = .ok (.iinc k cst, 3)) (hv : Int32.ofInt cst = v) (hl : Ls[k]? = some (.val (.int x))) (hl' : storeLocals Ls k (.int (x + v)) = some l') (hp : pc + 3 = pc') (q : oGo p e below G T (mkF m pc' l' (st))) : oGo p e below G T (mkF m pc Ls (st)) := by
  subst hp; exact q.step fun t r => XT.iincV X.here hx rfl v hd hv hl hl' r
theorem o_dup (X : Stand p l e R s m args below meth c T locs cells slots) (hx : p.tables.exec = Jvm.exec) {pc pc' : Nat} {Ls : Array Slot} {st : List Value} {v : Value} (hd : decode c.code pc = .ok (.dup, 1)) (hc : v.category = 1) (hp : pc + 1 = pc') (q : oGo p e below G T (mkF m pc' Ls (v :: v :: st))) : oGo p e below G T (mkF m pc Ls (v :: st)) := by
  subst hp; exact q.step fun t r => XS.dup X.here hx rfl hd rfl hc r
theorem o_pop (X : Stand p l e R s m args below meth c T locs cells slots) (hx : p.tables.exec = Jvm.exec) {pc pc' : Nat} {Ls : Array Slot} {st : List Value} {v : Value} (hd : decode c.code pc = .ok (.pop, 1)) (hc : v.category = 1) (hp : pc + 1 = pc') (q : oGo p e below G T (mkF m pc' Ls (st))) : oGo p e below G T (mkF m pc Ls (v :: st)) := by
  subst hp; exact q.step fun t r => XT.pop X.here hx rfl hd rfl hc r
theorem o_goto (X : Stand p l e R s m args below meth c T locs cells slots) (hx : p.tables.exec = Jvm.exec) {pc pc' : Nat} {Ls : Array Slot} {st : List Value} {o : Int} (hd : decode c.code pc = .ok (.goto o, 3)) (ho : 0 ≤ (pc : Int) + o) (hp : ((pc : Int) + o).toNat = pc') (q : oGo p e below G T (mkF m pc' Ls (st))) : oGo p e below G T (mkF m pc Ls (st)) :=
  q.step fun t r => XS.goto X.here hx rfl rfl hd ho hp r
theorem o_icmpT (X : Stand p l e R s m args below meth c T locs cells slots) (hx : p.tables.exec = Jvm.exec) {pc pc' : Nat} {Ls : Array Slot} {st : List Value} {o : Int} {cd : ClassFile.Cond} {x y : Int32} (hd : decode c.code pc = .ok (.if_icmp cd o, 3)) (hc : if_icmp.holds cd x y = true) (ho : 0 ≤ (pc : Int) + o) (hp : ((pc : Int) + o).toNat = pc') (q : oGo p e below G T (mkF m pc' Ls (st))) : oGo p e below G T (mkF m pc Ls (.int y :: .int x :: st)) :=
  q.step fun t r => XS.icmpYes X.here hx rfl rfl hd rfl hc ho hp r
theorem o_icmpF (X : Stand p l e R s m args below meth c T locs cells slots) (hx : p.tables.exec = Jvm.exec) {pc pc' : Nat} {Ls : Array Slot} {st : List Value} {o : Int} {cd : ClassFile.Cond} {x y : Int32} (hd : decode c.code pc = .ok (.if_icmp cd o, 3)) (hc : if_icmp.holds cd x y = false) (hp : pc + 3 = pc') (q : oGo p e below G T (mkF m pc' Ls (st))) : oGo p e below G T (mkF m pc Ls (.int y :: .int x :: st)) := by
  subst hp; exact q.step fun t r => XS.icmpNo X.here hx rfl hd rfl hc r
theorem o_ifT (X : Stand p l e R s m args below meth c T locs cells slots) (hx : p.tables.exec = Jvm.exec) {pc pc' : Nat} {Ls : Array Slot} {st : List Value} {o : Int} {cd : ClassFile.Cond} {x : Int32} (hd : decode c.code pc = .ok (.ifCond cd o, 3)) (hc : ifCond.holds cd x = true) (ho : 0 ≤ (pc : Int) + o) (hp : ((pc : Int) + o).toNat = pc') (q : oGo p e below G T (mkF m pc' Ls (st))) : oGo p e below G T (mkF m pc Ls (.int x :: st)) :=
  q.step fun t r => XS.ifYes X.here hx rfl rfl hd rfl hc ho hp r
theorem o_ifF (X : Stand p l e R s m args below meth c T locs cells slots) (hx : p.tables.exec = Jvm.exec) {pc pc' : Nat} {Ls : Array Slot} {st : List Value} {o : Int} {cd : ClassFile.Cond} {x : Int32} (hd : decode c.code pc = .ok (.ifCond cd o, 3)) (hc : ifCond.holds cd x = false) (hp : pc + 3 = pc') (q : oGo p e below G T (mkF m pc' Ls (st))) : oGo p e below G T (mkF m pc Ls (.int x :: st)) := by
  subst hp; exact q.step fun t r => XS.ifNo X.here hx rfl hd rfl hc r
theorem o_acmpT (X : Stand p l e R s m args below meth c T locs cells slots) (hx : p.tables.exec = Jvm.exec) {pc pc' : Nat} {Ls : Array Slot} {st : List Value} {o : Int} {cd : ClassFile.ACond} {x y : Value} (hd : decode c.code pc = .ok (.if_acmp cd o, 3)) (h1 : x.isRef = true) (h2 : y.isRef = true) (hc : XT.acmp cd x y = true) (ho : 0 ≤ (pc : Int) + o) (hp : ((pc : Int) + o).toNat = pc') (q : oGo p e below G T (mkF m pc' Ls (st))) : oGo p e below G T (mkF m pc Ls (y :: x :: st)) :=
  q.step fun t r => XT.acmpYes X.here hx rfl rfl hd rfl h1 h2 hc ho hp r
theorem o_acmpF (X : Stand p l e R s m args below meth c T locs cells slots) (hx : p.tables.exec = Jvm.exec) {pc pc' : Nat} {Ls : Array Slot} {st : List Value} {o : Int} {cd : ClassFile.ACond} {x y : Value} (hd : decode c.code pc = .ok (.if_acmp cd o, 3)) (h1 : x.isRef = true) (h2 : y.isRef = true) (hc : XT.acmp cd x y = false) (hp : pc + 3 = pc') (q : oGo p e below G T (mkF m pc' Ls (st))) : oGo p e below G T (mkF m pc Ls (y :: x :: st)) := by
  subst hp; exact q.step fun t r => XT.acmpNo X.here hx rfl hd rfl h1 h2 hc r
theorem o_retI (X : Stand p l e R s m args below meth c T locs cells slots) (hx : p.tables.exec = Jvm.exec) (hret : meth.sig.returnType = some .int) (hlk : meth.locks = false) {pc : Nat} {Ls : Array Slot} {st : List Value} {z : Int32} (hd : decode c.code pc = .ok (.ireturn, 1)) {Q : Option Value → Heap → List Loc → Prop} {C N : Nat} (hc : cells ≤ C) (hn : slots ≤ N) (hQ : Q (some (.int z)) T.heap locs) : oGo p e below (oG s Q C N) T (mkF m pc Ls (.int z :: st)) := by
  obtain ⟨fs, hr, hrun, hended, hW, hsame⟩ := X.leave (v := some (.int z)) (fun h => by rw [hret] at h; cases h) hlk
  exact ⟨_, _, retOut X hx hret rfl (Or.inl ⟨rfl, Or.inl rfl, _, rfl⟩) hd hr, hrun, hended, _, _, rfl, hQ, ⟨_, rfl⟩, hW, hsame.mono hc hn⟩
theorem o_retJ (X : Stand p l e R s m args below meth c T locs cells slots) (hx : p.tables.exec = Jvm.exec) (hret : meth.sig.returnType = some .long) (hlk : meth.locks = false) {pc : Nat} {Ls : Array Slot} {st : List Value} {z : Int64} (hd : decode c.code pc = .ok (.lreturn, 1)) {Q : Option Value → Heap → List Loc → Prop} {C N : Nat} (hc : cells ≤ C) (hn : slots ≤ N) (hQ : Q (some (.long z)) T.heap locs) : oGo p e below (oG s Q C N) T (mkF m pc Ls (.long z :: st)) := by
  obtain ⟨fs, hr, hrun, hended, hW, hsame⟩ := X.leave (v := some (.long z)) (fun h => by rw [hret] at h; cases h) hlk
  exact ⟨_, _, retOut X hx hret rfl (Or.inr (Or.inl ⟨rfl, rfl, _, rfl⟩)) hd hr, hrun, hended, _, _, rfl, hQ, ⟨_, rfl⟩, hW, hsame.mono hc hn⟩
theorem o_retD (X : Stand p l e R s m args below meth c T locs cells slots) (hx : p.tables.exec = Jvm.exec) (hret : meth.sig.returnType = some .double) (hlk : meth.locks = false) {pc : Nat} {Ls : Array Slot} {st : List Value} {z : UInt64} (hd : decode c.code pc = .ok (.dreturn, 1)) {Q : Option Value → Heap → List Loc → Prop} {C N : Nat} (hc : cells ≤ C) (hn : slots ≤ N) (hQ : Q (some (.double z)) T.heap locs) : oGo p e below (oG s Q C N) T (mkF m pc Ls (.double z :: st)) := by
  obtain ⟨fs, hr, hrun, hended, hW, hsame⟩ := X.leave (v := some (.double z)) (fun h => by rw [hret] at h; cases h) hlk
  exact ⟨_, _, retOut X hx hret rfl (Or.inr (Or.inr (Or.inl ⟨rfl, rfl, _, rfl⟩))) hd hr, hrun, hended, _, _, rfl, hQ, ⟨_, rfl⟩, hW, hsame.mono hc hn⟩
theorem o_retZ (X : Stand p l e R s m args below meth c T locs cells slots) (hx : p.tables.exec = Jvm.exec) (hret : meth.sig.returnType = some .boolean) (hlk : meth.locks = false) {pc : Nat} {Ls : Array Slot} {st : List Value} {z : Int32} (hd : decode c.code pc = .ok (.ireturn, 1)) (hz : z &&& 1 = z) {Q : Option Value → Heap → List Loc → Prop} {C N : Nat} (hc : cells ≤ C) (hn : slots ≤ N) (hQ : Q (some (.int z)) T.heap locs) : oGo p e below (oG s Q C N) T (mkF m pc Ls (.int z :: st)) := by
  obtain ⟨fs, hr, hrun, hended, hW, hsame⟩ := X.leave (v := some (.int z)) (fun h => by rw [hret] at h; cases h) hlk
  have hz' : nar .boolean z = z := hz
  exact ⟨_, _, retN X hx (t := .boolean) hret (Or.inl rfl) hd (by rw [hz']; exact hr), hrun, hended, _, _, rfl, hQ, ⟨_, rfl⟩, hW, hsame.mono hc hn⟩
theorem o_retA (X : Stand p l e R s m args below meth c T locs cells slots) (hx : p.tables.exec = Jvm.exec) {C1 : FieldType} (hret : meth.sig.returnType = some C1) (ht : C1.isReference = true) (hlk : meth.locks = false) {pc : Nat} {Ls : Array Slot} {st : List Value} {z : Value} (hz : z.isRef = true) (hna : narrow C1 z = z) (hd : decode c.code pc = .ok (.areturn, 1)) {Q : Option Value → Heap → List Loc → Prop} {C N : Nat} (hc : cells ≤ C) (hn : slots ≤ N) (hQ : Q (some z) T.heap locs) : oGo p e below (oG s Q C N) T (mkF m pc Ls (z :: st)) := by
  obtain ⟨fs, hr, hrun, hended, hW, hsame⟩ := X.leave (v := some z) (fun h => by rw [hret] at h; cases h) hlk
  exact ⟨_, _, retOut X hx hret hna (Or.inr (Or.inr (Or.inr (Or.inr ⟨rfl, ht, hz⟩)))) hd hr, hrun, hended, _, _, rfl, hQ, ⟨_, rfl⟩, hW, hsame.mono hc hn⟩
theorem o_retV (X : Stand p l e R s m args below meth c T locs cells slots) (hx : p.tables.exec = Jvm.exec) (hret : meth.sig.returnType = none) (hlk : meth.locks = false) {pc : Nat} {Ls : Array Slot} (hd : decode c.code pc = .ok (.return_, 1)) {Q : Option Value → Heap → List Loc → Prop} {C N : Nat} (hc : cells ≤ C) (hn : slots ≤ N) (hQ : Q none T.heap locs) : oGo p e below (oG s Q C N) T (mkF m pc Ls []) := by
  obtain ⟨fs, hr, hrun, hended, hW, hsame⟩ := X.leave (v := none) (fun _ => rfl) hlk
  exact ⟨_, _, X.returnOut hx hret hd hr, hrun, hended, _, _, rfl, hQ, ⟨_, rfl⟩, hW, hsame.mono hc hn⟩
theorem o_callS (X : Stand p l e R s m args below meth c T locs cells slots) (hx : p.tables.exec = Jvm.exec) (hZ : Z.Warmed39 s.vm) {own : String} {index : Nat} {y : MethodName} {bytes : ByteArray} {maxL : Nat} {ret : Option FieldType} (hown : s.vm.findClass own = some m.cls) (w1 : (Jvm.Cond.methodLink own index y).before a0 Z = true) (w2 : (Jvm.Cond.static y).before a0 Z = true) (w3 : (Jvm.Cond.initialized y.cls).before a0 Z = true) (w4 : (Jvm.Cond.code y bytes maxL ret).before a0 Z = true) (hy : y.cls ≠ "java/lang/invoke/MethodHandle" ∧ y.cls ≠ "java/lang/invoke/VarHandle") {rm : Room} {as' : Array Value} {Q : Option Value → Heap → List Loc → Prop} (hM : oCon l Z y bytes maxL ret rm as' h Q) (eT : T.heap = h) {pc pc' : Nat} {Ls : Array Slot} {st : List Value} (hsz : Ls.size = c.maxLocals) (argsL rest : List Value) (has : argsL.toArray = as') {ps : List FieldType} {rr : Option FieldType} (hpd : parseMethodDescriptor y.desc = some ⟨ps, rr⟩) (hlen : argsL.length = ps.length) (hst : st = argsL.reverse ++ rest) (W : Nat) (hW : (rest.map fun v => v.category).sum ≤ W) (hd : decode c.code pc = .ok (.invokestatic index, 3)) (hp : pc + 3 = pc') (hf : rm.frames + 1 ≤ R.frames) (hl : W + (maxL + 11) + rm.locals ≤ R.locals) (hc : cells + rm.cells ≤ R.cells) (hn : slots + rm.slots ≤ R.slots) :
    ∃ v T' L, Stand p l e R s m args below meth c T' (locs ++ L) (cells + rm.cells) (slots + rm.slots) ∧ Q v T'.heap L ∧ ∀ t, Steps p.tables e below (T'.setTop (mkF m pc' Ls (v.toList ++ rest))) t → Steps p.tables e below (T.setTop (mkF m pc Ls st)) t := by
  subst hp has
  obtain ⟨v, vm₁, ⟨T', L', k', n'⟩, -, X', ⟨Lc, hQ, l1, y1, z1⟩, st'⟩ := Jvm.LawKit.callS X hx hown (mvT hZ w1) (mvT hZ w2) (mvT hZ w3) (mvT hZ w4) hy (backOf (W := W) (hM []) hZ w4 w3 hf hl) (g := mkF m pc Ls st) rfl hsz (argsL := argsL) (rest := rest) (lenOf hpd hlen) hst (by show 2 * 0 + _ ≤ _; omega) hd (fun _ _ => ⟨rfl, eT, hc, hn⟩)
  dsimp only [Pt.U, Pt.locs, Pt.cells, Pt.slots] at X' l1 y1 z1 st' hQ
  subst l1 y1 z1
  exact ⟨v, T', Lc, X', hQ, st'⟩
theorem o_callN (X : Stand p l e R s m args below meth c T locs cells slots) (hx : p.tables.exec = Jvm.exec) (hZ : Z.Warmed39 s.vm) {own : String} {index : Nat} {y : MethodName} {bytes : ByteArray} {maxL : Nat} (hown : s.vm.findClass own = some m.cls) (hi : y.name = "<init>") (w1 : (Jvm.Cond.methodLink own index y).before a0 Z = true) (w2 : (Jvm.Cond.instanceMethod y).before a0 Z = true) (w3 : (Jvm.Cond.initialized y.cls).before a0 Z = true) (w4 : (Jvm.Cond.code y bytes maxL none).before a0 Z = true) (hy : y.cls ≠ "java/lang/invoke/MethodHandle" ∧ y.cls ≠ "java/lang/invoke/VarHandle") {rm : Room} {as' : Array Value} {Q : Option Value → Heap → List Loc → Prop} (hM : oCon l Z y bytes maxL none rm as' h Q) (eT : T.heap = h) {pc pc' : Nat} {Ls : Array Slot} {st : List Value} (hsz : Ls.size = c.maxLocals) {a : Addr} (argsL rest : List Value) (has : (Value.ref a :: argsL).toArray = as') {ps : List FieldType} {rr : Option FieldType} (hpd : parseMethodDescriptor y.desc = some ⟨ps, rr⟩) (hlen : argsL.length = ps.length) (hst : st = argsL.reverse ++ .ref a :: rest) (W : Nat) (hW : (rest.map fun v => v.category).sum ≤ W) (hd : decode c.code pc = .ok (.invokespecial index, 3)) (hp : pc + 3 = pc') (hf : rm.frames + 1 ≤ R.frames) (hl : W + (maxL + 11) + rm.locals ≤ R.locals) (hc : cells + rm.cells ≤ R.cells) (hn : slots + rm.slots ≤ R.slots) :
    ∃ v T' L, Stand p l e R s m args below meth c T' (locs ++ L) (cells + rm.cells) (slots + rm.slots) ∧ Q v T'.heap L ∧ ∀ t, Steps p.tables e below (T'.setTop (mkF m pc' Ls (v.toList ++ rest))) t → Steps p.tables e below (T.setTop (mkF m pc Ls st)) t := by
  subst hp has
  obtain ⟨v, vm₁, ⟨T', L', k', n'⟩, -, X', ⟨Lc, hQ, l1, y1, z1⟩, st'⟩ := X.specialBack hx hi hown (mvT hZ w1) (mvT hZ w2) (mvT hZ w4) hy (backOf (W := W) (hM []) hZ w4 w3 hf hl) (g := mkF m pc Ls st) rfl hsz (Steps.refl _) (a := a) (argsL := argsL) (rest := rest) (lenOf hpd hlen) hst (by show 2 * 0 + _ ≤ _; omega) hd (fun _ _ => ⟨rfl, eT, hc, hn⟩)
  dsimp only [Pt.U, Pt.locs, Pt.cells, Pt.slots] at X' l1 y1 z1 st' hQ
  subst l1 y1 z1
  exact ⟨v, T', Lc, X', hQ, fun t r => st'.trans r⟩
theorem o_callV (X : Stand p l e R s m args below meth c T locs cells slots) (hx : p.tables.exec = Jvm.exec) (hZ : Z.Warmed39 s.vm) {own : String} {index : Nat} {y : MethodName} {bytes : ByteArray} {maxL : Nat} {ret : Option FieldType} (hown : s.vm.findClass own = some m.cls) {C : String} (w1 : (Jvm.Cond.methodLink own index y).before a0 Z = true) (w2 : (Jvm.Cond.declares y).before a0 Z = true) (w5 : (Jvm.Cond.selects C y y).before a0 Z = true) (w6 : (Jvm.Cond.instanceMethod y).before a0 Z = true) (w3 : (Jvm.Cond.initialized y.cls).before a0 Z = true) (w4 : (Jvm.Cond.code y bytes maxL ret).before a0 Z = true) (hy : y.cls ≠ "java/lang/invoke/MethodHandle" ∧ y.cls ≠ "java/lang/invoke/VarHandle") {aa : Addr} (E : Exa Z h aa C) {rm : Room} {as' : Array Value} {Q : Option Value → Heap → List Loc → Prop} (hM : oCon l Z y bytes maxL ret rm as' h Q) (eT : T.heap = h) {pc pc' : Nat} {Ls : Array Slot} {st : List Value} (hsz : Ls.size = c.maxLocals) (argsL rest : List Value) (has : (Value.ref aa :: argsL).toArray = as') {ps : List FieldType} {rr : Option FieldType} (hpd : parseMethodDescriptor y.desc = some ⟨ps, rr⟩) (hlen : argsL.length = ps.length) (hst : st = argsL.reverse ++ .ref aa :: rest) (W : Nat) (hW : (rest.map fun v => v.category).sum ≤ W) (hd : decode c.code pc = .ok (.invokevirtual index, 3)) (hp : pc + 3 = pc') (hf : rm.frames + 1 ≤ R.frames) (hl : W + (maxL + 11) + rm.locals ≤ R.locals) (hc : cells + rm.cells ≤ R.cells) (hn : slots + rm.slots ≤ R.slots) :
    ∃ v T' L, Stand p l e R s m args below meth c T' (locs ++ L) (cells + rm.cells) (slots + rm.slots) ∧ Q v T'.heap L ∧ ∀ t, Steps p.tables e below (T'.setTop (mkF m pc' Ls (v.toList ++ rest))) t → Steps p.tables e below (T.setTop (mkF m pc Ls st)) t := by
  subst hp has
  obtain ⟨v, vm₁, ⟨T', L', k', n'⟩, -, X', ⟨Lc, hQ, l1, y1, z1⟩, st'⟩ := X.virtualBack hx hown (mvT hZ w1) (mvT hZ w2) (notFace_of_selects (args := #[]) (mvT hZ w5)) (mvT hZ w5) (mvT hZ w6) hy (backOf (W := W) (hM []) hZ w4 w3 hf hl) (isOf hZ eT E).choose_spec.choose_spec.1 (isOf hZ eT E).choose_spec.choose_spec.2.2 (g := mkF m pc Ls st) rfl hsz (Steps.refl _) (argsL := argsL) (rest := rest) (lenOf hpd hlen) hst (by show 2 * 0 + _ ≤ _; omega) hd (fun _ _ => ⟨rfl, eT, hc, hn⟩)
  dsimp only [Pt.U, Pt.locs, Pt.cells, Pt.slots] at X' l1 y1 z1 st' hQ
  subst l1 y1 z1
  exact ⟨v, T', Lc, X', hQ, fun t r => st'.trans r⟩
theorem o_bz (b : Prop) [Decidable b] : (if b then (1 : Int32) else 0) &&& 1 = if b then 1 else 0 := by by_cases q : b <;> simp [q]
theorem o_same {k n : Nat} (X : Stand p l e R s m args below meth c T (locs ++ []) (cells + k) (slots + n)) (hk : k = 0) (hn : n = 0) : Stand p l e R s m args below meth c T locs cells slots := by subst hk hn; simpa using X
theorem o_flat {k n : Nat} (X : Stand p l e R s m args below meth c T locs (cells + k) (slots + n)) (hk : k = 0) (hn : n = 0) : Stand p l e R s m args below meth c T locs cells slots := by subst hk hn; exact X
theorem o_fldI {a : Addr} {C n d : String} {x y : Int32} (q : y = x) (F : Fld Z h a C n d (.int x)) : Fld Z h a C n d (.int y) := q ▸ F
theorem o_fldJ {a : Addr} {C n d : String} {x y : Int64} (q : y = x) (F : Fld Z h a C n d (.long x)) : Fld Z h a C n d (.long y) := q ▸ F
theorem o_nb {z : Int32} (q : z = 0 ∨ z = 1) : narrow .boolean (.int z) = .int z := by rcases q with rfl | rfl <;> rfl
theorem o_fb {z : Int32} (q : z = 0 ∨ z = 1) : fits .boolean (.int z) = true := by rcases q with rfl | rfl <;> rfl
theorem o_zb {z : Int32} (q : z = 0 ∨ z = 1) : z &&& 1 = z := by rcases q with rfl | rfl <;> rfl
theorem o_or1 {z : Int32} (q : z = 0 ∨ z = 1) : (z ||| 1) = 0 ∨ (z ||| 1) = 1 := by rcases q with rfl | rfl <;> simp
theorem o_or0 {z : Int32} (q : z = 0 ∨ z = 1) : (z ||| 0) = 0 ∨ (z ||| 0) = 1 := by rcases q with rfl | rfl <;> simp
def oInts (Z : State) (h : Heap) (a : Addr) (xs : List Int32) : Prop := ∃ c : Cell, Arr Z h a c .int ∧ c.slots = (xs.map Value.int).toArray ∧ xs.length < 2 ^ 31
theorem oInts.lt {a : Addr} {xs : List Int32} (F : oInts Z h a xs) : a < h.size := by obtain ⟨c, A, -⟩ := F; exact A.lt
theorem oInts.ext {h' : Heap} {a : Addr} {xs : List Int32} (F : oInts Z h a xs) (E : Ext h h') : oInts Z h' a xs := by obtain ⟨c, A, r⟩ := F; exact ⟨c, A.ext E, r⟩
theorem oInts.keep {h' : Heap} {a : Addr} {xs : List Int32} {ws : List Addr} (F : oInts Z h a xs) (K : Keep h h' ws) (q : a ∉ ws) : oInts Z h' a xs := by obtain ⟨c, A, r⟩ := F; exact ⟨c, ⟨K.2.1 a c A.1 q, A.2⟩, r⟩
theorem oInts.set {h' : Heap} {a : Addr} {xs : List Int32} {i : Nat} {v : Int32} (F : oInts Z h a xs) (W : Wr h h' a i (.int v)) : oInts Z h' a (xs.set i v) := by
  obtain ⟨c, A, S, L⟩ := F
  refine ⟨_, A.same W, ?_, by simpa using L⟩
  simp [Cell.setSlot, S, List.map_set]
theorem oInts.new {a : Addr} {k : ClassId} {n : Int32} (A : Arr Z h a (newA k .int n) .int) (q : ¬ n < 0) : oInts Z h a (List.replicate n.toNatClampNeg 0) := by
  refine ⟨_, A, ?_, ?_⟩
  · simp [newA, defaultValue]
  · have := n.toInt_lt; simp only [List.length_replicate]; have h2 : n.toInt = (n.toNatClampNeg : Int) := nat_of q; omega
theorem oInts.at {a : Addr} {xs : List Int32} {j v : Int32} (F : oInts Z h a xs) (q : ¬ j < 0) (hj : xs[j.toNatClampNeg]? = some v) : ∃ c : Cell, Arr Z h a c .int ∧ ¬ (j < 0 ∨ c.slots.size ≤ j.toNatClampNeg) ∧ c.slots[j.toNatClampNeg]? = some (.int v) := by
  obtain ⟨c, A, S, L⟩ := F
  have hl : j.toNatClampNeg < xs.length := by
    rcases Nat.lt_or_ge j.toNatClampNeg xs.length with r | r
    · exact r
    · rw [List.getElem?_eq_none r] at hj; cases hj
  refine ⟨c, A, ?_, ?_⟩
  · rw [S]; simp only [List.size_toArray, List.length_map]; rintro (r | r)
    · exact q r
    · omega
  · rw [S]; simp [hj]
theorem o_iaload (X : Stand p l e R s m args below meth c T locs cells slots) (hx : p.tables.exec = Jvm.exec) (hZ : Z.Warmed39 s.vm) (eT : T.heap = h) {a : Addr} {xs : List Int32} (F : oInts Z h a xs) {pc pc' : Nat} {Ls : Array Slot} {st : List Value} {j v : Int32} (hd : decode c.code pc = .ok (.iaload, 1)) (q0 : ¬ j < 0) (hj : xs[j.toNatClampNeg]? = some v) (hp : pc + 1 = pc') (q : oGo p e below G T (mkF m pc' Ls (.int v :: st))) : oGo p e below G T (mkF m pc Ls (.int j :: .ref a :: st)) := by
  subst hp
  obtain ⟨cl, A, h1, h2⟩ := F.at q0 hj
  exact q.step fun t r => X.iaload (g := mkF m pc Ls (.int j :: .ref a :: st)) (rest := st) hx (by rw [eT]; exact A.1) (State.isArrayOf_alike hZ.alike A.2.1) A.2.2 h1 h2 rfl rfl hd t r
theorem o_alen (X : Stand p l e R s m args below meth c T locs cells slots) (hx : p.tables.exec = Jvm.exec) (hZ : Z.Warmed39 s.vm) (eT : T.heap = h) {a : Addr} {xs : List Int32} (F : oInts Z h a xs) {pc pc' : Nat} {Ls : Array Slot} {st : List Value} (hd : decode c.code pc = .ok (.arraylength, 1)) (hp : pc + 1 = pc') (q : oGo p e below G T (mkF m pc' Ls (.int xs.length.toInt32 :: st))) : oGo p e below G T (mkF m pc Ls (.ref a :: st)) := by
  subst hp
  obtain ⟨cl, A, S, L⟩ := F
  refine q.step fun t r => X.arraylength (g := mkF m pc Ls (.ref a :: st)) (rest := st) hx (by rw [eT]; exact A.1) (State.isArrayOf_alike hZ.alike A.2.1) rfl rfl hd t ?_
  have : cl.slots.size = xs.length := by rw [S]; simp
  rw [this]; exact r
theorem o_iastore (X : Stand p l e R s m args below meth c T locs cells slots) (hx : p.tables.exec = Jvm.exec) (hZ : Z.Warmed39 s.vm) (eT : T.heap = h) {a : Addr} {xs : List Int32} (F : oInts Z h a xs) {pc pc' : Nat} {Ls : Array Slot} {st : List Value} {j x : Int32} (hd : decode c.code pc = .ok (.iastore, 1)) (q0 : ¬ j < 0) (hj : j.toNatClampNeg < xs.length) (hp : pc + 1 = pc') :
    ∃ T' h', Stand p l e R s m args below meth c T' (locs ++ [⟨a, j.toNatClampNeg⟩]) cells slots ∧ T'.heap = h' ∧ Wr h h' a j.toNatClampNeg (.int x) ∧ ∀ t, Steps p.tables e below (T'.setTop (mkF m pc' Ls st)) t → Steps p.tables e below (T.setTop (mkF m pc Ls (.int x :: .int j :: .ref a :: st))) t := by
  subst hp
  obtain ⟨v, hv⟩ : ∃ v, xs[j.toNatClampNeg]? = some v := ⟨_, List.getElem?_eq_getElem hj⟩
  obtain ⟨cl, A, h1, h2⟩ := F.at q0 hv
  obtain ⟨T', h', X', e', W', st'⟩ := stI X hx hZ eT A (x := x) h1 (g := mkF m pc Ls (.int x :: .int j :: .ref a :: st)) (rest := st) rfl rfl hd
  exact ⟨T', h', X', e', W', st'⟩
theorem o_newI (X : Stand p l e R s m args below meth c T locs cells slots) (hx : p.tables.exec = Jvm.exec) (hZ : Z.Warmed39 s.vm) (w : (Jvm.Cond.arrayClass .int).before a0 Z = true) (eT : T.heap = h) {pc pc' : Nat} {Ls : Array Slot} {st : List Value} {n : Int32} (hd : decode c.code pc = .ok (.newarray .int, 2)) (hn : ¬ n < 0) (cap : Nat) (hcap : n.toNatClampNeg ≤ cap) (hb : cap * 8 ≤ 536870912) (hc : cells + 1 ≤ R.cells) (hl : slots + cap ≤ R.slots) (hp : pc + 2 = pc') :
    ∃ T' h', Stand p l e R s m args below meth c T' locs (cells + 1) (slots + cap) ∧ T'.heap = h' ∧ Ext h h' ∧ oInts Z h' h.size (List.replicate n.toNatClampNeg 0) ∧ ∀ t, Steps p.tables e below (T'.setTop (mkF m pc' Ls (.ref h.size :: st))) t → Steps p.tables e below (T.setTop (mkF m pc Ls (.int n :: st))) t := by
  subst hp
  obtain ⟨T', h', cA, X', e', E, A, st'⟩ := newP X hx hZ (aty := .int) w eT (g := mkF m pc Ls (.int n :: st)) rfl hd (n := n) (rest := st) rfl hn hcap hb hc hl
  have A' := oInts.new A hn
  exact ⟨T', h', X', e', E, A', st'⟩
end OwnKit
theorem d1_0 : decode jdk_29_method_69_code 0 = .ok (.iload_n 0, 1) := by decide +kernel
theorem d1_1 : decode jdk_29_method_69_code 1 = .ok (.iload_n 1, 1) := by decide +kernel
theorem d1_2 : decode jdk_29_method_69_code 2 = .ok (.if_icmp .gt 7, 3) := by decide +kernel
theorem d1_5 : decode jdk_29_method_69_code 5 = .ok (.iload_n 0, 1) := by decide +kernel
theorem d1_6 : decode jdk_29_method_69_code 6 = .ok (.goto 4, 3) := by decide +kernel
theorem d1_9 : decode jdk_29_method_69_code 9 = .ok (.iload_n 1, 1) := by decide +kernel
theorem d1_10 : decode jdk_29_method_69_code 10 = .ok (.ireturn, 1) := by decide +kernel
theorem ef_1 (m : MethodId) (x0 : Int32) (x1 : Int32) : entryFrame m #[(.int x0), (.int x1)] 2 = mkF m 0 #[.val (.int x0), .val (.int x1)] [] := by first | (simp [entryFrame, mkF, argsToLocals, Value.category]; done) | rfl
def spec1 (x0 : Int32) (x1 : Int32)  : Int32 := (if x1 < x0 then x1 else x0)
def room1 : Room := { frames := 0, cells := 0, slots := 0, locals := 0 }
set_option maxRecDepth 65536 in
set_option maxHeartbeats 40000000 in
theorem rm1 (l : Launch) (Z : State) (a0 : Array Value) (hw : ∀ d ∈ tables_1, d.before a0 Z = true) (x0 : Int32) (x1 : Int32)  (h0 : Heap) (n0 : Nat) (Z0 : n0 ≤ h0.size)  :
    oCon l Z (⟨"java/lang/Math", "min", "(II)I"⟩ : MethodName) jdk_29_method_69_code 2 (some .int) room1 #[(.int x0), (.int x1)] h0 (fun v h L => v = some (.int (spec1 x0 x1)) ∧ L = [] ∧ h = h0) := by
  refine oCon.of (by decide +kernel) ?_
  intro p e s m below meth c s₁ hx hby hml hown hnm hret hlk hZ X0 e0
  rw [ef_1 m x0 x1]
  have N0 := Fr.nil n0
  refine o_iloadN (pc' := 1) X0 hx (hb hby d1_0) rfl rfl ?_
  refine o_iloadN (pc' := 2) X0 hx (hb hby d1_1) rfl rfl ?_
  have J2 : ∀ (v3 : Int32), v3 = (if x1 < x0 then x1 else x0) → oGo p e below (oG s (fun v h L => v = some (.int (spec1 x0 x1)) ∧ L = [] ∧ h = h0) room1.cells room1.slots) s₁ (mkF m 10 #[.val (.int x0), .val (.int x1)] [(.int v3)]) := by
    intro v3 hv3
    refine o_retI X0 hx hret hlk (hb hby d1_10) (by decide) (by decide) ?_
    subst hv3
    exact ⟨congrArg (fun z => some (Value.int z)) (show _ = spec1 x0 x1  from (rfl).symm), rfl, e0⟩
  by_cases c1 : x1 < x0
  · refine o_icmpT (pc' := 9) X0 hx (hb hby d1_2) (XT.ii_gt_t c1) (by decide) (by decide) ?_
    refine o_iloadN (pc' := 10) X0 hx (hb hby d1_9) rfl rfl ?_
    exact J2 _ (if_pos c1).symm
  · refine o_icmpF (pc' := 5) X0 hx (hb hby d1_2) (XT.ii_gt_f c1) rfl ?_
    refine o_iloadN (pc' := 6) X0 hx (hb hby d1_5) rfl rfl ?_
    refine o_goto (pc' := 10) X0 hx (hb hby d1_6) (by decide) (by decide) ?_
    exact J2 _ (if_neg c1).symm
theorem d2_0 : decode jdk_29_method_65_code 0 = .ok (.iload_n 0, 1) := by decide +kernel
theorem d2_1 : decode jdk_29_method_65_code 1 = .ok (.iload_n 1, 1) := by decide +kernel
theorem d2_2 : decode jdk_29_method_65_code 2 = .ok (.if_icmp .lt 7, 3) := by decide +kernel
theorem d2_5 : decode jdk_29_method_65_code 5 = .ok (.iload_n 0, 1) := by decide +kernel
theorem d2_6 : decode jdk_29_method_65_code 6 = .ok (.goto 4, 3) := by decide +kernel
theorem d2_9 : decode jdk_29_method_65_code 9 = .ok (.iload_n 1, 1) := by decide +kernel
theorem d2_10 : decode jdk_29_method_65_code 10 = .ok (.ireturn, 1) := by decide +kernel
theorem ef_2 (m : MethodId) (x0 : Int32) (x1 : Int32) : entryFrame m #[(.int x0), (.int x1)] 2 = mkF m 0 #[.val (.int x0), .val (.int x1)] [] := by first | (simp [entryFrame, mkF, argsToLocals, Value.category]; done) | rfl
def spec2 (x0 : Int32) (x1 : Int32)  : Int32 := (if x0 < x1 then x1 else x0)
def room2 : Room := { frames := 0, cells := 0, slots := 0, locals := 0 }
set_option maxRecDepth 65536 in
set_option maxHeartbeats 40000000 in
theorem rm2 (l : Launch) (Z : State) (a0 : Array Value) (hw : ∀ d ∈ tables_1, d.before a0 Z = true) (x0 : Int32) (x1 : Int32)  (h0 : Heap) (n0 : Nat) (Z0 : n0 ≤ h0.size)  :
    oCon l Z (⟨"java/lang/Math", "max", "(II)I"⟩ : MethodName) jdk_29_method_65_code 2 (some .int) room2 #[(.int x0), (.int x1)] h0 (fun v h L => v = some (.int (spec2 x0 x1)) ∧ L = [] ∧ h = h0) := by
  refine oCon.of (by decide +kernel) ?_
  intro p e s m below meth c s₁ hx hby hml hown hnm hret hlk hZ X0 e0
  rw [ef_2 m x0 x1]
  have N0 := Fr.nil n0
  refine o_iloadN (pc' := 1) X0 hx (hb hby d2_0) rfl rfl ?_
  refine o_iloadN (pc' := 2) X0 hx (hb hby d2_1) rfl rfl ?_
  have J2 : ∀ (v3 : Int32), v3 = (if x0 < x1 then x1 else x0) → oGo p e below (oG s (fun v h L => v = some (.int (spec2 x0 x1)) ∧ L = [] ∧ h = h0) room2.cells room2.slots) s₁ (mkF m 10 #[.val (.int x0), .val (.int x1)] [(.int v3)]) := by
    intro v3 hv3
    refine o_retI X0 hx hret hlk (hb hby d2_10) (by decide) (by decide) ?_
    subst hv3
    exact ⟨congrArg (fun z => some (Value.int z)) (show _ = spec2 x0 x1  from (rfl).symm), rfl, e0⟩
  by_cases c1 : x0 < x1
  · refine o_icmpT (pc' := 9) X0 hx (hb hby d2_2) (XT.ii_lt_t c1) (by decide) (by decide) ?_
    refine o_iloadN (pc' := 10) X0 hx (hb hby d2_9) rfl rfl ?_
    exact J2 _ (if_pos c1).symm
  · refine o_icmpF (pc' := 5) X0 hx (hb hby d2_2) (XT.ii_lt_f c1) rfl ?_
    refine o_iloadN (pc' := 6) X0 hx (hb hby d2_5) rfl rfl ?_
    refine o_goto (pc' := 10) X0 hx (hb hby d2_6) (by decide) (by decide) ?_
    exact J2 _ (if_neg c1).symm
section OwnRefs
variable {p : Program} {l : Launch} {e : Env} {R : Room} {s : State} {m : MethodId} {args : Array Value} {below : List Frame} {meth : Method} {c : Code} {T : State} {locs : List Loc} {cells slots : Nat} {Z : State} {a0 : Array Value} {h : Heap} {G : Outcome → State → Prop}
def oRefs (Z : State) (h : Heap) (a : Addr) (vs : List Value) : Prop := ∃ c : Cell, Arr Z h a c (.array .int) ∧ OvrA Z c.cls .int "[I" ∧ c.slots = vs.toArray ∧ vs.length < 2 ^ 31
theorem oRefs.lt {a : Addr} {vs : List Value} (F : oRefs Z h a vs) : a < h.size := by obtain ⟨c, A, -⟩ := F; exact A.lt
theorem oRefs.keep {h' : Heap} {a : Addr} {vs : List Value} {ws : List Addr} (F : oRefs Z h a vs) (K : Keep h h' ws) (q : a ∉ ws) : oRefs Z h' a vs := by obtain ⟨c, A, r⟩ := F; exact ⟨c, ⟨K.2.1 a c A.1 q, A.2⟩, r⟩
theorem oRefs.set {h' : Heap} {a : Addr} {vs : List Value} {i : Nat} {v : Value} (F : oRefs Z h a vs) (W : Wr h h' a i v) : oRefs Z h' a (vs.set i v) := by
  obtain ⟨c, A, O, S, L⟩ := F
  refine ⟨_, A.same W, O, ?_, by simpa using L⟩
  simp [Cell.setSlot, S]
theorem oRefs.at {a : Addr} {vs : List Value} {j : Int32} {v : Value} (F : oRefs Z h a vs) (q : ¬ j < 0) (hj : vs[j.toNatClampNeg]? = some v) : ∃ c : Cell, Arr Z h a c (.array .int) ∧ OvrA Z c.cls .int "[I" ∧ ¬ (j < 0 ∨ c.slots.size ≤ j.toNatClampNeg) ∧ c.slots[j.toNatClampNeg]? = some v := by
  obtain ⟨c, A, O, S, L⟩ := F
  have hl : j.toNatClampNeg < vs.length := by
    rcases Nat.lt_or_ge j.toNatClampNeg vs.length with r | r
    · exact r
    · rw [List.getElem?_eq_none r] at hj; cases hj
  refine ⟨c, A, O, ?_, ?_⟩
  · rw [S]; simp only [List.size_toArray]; rintro (r | r)
    · exact q r
    · omega
  · rw [S]; simp [hj]
theorem o_rlen (X : Stand p l e R s m args below meth c T locs cells slots) (hx : p.tables.exec = Jvm.exec) (hZ : Z.Warmed39 s.vm) (eT : T.heap = h) {a : Addr} {vs : List Value} (F : oRefs Z h a vs) {pc pc' : Nat} {Ls : Array Slot} {st : List Value} (hd : decode c.code pc = .ok (.arraylength, 1)) (hp : pc + 1 = pc') (q : oGo p e below G T (mkF m pc' Ls (.int vs.length.toInt32 :: st))) : oGo p e below G T (mkF m pc Ls (.ref a :: st)) := by
  subst hp
  obtain ⟨cl, A, O, S, L⟩ := F
  refine q.step fun t r => X.arraylength (g := mkF m pc Ls (.ref a :: st)) (rest := st) hx (by rw [eT]; exact A.1) (State.isArrayOf_alike hZ.alike A.2.1) rfl rfl hd t ?_
  have : cl.slots.size = vs.length := by rw [S]; simp
  rw [this]; exact r
theorem o_aaload (X : Stand p l e R s m args below meth c T locs cells slots) (hx : p.tables.exec = Jvm.exec) (hZ : Z.Warmed39 s.vm) (eT : T.heap = h) {a : Addr} {vs : List Value} (F : oRefs Z h a vs) {pc pc' : Nat} {Ls : Array Slot} {st : List Value} {j : Int32} {v : Value} (hd : decode c.code pc = .ok (.aaload, 1)) (q0 : ¬ j < 0) (hj : vs[j.toNatClampNeg]? = some v) (hp : pc + 1 = pc') (q : oGo p e below G T (mkF m pc' Ls (v :: st))) : oGo p e below G T (mkF m pc Ls (.int j :: .ref a :: st)) := by
  subst hp
  obtain ⟨cl, A, O, h1, h2⟩ := F.at q0 hj
  exact q.step fun t r => X.aaload (g := mkF m pc Ls (.int j :: .ref a :: st)) (rest := st) hx (by rw [eT]; exact A.1) (State.isArrayOf_alike hZ.alike A.2.1) rfl A.2.2 h1 h2 rfl rfl hd t r
theorem o_aastore (X : Stand p l e R s m args below meth c T locs cells slots) (hx : p.tables.exec = Jvm.exec) (hZ : Z.Warmed39 s.vm) (eT : T.heap = h) {a y : Addr} {vs : List Value} (F : oRefs Z h a vs) (E : Exa Z h y "[I") {pc pc' : Nat} {Ls : Array Slot} {st : List Value} {j : Int32} (hd : decode c.code pc = .ok (.aastore, 1)) (q0 : ¬ j < 0) (hj : j.toNatClampNeg < vs.length) (hp : pc + 1 = pc') :
    ∃ T' h', Stand p l e R s m args below meth c T' (locs ++ [⟨a, j.toNatClampNeg⟩]) cells slots ∧ T'.heap = h' ∧ Wr h h' a j.toNatClampNeg (.ref y) ∧ ∀ t, Steps p.tables e below (T'.setTop (mkF m pc' Ls st)) t → Steps p.tables e below (T.setTop (mkF m pc Ls (.ref y :: .int j :: .ref a :: st))) t := by
  subst hp
  obtain ⟨v, hv⟩ : ∃ v, vs[j.toNatClampNeg]? = some v := ⟨_, List.getElem?_eq_getElem hj⟩
  obtain ⟨cl, A, O, h1, h2⟩ := F.at q0 hv
  obtain ⟨T', h', X', e', W', st'⟩ := stR X hx hZ eT A (v := .ref y) h1 rfl (Sto.ofVA A rfl O (Ins.self E)) (g := mkF m pc Ls (.ref y :: .int j :: .ref a :: st)) (rest := st) rfl rfl hd
  exact ⟨T', h', X', e', W', st'⟩
theorem o_anew (X : Stand p l e R s m args below meth c T locs cells slots) (hx : p.tables.exec = Jvm.exec) (hZ : Z.Warmed39 s.vm) {own : String} {index : Nat} (hown : s.vm.findClass own = some m.cls) (w1 : (Jvm.Cond.classLink own index "[I").before a0 Z = true) (w2 : (Jvm.Cond.arrayOver (.array .int)).before a0 Z = true) (eT : T.heap = h) {pc pc' : Nat} {Ls : Array Slot} {st : List Value} {n : Int32} (hd : decode c.code pc = .ok (.anewarray index, 3)) (hn : ¬ n < 0) (cap : Nat) (hcap : n.toNatClampNeg ≤ cap) (hb : cap * 8 ≤ 536870912) (hc : cells + 1 ≤ R.cells) (hl : slots + cap ≤ R.slots) (hp : pc + 3 = pc') :
    ∃ T' h', Stand p l e R s m args below meth c T' locs (cells + 1) (slots + cap) ∧ T'.heap = h' ∧ Ext h h' ∧ oRefs Z h' h.size (List.replicate n.toNatClampNeg .null) ∧ ∀ t, Steps p.tables e below (T'.setTop (mkF m pc' Ls (.ref h.size :: st))) t → Steps p.tables e below (T.setTop (mkF m pc Ls (.int n :: st))) t := by
  subst hp
  obtain ⟨T', h', cA, X', e', E, A, -, O, st'⟩ := newRA X hx hZ hown (ty := .int) (C := "[I") (by decide) w1 w2 eT (g := mkF m pc Ls (.int n :: st)) rfl hd (n := n) (rest := st) rfl hn hcap hb hc hl rfl
  refine ⟨T', h', X', e', E, ⟨_, A, O, ?_, ?_⟩, st'⟩
  · simp [newA, defaultValue]
  · have := n.toInt_lt; simp only [List.length_replicate]; have h2 : n.toInt = (n.toNatClampNeg : Int) := nat_of hn; omega
theorem o_newIE (X : Stand p l e R s m args below meth c T locs cells slots) (hx : p.tables.exec = Jvm.exec) (hZ : Z.Warmed39 s.vm) (w : (Jvm.Cond.arrayClass .int).before a0 Z = true) (eT : T.heap = h) {pc pc' : Nat} {Ls : Array Slot} {st : List Value} {n : Int32} (hd : decode c.code pc = .ok (.newarray .int, 2)) (hn : ¬ n < 0) (cap : Nat) (hcap : n.toNatClampNeg ≤ cap) (hb : cap * 8 ≤ 536870912) (hc : cells + 1 ≤ R.cells) (hl : slots + cap ≤ R.slots) (hp : pc + 2 = pc') :
    ∃ T' h', Stand p l e R s m args below meth c T' locs (cells + 1) (slots + cap) ∧ T'.heap = h' ∧ Ext h h' ∧ oInts Z h' h.size (List.replicate n.toNatClampNeg 0) ∧ Exa Z h' h.size "[I" ∧ ∀ t, Steps p.tables e below (T'.setTop (mkF m pc' Ls (.ref h.size :: st))) t → Steps p.tables e below (T.setTop (mkF m pc Ls (.int n :: st))) t := by
  subst hp
  obtain ⟨T', h', cA, X', e', E, A, Ex, st'⟩ := newPE X hx hZ (aty := .int) w eT (g := mkF m pc Ls (.int n :: st)) rfl hd (n := n) (rest := st) rfl hn hcap hb hc hl (ad := "[I") (by decide)
  have A' := oInts.new A hn
  exact ⟨T', h', X', e', E, A', Ex, st'⟩
end OwnRefs
def oI (x : Int32) (N : Nat) : Nat := (x % N.toInt32).toNatClampNeg
theorem own_len {N : Nat} (h : N < 2 ^ 31) : N.toInt32.toInt = N := len_toInt h
theorem own_nz {N : Nat} (h0 : 0 < N) (h : N < 2 ^ 31) : N.toInt32 ≠ 0 := fun q => by
  have h1 := own_len h; rw [q] at h1; have : (0 : Int32).toInt = 0 := rfl; omega
theorem own_mod {x : Int32} {N : Nat} (hx : ¬ x < 0) (h0 : 0 < N) (h : N < 2 ^ 31) : (¬ (x % N.toInt32) < 0) ∧ (x % N.toInt32).toInt = x.toInt % N ∧ oI x N < N ∧ (oI x N : Int) = x.toInt % N := by
  have hx' : 0 ≤ x.toInt := by rw [Int32.lt_iff_toInt_lt] at hx; have : (0 : Int32).toInt = 0 := rfl; omega
  have e1 : (x % N.toInt32).toInt = x.toInt % N := by rw [Int32.toInt_mod, own_len h]; exact Int.tmod_eq_emod_of_nonneg hx'
  have h2 : 0 ≤ x.toInt % (N : Int) := Int.emod_nonneg _ (by omega)
  have h3 : x.toInt % (N : Int) < N := Int.emod_lt_of_pos _ (by omega)
  have e2 : ¬ (x % N.toInt32) < 0 := by rw [Int32.lt_iff_toInt_lt, e1]; have : (0 : Int32).toInt = 0 := rfl; omega
  have e3 : (oI x N : Int) = x.toInt % N := by rw [← e1]; exact (nat_of e2).symm
  exact ⟨e2, e1, by omega, e3⟩
theorem own_getI {xs : List Int32} {x : Int32} {N : Nat} (hl : xs.length = N) (hx : ¬ x < 0) (h0 : 0 < N) (h : N < 2 ^ 31) : xs[(x % N.toInt32).toNatClampNeg]? = some (xs.getD (oI x N) 0) := by
  have := (own_mod hx h0 h).2.2.1
  show xs[oI x N]? = _
  rw [List.getD_eq_getElem?_getD, List.getElem?_eq_getElem (by omega)]; rfl
theorem own_getV {xs : List Value} {x : Int32} {N : Nat} (hl : xs.length = N) (hx : ¬ x < 0) (h0 : 0 < N) (h : N < 2 ^ 31) : xs[(x % N.toInt32).toNatClampNeg]? = some (xs.getD (oI x N) .null) := by
  have := (own_mod hx h0 h).2.2.1
  show xs[oI x N]? = _
  rw [List.getD_eq_getElem?_getD, List.getElem?_eq_getElem (by omega)]; rfl
theorem d3_0 : decode prog_47_method_1_code 0 = .ok (.aload_n 0, 1) := by decide +kernel
theorem d3_1 : decode prog_47_method_1_code 1 = .ok (.invokespecial 1, 3) := by decide +kernel
theorem d3_4 : decode prog_47_method_1_code 4 = .ok (.iconst 1, 1) := by decide +kernel
theorem d3_5 : decode prog_47_method_1_code 5 = .ok (.iload_n 1, 1) := by decide +kernel
theorem d3_6 : decode prog_47_method_1_code 6 = .ok (.iload_n 2, 1) := by decide +kernel
theorem d3_7 : decode prog_47_method_1_code 7 = .ok (.invokestatic 7, 3) := by decide +kernel
theorem d3_10 : decode prog_47_method_1_code 10 = .ok (.invokestatic 13, 3) := by decide +kernel
theorem d3_13 : decode prog_47_method_1_code 13 = .ok (.istore_n 3, 1) := by decide +kernel
theorem d3_14 : decode prog_47_method_1_code 14 = .ok (.aload_n 0, 1) := by decide +kernel
theorem d3_15 : decode prog_47_method_1_code 15 = .ok (.iload_n 3, 1) := by decide +kernel
theorem d3_16 : decode prog_47_method_1_code 16 = .ok (.anewarray 16, 3) := by decide +kernel
theorem d3_19 : decode prog_47_method_1_code 19 = .ok (.putfield 18, 3) := by decide +kernel
theorem d3_22 : decode prog_47_method_1_code 22 = .ok (.aload_n 0, 1) := by decide +kernel
theorem d3_23 : decode prog_47_method_1_code 23 = .ok (.iload_n 3, 1) := by decide +kernel
theorem d3_24 : decode prog_47_method_1_code 24 = .ok (.newarray .int, 2) := by decide +kernel
theorem d3_26 : decode prog_47_method_1_code 26 = .ok (.putfield 24, 3) := by decide +kernel
theorem d3_29 : decode prog_47_method_1_code 29 = .ok (.return_, 1) := by decide +kernel
theorem pn_3 : plainName "com/example/stratigraph/stratigraph/store/RecentLists" = true := by first | (simp [plainName, overriddenIn]; done) | decide +kernel
theorem ef_3 (m : MethodId) (a1 : Addr) (x1 x2 : Int32) : entryFrame m #[(.ref a1), (.int x1), (.int x2)] 4 = mkF m 0 #[.val (.ref a1), .val (.int x1), .val (.int x2), .unset] [] := by first | (simp [entryFrame, mkF, argsToLocals, Value.category]; done) | rfl
theorem pd0 : parseMethodDescriptor "(II)I" = some ⟨[.int, .int], (some .int)⟩ := by decide +kernel
def room3 : Room := { frames := 1, cells := 2, slots := 24, locals := 14 }
set_option maxRecDepth 65536 in
set_option maxHeartbeats 40000000 in
theorem rm3 (l : Launch) (Z : State) (a0 : Array Value) (hw : ∀ d ∈ tables_1, d.before a0 Z = true) (a1 : Addr) (x1 x2 : Int32) (h0 : Heap) (n0 : Nat) (Z0 : n0 ≤ h0.size) (E0 : Exa Z h0 a1 "com/example/stratigraph/stratigraph/store/RecentLists") (F_lists : Fld Z h0 a1 "com/example/stratigraph/stratigraph/store/RecentLists" "lists" "[[I" .null) (F_chains : Fld Z h0 a1 "com/example/stratigraph/stratigraph/store/RecentLists" "chains" "[I" .null) (ga : n0 ≤ a1) (hs0 : ¬ (spec2 (1 : Int32) (spec1 x1 x2)) < 0) (hs1 : ((spec2 (1 : Int32) (spec1 x1 x2))).toNatClampNeg ≤ 12) :
    oCon l Z (⟨"com/example/stratigraph/stratigraph/store/RecentLists", "<init>", "(II)V"⟩ : MethodName) prog_47_method_1_code 4 none room3 #[(.ref a1), (.int x1), (.int x2)] h0 (fun v h L => ∃ la ca, v = none ∧ Fr n0 L ∧ Keep h0 h [a1] ∧ Exa Z h a1 "com/example/stratigraph/stratigraph/store/RecentLists" ∧ Fld Z h a1 "com/example/stratigraph/stratigraph/store/RecentLists" "lists" "[[I" (.ref la) ∧ Fld Z h a1 "com/example/stratigraph/stratigraph/store/RecentLists" "chains" "[I" (.ref ca) ∧ oRefs Z h la (List.replicate ((spec2 (1 : Int32) (spec1 x1 x2))).toNatClampNeg Value.null) ∧ oInts Z h ca (List.replicate ((spec2 (1 : Int32) (spec1 x1 x2))).toNatClampNeg (0 : Int32)) ∧ n0 ≤ la ∧ n0 ≤ ca ∧ a1 ≠ la ∧ a1 ≠ ca ∧ la ≠ ca ∧ h0.size ≤ la ∧ h0.size ≤ ca) := by
  refine oCon.of (plainFor_of_name pn_3) ?_
  intro p e s m below meth c s₁ hx hby hml hown hnm hret hlk hZ X0 e0
  rw [ef_3 m a1 x1 x2]
  have N0 := Fr.nil n0
  have K0 := Keep.refl h0 [a1]
  refine o_aloadN (pc' := 1) X0 hx (hb hby d3_0) rfl rfl rfl ?_
  obtain ⟨T1, X1, e1, st1⟩ := initO X0 hx hZ hown (hw _ (List.mem_of_getElem? (i := 16) rfl)) (hw _ (List.mem_of_getElem? (i := 17) rfl)) (hw _ (List.mem_of_getElem? (i := 18) rfl)) e0 (g := (mkF m 1 #[.val (.ref a1), .val (.int x1), .val (.int x2), .unset] [(.ref a1)])) rfl (by rw [hml]; rfl) rfl (hb hby d3_1) (by decide) (W := 0) (by show 2 * 0 + _ ≤ _; exact Nat.le_of_eq rfl) (by decide)
  refine oGo.step (f' := (mkF m 4 #[.val (.ref a1), .val (.int x1), .val (.int x2), .unset] [])) st1 ?_
  refine o_iconst (pc' := 5) (v := (1 : Int32)) X1 hx (hb hby d3_4) rfl rfl ?_
  refine o_iloadN (pc' := 6) X1 hx (hb hby d3_5) rfl rfl ?_
  refine o_iloadN (pc' := 7) X1 hx (hb hby d3_6) rfl rfl ?_
  obtain ⟨r2, T2, L2, X2, hq2, st2⟩ := o_callS X1 hx hZ hown (hw _ (List.mem_of_getElem? (i := 19) rfl)) (hw _ (List.mem_of_getElem? (i := 1) rfl)) (hw _ (List.mem_of_getElem? (i := 2) rfl)) (hw _ (List.mem_of_getElem? (i := 3) rfl)) (by decide) (rm1 l Z a0 hw x1 x2  h0 n0 Z0 ) e1 (pc' := 10) (Ls := #[.val (.ref a1), .val (.int x1), .val (.int x2), .unset]) (by rw [hml]; rfl) [(.int x1), (.int x2)] [(.int (1 : Int32))] rfl pd0 rfl rfl 1 (Nat.le_of_eq rfl) (hb hby d3_7) rfl (by decide) (by decide) (by decide) (by decide)
  obtain ⟨rfl, rfl, Kc2⟩ := hq2
  refine oGo.step (f' := (mkF m 10 #[.val (.ref a1), .val (.int x1), .val (.int x2), .unset] [(.int (spec1 x1 x2)), (.int (1 : Int32))])) st2 ?_
  have e2 : T2.heap = h0 := Kc2
  have X2 := o_same X2 rfl rfl
  obtain ⟨r3, T3, L3, X3, hq3, st3⟩ := o_callS X2 hx hZ hown (hw _ (List.mem_of_getElem? (i := 20) rfl)) (hw _ (List.mem_of_getElem? (i := 5) rfl)) (hw _ (List.mem_of_getElem? (i := 2) rfl)) (hw _ (List.mem_of_getElem? (i := 6) rfl)) (by decide) (rm2 l Z a0 hw (1 : Int32) (spec1 x1 x2)  h0 n0 Z0 ) e2 (pc' := 13) (Ls := #[.val (.ref a1), .val (.int x1), .val (.int x2), .unset]) (by rw [hml]; rfl) [(.int (1 : Int32)), (.int (spec1 x1 x2))] [] rfl pd0 rfl rfl 0 (Nat.le_of_eq rfl) (hb hby d3_10) rfl (by decide) (by decide) (by decide) (by decide)
  obtain ⟨rfl, rfl, Kc3⟩ := hq3
  refine oGo.step (f' := (mkF m 13 #[.val (.ref a1), .val (.int x1), .val (.int x2), .unset] [(.int (spec2 (1 : Int32) (spec1 x1 x2)))])) st3 ?_
  have e3 : T3.heap = h0 := Kc3
  have X3 := o_same X3 rfl rfl
  refine o_istoreN (pc' := 14) (l' := #[.val (.ref a1), .val (.int x1), .val (.int x2), .val (.int (spec2 (1 : Int32) (spec1 x1 x2)))]) X3 hx (hb hby d3_13) rfl rfl ?_
  refine o_aloadN (pc' := 15) X3 hx (hb hby d3_14) rfl rfl rfl ?_
  refine o_iloadN (pc' := 16) X3 hx (hb hby d3_15) rfl rfl ?_
  obtain ⟨T4, h4_, X4, e4, E4, A4, st4⟩ := o_anew (Ls := #[.val (.ref a1), .val (.int x1), .val (.int x2), .val (.int (spec2 (1 : Int32) (spec1 x1 x2)))]) (st := [(.ref a1)]) (n := (spec2 (1 : Int32) (spec1 x1 x2))) X3 hx hZ hown (hw _ (List.mem_of_getElem? (i := 21) rfl)) (hw _ (List.mem_of_getElem? (i := 22) rfl)) e3 (hb hby d3_16) hs0 12 hs1 (by decide) (by decide) (by decide) rfl
  obtain ⟨b4, g4⟩ : ∃ z, z = h0.size := ⟨_, rfl⟩
  rw [← g4] at A4 st4
  have ne5 : a1 ≠ b4 := by rw [g4]; exact Nat.ne_of_lt E0.lt
  have ge6 : n0 ≤ b4 := by rw [g4]; exact Z0
  have ge7 : h0.size ≤ b4 := by rw [g4]; exact K0.1
  have K8 := (Keep.refl h0 []).ext E4
  have F9 := E0.keep K8
  have F10 := F_lists.keep K8 nin0
  have F11 := F_chains.keep K8 nin0
  have Z12 := Nat.le_trans Z0 K8.1
  have K13 := K0.trans K8 all0
  refine oGo.step (f' := (mkF m 19 #[.val (.ref a1), .val (.int x1), .val (.int x2), .val (.int (spec2 (1 : Int32) (spec1 x1 x2)))] [(.ref b4), (.ref a1)])) st4 ?_
  obtain ⟨T14, h14_, X14, e14, W14, st14⟩ := putF X4 hx hZ hown (host := "") (Or.inl (hw _ (List.mem_of_getElem? (i := 23) rfl))) Via.refl e4 F10 F9 (Or.inr ⟨(hw _ (List.mem_of_getElem? (i := 24) rfl)), rfl, hnm⟩) (hw _ (List.mem_of_getElem? (i := 11) rfl)) (ty := (.array (.array .int))) (by decide) rfl rfl (g := (mkF m 19 #[.val (.ref a1), .val (.int x1), .val (.int x2), .val (.int (spec2 (1 : Int32) (spec1 x1 x2)))] [(.ref b4), (.ref a1)])) rfl rfl (hb hby d3_19)
  refine oGo.step (f' := (mkF m 22 #[.val (.ref a1), .val (.int x1), .val (.int x2), .val (.int (spec2 (1 : Int32) (spec1 x1 x2)))] [])) st14 ?_
  have N14 := Fr.snoc X14 N0 ga
  have F15 := F9.wr W14
  have F16 := F10.same W14
  have F17 := F11.other W14 (Or.inr (slot_ne (Or.inr (hw _ (List.mem_of_getElem? (i := 26) rfl))) (Or.inr (hw _ (List.mem_of_getElem? (i := 24) rfl))) (by decide) (t := (.array .int)) (t' := (.array (.array .int))) (by decide) (by decide)))
  have F18 := A4.keep (Keep.of_wr W14) (ninS (Ne.symm ne5) nin0)
  have K19 := K13.wr W14 (Or.inl (List.mem_of_getElem? (i := 0) rfl))
  have Z20 := Nat.le_trans Z12 (Keep.of_wr W14).1
  refine o_aloadN (pc' := 23) X14 hx (hb hby d3_22) rfl rfl rfl ?_
  refine o_iloadN (pc' := 24) X14 hx (hb hby d3_23) rfl rfl ?_
  obtain ⟨T21, h21_, X21, e21, E21, A21, Y21, st21⟩ := o_newIE (Ls := #[.val (.ref a1), .val (.int x1), .val (.int x2), .val (.int (spec2 (1 : Int32) (spec1 x1 x2)))]) (st := [(.ref a1)]) (n := (spec2 (1 : Int32) (spec1 x1 x2))) X14 hx hZ (hw _ (List.mem_of_getElem? (i := 9) rfl)) e14 (hb hby d3_24) hs0 12 hs1 (by decide) (by decide) (by decide) rfl
  obtain ⟨b21, g21⟩ : ∃ z, z = h14_.size := ⟨_, rfl⟩
  rw [← g21] at A21 Y21 st21
  have ne22 : a1 ≠ b21 := by rw [g21]; exact Nat.ne_of_lt F15.lt
  have ne23 : b4 ≠ b21 := by rw [g21]; exact Nat.ne_of_lt F18.lt
  have ge24 : n0 ≤ b21 := by rw [g21]; exact Z20
  have ge25 : h0.size ≤ b21 := by rw [g21]; exact K19.1
  have K26 := (Keep.refl h14_ []).ext E21
  have F27 := F15.keep K26
  have F28 := F16.keep K26 nin0
  have F29 := F17.keep K26 nin0
  have F30 := F18.keep K26 nin0
  have Z31 := Nat.le_trans Z20 K26.1
  have K32 := K19.trans K26 all0
  refine oGo.step (f' := (mkF m 26 #[.val (.ref a1), .val (.int x1), .val (.int x2), .val (.int (spec2 (1 : Int32) (spec1 x1 x2)))] [(.ref b21), (.ref a1)])) st21 ?_
  obtain ⟨T33, h33_, X33, e33, W33, st33⟩ := putF X21 hx hZ hown (host := "") (Or.inl (hw _ (List.mem_of_getElem? (i := 25) rfl))) Via.refl e21 F29 F27 (Or.inr ⟨(hw _ (List.mem_of_getElem? (i := 26) rfl)), rfl, hnm⟩) (hw _ (List.mem_of_getElem? (i := 11) rfl)) (ty := (.array .int)) (by decide) rfl rfl (g := (mkF m 26 #[.val (.ref a1), .val (.int x1), .val (.int x2), .val (.int (spec2 (1 : Int32) (spec1 x1 x2)))] [(.ref b21), (.ref a1)])) rfl rfl (hb hby d3_26)
  refine oGo.step (f' := (mkF m 29 #[.val (.ref a1), .val (.int x1), .val (.int x2), .val (.int (spec2 (1 : Int32) (spec1 x1 x2)))] [])) st33 ?_
  have N33 := Fr.snoc X33 N14 ga
  have F34 := F27.wr W33
  have F35 := F28.other W33 (Or.inr (slot_ne (Or.inr (hw _ (List.mem_of_getElem? (i := 24) rfl))) (Or.inr (hw _ (List.mem_of_getElem? (i := 26) rfl))) (by decide) (t := (.array (.array .int))) (t' := (.array .int)) (by decide) (by decide)))
  have F36 := F29.same W33
  have F37 := F30.keep (Keep.of_wr W33) (ninS (Ne.symm ne5) nin0)
  have F38 := A21.keep (Keep.of_wr W33) (ninS (Ne.symm ne22) nin0)
  have F39 := Y21.wr W33
  have K40 := K32.wr W33 (Or.inl (List.mem_of_getElem? (i := 0) rfl))
  have Z41 := Nat.le_trans Z31 (Keep.of_wr W33).1
  refine o_retV X33 hx hret hlk (hb hby d3_29) (by decide) (by decide) ?_
  rw [e33]
  exact ⟨b4, b21, rfl, N33, K40, F34, F35, F36, F37, F38, ge6, ge24, ne5, ne22, ne23, ge7, ge25⟩
theorem d5_0 : decode prog_47_method_4_code 0 = .ok (.aload_n 0, 1) := by decide +kernel
theorem d5_1 : decode prog_47_method_4_code 1 = .ok (.getfield 18, 3) := by decide +kernel
theorem d5_4 : decode prog_47_method_4_code 4 = .ok (.iload_n 1, 1) := by decide +kernel
theorem d5_5 : decode prog_47_method_4_code 5 = .ok (.aload_n 0, 1) := by decide +kernel
theorem d5_6 : decode prog_47_method_4_code 6 = .ok (.getfield 18, 3) := by decide +kernel
theorem d5_9 : decode prog_47_method_4_code 9 = .ok (.arraylength, 1) := by decide +kernel
theorem d5_10 : decode prog_47_method_4_code 10 = .ok (.irem, 1) := by decide +kernel
theorem d5_11 : decode prog_47_method_4_code 11 = .ok (.aload_n 2, 1) := by decide +kernel
theorem d5_12 : decode prog_47_method_4_code 12 = .ok (.aastore, 1) := by decide +kernel
theorem d5_13 : decode prog_47_method_4_code 13 = .ok (.aload_n 0, 1) := by decide +kernel
theorem d5_14 : decode prog_47_method_4_code 14 = .ok (.getfield 24, 3) := by decide +kernel
theorem d5_17 : decode prog_47_method_4_code 17 = .ok (.iload_n 1, 1) := by decide +kernel
theorem d5_18 : decode prog_47_method_4_code 18 = .ok (.aload_n 0, 1) := by decide +kernel
theorem d5_19 : decode prog_47_method_4_code 19 = .ok (.getfield 24, 3) := by decide +kernel
theorem d5_22 : decode prog_47_method_4_code 22 = .ok (.arraylength, 1) := by decide +kernel
theorem d5_23 : decode prog_47_method_4_code 23 = .ok (.irem, 1) := by decide +kernel
theorem d5_24 : decode prog_47_method_4_code 24 = .ok (.iload_n 3, 1) := by decide +kernel
theorem d5_25 : decode prog_47_method_4_code 25 = .ok (.iastore, 1) := by decide +kernel
theorem d5_26 : decode prog_47_method_4_code 26 = .ok (.return_, 1) := by decide +kernel
theorem ef_5 (m : MethodId) (a1 : Addr) (x1 : Int32) (x2 : Addr) (x3 : Int32) : entryFrame m #[(.ref a1), (.int x1), (.ref x2), (.int x3)] 4 = mkF m 0 #[.val (.ref a1), .val (.int x1), .val (.ref x2), .val (.int x3)] [] := by first | (simp [entryFrame, mkF, argsToLocals, Value.category]; done) | rfl
def room5 : Room := { frames := 0, cells := 0, slots := 0, locals := 0 }
set_option maxRecDepth 65536 in
set_option maxHeartbeats 40000000 in
theorem rm5 (l : Launch) (Z : State) (a0 : Array Value) (hw : ∀ d ∈ tables_1, d.before a0 Z = true) (a1 : Addr) (x1 : Int32) (x2 : Addr) (x3 : Int32) (la ca : Addr) (vs : List Value) (xs : List Int32) (N : Nat) (h0 : Heap) (n0 : Nat) (Z0 : n0 ≤ h0.size) (E0 : Exa Z h0 a1 "com/example/stratigraph/stratigraph/store/RecentLists") (F_lists : Fld Z h0 a1 "com/example/stratigraph/stratigraph/store/RecentLists" "lists" "[[I" (.ref la)) (F_chains : Fld Z h0 a1 "com/example/stratigraph/stratigraph/store/RecentLists" "chains" "[I" (.ref ca)) (R0 : oRefs Z h0 la vs) (A0 : oInts Z h0 ca xs) (Y0 : Exa Z h0 x2 "[I") (lv : vs.length = N) (lx : xs.length = N) (N1 : 0 < N) (N2 : N < 2 ^ 31) (hx1 : ¬ x1 < 0) (ge_la : n0 ≤ la) (ge_ca : n0 ≤ ca) (ne_al : a1 ≠ la) (ne_ac : a1 ≠ ca) (ne_lc : la ≠ ca) :
    oCon l Z (⟨"com/example/stratigraph/stratigraph/store/RecentLists", "add", "(I[II)V"⟩ : MethodName) prog_47_method_4_code 4 none room5 #[(.ref a1), (.int x1), (.ref x2), (.int x3)] h0 (fun v h L => v = none ∧ Fr n0 L ∧ Keep h0 h [la, ca] ∧ oRefs Z h la (vs.set (oI x1 N) (.ref x2)) ∧ oInts Z h ca (xs.set (oI x1 N) x3)) := by
  refine oCon.of (plainFor_of_name pn_3) ?_
  intro p e s m below meth c s₁ hx hby hml hown hnm hret hlk hZ X0 e0
  rw [ef_5 m a1 x1 x2 x3]
  have N0 := Fr.nil n0
  have K0 := Keep.refl h0 [la, ca]
  refine o_aloadN (pc' := 1) X0 hx (hb hby d5_0) rfl rfl rfl ?_
  obtain ⟨T1, X1, e1, st1⟩ := getF X0 hx hZ hown (host := "") (Or.inl (hw _ (List.mem_of_getElem? (i := 23) rfl))) Via.refl e0 F_lists (g := (mkF m 1 #[.val (.ref a1), .val (.int x1), .val (.ref x2), .val (.int x3)] [(.ref a1)])) rfl rfl (hb hby d5_1)
  refine oGo.step (f' := (mkF m 4 #[.val (.ref a1), .val (.int x1), .val (.ref x2), .val (.int x3)] [(.ref la)])) st1 ?_
  refine o_iloadN (pc' := 5) X1 hx (hb hby d5_4) rfl rfl ?_
  refine o_aloadN (pc' := 6) X1 hx (hb hby d5_5) rfl rfl rfl ?_
  obtain ⟨T2, X2, e2, st2⟩ := getF X1 hx hZ hown (host := "") (Or.inl (hw _ (List.mem_of_getElem? (i := 23) rfl))) Via.refl e1 F_lists (g := (mkF m 6 #[.val (.ref a1), .val (.int x1), .val (.ref x2), .val (.int x3)] [(.ref a1), (.int x1), (.ref la)])) rfl rfl (hb hby d5_6)
  refine oGo.step (f' := (mkF m 9 #[.val (.ref a1), .val (.int x1), .val (.ref x2), .val (.int x3)] [(.ref la), (.int x1), (.ref la)])) st2 ?_
  refine o_rlen (pc' := 10) X2 hx hZ e2 R0 (hb hby d5_9) rfl ?_
  rw [lv]
  refine o_irem (pc' := 11) X2 hx (hb hby d5_10) (own_nz N1 N2) rfl ?_
  refine o_aloadN (pc' := 12) X2 hx (hb hby d5_11) rfl rfl rfl ?_
  obtain ⟨T3, h3_, X3, e3, W3, st3⟩ := o_aastore (Ls := #[.val (.ref a1), .val (.int x1), .val (.ref x2), .val (.int x3)]) (st := []) X2 hx hZ e2 R0 Y0 (hb hby d5_12) (own_mod hx1 N1 N2).1 (by rw [lv]; exact (own_mod hx1 N1 N2).2.2.1) rfl
  refine oGo.step (f' := (mkF m 13 #[.val (.ref a1), .val (.int x1), .val (.ref x2), .val (.int x3)] [])) st3 ?_
  have N3_ := Fr.snoc X3 N0 ge_la
  have F4 : oRefs Z h3_ la (vs.set (oI x1 N) (.ref x2)) := R0.set W3
  have K5 := Keep.of_wr W3
  have F6 := E0.keep K5
  have F7 := F_lists.keep K5 (ninS ne_al nin0)
  have F8 := F_chains.keep K5 (ninS ne_al nin0)
  have F9 := A0.keep K5 (ninS (Ne.symm ne_lc) nin0)
  have F10 := Y0.keep K5
  have Z11 := Nat.le_trans Z0 K5.1
  have K12 := K0.trans K5 (allS (Or.inl (List.mem_of_getElem? (i := 0) rfl)) all0)
  refine o_aloadN (pc' := 14) X3 hx (hb hby d5_13) rfl rfl rfl ?_
  obtain ⟨T13, X13, e13, st13⟩ := getF X3 hx hZ hown (host := "") (Or.inl (hw _ (List.mem_of_getElem? (i := 25) rfl))) Via.refl e3 F8 (g := (mkF m 14 #[.val (.ref a1), .val (.int x1), .val (.ref x2), .val (.int x3)] [(.ref a1)])) rfl rfl (hb hby d5_14)
  refine oGo.step (f' := (mkF m 17 #[.val (.ref a1), .val (.int x1), .val (.ref x2), .val (.int x3)] [(.ref ca)])) st13 ?_
  refine o_iloadN (pc' := 18) X13 hx (hb hby d5_17) rfl rfl ?_
  refine o_aloadN (pc' := 19) X13 hx (hb hby d5_18) rfl rfl rfl ?_
  obtain ⟨T14, X14, e14, st14⟩ := getF X13 hx hZ hown (host := "") (Or.inl (hw _ (List.mem_of_getElem? (i := 25) rfl))) Via.refl e13 F8 (g := (mkF m 19 #[.val (.ref a1), .val (.int x1), .val (.ref x2), .val (.int x3)] [(.ref a1), (.int x1), (.ref ca)])) rfl rfl (hb hby d5_19)
  refine oGo.step (f' := (mkF m 22 #[.val (.ref a1), .val (.int x1), .val (.ref x2), .val (.int x3)] [(.ref ca), (.int x1), (.ref ca)])) st14 ?_
  refine o_alen (pc' := 23) X14 hx hZ e14 F9 (hb hby d5_22) rfl ?_
  rw [lx]
  refine o_irem (pc' := 24) X14 hx (hb hby d5_23) (own_nz N1 N2) rfl ?_
  refine o_iloadN (pc' := 25) X14 hx (hb hby d5_24) rfl rfl ?_
  obtain ⟨T15, h15_, X15, e15, W15, st15⟩ := o_iastore (x := x3) (j := (x1 % (N.toInt32))) (Ls := #[.val (.ref a1), .val (.int x1), .val (.ref x2), .val (.int x3)]) (st := []) X14 hx hZ e14 F9 (hb hby d5_25) (own_mod hx1 N1 N2).1 (by rw [lx]; exact (own_mod hx1 N1 N2).2.2.1) rfl
  refine oGo.step (f' := (mkF m 26 #[.val (.ref a1), .val (.int x1), .val (.ref x2), .val (.int x3)] [])) st15 ?_
  have N15 := Fr.snoc X15 N3_ ge_ca
  have F16 := F9.set W15
  replace F16 : oInts Z h15_ ca (xs.set (oI x1 N) x3) := F16
  have K17 := Keep.of_wr W15
  have F18 := F6.keep K17
  have F19 := F7.keep K17 (ninS ne_ac nin0)
  have F20 := F8.keep K17 (ninS ne_ac nin0)
  have F21 := F10.keep K17
  have F22 := F4.keep K17 (ninS ne_lc nin0)
  have Z23 := Nat.le_trans Z11 K17.1
  have K24 := K12.trans K17 (allS (Or.inl (List.mem_of_getElem? (i := 1) rfl)) all0)
  refine o_retV X15 hx hret hlk (hb hby d5_26) (by decide) (by decide) ?_
  rw [e15]
  exact ⟨rfl, N15, K24, F22, F16⟩
theorem d7_0 : decode prog_47_method_3_code 0 = .ok (.iload_n 2, 1) := by decide +kernel
theorem d7_1 : decode prog_47_method_3_code 1 = .ok (.ifCond .ne 7, 3) := by decide +kernel
theorem d7_4 : decode prog_47_method_3_code 4 = .ok (.iconst 0, 1) := by decide +kernel
theorem d7_5 : decode prog_47_method_3_code 5 = .ok (.goto 19, 3) := by decide +kernel
theorem d7_8 : decode prog_47_method_3_code 8 = .ok (.aload_n 0, 1) := by decide +kernel
theorem d7_9 : decode prog_47_method_3_code 9 = .ok (.getfield 24, 3) := by decide +kernel
theorem d7_12 : decode prog_47_method_3_code 12 = .ok (.iload_n 1, 1) := by decide +kernel
theorem d7_13 : decode prog_47_method_3_code 13 = .ok (.iload_n 2, 1) := by decide +kernel
theorem d7_14 : decode prog_47_method_3_code 14 = .ok (.isub, 1) := by decide +kernel
theorem d7_15 : decode prog_47_method_3_code 15 = .ok (.aload_n 0, 1) := by decide +kernel
theorem d7_16 : decode prog_47_method_3_code 16 = .ok (.getfield 24, 3) := by decide +kernel
theorem d7_19 : decode prog_47_method_3_code 19 = .ok (.arraylength, 1) := by decide +kernel
theorem d7_20 : decode prog_47_method_3_code 20 = .ok (.irem, 1) := by decide +kernel
theorem d7_21 : decode prog_47_method_3_code 21 = .ok (.iaload, 1) := by decide +kernel
theorem d7_22 : decode prog_47_method_3_code 22 = .ok (.iconst 1, 1) := by decide +kernel
theorem d7_23 : decode prog_47_method_3_code 23 = .ok (.iadd, 1) := by decide +kernel
theorem d7_24 : decode prog_47_method_3_code 24 = .ok (.ireturn, 1) := by decide +kernel
theorem ef7 (m : MethodId) (a1 : Addr) (x1 : Int32) (x2 : Int32) : entryFrame m #[(.ref a1), (.int x1), (.int x2)] 3 = mkF m 0 #[.val (.ref a1), .val (.int x1), .val (.int x2)] [] := by first | (simp [entryFrame, mkF, argsToLocals, Value.category]; done) | rfl
def spec7 (x1 : Int32) (x2 : Int32) (xs : List Int32) (N : Nat) : Int32 := (if x2 = 0 then (0 : Int32) else ((xs.getD (oI (x1 - x2) N) 0) + (1 : Int32)))
def room7 : Room := { frames := 0, cells := 0, slots := 0, locals := 0 }
set_option maxRecDepth 65536 in
set_option maxHeartbeats 40000000 in
theorem rm7 (l : Launch) (Z : State) (a0 : Array Value) (hw : ∀ d ∈ tables_1, d.before a0 Z = true) (a1 : Addr) (x1 : Int32) (x2 : Int32) (ca : Addr) (xs : List Int32) (N : Nat) (h0 : Heap) (n0 : Nat) (Z0 : n0 ≤ h0.size) (E0 : Exa Z h0 a1 "com/example/stratigraph/stratigraph/store/RecentLists") (F_chains : Fld Z h0 a1 "com/example/stratigraph/stratigraph/store/RecentLists" "chains" "[I" (.ref ca)) (A0 : oInts Z h0 ca xs) (lx : xs.length = N) (N1 : 0 < N) (N2 : N < 2 ^ 31) (hx1 : ¬ x2 = 0 → ¬ (x1 - x2) < 0) :
    oCon l Z (⟨"com/example/stratigraph/stratigraph/store/RecentLists", "chain", "(II)I"⟩ : MethodName) prog_47_method_3_code 3 (some .int) room7 #[(.ref a1), (.int x1), (.int x2)] h0 (fun v h L => v = some (.int (spec7 x1 x2 xs N)) ∧ L = [] ∧ h = h0) := by
  refine oCon.of (plainFor_of_name pn_3) ?_
  intro p e s m below meth c s₁ hx hby hml hown hnm hret hlk hZ X0 e0
  rw [ef7 m a1 x1 x2]
  have N0 := Fr.nil n0
  refine o_iloadN (pc' := 1) X0 hx (hb hby d7_0) rfl rfl ?_
  have J2 : ∀ (T6 : State) (X6 : Stand p l e room7 s m #[(.ref a1), (.int x1), (.int x2)] below meth c T6 [] (0) (0)) (e6 : T6.heap = h0) (v5 : Int32), v5 = (if x2 = 0 then (0 : Int32) else ((xs.getD (oI (x1 - x2) N) 0) + (1 : Int32))) → oGo p e below (oG s (fun v h L => v = some (.int (spec7 x1 x2 xs N)) ∧ L = [] ∧ h = h0) room7.cells room7.slots) T6 (mkF m 24 #[.val (.ref a1), .val (.int x1), .val (.int x2)] [(.int v5)]) := by
    intro T6 X6 e6 v5 hv5
    refine o_retI X6 hx hret hlk (hb hby d7_24) (by decide) (by decide) ?_
    subst hv5
    exact ⟨rfl, rfl, e6⟩
  by_cases c1 : x2 = 0
  · refine o_ifF (pc' := 4) X0 hx (hb hby d7_1) (XT.i0_ne_f c1) rfl ?_
    refine o_iconst (pc' := 5) (v := (0 : Int32)) X0 hx (hb hby d7_4) rfl rfl ?_
    refine o_goto (pc' := 24) X0 hx (hb hby d7_5) (by decide) (by decide) ?_
    exact J2 s₁ X0 e0 _ (if_pos c1).symm
  · refine o_ifT (pc' := 8) X0 hx (hb hby d7_1) (XT.i0_ne_t c1) (by decide) (by decide) ?_
    refine o_aloadN (pc' := 9) X0 hx (hb hby d7_8) rfl rfl rfl ?_
    obtain ⟨T3, X3, e3, st3⟩ := getF X0 hx hZ hown (host := "") (Or.inl (hw _ (List.mem_of_getElem? (i := 25) rfl))) Via.refl e0 F_chains (g := (mkF m 9 #[.val (.ref a1), .val (.int x1), .val (.int x2)] [(.ref a1)])) rfl rfl (hb hby d7_9)
    refine oGo.step (f' := (mkF m 12 #[.val (.ref a1), .val (.int x1), .val (.int x2)] [(.ref ca)])) st3 ?_
    refine o_iloadN (pc' := 13) X3 hx (hb hby d7_12) rfl rfl ?_
    refine o_iloadN (pc' := 14) X3 hx (hb hby d7_13) rfl rfl ?_
    refine o_isub (pc' := 15) X3 hx (hb hby d7_14)  rfl ?_
    refine o_aloadN (pc' := 16) X3 hx (hb hby d7_15) rfl rfl rfl ?_
    obtain ⟨T4, X4, e4, st4⟩ := getF X3 hx hZ hown (host := "") (Or.inl (hw _ (List.mem_of_getElem? (i := 25) rfl))) Via.refl e3 F_chains (g := (mkF m 16 #[.val (.ref a1), .val (.int x1), .val (.int x2)] [(.ref a1), (.int (x1 - x2)), (.ref ca)])) rfl rfl (hb hby d7_16)
    refine oGo.step (f' := (mkF m 19 #[.val (.ref a1), .val (.int x1), .val (.int x2)] [(.ref ca), (.int (x1 - x2)), (.ref ca)])) st4 ?_
    refine o_alen (pc' := 20) X4 hx hZ e4 A0 (hb hby d7_19) rfl ?_
    rw [lx]
    refine o_irem (pc' := 21) X4 hx (hb hby d7_20) (own_nz N1 N2) rfl ?_
    refine o_iaload (pc' := 22) (v := (xs.getD (oI (x1 - x2) N) 0)) X4 hx hZ e4 A0 (hb hby d7_21) (own_mod (hx1 c1) N1 N2).1 (own_getI lx (hx1 c1) N1 N2) rfl ?_
    refine o_iconst (pc' := 23) (v := (1 : Int32)) X4 hx (hb hby d7_22) rfl rfl ?_
    refine o_iadd (pc' := 24) X4 hx (hb hby d7_23)  rfl ?_
    exact J2 T4 X4 e4 _ (if_neg c1).symm
theorem own_gs {α : Type} {vs : List α} {i : Nat} {v d : α} (h : i < vs.length) : (vs.set i v).getD i d = v := by
  rw [List.getD_eq_getElem?_getD, List.getElem?_set_self h]; rfl
theorem own_gsn {α : Type} {vs : List α} {i j : Nat} {v d : α} (h : i ≠ j) : (vs.set i v).getD j d = vs.getD j d := by
  rw [List.getD_eq_getElem?_getD, List.getD_eq_getElem?_getD, List.getElem?_set_ne h]
theorem own_chain {xs : List Int32} {i : Nat} {r v : Int32} (hr : ¬ r = 0) (h : xs.getD i 0 = v) : (if r = 0 then (0 : Int32) else (xs.getD i 0 + (1 : Int32))) = v + (1 : Int32) := by
  rw [if_neg hr, h]
theorem own_add {x y : Int32} (h1 : 0 ≤ x.toInt) (h2 : 0 ≤ y.toInt) (h3 : x.toInt + y.toInt < 2147483648) : (x + y).toInt = x.toInt + y.toInt := by
  have := c_iadd x y; have := rng32 (x + y); omega
theorem own_sub {x y : Int32} (h1 : 0 ≤ x.toInt) (h2 : 0 ≤ y.toInt) (h3 : y.toInt ≤ x.toInt) : (x - y).toInt = x.toInt - y.toInt := by
  have := c_isub x y; have := rng32 (x - y); have := rng32 x; omega
theorem own_nlt {x : Int32} (h : 0 ≤ x.toInt) : ¬ x < 0 := by rw [Int32.lt_iff_toInt_lt]; have : (0 : Int32).toInt = 0 := rfl; omega
theorem own_ge {x : Int32} (h : ¬ x < 0) : 0 ≤ x.toInt := by rw [Int32.lt_iff_toInt_lt] at h; have : (0 : Int32).toInt = 0 := rfl; omega
theorem own_ie {x y : Int32} {N : Nat} (hx : ¬ x < 0) (hy : ¬ y < 0) (h0 : 0 < N) (h : N < 2 ^ 31) (q : x.toInt % N = y.toInt % N) : oI x N = oI y N := by
  have := (own_mod hx h0 h).2.2.2; have := (own_mod hy h0 h).2.2.2; omega
theorem d6_0 : decode prog_47_method_2_code 0 = .ok (.aload_n 0, 1) := by decide +kernel
theorem d6_1 : decode prog_47_method_2_code 1 = .ok (.getfield 18, 3) := by decide +kernel
theorem d6_4 : decode prog_47_method_2_code 4 = .ok (.iload_n 1, 1) := by decide +kernel
theorem d6_5 : decode prog_47_method_2_code 5 = .ok (.aload_n 0, 1) := by decide +kernel
theorem d6_6 : decode prog_47_method_2_code 6 = .ok (.getfield 18, 3) := by decide +kernel
theorem d6_9 : decode prog_47_method_2_code 9 = .ok (.arraylength, 1) := by decide +kernel
theorem d6_10 : decode prog_47_method_2_code 10 = .ok (.irem, 1) := by decide +kernel
theorem d6_11 : decode prog_47_method_2_code 11 = .ok (.aaload, 1) := by decide +kernel
theorem d6_12 : decode prog_47_method_2_code 12 = .ok (.areturn, 1) := by decide +kernel
theorem ef_6 (m : MethodId) (a1 : Addr) (x1 : Int32) : entryFrame m #[(.ref a1), (.int x1)] 2 = mkF m 0 #[.val (.ref a1), .val (.int x1)] [] := by first | (simp [entryFrame, mkF, argsToLocals, Value.category]; done) | rfl
def room6 : Room := { frames := 0, cells := 0, slots := 0, locals := 0 }
set_option maxRecDepth 65536 in
set_option maxHeartbeats 40000000 in
theorem rm6 (l : Launch) (Z : State) (a0 : Array Value) (hw : ∀ d ∈ tables_1, d.before a0 Z = true) (a1 : Addr) (x1 : Int32) (la : Addr) (vs : List Value) (N : Nat) (h0 : Heap) (n0 : Nat) (Z0 : n0 ≤ h0.size) (F_lists : Fld Z h0 a1 "com/example/stratigraph/stratigraph/store/RecentLists" "lists" "[[I" (.ref la)) (R0 : oRefs Z h0 la vs) (lv : vs.length = N) (N1 : 0 < N) (N2 : N < 2 ^ 31) (hx1 : ¬ x1 < 0) (hr : (vs.getD (oI x1 N) Value.null).isRef = true) (hna : narrow (.array .int) (vs.getD (oI x1 N) Value.null) = vs.getD (oI x1 N) Value.null) :
    oCon l Z (⟨"com/example/stratigraph/stratigraph/store/RecentLists", "list", "(I)[I"⟩ : MethodName) prog_47_method_2_code 2 (some (.array .int)) room6 #[(.ref a1), (.int x1)] h0 (fun v h L => v = some (vs.getD (oI x1 N) Value.null) ∧ L = [] ∧ h = h0) := by
  refine oCon.of (plainFor_of_name pn_3) ?_
  intro p e s m below meth c s₁ hx hby hml hown hnm hret hlk hZ X0 e0
  rw [ef_6 m a1 x1]
  have N0 := Fr.nil n0
  refine o_aloadN (pc' := 1) X0 hx (hb hby d6_0) rfl rfl rfl ?_
  obtain ⟨T1, X1, e1, st1⟩ := getF X0 hx hZ hown (host := "") (Or.inl (hw _ (List.mem_of_getElem? (i := 23) rfl))) Via.refl e0 F_lists (g := (mkF m 1 #[.val (.ref a1), .val (.int x1)] [(.ref a1)])) rfl rfl (hb hby d6_1)
  refine oGo.step (f' := (mkF m 4 #[.val (.ref a1), .val (.int x1)] [(.ref la)])) st1 ?_
  refine o_iloadN (pc' := 5) X1 hx (hb hby d6_4) rfl rfl ?_
  refine o_aloadN (pc' := 6) X1 hx (hb hby d6_5) rfl rfl rfl ?_
  obtain ⟨T2, X2, e2, st2⟩ := getF X1 hx hZ hown (host := "") (Or.inl (hw _ (List.mem_of_getElem? (i := 23) rfl))) Via.refl e1 F_lists (g := (mkF m 6 #[.val (.ref a1), .val (.int x1)] [(.ref a1), (.int x1), (.ref la)])) rfl rfl (hb hby d6_6)
  refine oGo.step (f' := (mkF m 9 #[.val (.ref a1), .val (.int x1)] [(.ref la), (.int x1), (.ref la)])) st2 ?_
  refine o_rlen (pc' := 10) X2 hx hZ e2 R0 (hb hby d6_9) rfl ?_
  rw [lv]
  refine o_irem (pc' := 11) X2 hx (hb hby d6_10) (own_nz N1 N2) rfl ?_
  refine o_aaload (pc' := 12) (v := (vs.getD (oI x1 N) Value.null)) X2 hx hZ e2 R0 (hb hby d6_11) (own_mod hx1 N1 N2).1 (own_getV lv hx1 N1 N2) rfl ?_
  refine o_retA X2 hx hret rfl hlk hr hna (hb hby d6_12) (by decide) (by decide) ?_
  exact ⟨rfl, rfl, e2⟩
theorem own_span (x0 x1 : Int32) : 1 ≤ ((spec2 (1 : Int32) (spec1 ((x0 &&& (15 : Int32)) - (3 : Int32)) ((x1 &&& (15 : Int32)) - (3 : Int32))))).toInt ∧ ((spec2 (1 : Int32) (spec1 ((x0 &&& (15 : Int32)) - (3 : Int32)) ((x1 &&& (15 : Int32)) - (3 : Int32))))).toInt ≤ 12 ∧ (¬ (spec2 (1 : Int32) (spec1 ((x0 &&& (15 : Int32)) - (3 : Int32)) ((x1 &&& (15 : Int32)) - (3 : Int32)))) < 0) ∧ ((spec2 (1 : Int32) (spec1 ((x0 &&& (15 : Int32)) - (3 : Int32)) ((x1 &&& (15 : Int32)) - (3 : Int32))))).toNatClampNeg ≤ 12 ∧ 0 < ((spec2 (1 : Int32) (spec1 ((x0 &&& (15 : Int32)) - (3 : Int32)) ((x1 &&& (15 : Int32)) - (3 : Int32))))).toNatClampNeg ∧ (spec2 (1 : Int32) (spec1 ((x0 &&& (15 : Int32)) - (3 : Int32)) ((x1 &&& (15 : Int32)) - (3 : Int32)))) ≠ 0 := by
  have h1 := c_mask x0 15 4 (by decide) (by decide)
  have h2 := c_mask x1 15 4 (by decide) (by decide)
  have o3 : (3 : Int32).toInt = 3 := rfl
  have o1 : (1 : Int32).toInt = 1 := rfl
  have o0 : (0 : Int32).toInt = 0 := rfl
  have s1 := c_isub (x0 &&& (15 : Int32)) 3
  have s2 := c_isub (x1 &&& (15 : Int32)) 3
  have r1 := rng32 ((x0 &&& (15 : Int32)) - 3)
  have r2 := rng32 ((x1 &&& (15 : Int32)) - 3)
  generalize (x0 &&& (15 : Int32)) - (3 : Int32) = a at *
  generalize (x1 &&& (15 : Int32)) - (3 : Int32) = b at *
  have k : (spec2 (1 : Int32) (spec1 a b)).toInt = max 1 (min a.toInt b.toInt) := by
    unfold spec2 spec1; (repeat' split) <;> rename_i h <;> simp only [Int32.lt_iff_toInt_lt] at * <;> omega
  have g0 : ¬ (spec2 (1 : Int32) (spec1 a b)) < 0 := own_nlt (by omega)
  have n := nat_of g0
  exact ⟨by omega, by omega, g0, by omega, by omega, fun q => by rw [q] at k; omega⟩
theorem own_node (x2 v : Int32) (h : v = (if (2147483631 : Int32) < (x2 &&& (2147483647 : Int32)) then ((x2 &&& (2147483647 : Int32)) - (16 : Int32)) else (x2 &&& (2147483647 : Int32)))) : 0 ≤ v.toInt ∧ v.toInt ≤ 2147483631 := by
  have h1 := c_mask x2 2147483647 31 (by decide) (by decide)
  have o1 : (2147483631 : Int32).toInt = 2147483631 := rfl
  have o2 : (16 : Int32).toInt = 16 := rfl
  generalize (x2 &&& (2147483647 : Int32)) = a at *
  have s1 := c_isub a 16
  have r1 := rng32 (a - 16)
  by_cases q : (2147483631 : Int32) < a
  · rw [if_pos q] at h; rw [Int32.lt_iff_toInt_lt] at q; subst h; omega
  · rw [if_neg q] at h; rw [Int32.lt_iff_toInt_lt] at q; subst h; omega
theorem own_d (x5 s d : Int32) (h1 : 1 ≤ s.toInt) (h2 : s.toInt ≤ 12) (h : ((1 : Int32) + ((x5 &&& (2147483647 : Int32)) % s)) = d) : 1 ≤ d.toInt ∧ d.toInt ≤ s.toInt := by
  have k := c_mask x5 2147483647 31 (by decide) (by decide)
  have o1 : (1 : Int32).toInt = 1 := rfl
  have m := (c_iremV (x5 &&& (2147483647 : Int32)) s).1 (by omega) (by omega)
  generalize ((x5 &&& (2147483647 : Int32)) % s) = u at *
  have := own_add (x := 1) (y := u) (by omega) (by omega) (by omega)
  subst h; omega
theorem own_e (x5 e : Int32) (h : ((1 : Int32) + ((XT.ushr x5 (8 : Int32)) &&& (3 : Int32))) = e) : 1 ≤ e.toInt ∧ e.toInt ≤ 4 := by
  have k := c_mask (XT.ushr x5 (8 : Int32)) 3 2 (by decide) (by decide)
  have o1 : (1 : Int32).toInt = 1 := rfl
  generalize ((XT.ushr x5 (8 : Int32)) &&& (3 : Int32)) = u at *
  have := own_add (x := 1) (y := u) (by omega) (by omega) (by omega)
  subst h; omega
theorem own_ne {b d s : Int32} {N : Nat} (hb0 : ¬ b < 0) (hb1 : ¬ (b + d) < 0) (e : (b + d).toInt = b.toInt + d.toInt) (hN : N = s.toNatClampNeg) (hs : ¬ s < 0) (h1 : 1 ≤ d.toInt) (h2 : d < s) (N2 : N < 2 ^ 31) : oI (b + d) N ≠ oI b N := by
  have n := nat_of hs
  rw [Int32.lt_iff_toInt_lt] at h2
  have N3 : d.toInt < N := by omega
  have k0 := (own_mod hb0 (by omega) N2).2.2.2
  have k1 := (own_mod hb1 (by omega) N2).2.2.2
  rw [e] at k1
  intro q
  rw [q, k0] at k1
  have d1 := Int.emod_add_mul_ediv b.toInt N
  have d2 := Int.emod_add_mul_ediv (b.toInt + d.toInt) N
  have d3 : (N : Int) * ((b.toInt + d.toInt) / N - b.toInt / N) = d.toInt := by rw [Int.mul_sub]; omega
  have d4 : (N : Int) ∣ d.toInt := ⟨_, d3.symm⟩
  have := Int.le_of_dvd (by omega) d4
  omega
theorem own_eq {b d s : Int32} {N : Nat} (hb0 : ¬ b < 0) (hb1 : ¬ (b + d) < 0) (e : (b + d).toInt = b.toInt + d.toInt) (hN : N = s.toNatClampNeg) (hs : ¬ s < 0) (h0 : 0 < N) (h1 : d.toInt ≤ s.toInt) (h2 : ¬ d < s) (N2 : N < 2 ^ 31) : oI (b + d) N = oI b N := by
  have n := nat_of hs
  rw [Int32.lt_iff_toInt_lt] at h2
  have N3 : d.toInt = N := by omega
  exact own_ie hb1 hb0 h0 N2 (by rw [e, N3, Int.add_emod_right])
theorem pn_0 : plainName "com/example/stratigraph/stratigraph/store/RecentListsAddPinLaw" = true := by first | (simp [plainName, overriddenIn]; done) | decide +kernel
theorem ef_0 (m : MethodId) (x0 : Int32) (x1 : Int32) (x2 : Int32) (x3 : Int32) (x4 : Int32) (x5 : Int32) : entryFrame m #[(.int x0), (.int x1), (.int x2), (.int x3), (.int x4), (.int x5)] maxLocals = mkF m 0 #[.val (.int x0), .val (.int x1), .val (.int x2), .val (.int x3), .val (.int x4), .val (.int x5), .unset, .unset, .unset, .unset, .unset, .unset, .unset, .unset, .unset, .unset, .unset, .unset] [] := by first | (simp [entryFrame, mkF, argsToLocals, Value.category, maxLocals]; done) | rfl
theorem pd1 : parseMethodDescriptor "(II)V" = some ⟨[.int, .int], none⟩ := by decide +kernel
theorem pd2 : parseMethodDescriptor "(I[II)V" = some ⟨[.int, (.array .int), .int], none⟩ := by decide +kernel
theorem pd3 : parseMethodDescriptor "(I)[I" = some ⟨[.int], (some (.array .int))⟩ := by decide +kernel

set_option maxRecDepth 65536 in
set_option maxHeartbeats 40000000 in
theorem rm0 (l : Launch) (Z : State) (a0 : Array Value) (hw : ∀ d ∈ tables_1, d.before a0 Z = true) (x0 : Int32) (x1 : Int32) (x2 : Int32) (x3 : Int32) (x4 : Int32) (x5 : Int32) (h0 : Heap) (n0 : Nat) (Z0 : n0 ≤ h0.size)  :
    oCon l Z x code maxLocals ret room_1 #[(.int x0), (.int x1), (.int x2), (.int x3), (.int x4), (.int x5)] h0 (fun v h L => v = some (.int 1) ∧ Fr n0 L) := by
  refine oCon.of (plainFor_of_name pn_0) ?_
  intro p e s m below meth c s₁ hx hby hml hown hnm hret hlk hZ X0 e0
  replace hml : c.maxLocals = 18 := hml
  rw [ef_0 m x0 x1 x2 x3 x4 x5]
  have N0 := Fr.nil n0
  refine o_iloadN (pc' := 1) X0 hx (hb hby at_0) rfl rfl ?_
  refine o_bipush (pc' := 3) (v := (15 : Int32)) X0 hx (hb hby at_1) rfl rfl ?_
  refine o_iand (pc' := 4) X0 hx (hb hby at_3)  rfl ?_
  refine o_iconst (pc' := 5) (v := (3 : Int32)) X0 hx (hb hby at_4) rfl rfl ?_
  refine o_isub (pc' := 6) X0 hx (hb hby at_5)  rfl ?_
  refine o_istore (pc' := 8) (l' := #[.val (.int x0), .val (.int x1), .val (.int x2), .val (.int x3), .val (.int x4), .val (.int x5), .val (.int ((x0 &&& (15 : Int32)) - (3 : Int32))), .unset, .unset, .unset, .unset, .unset, .unset, .unset, .unset, .unset, .unset, .unset]) X0 hx (hb hby at_6) rfl rfl ?_
  refine o_iloadN (pc' := 9) X0 hx (hb hby at_8) rfl rfl ?_
  refine o_bipush (pc' := 11) (v := (15 : Int32)) X0 hx (hb hby at_9) rfl rfl ?_
  refine o_iand (pc' := 12) X0 hx (hb hby at_11)  rfl ?_
  refine o_iconst (pc' := 13) (v := (3 : Int32)) X0 hx (hb hby at_12) rfl rfl ?_
  refine o_isub (pc' := 14) X0 hx (hb hby at_13)  rfl ?_
  refine o_istore (pc' := 16) (l' := #[.val (.int x0), .val (.int x1), .val (.int x2), .val (.int x3), .val (.int x4), .val (.int x5), .val (.int ((x0 &&& (15 : Int32)) - (3 : Int32))), .val (.int ((x1 &&& (15 : Int32)) - (3 : Int32))), .unset, .unset, .unset, .unset, .unset, .unset, .unset, .unset, .unset, .unset]) X0 hx (hb hby at_14) rfl rfl ?_
  refine o_iconst (pc' := 17) (v := (1 : Int32)) X0 hx (hb hby at_16) rfl rfl ?_
  refine o_iload (pc' := 19) X0 hx (hb hby at_17) rfl rfl ?_
  refine o_iload (pc' := 21) X0 hx (hb hby at_19) rfl rfl ?_
  obtain ⟨r1, T1, L1, X1, hq1, st1⟩ := o_callS X0 hx hZ hown (hw _ (List.mem_of_getElem? (i := 0) rfl)) (hw _ (List.mem_of_getElem? (i := 1) rfl)) (hw _ (List.mem_of_getElem? (i := 2) rfl)) (hw _ (List.mem_of_getElem? (i := 3) rfl)) (by decide) (rm1 l Z a0 hw ((x0 &&& (15 : Int32)) - (3 : Int32)) ((x1 &&& (15 : Int32)) - (3 : Int32))  h0 n0 Z0 ) e0 (pc' := 24) (Ls := #[.val (.int x0), .val (.int x1), .val (.int x2), .val (.int x3), .val (.int x4), .val (.int x5), .val (.int ((x0 &&& (15 : Int32)) - (3 : Int32))), .val (.int ((x1 &&& (15 : Int32)) - (3 : Int32))), .unset, .unset, .unset, .unset, .unset, .unset, .unset, .unset, .unset, .unset]) (by rw [hml]; rfl) [(.int ((x0 &&& (15 : Int32)) - (3 : Int32))), (.int ((x1 &&& (15 : Int32)) - (3 : Int32)))] [(.int (1 : Int32))] rfl pd0 rfl rfl 1 (Nat.le_of_eq rfl) (hb hby at_21) rfl (by decide) (by decide) (by decide) (by decide)
  obtain ⟨rfl, rfl, Kc1⟩ := hq1
  refine oGo.step (f' := (mkF m 24 #[.val (.int x0), .val (.int x1), .val (.int x2), .val (.int x3), .val (.int x4), .val (.int x5), .val (.int ((x0 &&& (15 : Int32)) - (3 : Int32))), .val (.int ((x1 &&& (15 : Int32)) - (3 : Int32))), .unset, .unset, .unset, .unset, .unset, .unset, .unset, .unset, .unset, .unset] [(.int (spec1 ((x0 &&& (15 : Int32)) - (3 : Int32)) ((x1 &&& (15 : Int32)) - (3 : Int32)))), (.int (1 : Int32))])) st1 ?_
  have e1 : T1.heap = h0 := Kc1
  have X1 := o_same X1 rfl rfl
  obtain ⟨r2, T2, L2, X2, hq2, st2⟩ := o_callS X1 hx hZ hown (hw _ (List.mem_of_getElem? (i := 4) rfl)) (hw _ (List.mem_of_getElem? (i := 5) rfl)) (hw _ (List.mem_of_getElem? (i := 2) rfl)) (hw _ (List.mem_of_getElem? (i := 6) rfl)) (by decide) (rm2 l Z a0 hw (1 : Int32) (spec1 ((x0 &&& (15 : Int32)) - (3 : Int32)) ((x1 &&& (15 : Int32)) - (3 : Int32)))  h0 n0 Z0 ) e1 (pc' := 27) (Ls := #[.val (.int x0), .val (.int x1), .val (.int x2), .val (.int x3), .val (.int x4), .val (.int x5), .val (.int ((x0 &&& (15 : Int32)) - (3 : Int32))), .val (.int ((x1 &&& (15 : Int32)) - (3 : Int32))), .unset, .unset, .unset, .unset, .unset, .unset, .unset, .unset, .unset, .unset]) (by rw [hml]; rfl) [(.int (1 : Int32)), (.int (spec1 ((x0 &&& (15 : Int32)) - (3 : Int32)) ((x1 &&& (15 : Int32)) - (3 : Int32))))] [] rfl pd0 rfl rfl 0 (Nat.le_of_eq rfl) (hb hby at_24) rfl (by decide) (by decide) (by decide) (by decide)
  obtain ⟨rfl, rfl, Kc2⟩ := hq2
  refine oGo.step (f' := (mkF m 27 #[.val (.int x0), .val (.int x1), .val (.int x2), .val (.int x3), .val (.int x4), .val (.int x5), .val (.int ((x0 &&& (15 : Int32)) - (3 : Int32))), .val (.int ((x1 &&& (15 : Int32)) - (3 : Int32))), .unset, .unset, .unset, .unset, .unset, .unset, .unset, .unset, .unset, .unset] [(.int (spec2 (1 : Int32) (spec1 ((x0 &&& (15 : Int32)) - (3 : Int32)) ((x1 &&& (15 : Int32)) - (3 : Int32)))))])) st2 ?_
  have e2 : T2.heap = h0 := Kc2
  have X2 := o_same X2 rfl rfl
  refine o_istore (pc' := 29) (l' := #[.val (.int x0), .val (.int x1), .val (.int x2), .val (.int x3), .val (.int x4), .val (.int x5), .val (.int ((x0 &&& (15 : Int32)) - (3 : Int32))), .val (.int ((x1 &&& (15 : Int32)) - (3 : Int32))), .val (.int (spec2 (1 : Int32) (spec1 ((x0 &&& (15 : Int32)) - (3 : Int32)) ((x1 &&& (15 : Int32)) - (3 : Int32))))), .unset, .unset, .unset, .unset, .unset, .unset, .unset, .unset, .unset]) X2 hx (hb hby at_27) rfl rfl ?_
  obtain ⟨hp1, hp2, hs0, hs1, hs2, hsz⟩ := own_span x0 x1
  generalize hsp : (spec2 (1 : Int32) (spec1 ((x0 &&& (15 : Int32)) - (3 : Int32)) ((x1 &&& (15 : Int32)) - (3 : Int32)))) = sp at hp1 hp2 hs0 hs1 hs2 hsz ⊢
  refine o_iloadN (pc' := 30) X2 hx (hb hby at_29) rfl rfl ?_
  refine o_ldc (pc' := 32) (v := (2147483647 : Int32)) X2 hx hZ hown (hw _ (List.mem_of_getElem? (i := 7) rfl)) (hb hby at_30) rfl ?_
  refine o_iand (pc' := 33) X2 hx (hb hby at_32)  rfl ?_
  refine o_istore (pc' := 35) (l' := #[.val (.int x0), .val (.int x1), .val (.int x2), .val (.int x3), .val (.int x4), .val (.int x5), .val (.int ((x0 &&& (15 : Int32)) - (3 : Int32))), .val (.int ((x1 &&& (15 : Int32)) - (3 : Int32))), .val (.int sp), .val (.int (x2 &&& (2147483647 : Int32))), .unset, .unset, .unset, .unset, .unset, .unset, .unset, .unset]) X2 hx (hb hby at_33) rfl rfl ?_
  refine o_iload (pc' := 37) X2 hx (hb hby at_35) rfl rfl ?_
  refine o_ldc (pc' := 39) (v := (2147483631 : Int32)) X2 hx hZ hown (hw _ (List.mem_of_getElem? (i := 8) rfl)) (hb hby at_37) rfl ?_
  have J4 : ∀ (v5 : Int32), v5 = (if (2147483631 : Int32) < (x2 &&& (2147483647 : Int32)) then ((x2 &&& (2147483647 : Int32)) - (16 : Int32)) else (x2 &&& (2147483647 : Int32))) → oGo p e below (oG s (fun v h L => v = some (.int 1) ∧ Fr n0 L) room_1.cells room_1.slots) T2 (mkF m 49 #[.val (.int x0), .val (.int x1), .val (.int x2), .val (.int x3), .val (.int x4), .val (.int x5), .val (.int ((x0 &&& (15 : Int32)) - (3 : Int32))), .val (.int ((x1 &&& (15 : Int32)) - (3 : Int32))), .val (.int sp), .val (.int v5), .unset, .unset, .unset, .unset, .unset, .unset, .unset, .unset] []) := by
    intro v5 hv5
    refine o_iconst (pc' := 50) (v := (1 : Int32)) X2 hx (hb hby at_49) rfl rfl ?_
    refine o_iload (pc' := 52) X2 hx (hb hby at_50) rfl rfl ?_
    refine o_ldc (pc' := 54) (v := (2147483647 : Int32)) X2 hx hZ hown (hw _ (List.mem_of_getElem? (i := 7) rfl)) (hb hby at_52) rfl ?_
    refine o_iand (pc' := 55) X2 hx (hb hby at_54)  rfl ?_
    refine o_iload (pc' := 57) X2 hx (hb hby at_55) rfl rfl ?_
    refine o_irem (pc' := 58) X2 hx (hb hby at_57) hsz rfl ?_
    refine o_iadd (pc' := 59) X2 hx (hb hby at_58)  rfl ?_
    refine o_istore (pc' := 61) (l' := #[.val (.int x0), .val (.int x1), .val (.int x2), .val (.int x3), .val (.int x4), .val (.int x5), .val (.int ((x0 &&& (15 : Int32)) - (3 : Int32))), .val (.int ((x1 &&& (15 : Int32)) - (3 : Int32))), .val (.int sp), .val (.int v5), .val (.int ((1 : Int32) + ((x5 &&& (2147483647 : Int32)) % sp))), .unset, .unset, .unset, .unset, .unset, .unset, .unset]) X2 hx (hb hby at_59) rfl rfl ?_
    refine o_iconst (pc' := 62) (v := (1 : Int32)) X2 hx (hb hby at_61) rfl rfl ?_
    refine o_iload (pc' := 64) X2 hx (hb hby at_62) rfl rfl ?_
    refine o_bipush (pc' := 66) (v := (8 : Int32)) X2 hx (hb hby at_64) rfl rfl ?_
    refine o_iushr (pc' := 67) X2 hx (hb hby at_66)  rfl ?_
    refine o_iconst (pc' := 68) (v := (3 : Int32)) X2 hx (hb hby at_67) rfl rfl ?_
    refine o_iand (pc' := 69) X2 hx (hb hby at_68)  rfl ?_
    refine o_iadd (pc' := 70) X2 hx (hb hby at_69)  rfl ?_
    refine o_istore (pc' := 72) (l' := #[.val (.int x0), .val (.int x1), .val (.int x2), .val (.int x3), .val (.int x4), .val (.int x5), .val (.int ((x0 &&& (15 : Int32)) - (3 : Int32))), .val (.int ((x1 &&& (15 : Int32)) - (3 : Int32))), .val (.int sp), .val (.int v5), .val (.int ((1 : Int32) + ((x5 &&& (2147483647 : Int32)) % sp))), .val (.int ((1 : Int32) + ((XT.ushr x5 (8 : Int32)) &&& (3 : Int32)))), .unset, .unset, .unset, .unset, .unset, .unset]) X2 hx (hb hby at_70) rfl rfl ?_
    generalize hdd : ((1 : Int32) + ((x5 &&& (2147483647 : Int32)) % sp)) = dd
    generalize hee : ((1 : Int32) + ((XT.ushr x5 (8 : Int32)) &&& (3 : Int32))) = ee
    have k0 := own_node x2 v5 hv5
    have k1 := own_d x5 sp dd hp1 hp2 hdd
    have k2 := own_e x5 ee hee
    have o1 : (1 : Int32).toInt = 1 := rfl
    have a1 := own_add (x := v5) (y := dd) (by omega) (by omega) (by omega)
    have a2 := own_add (x := v5) (y := ee) (by omega) (by omega) (by omega)
    have a3 := own_add (x := v5 + dd) (y := 1) (by omega) (by omega) (by omega)
    have a4 := own_sub (x := v5 + ee) (y := ee) (by omega) (by omega) (by omega)
    have a5 := own_sub (x := (v5 + dd) + 1) (y := 1) (by omega) (by omega) (by omega)
    have b0 : ¬ v5 < 0 := own_nlt (by omega)
    have b1 : ¬ (v5 + dd) < 0 := own_nlt (by omega)
    have b4 : ¬ ((v5 + ee) - ee) < 0 := own_nlt (by omega)
    have b5 : ¬ (((v5 + dd) + (1 : Int32)) - (1 : Int32)) < 0 := own_nlt (by omega)
    have ez : ¬ ee = 0 := fun q => by rw [q] at k2; exact absurd k2.1 (by decide)
    refine o_iconst (pc' := 73) (v := (1 : Int32)) X2 hx (hb hby at_72) rfl rfl ?_
    obtain ⟨T6, h6_, X6, e6, E6, A6, Y6, st6⟩ := o_newIE (Ls := #[.val (.int x0), .val (.int x1), .val (.int x2), .val (.int x3), .val (.int x4), .val (.int x5), .val (.int ((x0 &&& (15 : Int32)) - (3 : Int32))), .val (.int ((x1 &&& (15 : Int32)) - (3 : Int32))), .val (.int sp), .val (.int v5), .val (.int dd), .val (.int ee), .unset, .unset, .unset, .unset, .unset, .unset]) (st := []) (n := (1 : Int32)) X2 hx hZ (hw _ (List.mem_of_getElem? (i := 9) rfl)) e2 (hb hby at_73) (by decide) 1 (by decide) (by decide) (by decide) (by decide) rfl
    obtain ⟨b6, g6⟩ : ∃ z, z = h0.size := ⟨_, rfl⟩
    rw [← g6] at A6 Y6 st6
    have ge7 : n0 ≤ b6 := by rw [g6]; exact Z0
    have K8 := (Keep.refl h0 []).ext E6
    have Z9 := Nat.le_trans Z0 K8.1
    refine oGo.step (f' := (mkF m 75 #[.val (.int x0), .val (.int x1), .val (.int x2), .val (.int x3), .val (.int x4), .val (.int x5), .val (.int ((x0 &&& (15 : Int32)) - (3 : Int32))), .val (.int ((x1 &&& (15 : Int32)) - (3 : Int32))), .val (.int sp), .val (.int v5), .val (.int dd), .val (.int ee), .unset, .unset, .unset, .unset, .unset, .unset] [(.ref b6)])) st6 ?_
    refine o_astore (pc' := 77) (l' := #[.val (.int x0), .val (.int x1), .val (.int x2), .val (.int x3), .val (.int x4), .val (.int x5), .val (.int ((x0 &&& (15 : Int32)) - (3 : Int32))), .val (.int ((x1 &&& (15 : Int32)) - (3 : Int32))), .val (.int sp), .val (.int v5), .val (.int dd), .val (.int ee), .val (.ref b6), .unset, .unset, .unset, .unset, .unset]) X6 hx (hb hby at_75) rfl rfl rfl ?_
    refine o_iconst (pc' := 78) (v := (2 : Int32)) X6 hx (hb hby at_77) rfl rfl ?_
    obtain ⟨T10, h10_, X10, e10, E10, A10, Y10, st10⟩ := o_newIE (Ls := #[.val (.int x0), .val (.int x1), .val (.int x2), .val (.int x3), .val (.int x4), .val (.int x5), .val (.int ((x0 &&& (15 : Int32)) - (3 : Int32))), .val (.int ((x1 &&& (15 : Int32)) - (3 : Int32))), .val (.int sp), .val (.int v5), .val (.int dd), .val (.int ee), .val (.ref b6), .unset, .unset, .unset, .unset, .unset]) (st := []) (n := (2 : Int32)) X6 hx hZ (hw _ (List.mem_of_getElem? (i := 9) rfl)) e6 (hb hby at_78) (by decide) 2 (by decide) (by decide) (by decide) (by decide) rfl
    obtain ⟨b10, g10⟩ : ∃ z, z = h6_.size := ⟨_, rfl⟩
    rw [← g10] at A10 Y10 st10
    have ne11 : b6 ≠ b10 := by rw [g10]; exact Nat.ne_of_lt A6.lt
    have ge12 : n0 ≤ b10 := by rw [g10]; exact Z9
    have K13 := (Keep.refl h6_ []).ext E10
    have F14 := A6.keep K13 nin0
    have F15 := Y6.keep K13
    have Z16 := Nat.le_trans Z9 K13.1
    refine oGo.step (f' := (mkF m 80 #[.val (.int x0), .val (.int x1), .val (.int x2), .val (.int x3), .val (.int x4), .val (.int x5), .val (.int ((x0 &&& (15 : Int32)) - (3 : Int32))), .val (.int ((x1 &&& (15 : Int32)) - (3 : Int32))), .val (.int sp), .val (.int v5), .val (.int dd), .val (.int ee), .val (.ref b6), .unset, .unset, .unset, .unset, .unset] [(.ref b10)])) st10 ?_
    refine o_astore (pc' := 82) (l' := #[.val (.int x0), .val (.int x1), .val (.int x2), .val (.int x3), .val (.int x4), .val (.int x5), .val (.int ((x0 &&& (15 : Int32)) - (3 : Int32))), .val (.int ((x1 &&& (15 : Int32)) - (3 : Int32))), .val (.int sp), .val (.int v5), .val (.int dd), .val (.int ee), .val (.ref b6), .val (.ref b10), .unset, .unset, .unset, .unset]) X10 hx (hb hby at_80) rfl rfl rfl ?_
    have hs0' := hs0
    rw [← hsp] at hs0 hs1 hs2
    obtain ⟨T17, h17_, X17, e17, E17, A17, D17, -, st17⟩ := newO X10 hx hZ hown (hw _ (List.mem_of_getElem? (i := 10) rfl)) (hw _ (List.mem_of_getElem? (i := 11) rfl)) (hw _ (List.mem_of_getElem? (i := 12) rfl)) e10 (g := (mkF m 82 #[.val (.int x0), .val (.int x1), .val (.int x2), .val (.int x3), .val (.int x4), .val (.int x5), .val (.int ((x0 &&& (15 : Int32)) - (3 : Int32))), .val (.int ((x1 &&& (15 : Int32)) - (3 : Int32))), .val (.int sp), .val (.int v5), .val (.int dd), .val (.int ee), .val (.ref b6), .val (.ref b10), .unset, .unset, .unset, .unset] [])) rfl (hb hby at_82) (by decide) (by decide)
    obtain ⟨b17, g17⟩ : ∃ z, z = h10_.size := ⟨_, rfl⟩
    rw [← g17] at A17 D17 st17
    have ne18 : b6 ≠ b17 := by rw [g17]; exact Nat.ne_of_lt F14.lt
    have ne19 : b10 ≠ b17 := by rw [g17]; exact Nat.ne_of_lt A10.lt
    have ge20 : n0 ≤ b17 := by rw [g17]; exact Z16
    have K21 := (Keep.refl h10_ []).ext E17
    have F22 := F14.keep K21 nin0
    have F23 := F15.keep K21
    have F24 := A10.keep K21 nin0
    have F25 := Y10.keep K21
    have Z26 := Nat.le_trans Z16 K21.1
    have F27 : Fld Z h17_ b17 "com/example/stratigraph/stratigraph/store/RecentLists" "lists" "[[I" .null := D17 (Or.inr (hw _ (List.mem_of_getElem? (i := 24) rfl))) (ty := (.array (.array .int))) (by decide)
    have F28 : Fld Z h17_ b17 "com/example/stratigraph/stratigraph/store/RecentLists" "chains" "[I" .null := D17 (Or.inr (hw _ (List.mem_of_getElem? (i := 26) rfl))) (ty := (.array .int)) (by decide)
    refine oGo.step (f' := (mkF m 85 #[.val (.int x0), .val (.int x1), .val (.int x2), .val (.int x3), .val (.int x4), .val (.int x5), .val (.int ((x0 &&& (15 : Int32)) - (3 : Int32))), .val (.int ((x1 &&& (15 : Int32)) - (3 : Int32))), .val (.int sp), .val (.int v5), .val (.int dd), .val (.int ee), .val (.ref b6), .val (.ref b10), .unset, .unset, .unset, .unset] [(.ref b17)])) st17 ?_
    refine o_dup (pc' := 86) X17 hx (hb hby at_85) rfl rfl ?_
    refine o_iload (pc' := 88) X17 hx (hb hby at_86) rfl rfl ?_
    refine o_iload (pc' := 90) X17 hx (hb hby at_88) rfl rfl ?_
    obtain ⟨r29, T29, L29, X29, hq29, st29⟩ := o_callN X17 hx hZ hown rfl (hw _ (List.mem_of_getElem? (i := 13) rfl)) (hw _ (List.mem_of_getElem? (i := 14) rfl)) (hw _ (List.mem_of_getElem? (i := 12) rfl)) (hw _ (List.mem_of_getElem? (i := 15) rfl)) (by decide) (rm3 l Z a0 hw b17 ((x0 &&& (15 : Int32)) - (3 : Int32)) ((x1 &&& (15 : Int32)) - (3 : Int32)) h17_ n0 Z26 A17 F27 F28 ge20 hs0 hs1) e17 (pc' := 93) (Ls := #[.val (.int x0), .val (.int x1), .val (.int x2), .val (.int x3), .val (.int x4), .val (.int x5), .val (.int ((x0 &&& (15 : Int32)) - (3 : Int32))), .val (.int ((x1 &&& (15 : Int32)) - (3 : Int32))), .val (.int sp), .val (.int v5), .val (.int dd), .val (.int ee), .val (.ref b6), .val (.ref b10), .unset, .unset, .unset, .unset]) (by rw [hml]; rfl) [(.int ((x0 &&& (15 : Int32)) - (3 : Int32))), (.int ((x1 &&& (15 : Int32)) - (3 : Int32)))] [(.ref b17)] rfl pd1 rfl rfl 1 (Nat.le_of_eq rfl) (hb hby at_90) rfl (by decide) (by decide) (by decide) (by decide)
    obtain ⟨la, ca, rfl, N29, Kc29, E29_, F29_l, F29_c, R29_, A29_, ge_la, ge_ca, ne_al, ne_ac, ne_lc, sz_la, sz_ca⟩ := hq29
    refine oGo.step (f' := (mkF m 93 #[.val (.int x0), .val (.int x1), .val (.int x2), .val (.int x3), .val (.int x4), .val (.int x5), .val (.int ((x0 &&& (15 : Int32)) - (3 : Int32))), .val (.int ((x1 &&& (15 : Int32)) - (3 : Int32))), .val (.int sp), .val (.int v5), .val (.int dd), .val (.int ee), .val (.ref b6), .val (.ref b10), .unset, .unset, .unset, .unset] [(.ref b17)])) st29 ?_
    have N29_ := Fr.app N0 N29
    have K30 := Kc29
    have F31 := F22.keep K30 (ninS ne18 nin0)
    have F32 := F23.keep K30
    have F33 := F24.keep K30 (ninS ne19 nin0)
    have F34 := F25.keep K30
    have F35 := A17.keep K30
    have Z38 := Nat.le_trans Z26 K30.1
    have ne_b6_la : b6 ≠ la := Nat.ne_of_lt (Nat.lt_of_lt_of_le F22.lt sz_la)
    have ne_b6_ca : b6 ≠ ca := Nat.ne_of_lt (Nat.lt_of_lt_of_le F22.lt sz_ca)
    have ne_b10_la : b10 ≠ la := Nat.ne_of_lt (Nat.lt_of_lt_of_le F24.lt sz_la)
    have ne_b10_ca : b10 ≠ ca := Nat.ne_of_lt (Nat.lt_of_lt_of_le F24.lt sz_ca)
    obtain ⟨N, hN⟩ : ∃ z, z = ((spec2 (1 : Int32) (spec1 ((x0 &&& (15 : Int32)) - (3 : Int32)) ((x1 &&& (15 : Int32)) - (3 : Int32))))).toNatClampNeg := ⟨_, rfl⟩
    rw [← hN] at R29_ A29_
    obtain ⟨vs, hvs⟩ : ∃ z, z = List.replicate N Value.null := ⟨_, rfl⟩
    obtain ⟨xs, hxs⟩ : ∃ z, z = List.replicate N (0 : Int32) := ⟨_, rfl⟩
    rw [← hvs] at R29_
    rw [← hxs] at A29_
    have lv : vs.length = N := by rw [hvs]; simp
    have lx : xs.length = N := by rw [hxs]; simp
    have N1 : 0 < N := by rw [hN]; exact hs2
    have N2 : N < 2 ^ 31 := by rw [hN]; exact Nat.lt_of_le_of_lt hs1 (by decide)
    have hN' : N = sp.toNatClampNeg := by rw [← hsp]; exact hN
    refine o_astore (pc' := 95) (l' := #[.val (.int x0), .val (.int x1), .val (.int x2), .val (.int x3), .val (.int x4), .val (.int x5), .val (.int ((x0 &&& (15 : Int32)) - (3 : Int32))), .val (.int ((x1 &&& (15 : Int32)) - (3 : Int32))), .val (.int sp), .val (.int v5), .val (.int dd), .val (.int ee), .val (.ref b6), .val (.ref b10), .val (.ref b17), .unset, .unset, .unset]) X29 hx (hb hby at_93) rfl rfl rfl ?_
    refine o_aload (pc' := 97) X29 hx (hb hby at_95) rfl rfl rfl ?_
    refine o_iload (pc' := 99) X29 hx (hb hby at_97) rfl rfl ?_
    refine o_aload (pc' := 101) X29 hx (hb hby at_99) rfl rfl rfl ?_
    refine o_iloadN (pc' := 102) X29 hx (hb hby at_101) rfl rfl ?_
    obtain ⟨r39, T39, L39, X39, hq39, st39⟩ := o_callV X29 hx hZ hown (hw _ (List.mem_of_getElem? (i := 27) rfl)) (hw _ (List.mem_of_getElem? (i := 28) rfl)) (hw _ (List.mem_of_getElem? (i := 30) rfl)) (hw _ (List.mem_of_getElem? (i := 29) rfl)) (hw _ (List.mem_of_getElem? (i := 12) rfl)) (hw _ (List.mem_of_getElem? (i := 31) rfl)) (by decide) E29_ (rm5 l Z a0 hw b17 v5 b6 x3 la ca vs xs N T29.heap n0 Z38 E29_ F29_l F29_c R29_ A29_ F32 lv lx N1 N2 b0 ge_la ge_ca ne_al ne_ac ne_lc) (rfl : T29.heap = _) (pc' := 105) (Ls := #[.val (.int x0), .val (.int x1), .val (.int x2), .val (.int x3), .val (.int x4), .val (.int x5), .val (.int ((x0 &&& (15 : Int32)) - (3 : Int32))), .val (.int ((x1 &&& (15 : Int32)) - (3 : Int32))), .val (.int sp), .val (.int v5), .val (.int dd), .val (.int ee), .val (.ref b6), .val (.ref b10), .val (.ref b17), .unset, .unset, .unset]) (by rw [hml]; rfl) [(.int v5), (.ref b6), (.int x3)] [] rfl pd2 rfl rfl 0 (Nat.le_of_eq rfl) (hb hby at_102) rfl (by decide) (by decide) (by decide) (by decide)
    obtain ⟨rfl, N39, Kc39, R39_, A39_⟩ := hq39
    refine oGo.step (f' := (mkF m 105 #[.val (.int x0), .val (.int x1), .val (.int x2), .val (.int x3), .val (.int x4), .val (.int x5), .val (.int ((x0 &&& (15 : Int32)) - (3 : Int32))), .val (.int ((x1 &&& (15 : Int32)) - (3 : Int32))), .val (.int sp), .val (.int v5), .val (.int dd), .val (.int ee), .val (.ref b6), .val (.ref b10), .val (.ref b17), .unset, .unset, .unset] [])) st39 ?_
    have N39_ := Fr.app N29_ N39
    have K40 := Kc39
    have F41 := F31.keep K40 (ninS ne_b6_la (ninS ne_b6_ca nin0))
    have F42 := F32.keep K40
    have F43 := F33.keep K40 (ninS ne_b10_la (ninS ne_b10_ca nin0))
    have F44 := F34.keep K40
    have F45 := E29_.keep K40
    have F46 := F29_l.keep K40 (ninS ne_al (ninS ne_ac nin0))
    have F47 := F29_c.keep K40 (ninS ne_al (ninS ne_ac nin0))
    have Z50 := Nat.le_trans Z38 K40.1
    obtain ⟨vs39, hvs39⟩ : ∃ z, z = vs.set (oI v5 N) (Value.ref b6) := ⟨_, rfl⟩
    obtain ⟨xs39, hxs39⟩ : ∃ z, z = xs.set (oI v5 N) x3 := ⟨_, rfl⟩
    rw [← hvs39] at R39_
    rw [← hxs39] at A39_
    have lv39 : vs39.length = N := by rw [hvs39, List.length_set]; exact lv
    have lx39 : xs39.length = N := by rw [hxs39, List.length_set]; exact lx
    have X39 := o_flat X39 rfl rfl
    refine o_aload (pc' := 107) X39 hx (hb hby at_105) rfl rfl rfl ?_
    refine o_iload (pc' := 109) X39 hx (hb hby at_107) rfl rfl ?_
    obtain ⟨r51, T51, L51, X51, hq51, st51⟩ := o_callV X39 hx hZ hown (hw _ (List.mem_of_getElem? (i := 33) rfl)) (hw _ (List.mem_of_getElem? (i := 34) rfl)) (hw _ (List.mem_of_getElem? (i := 36) rfl)) (hw _ (List.mem_of_getElem? (i := 35) rfl)) (hw _ (List.mem_of_getElem? (i := 12) rfl)) (hw _ (List.mem_of_getElem? (i := 37) rfl)) (by decide) F45 (rm6 l Z a0 hw b17 v5 la vs39 N T39.heap n0 Z50 F46 R39_ lv39 N1 N2 b0 (by rw [(show vs39.getD (oI v5 N) Value.null = Value.ref b6 by rw [hvs39]; exact own_gs (by rw [lv]; exact (own_mod b0 N1 N2).2.2.1))]; rfl) (by rw [(show vs39.getD (oI v5 N) Value.null = Value.ref b6 by rw [hvs39]; exact own_gs (by rw [lv]; exact (own_mod b0 N1 N2).2.2.1))]; rfl)) (rfl : T39.heap = _) (pc' := 112) (Ls := #[.val (.int x0), .val (.int x1), .val (.int x2), .val (.int x3), .val (.int x4), .val (.int x5), .val (.int ((x0 &&& (15 : Int32)) - (3 : Int32))), .val (.int ((x1 &&& (15 : Int32)) - (3 : Int32))), .val (.int sp), .val (.int v5), .val (.int dd), .val (.int ee), .val (.ref b6), .val (.ref b10), .val (.ref b17), .unset, .unset, .unset]) (by rw [hml]; rfl) [(.int v5)] [] rfl pd3 rfl rfl 0 (Nat.le_of_eq rfl) (hb hby at_109) rfl (by decide) (by decide) (by decide) (by decide)
    obtain ⟨hv51, rfl, Kc51⟩ := hq51
    obtain rfl : r51 = some (Value.ref b6) := hv51.trans (congrArg some (show vs39.getD (oI v5 N) Value.null = Value.ref b6 by rw [hvs39]; exact own_gs (by rw [lv]; exact (own_mod b0 N1 N2).2.2.1)))
    refine oGo.step (f' := (mkF m 112 #[.val (.int x0), .val (.int x1), .val (.int x2), .val (.int x3), .val (.int x4), .val (.int x5), .val (.int ((x0 &&& (15 : Int32)) - (3 : Int32))), .val (.int ((x1 &&& (15 : Int32)) - (3 : Int32))), .val (.int sp), .val (.int v5), .val (.int dd), .val (.int ee), .val (.ref b6), .val (.ref b10), .val (.ref b17), .unset, .unset, .unset] [(.ref b6)])) st51 ?_
    have e51 : T51.heap = T39.heap := Kc51
    have X51 := o_same X51 rfl rfl
    refine o_aload (pc' := 114) X51 hx (hb hby at_112) rfl rfl rfl ?_
    refine o_acmpF (pc' := 117) X51 hx (hb hby at_114) rfl rfl (XT.aa_ne_f rfl) rfl ?_
    refine o_aload (pc' := 119) X51 hx (hb hby at_117) rfl rfl rfl ?_
    refine o_iload (pc' := 121) X51 hx (hb hby at_119) rfl rfl ?_
    refine o_iload (pc' := 123) X51 hx (hb hby at_121) rfl rfl ?_
    refine o_iadd (pc' := 124) X51 hx (hb hby at_123)  rfl ?_
    refine o_iload (pc' := 126) X51 hx (hb hby at_124) rfl rfl ?_
    obtain ⟨r52, T52, L52, X52, hq52, st52⟩ := o_callV X51 hx hZ hown (hw _ (List.mem_of_getElem? (i := 38) rfl)) (hw _ (List.mem_of_getElem? (i := 39) rfl)) (hw _ (List.mem_of_getElem? (i := 41) rfl)) (hw _ (List.mem_of_getElem? (i := 40) rfl)) (hw _ (List.mem_of_getElem? (i := 12) rfl)) (hw _ (List.mem_of_getElem? (i := 42) rfl)) (by decide) F45 (rm7 l Z a0 hw b17 (v5 + ee) ee ca xs39 N T39.heap n0 Z50 F45 F47 A39_ lx39 N1 N2 (fun _ => b4)) e51 (pc' := 129) (Ls := #[.val (.int x0), .val (.int x1), .val (.int x2), .val (.int x3), .val (.int x4), .val (.int x5), .val (.int ((x0 &&& (15 : Int32)) - (3 : Int32))), .val (.int ((x1 &&& (15 : Int32)) - (3 : Int32))), .val (.int sp), .val (.int v5), .val (.int dd), .val (.int ee), .val (.ref b6), .val (.ref b10), .val (.ref b17), .unset, .unset, .unset]) (by rw [hml]; rfl) [(.int (v5 + ee)), (.int ee)] [] rfl pd0 rfl rfl 0 (Nat.le_of_eq rfl) (hb hby at_126) rfl (by decide) (by decide) (by decide) (by decide)
    obtain ⟨rfl, rfl, Kc52⟩ := hq52
    have hc52 : (spec7 (v5 + ee) ee xs39 N) = (x3 + (1 : Int32)) := own_chain ez (by rw [own_ie (y := v5) b4 b0 N1 N2 (by rw [a4, a2, Int.add_sub_cancel]), hxs39]; exact own_gs (by rw [lx]; exact (own_mod b0 N1 N2).2.2.1))
    rw [hc52] at st52
    refine oGo.step (f' := (mkF m 129 #[.val (.int x0), .val (.int x1), .val (.int x2), .val (.int x3), .val (.int x4), .val (.int x5), .val (.int ((x0 &&& (15 : Int32)) - (3 : Int32))), .val (.int ((x1 &&& (15 : Int32)) - (3 : Int32))), .val (.int sp), .val (.int v5), .val (.int dd), .val (.int ee), .val (.ref b6), .val (.ref b10), .val (.ref b17), .unset, .unset, .unset] [(.int (x3 + (1 : Int32)))])) st52 ?_
    have e52 : T52.heap = T39.heap := Kc52
    have X52 := o_same X52 rfl rfl
    refine o_iloadN (pc' := 130) X52 hx (hb hby at_129) rfl rfl ?_
    refine o_iconst (pc' := 131) (v := (1 : Int32)) X52 hx (hb hby at_130) rfl rfl ?_
    refine o_iadd (pc' := 132) X52 hx (hb hby at_131)  rfl ?_
    refine o_icmpF (pc' := 135) X52 hx (hb hby at_132) (XT.ii_ne_f rfl) rfl ?_
    refine o_iconst (pc' := 136) (v := (1 : Int32)) X52 hx (hb hby at_135) rfl rfl ?_
    refine o_goto (pc' := 140) X52 hx (hb hby at_136) (by decide) (by decide) ?_
    refine o_istore (pc' := 142) (l' := #[.val (.int x0), .val (.int x1), .val (.int x2), .val (.int x3), .val (.int x4), .val (.int x5), .val (.int ((x0 &&& (15 : Int32)) - (3 : Int32))), .val (.int ((x1 &&& (15 : Int32)) - (3 : Int32))), .val (.int sp), .val (.int v5), .val (.int dd), .val (.int ee), .val (.ref b6), .val (.ref b10), .val (.ref b17), .val (.int (1 : Int32)), .unset, .unset]) X52 hx (hb hby at_140) rfl rfl ?_
    refine o_aload (pc' := 144) X52 hx (hb hby at_142) rfl rfl rfl ?_
    refine o_iload (pc' := 146) X52 hx (hb hby at_144) rfl rfl ?_
    refine o_iload (pc' := 148) X52 hx (hb hby at_146) rfl rfl ?_
    refine o_iadd (pc' := 149) X52 hx (hb hby at_148)  rfl ?_
    refine o_aload (pc' := 151) X52 hx (hb hby at_149) rfl rfl rfl ?_
    refine o_iload (pc' := 153) X52 hx (hb hby at_151) rfl rfl ?_
    obtain ⟨r53, T53, L53, X53, hq53, st53⟩ := o_callV X52 hx hZ hown (hw _ (List.mem_of_getElem? (i := 27) rfl)) (hw _ (List.mem_of_getElem? (i := 28) rfl)) (hw _ (List.mem_of_getElem? (i := 30) rfl)) (hw _ (List.mem_of_getElem? (i := 29) rfl)) (hw _ (List.mem_of_getElem? (i := 12) rfl)) (hw _ (List.mem_of_getElem? (i := 31) rfl)) (by decide) F45 (rm5 l Z a0 hw b17 (v5 + dd) b10 x4 la ca vs39 xs39 N T39.heap n0 Z50 F45 F46 F47 R39_ A39_ F44 lv39 lx39 N1 N2 b1 ge_la ge_ca ne_al ne_ac ne_lc) e52 (pc' := 156) (Ls := #[.val (.int x0), .val (.int x1), .val (.int x2), .val (.int x3), .val (.int x4), .val (.int x5), .val (.int ((x0 &&& (15 : Int32)) - (3 : Int32))), .val (.int ((x1 &&& (15 : Int32)) - (3 : Int32))), .val (.int sp), .val (.int v5), .val (.int dd), .val (.int ee), .val (.ref b6), .val (.ref b10), .val (.ref b17), .val (.int (1 : Int32)), .unset, .unset]) (by rw [hml]; rfl) [(.int (v5 + dd)), (.ref b10), (.int x4)] [] rfl pd2 rfl rfl 0 (Nat.le_of_eq rfl) (hb hby at_153) rfl (by decide) (by decide) (by decide) (by decide)
    obtain ⟨rfl, N53, Kc53, R53_, A53_⟩ := hq53
    refine oGo.step (f' := (mkF m 156 #[.val (.int x0), .val (.int x1), .val (.int x2), .val (.int x3), .val (.int x4), .val (.int x5), .val (.int ((x0 &&& (15 : Int32)) - (3 : Int32))), .val (.int ((x1 &&& (15 : Int32)) - (3 : Int32))), .val (.int sp), .val (.int v5), .val (.int dd), .val (.int ee), .val (.ref b6), .val (.ref b10), .val (.ref b17), .val (.int (1 : Int32)), .unset, .unset] [])) st53 ?_
    have N53_ := Fr.app N39_ N53
    have K54 := Kc53
    have F55 := F41.keep K54 (ninS ne_b6_la (ninS ne_b6_ca nin0))
    have F56 := F42.keep K54
    have F57 := F43.keep K54 (ninS ne_b10_la (ninS ne_b10_ca nin0))
    have F58 := F44.keep K54
    have F59 := F45.keep K54
    have F60 := F46.keep K54 (ninS ne_al (ninS ne_ac nin0))
    have F61 := F47.keep K54 (ninS ne_al (ninS ne_ac nin0))
    have Z64 := Nat.le_trans Z50 K54.1
    obtain ⟨vs53, hvs53⟩ : ∃ z, z = vs39.set (oI (v5 + dd) N) (Value.ref b10) := ⟨_, rfl⟩
    obtain ⟨xs53, hxs53⟩ : ∃ z, z = xs39.set (oI (v5 + dd) N) x4 := ⟨_, rfl⟩
    rw [← hvs53] at R53_
    rw [← hxs53] at A53_
    have lv53 : vs53.length = N := by rw [hvs53, List.length_set]; exact lv39
    have lx53 : xs53.length = N := by rw [hxs53, List.length_set]; exact lx39
    have X53 := o_flat X53 rfl rfl
    refine o_aload (pc' := 158) X53 hx (hb hby at_156) rfl rfl rfl ?_
    refine o_iload (pc' := 160) X53 hx (hb hby at_158) rfl rfl ?_
    refine o_iload (pc' := 162) X53 hx (hb hby at_160) rfl rfl ?_
    refine o_iadd (pc' := 163) X53 hx (hb hby at_162)  rfl ?_
    obtain ⟨r65, T65, L65, X65, hq65, st65⟩ := o_callV X53 hx hZ hown (hw _ (List.mem_of_getElem? (i := 33) rfl)) (hw _ (List.mem_of_getElem? (i := 34) rfl)) (hw _ (List.mem_of_getElem? (i := 36) rfl)) (hw _ (List.mem_of_getElem? (i := 35) rfl)) (hw _ (List.mem_of_getElem? (i := 12) rfl)) (hw _ (List.mem_of_getElem? (i := 37) rfl)) (by decide) F59 (rm6 l Z a0 hw b17 (v5 + dd) la vs53 N T53.heap n0 Z64 F60 R53_ lv53 N1 N2 b1 (by rw [(show vs53.getD (oI (v5 + dd) N) Value.null = Value.ref b10 by rw [hvs53]; exact own_gs (by rw [lv39]; exact (own_mod b1 N1 N2).2.2.1))]; rfl) (by rw [(show vs53.getD (oI (v5 + dd) N) Value.null = Value.ref b10 by rw [hvs53]; exact own_gs (by rw [lv39]; exact (own_mod b1 N1 N2).2.2.1))]; rfl)) (rfl : T53.heap = _) (pc' := 166) (Ls := #[.val (.int x0), .val (.int x1), .val (.int x2), .val (.int x3), .val (.int x4), .val (.int x5), .val (.int ((x0 &&& (15 : Int32)) - (3 : Int32))), .val (.int ((x1 &&& (15 : Int32)) - (3 : Int32))), .val (.int sp), .val (.int v5), .val (.int dd), .val (.int ee), .val (.ref b6), .val (.ref b10), .val (.ref b17), .val (.int (1 : Int32)), .unset, .unset]) (by rw [hml]; rfl) [(.int (v5 + dd))] [] rfl pd3 rfl rfl 0 (Nat.le_of_eq rfl) (hb hby at_163) rfl (by decide) (by decide) (by decide) (by decide)
    obtain ⟨hv65, rfl, Kc65⟩ := hq65
    obtain rfl : r65 = some (Value.ref b10) := hv65.trans (congrArg some (show vs53.getD (oI (v5 + dd) N) Value.null = Value.ref b10 by rw [hvs53]; exact own_gs (by rw [lv39]; exact (own_mod b1 N1 N2).2.2.1)))
    refine oGo.step (f' := (mkF m 166 #[.val (.int x0), .val (.int x1), .val (.int x2), .val (.int x3), .val (.int x4), .val (.int x5), .val (.int ((x0 &&& (15 : Int32)) - (3 : Int32))), .val (.int ((x1 &&& (15 : Int32)) - (3 : Int32))), .val (.int sp), .val (.int v5), .val (.int dd), .val (.int ee), .val (.ref b6), .val (.ref b10), .val (.ref b17), .val (.int (1 : Int32)), .unset, .unset] [(.ref b10)])) st65 ?_
    have e65 : T65.heap = T53.heap := Kc65
    have X65 := o_same X65 rfl rfl
    refine o_aload (pc' := 168) X65 hx (hb hby at_166) rfl rfl rfl ?_
    refine o_acmpF (pc' := 171) X65 hx (hb hby at_168) rfl rfl (XT.aa_ne_f rfl) rfl ?_
    refine o_aload (pc' := 173) X65 hx (hb hby at_171) rfl rfl rfl ?_
    refine o_iload (pc' := 175) X65 hx (hb hby at_173) rfl rfl ?_
    refine o_iload (pc' := 177) X65 hx (hb hby at_175) rfl rfl ?_
    refine o_iadd (pc' := 178) X65 hx (hb hby at_177)  rfl ?_
    refine o_iconst (pc' := 179) (v := (1 : Int32)) X65 hx (hb hby at_178) rfl rfl ?_
    refine o_iadd (pc' := 180) X65 hx (hb hby at_179)  rfl ?_
    refine o_iconst (pc' := 181) (v := (1 : Int32)) X65 hx (hb hby at_180) rfl rfl ?_
    obtain ⟨r66, T66, L66, X66, hq66, st66⟩ := o_callV X65 hx hZ hown (hw _ (List.mem_of_getElem? (i := 38) rfl)) (hw _ (List.mem_of_getElem? (i := 39) rfl)) (hw _ (List.mem_of_getElem? (i := 41) rfl)) (hw _ (List.mem_of_getElem? (i := 40) rfl)) (hw _ (List.mem_of_getElem? (i := 12) rfl)) (hw _ (List.mem_of_getElem? (i := 42) rfl)) (by decide) F59 (rm7 l Z a0 hw b17 ((v5 + dd) + (1 : Int32)) (1 : Int32) ca xs53 N T53.heap n0 Z64 F59 F61 A53_ lx53 N1 N2 (fun _ => b5)) e65 (pc' := 184) (Ls := #[.val (.int x0), .val (.int x1), .val (.int x2), .val (.int x3), .val (.int x4), .val (.int x5), .val (.int ((x0 &&& (15 : Int32)) - (3 : Int32))), .val (.int ((x1 &&& (15 : Int32)) - (3 : Int32))), .val (.int sp), .val (.int v5), .val (.int dd), .val (.int ee), .val (.ref b6), .val (.ref b10), .val (.ref b17), .val (.int (1 : Int32)), .unset, .unset]) (by rw [hml]; rfl) [(.int ((v5 + dd) + (1 : Int32))), (.int (1 : Int32))] [] rfl pd0 rfl rfl 0 (Nat.le_of_eq rfl) (hb hby at_181) rfl (by decide) (by decide) (by decide) (by decide)
    obtain ⟨rfl, rfl, Kc66⟩ := hq66
    have hc66 : (spec7 ((v5 + dd) + (1 : Int32)) (1 : Int32) xs53 N) = (x4 + (1 : Int32)) := own_chain (by decide) (by rw [own_ie (y := v5 + dd) b5 b1 N1 N2 (by rw [a5, a3, Int.add_sub_cancel]), hxs53]; exact own_gs (by rw [lx39]; exact (own_mod b1 N1 N2).2.2.1))
    rw [hc66] at st66
    refine oGo.step (f' := (mkF m 184 #[.val (.int x0), .val (.int x1), .val (.int x2), .val (.int x3), .val (.int x4), .val (.int x5), .val (.int ((x0 &&& (15 : Int32)) - (3 : Int32))), .val (.int ((x1 &&& (15 : Int32)) - (3 : Int32))), .val (.int sp), .val (.int v5), .val (.int dd), .val (.int ee), .val (.ref b6), .val (.ref b10), .val (.ref b17), .val (.int (1 : Int32)), .unset, .unset] [(.int (x4 + (1 : Int32)))])) st66 ?_
    have e66 : T66.heap = T53.heap := Kc66
    have X66 := o_same X66 rfl rfl
    refine o_iload (pc' := 186) X66 hx (hb hby at_184) rfl rfl ?_
    refine o_iconst (pc' := 187) (v := (1 : Int32)) X66 hx (hb hby at_186) rfl rfl ?_
    refine o_iadd (pc' := 188) X66 hx (hb hby at_187)  rfl ?_
    refine o_icmpF (pc' := 191) X66 hx (hb hby at_188) (XT.ii_ne_f rfl) rfl ?_
    refine o_iconst (pc' := 192) (v := (1 : Int32)) X66 hx (hb hby at_191) rfl rfl ?_
    refine o_goto (pc' := 196) X66 hx (hb hby at_192) (by decide) (by decide) ?_
    refine o_istore (pc' := 198) (l' := #[.val (.int x0), .val (.int x1), .val (.int x2), .val (.int x3), .val (.int x4), .val (.int x5), .val (.int ((x0 &&& (15 : Int32)) - (3 : Int32))), .val (.int ((x1 &&& (15 : Int32)) - (3 : Int32))), .val (.int sp), .val (.int v5), .val (.int dd), .val (.int ee), .val (.ref b6), .val (.ref b10), .val (.ref b17), .val (.int (1 : Int32)), .val (.int (1 : Int32)), .unset]) X66 hx (hb hby at_196) rfl rfl ?_
    refine o_iload (pc' := 200) X66 hx (hb hby at_198) rfl rfl ?_
    refine o_iload (pc' := 202) X66 hx (hb hby at_200) rfl rfl ?_
    by_cases c67 : dd < sp
    · refine o_icmpF (pc' := 205) X66 hx (hb hby at_202) (XT.ii_ge_f c67) rfl ?_
      refine o_aload (pc' := 207) X66 hx (hb hby at_205) rfl rfl rfl ?_
      refine o_iload (pc' := 209) X66 hx (hb hby at_207) rfl rfl ?_
      obtain ⟨r68, T68, L68, X68, hq68, st68⟩ := o_callV X66 hx hZ hown (hw _ (List.mem_of_getElem? (i := 33) rfl)) (hw _ (List.mem_of_getElem? (i := 34) rfl)) (hw _ (List.mem_of_getElem? (i := 36) rfl)) (hw _ (List.mem_of_getElem? (i := 35) rfl)) (hw _ (List.mem_of_getElem? (i := 12) rfl)) (hw _ (List.mem_of_getElem? (i := 37) rfl)) (by decide) F59 (rm6 l Z a0 hw b17 v5 la vs53 N T53.heap n0 Z64 F60 R53_ lv53 N1 N2 b0 (by rw [(show vs53.getD (oI v5 N) Value.null = Value.ref b6 by rw [hvs53, own_gsn (own_ne b0 b1 a1 hN' hs0' k1.1 c67 N2), hvs39]; exact own_gs (by rw [lv]; exact (own_mod b0 N1 N2).2.2.1))]; rfl) (by rw [(show vs53.getD (oI v5 N) Value.null = Value.ref b6 by rw [hvs53, own_gsn (own_ne b0 b1 a1 hN' hs0' k1.1 c67 N2), hvs39]; exact own_gs (by rw [lv]; exact (own_mod b0 N1 N2).2.2.1))]; rfl)) e66 (pc' := 212) (Ls := #[.val (.int x0), .val (.int x1), .val (.int x2), .val (.int x3), .val (.int x4), .val (.int x5), .val (.int ((x0 &&& (15 : Int32)) - (3 : Int32))), .val (.int ((x1 &&& (15 : Int32)) - (3 : Int32))), .val (.int sp), .val (.int v5), .val (.int dd), .val (.int ee), .val (.ref b6), .val (.ref b10), .val (.ref b17), .val (.int (1 : Int32)), .val (.int (1 : Int32)), .unset]) (by rw [hml]; rfl) [(.int v5)] [] rfl pd3 rfl rfl 0 (Nat.le_of_eq rfl) (hb hby at_209) rfl (by decide) (by decide) (by decide) (by decide)
      obtain ⟨hv68, rfl, Kc68⟩ := hq68
      obtain rfl : r68 = some (Value.ref b6) := hv68.trans (congrArg some (show vs53.getD (oI v5 N) Value.null = Value.ref b6 by rw [hvs53, own_gsn (own_ne b0 b1 a1 hN' hs0' k1.1 c67 N2), hvs39]; exact own_gs (by rw [lv]; exact (own_mod b0 N1 N2).2.2.1)))
      refine oGo.step (f' := (mkF m 212 #[.val (.int x0), .val (.int x1), .val (.int x2), .val (.int x3), .val (.int x4), .val (.int x5), .val (.int ((x0 &&& (15 : Int32)) - (3 : Int32))), .val (.int ((x1 &&& (15 : Int32)) - (3 : Int32))), .val (.int sp), .val (.int v5), .val (.int dd), .val (.int ee), .val (.ref b6), .val (.ref b10), .val (.ref b17), .val (.int (1 : Int32)), .val (.int (1 : Int32)), .unset] [(.ref b6)])) st68 ?_
      have e68 : T68.heap = T53.heap := Kc68
      have X68 := o_same X68 rfl rfl
      refine o_aload (pc' := 214) X68 hx (hb hby at_212) rfl rfl rfl ?_
      refine o_acmpF (pc' := 217) X68 hx (hb hby at_214) rfl rfl (XT.aa_ne_f rfl) rfl ?_
      refine o_aload (pc' := 219) X68 hx (hb hby at_217) rfl rfl rfl ?_
      refine o_iload (pc' := 221) X68 hx (hb hby at_219) rfl rfl ?_
      refine o_iload (pc' := 223) X68 hx (hb hby at_221) rfl rfl ?_
      refine o_iadd (pc' := 224) X68 hx (hb hby at_223)  rfl ?_
      refine o_iload (pc' := 226) X68 hx (hb hby at_224) rfl rfl ?_
      obtain ⟨r69, T69, L69, X69, hq69, st69⟩ := o_callV X68 hx hZ hown (hw _ (List.mem_of_getElem? (i := 38) rfl)) (hw _ (List.mem_of_getElem? (i := 39) rfl)) (hw _ (List.mem_of_getElem? (i := 41) rfl)) (hw _ (List.mem_of_getElem? (i := 40) rfl)) (hw _ (List.mem_of_getElem? (i := 12) rfl)) (hw _ (List.mem_of_getElem? (i := 42) rfl)) (by decide) F59 (rm7 l Z a0 hw b17 (v5 + ee) ee ca xs53 N T53.heap n0 Z64 F59 F61 A53_ lx53 N1 N2 (fun _ => b4)) e68 (pc' := 229) (Ls := #[.val (.int x0), .val (.int x1), .val (.int x2), .val (.int x3), .val (.int x4), .val (.int x5), .val (.int ((x0 &&& (15 : Int32)) - (3 : Int32))), .val (.int ((x1 &&& (15 : Int32)) - (3 : Int32))), .val (.int sp), .val (.int v5), .val (.int dd), .val (.int ee), .val (.ref b6), .val (.ref b10), .val (.ref b17), .val (.int (1 : Int32)), .val (.int (1 : Int32)), .unset]) (by rw [hml]; rfl) [(.int (v5 + ee)), (.int ee)] [] rfl pd0 rfl rfl 0 (Nat.le_of_eq rfl) (hb hby at_226) rfl (by decide) (by decide) (by decide) (by decide)
      obtain ⟨rfl, rfl, Kc69⟩ := hq69
      have hc69 : (spec7 (v5 + ee) ee xs53 N) = (x3 + (1 : Int32)) := own_chain ez (by rw [own_ie (y := v5) b4 b0 N1 N2 (by rw [a4, a2, Int.add_sub_cancel]), hxs53, own_gsn (own_ne b0 b1 a1 hN' hs0' k1.1 c67 N2), hxs39]; exact own_gs (by rw [lx]; exact (own_mod b0 N1 N2).2.2.1))
      rw [hc69] at st69
      refine oGo.step (f' := (mkF m 229 #[.val (.int x0), .val (.int x1), .val (.int x2), .val (.int x3), .val (.int x4), .val (.int x5), .val (.int ((x0 &&& (15 : Int32)) - (3 : Int32))), .val (.int ((x1 &&& (15 : Int32)) - (3 : Int32))), .val (.int sp), .val (.int v5), .val (.int dd), .val (.int ee), .val (.ref b6), .val (.ref b10), .val (.ref b17), .val (.int (1 : Int32)), .val (.int (1 : Int32)), .unset] [(.int (x3 + (1 : Int32)))])) st69 ?_
      have e69 : T69.heap = T53.heap := Kc69
      have X69 := o_same X69 rfl rfl
      refine o_iloadN (pc' := 230) X69 hx (hb hby at_229) rfl rfl ?_
      refine o_iconst (pc' := 231) (v := (1 : Int32)) X69 hx (hb hby at_230) rfl rfl ?_
      refine o_iadd (pc' := 232) X69 hx (hb hby at_231)  rfl ?_
      refine o_icmpF (pc' := 235) X69 hx (hb hby at_232) (XT.ii_ne_f rfl) rfl ?_
      refine o_iconst (pc' := 236) (v := (1 : Int32)) X69 hx (hb hby at_235) rfl rfl ?_
      refine o_goto (pc' := 240) X69 hx (hb hby at_236) (by decide) (by decide) ?_
      refine o_istore (pc' := 242) (l' := #[.val (.int x0), .val (.int x1), .val (.int x2), .val (.int x3), .val (.int x4), .val (.int x5), .val (.int ((x0 &&& (15 : Int32)) - (3 : Int32))), .val (.int ((x1 &&& (15 : Int32)) - (3 : Int32))), .val (.int sp), .val (.int v5), .val (.int dd), .val (.int ee), .val (.ref b6), .val (.ref b10), .val (.ref b17), .val (.int (1 : Int32)), .val (.int (1 : Int32)), .val (.int (1 : Int32))]) X69 hx (hb hby at_240) rfl rfl ?_
      refine o_goto (pc' := 283) X69 hx (hb hby at_242) (by decide) (by decide) ?_
      refine o_iload (pc' := 285) X69 hx (hb hby at_283) rfl rfl ?_
      refine o_ifF (pc' := 288) X69 hx (hb hby at_285) (XT.i0_eq_f (by decide)) rfl ?_
      refine o_iload (pc' := 290) X69 hx (hb hby at_288) rfl rfl ?_
      refine o_ifF (pc' := 293) X69 hx (hb hby at_290) (XT.i0_eq_f (by decide)) rfl ?_
      refine o_iload (pc' := 295) X69 hx (hb hby at_293) rfl rfl ?_
      refine o_ifF (pc' := 298) X69 hx (hb hby at_295) (XT.i0_eq_f (by decide)) rfl ?_
      refine o_iconst (pc' := 299) (v := (1 : Int32)) X69 hx (hb hby at_298) rfl rfl ?_
      refine o_goto (pc' := 303) X69 hx (hb hby at_299) (by decide) (by decide) ?_
      refine o_retZ X69 hx hret hlk (hb hby at_303) (by decide) (by decide) (by decide) ?_
      exact ⟨rfl, N53_⟩
    · refine o_icmpT (pc' := 245) X66 hx (hb hby at_202) (XT.ii_ge_t c67) (by decide) (by decide) ?_
      refine o_aload (pc' := 247) X66 hx (hb hby at_245) rfl rfl rfl ?_
      refine o_iload (pc' := 249) X66 hx (hb hby at_247) rfl rfl ?_
      obtain ⟨r70, T70, L70, X70, hq70, st70⟩ := o_callV X66 hx hZ hown (hw _ (List.mem_of_getElem? (i := 33) rfl)) (hw _ (List.mem_of_getElem? (i := 34) rfl)) (hw _ (List.mem_of_getElem? (i := 36) rfl)) (hw _ (List.mem_of_getElem? (i := 35) rfl)) (hw _ (List.mem_of_getElem? (i := 12) rfl)) (hw _ (List.mem_of_getElem? (i := 37) rfl)) (by decide) F59 (rm6 l Z a0 hw b17 v5 la vs53 N T53.heap n0 Z64 F60 R53_ lv53 N1 N2 b0 (by rw [(show vs53.getD (oI v5 N) Value.null = Value.ref b10 by rw [hvs53, ← own_eq b0 b1 a1 hN' hs0' N1 k1.2 c67 N2]; exact own_gs (by rw [lv39]; exact (own_mod b1 N1 N2).2.2.1))]; rfl) (by rw [(show vs53.getD (oI v5 N) Value.null = Value.ref b10 by rw [hvs53, ← own_eq b0 b1 a1 hN' hs0' N1 k1.2 c67 N2]; exact own_gs (by rw [lv39]; exact (own_mod b1 N1 N2).2.2.1))]; rfl)) e66 (pc' := 252) (Ls := #[.val (.int x0), .val (.int x1), .val (.int x2), .val (.int x3), .val (.int x4), .val (.int x5), .val (.int ((x0 &&& (15 : Int32)) - (3 : Int32))), .val (.int ((x1 &&& (15 : Int32)) - (3 : Int32))), .val (.int sp), .val (.int v5), .val (.int dd), .val (.int ee), .val (.ref b6), .val (.ref b10), .val (.ref b17), .val (.int (1 : Int32)), .val (.int (1 : Int32)), .unset]) (by rw [hml]; rfl) [(.int v5)] [] rfl pd3 rfl rfl 0 (Nat.le_of_eq rfl) (hb hby at_249) rfl (by decide) (by decide) (by decide) (by decide)
      obtain ⟨hv70, rfl, Kc70⟩ := hq70
      obtain rfl : r70 = some (Value.ref b10) := hv70.trans (congrArg some (show vs53.getD (oI v5 N) Value.null = Value.ref b10 by rw [hvs53, ← own_eq b0 b1 a1 hN' hs0' N1 k1.2 c67 N2]; exact own_gs (by rw [lv39]; exact (own_mod b1 N1 N2).2.2.1)))
      refine oGo.step (f' := (mkF m 252 #[.val (.int x0), .val (.int x1), .val (.int x2), .val (.int x3), .val (.int x4), .val (.int x5), .val (.int ((x0 &&& (15 : Int32)) - (3 : Int32))), .val (.int ((x1 &&& (15 : Int32)) - (3 : Int32))), .val (.int sp), .val (.int v5), .val (.int dd), .val (.int ee), .val (.ref b6), .val (.ref b10), .val (.ref b17), .val (.int (1 : Int32)), .val (.int (1 : Int32)), .unset] [(.ref b10)])) st70 ?_
      have e70 : T70.heap = T53.heap := Kc70
      have X70 := o_same X70 rfl rfl
      refine o_aload (pc' := 254) X70 hx (hb hby at_252) rfl rfl rfl ?_
      refine o_acmpF (pc' := 257) X70 hx (hb hby at_254) rfl rfl (XT.aa_ne_f rfl) rfl ?_
      refine o_aload (pc' := 259) X70 hx (hb hby at_257) rfl rfl rfl ?_
      refine o_iload (pc' := 261) X70 hx (hb hby at_259) rfl rfl ?_
      refine o_iload (pc' := 263) X70 hx (hb hby at_261) rfl rfl ?_
      refine o_iadd (pc' := 264) X70 hx (hb hby at_263)  rfl ?_
      refine o_iload (pc' := 266) X70 hx (hb hby at_264) rfl rfl ?_
      obtain ⟨r71, T71, L71, X71, hq71, st71⟩ := o_callV X70 hx hZ hown (hw _ (List.mem_of_getElem? (i := 38) rfl)) (hw _ (List.mem_of_getElem? (i := 39) rfl)) (hw _ (List.mem_of_getElem? (i := 41) rfl)) (hw _ (List.mem_of_getElem? (i := 40) rfl)) (hw _ (List.mem_of_getElem? (i := 12) rfl)) (hw _ (List.mem_of_getElem? (i := 42) rfl)) (by decide) F59 (rm7 l Z a0 hw b17 (v5 + ee) ee ca xs53 N T53.heap n0 Z64 F59 F61 A53_ lx53 N1 N2 (fun _ => b4)) e70 (pc' := 269) (Ls := #[.val (.int x0), .val (.int x1), .val (.int x2), .val (.int x3), .val (.int x4), .val (.int x5), .val (.int ((x0 &&& (15 : Int32)) - (3 : Int32))), .val (.int ((x1 &&& (15 : Int32)) - (3 : Int32))), .val (.int sp), .val (.int v5), .val (.int dd), .val (.int ee), .val (.ref b6), .val (.ref b10), .val (.ref b17), .val (.int (1 : Int32)), .val (.int (1 : Int32)), .unset]) (by rw [hml]; rfl) [(.int (v5 + ee)), (.int ee)] [] rfl pd0 rfl rfl 0 (Nat.le_of_eq rfl) (hb hby at_266) rfl (by decide) (by decide) (by decide) (by decide)
      obtain ⟨rfl, rfl, Kc71⟩ := hq71
      have hc71 : (spec7 (v5 + ee) ee xs53 N) = (x4 + (1 : Int32)) := own_chain ez (by rw [own_ie (y := v5) b4 b0 N1 N2 (by rw [a4, a2, Int.add_sub_cancel]), hxs53, ← own_eq b0 b1 a1 hN' hs0' N1 k1.2 c67 N2]; exact own_gs (by rw [lx39]; exact (own_mod b1 N1 N2).2.2.1))
      rw [hc71] at st71
      refine oGo.step (f' := (mkF m 269 #[.val (.int x0), .val (.int x1), .val (.int x2), .val (.int x3), .val (.int x4), .val (.int x5), .val (.int ((x0 &&& (15 : Int32)) - (3 : Int32))), .val (.int ((x1 &&& (15 : Int32)) - (3 : Int32))), .val (.int sp), .val (.int v5), .val (.int dd), .val (.int ee), .val (.ref b6), .val (.ref b10), .val (.ref b17), .val (.int (1 : Int32)), .val (.int (1 : Int32)), .unset] [(.int (x4 + (1 : Int32)))])) st71 ?_
      have e71 : T71.heap = T53.heap := Kc71
      have X71 := o_same X71 rfl rfl
      refine o_iload (pc' := 271) X71 hx (hb hby at_269) rfl rfl ?_
      refine o_iconst (pc' := 272) (v := (1 : Int32)) X71 hx (hb hby at_271) rfl rfl ?_
      refine o_iadd (pc' := 273) X71 hx (hb hby at_272)  rfl ?_
      refine o_icmpF (pc' := 276) X71 hx (hb hby at_273) (XT.ii_ne_f rfl) rfl ?_
      refine o_iconst (pc' := 277) (v := (1 : Int32)) X71 hx (hb hby at_276) rfl rfl ?_
      refine o_goto (pc' := 281) X71 hx (hb hby at_277) (by decide) (by decide) ?_
      refine o_istore (pc' := 283) (l' := #[.val (.int x0), .val (.int x1), .val (.int x2), .val (.int x3), .val (.int x4), .val (.int x5), .val (.int ((x0 &&& (15 : Int32)) - (3 : Int32))), .val (.int ((x1 &&& (15 : Int32)) - (3 : Int32))), .val (.int sp), .val (.int v5), .val (.int dd), .val (.int ee), .val (.ref b6), .val (.ref b10), .val (.ref b17), .val (.int (1 : Int32)), .val (.int (1 : Int32)), .val (.int (1 : Int32))]) X71 hx (hb hby at_281) rfl rfl ?_
      refine o_iload (pc' := 285) X71 hx (hb hby at_283) rfl rfl ?_
      refine o_ifF (pc' := 288) X71 hx (hb hby at_285) (XT.i0_eq_f (by decide)) rfl ?_
      refine o_iload (pc' := 290) X71 hx (hb hby at_288) rfl rfl ?_
      refine o_ifF (pc' := 293) X71 hx (hb hby at_290) (XT.i0_eq_f (by decide)) rfl ?_
      refine o_iload (pc' := 295) X71 hx (hb hby at_293) rfl rfl ?_
      refine o_ifF (pc' := 298) X71 hx (hb hby at_295) (XT.i0_eq_f (by decide)) rfl ?_
      refine o_iconst (pc' := 299) (v := (1 : Int32)) X71 hx (hb hby at_298) rfl rfl ?_
      refine o_goto (pc' := 303) X71 hx (hb hby at_299) (by decide) (by decide) ?_
      refine o_retZ X71 hx hret hlk (hb hby at_303) (by decide) (by decide) (by decide) ?_
      exact ⟨rfl, N53_⟩
  by_cases c3 : (2147483631 : Int32) < (x2 &&& (2147483647 : Int32))
  · refine o_icmpF (pc' := 42) X2 hx (hb hby at_39) (XT.ii_le_f c3) rfl ?_
    refine o_iload (pc' := 44) X2 hx (hb hby at_42) rfl rfl ?_
    refine o_bipush (pc' := 46) (v := (16 : Int32)) X2 hx (hb hby at_44) rfl rfl ?_
    refine o_isub (pc' := 47) X2 hx (hb hby at_46)  rfl ?_
    refine o_istore (pc' := 49) (l' := #[.val (.int x0), .val (.int x1), .val (.int x2), .val (.int x3), .val (.int x4), .val (.int x5), .val (.int ((x0 &&& (15 : Int32)) - (3 : Int32))), .val (.int ((x1 &&& (15 : Int32)) - (3 : Int32))), .val (.int sp), .val (.int ((x2 &&& (2147483647 : Int32)) - (16 : Int32))), .unset, .unset, .unset, .unset, .unset, .unset, .unset, .unset]) X2 hx (hb hby at_47) rfl rfl ?_
    exact J4 _ (if_pos c3).symm
  · refine o_icmpT (pc' := 49) X2 hx (hb hby at_39) (XT.ii_le_t c3) (by decide) (by decide) ?_
    exact J4 _ (if_neg c3).symm
set_option maxRecDepth 65536 in
set_option maxHeartbeats 40000000 in
theorem comes_1 {Post : Tables → Env → Array Value → State → Outcome → State → Prop} (hpost : ∀ tb e args s v u, (limb_1_1.after args s (.returned v) u = true ∧ limb_1_2.after args s (.returned v) u = true ∧ True) → FrameEnd s (.returned v) u (Jvm.fieldLocs frame_1_writes args s ++ Jvm.arrayLocs frame_1_arrays args s ++ Jvm.staticLocs frame_1_statics s) 24 128 → Post tb e args s (.returned v) u) :
    ArmFor flags0 classFile x code maxLocals ret World_1 tables_1 room_1 Calls_1 rest_1 Pre_1 Post := by
  intro l hfl _ _ p e ha hc hk s m args below hf hA hF happ hP
  obtain ⟨hcalls, hrest, hpre⟩ := hP
  obtain ⟨-, -, -, hnamed, -, -, -, hat⟩ := (Spec.applies_iff hf).mp happ
  obtain ⟨hg, hn⟩ := and_e (Cond.before_iff.mp (show (Jvm.Cond.and given_1 narrow_1).before args s = true from hpre))
  obtain ⟨hcount, q0⟩ := and_e hg
  obtain ⟨a0, q1⟩ := and_e q0
  obtain ⟨a1, q2⟩ := and_e q1
  obtain ⟨a2, q3⟩ := and_e q2
  obtain ⟨a3, q4⟩ := and_e q3
  obtain ⟨a4, q5⟩ := and_e q4
  obtain ⟨w0, w1, w2, w3, w4, w5, rfl⟩ : ∃ w0 w1 w2 w3 w4 w5 : Value, args = #[w0, w1, w2, w3, w4, w5] := by
    have hs : args.size = 6 := by simpa [Cond.value, given_1] using hcount
    obtain ⟨L⟩ := args
    match L, hs with
    | [w0, w1, w2, w3, w4, w5], _ => exact ⟨w0, w1, w2, w3, w4, w5, rfl⟩
  have hw := fun d (hd : d ∈ tables_1) => atoms_spec (ws := Jvm.Cond.code x code maxLocals ret :: tables_1) hat d (List.mem_cons_of_mem _ hd)
  have hfit : Fit s := fun {y c} hc i hi => by
    obtain ⟨ha, rfl⟩ := Array.getElem?_eq_some_iff.mp hc
    have q := List.all_eq_true.mp ((Array.all_eq_true_iff_forall_mem.mp hF) _ (Array.getElem_mem ha)) i (List.mem_range.mpr hi)
    simpa [Array.getElem?_eq_getElem hi] using q
  obtain ⟨x0, e0⟩ := is_v a0
  obtain rfl : w0 = (.int x0) := Option.some.inj e0
  obtain ⟨x1, e1⟩ := is_v a1
  obtain rfl : w1 = (.int x1) := Option.some.inj e1
  obtain ⟨x2, e2⟩ := is_v a2
  obtain rfl : w2 = (.int x2) := Option.some.inj e2
  obtain ⟨x3, e3⟩ := is_v a3
  obtain rfl : w3 = (.int x3) := Option.some.inj e3
  obtain ⟨x4, e4⟩ := is_v a4
  obtain rfl : w4 = (.int x4) := Option.some.inj e4
  obtain ⟨x5, e5⟩ := is_v q5
  obtain rfl : w5 = (.int x5) := Option.some.inj e5
  obtain ⟨n, o, h1, h2, h3, _, L, rfl, ⟨rfl, N⟩, hq⟩ := rm0 l s _ hw x0 x1 x2 x3 x4 x5  s.heap s.heap.size (Nat.le_refl _)  tables_1 p e ha hc hk s m _ below hf ((Spec.applies_iff_loose hf).mp happ).1 ⟨rfl, State.Warmed39.refl s, rfl⟩ trivial
  refine ⟨n, _, h1, h2, h3, hpost _ _ _ _ _ _ ⟨Cond.after_iff.mpr rfl, Cond.after_iff.mpr (eq_i res_at (Term.int_eval (1)) rfl), trivial⟩ ⟨hq.1, hq.2.1, (hq.2.2.sift fun y hy => Or.inr (N y hy)).mono (by decide) (by decide)⟩⟩
theorem main_1_1 : Claimed_1_1 := comes_1 fun _ _ _ _ _ _ h hF => ⟨h.1, hF⟩
theorem main_1_2 : Claimed_1_2 := comes_1 fun _ _ _ _ _ _ h hF => ⟨h.2.1, hF⟩
end Jvm.Pilot.@@N@@
namespace Jvm.Pilot.@@N@@
open Jvm Jvm.ClassFile Sem Op Lib Jvm.Free Jvm.Stand Jvm.Pilot.@@N@@.Jvm.D
/-! MADE BY PROGRAM (witnessworld.py) out of the Statement's table words and the real class files: 11 classes; the members and pool entries that the words name. The judged class is class 1, her method 1. -/
namespace start1
open Jvm.ClassFile
def u (s : String) : CpInfo := .utf8 (stringToUtf16 s)
/-- a pool by its gaps: so many unusable entries, then the entry; so many at the end -/
def gap : Nat → List CpInfo → List CpInfo
  | 0, r => r
  | n + 1, r => .unusable :: gap n r
def poolList (es : List (Nat × CpInfo)) (last : Nat) : List CpInfo := es.foldr (fun e r => gap e.1 (e.2 :: r)) (gap last [])
def pool (es : List (Nat × CpInfo)) (last : Nat) : Array CpInfo := ⟨poolList es last⟩
def fileOf (pool : Array CpInfo) (this : Nat) (attrs : Array Attribute := #[]) (ms : Array MethodInfo := #[]) (fl : Nat := 33) (sup : Nat := 0) (ifs : Array Nat := #[]) (fds : Array FieldInfo := #[]) : ClassFile where
  minorVersion := 0
  majorVersion := 65
  constantPool := pool
  accessFlags := fl
  thisClass := this
  superClass := sup
  interfaces := ifs
  fields := fds
  methods := ms
  attributes := attrs
def plain (name : String) (sup : Option ClassId) : Class where
  name := name
  kind := .ordinary
  loader := none
  accessFlags := 33
  super := sup
  interfaces := #[]
  cf := none
  fields := #[]
  methods := #[]
  instanceTypes := #[]
  staticTypes := #[]
  resolved := #[]
  callSites := []
  init := .initialized
  statics := none
  mirror := none

def pool0 : Array CpInfo := pool [(5, u "<init>"), (0, u "()V"), (1, .class_ 10), (1, u "java/lang/Object")] 113

def k0c0 : Code := { maxStack := 0, maxLocals := 1, code := object_method_1_code, exceptionTable := #[], attributes := #[] }
def k0m0 : Method := { name := "<init>", desc := "()V", sig := { parameters := [], returnType := none }, accessFlags := 1, code := some k0c0 }
/-- java/lang/Object -/
def k0 : Class := { plain "java/lang/Object" none with
  accessFlags := 33
  interfaces := #[]
  cf := some (fileOf pool0 8 #[] #[{ accessFlags := 1, nameIndex := 5, descriptorIndex := 6, attributes := #[] }] 33 0 #[] #[])
  fields := #[]
  methods := #[k0m0]
  instanceTypes := #[]
  staticTypes := #[]
  resolved := Array.replicate 124 none
  statics := none }

def pool1 : Array CpInfo := pool [(2, .class_ 4), (1, u "java/lang/Object"), (0, u "<init>"), (0, u "()V"), (0, .methodref 8 9), (0, .class_ 10), (0, .nameAndType 11 12), (0, u "java/lang/Math"), (0, u "min"), (0, u "(II)I"), (0, .methodref 8 14), (0, .nameAndType 15 12), (0, u "max"), (0, .integer 2147483647), (2, .integer 2147483631), (0, .class_ 21), (0, u "com/example/stratigraph/stratigraph/store/RecentLists"), (0, .methodref 20 23), (0, .nameAndType 5 24), (0, u "(II)V"), (0, .methodref 20 26), (0, .nameAndType 27 28), (0, u "add"), (0, u "(I[II)V"), (0, .methodref 20 30), (0, .nameAndType 31 32), (0, u "list"), (0, u "(I)[I"), (0, .methodref 20 34), (0, .nameAndType 35 12), (0, u "chain"), (0, .class_ 37), (0, u "com/example/stratigraph/stratigraph/store/RecentListsAddPinLaw"), (2, u "law"), (0, u "(IIIIII)Z")] 5

def k1m0 : Method := { name := "<init>", desc := "()V", sig := { parameters := [], returnType := none }, accessFlags := 1, code := none }
def k1c1 : Code := { maxStack := 4, maxLocals := 18, code := code, exceptionTable := #[], attributes := #[] }
def k1m1 : Method := { name := "law", desc := "(IIIIII)Z", sig := { parameters := [.int, .int, .int, .int, .int, .int], returnType := some .boolean }, accessFlags := 9, code := some k1c1 }
/-- com/example/stratigraph/stratigraph/store/RecentListsAddPinLaw -/
def k1 : Class := { plain "com/example/stratigraph/stratigraph/store/RecentListsAddPinLaw" (some 0) with
  accessFlags := 49
  interfaces := #[]
  cf := some (fileOf pool1 36 #[] #[{ accessFlags := 1, nameIndex := 5, descriptorIndex := 6, attributes := #[] }, { accessFlags := 9, nameIndex := 40, descriptorIndex := 41, attributes := #[] }] 49 2 #[] #[])
  fields := #[]
  methods := #[k1m0, k1m1]
  instanceTypes := #[]
  staticTypes := #[]
  resolved := Array.replicate 47 none
  statics := none }

def pool2 : Array CpInfo := pool [(1, .class_ 2), (0, u "java/lang/Math"), (1, .class_ 6), (1, u "java/lang/Object"), (0, u "<init>"), (0, u "()V"), (89, .class_ 100), (1, u "java/lang/Math$RandomNumberGeneratorHolder"), (71, u "negativeZeroFloatBits"), (0, u "J"), (2, u "negativeZeroDoubleBits"), (21, u "max"), (2, u "min"), (43, u "$assertionsDisabled"), (0, u "Z"), (88, u "(II)I"), (2, u "twoToTheDoubleScaleDown"), (0, u "D"), (4, u "twoToTheDoubleScaleUp"), (9, u "E"), (3, u "PI"), (2, u "TAU"), (2, u "DEGREES_TO_RADIANS"), (0, u "RADIANS_TO_DEGREES")] 94

def k2m0 : Method := { name := "<init>", desc := "()V", sig := { parameters := [], returnType := none }, accessFlags := 2, code := none }
def k2c1 : Code := { maxStack := 2, maxLocals := 2, code := jdk_29_method_65_code, exceptionTable := #[], attributes := #[] }
def k2m1 : Method := { name := "max", desc := "(II)I", sig := { parameters := [.int, .int], returnType := some .int }, accessFlags := 9, code := some k2c1 }
def k2c2 : Code := { maxStack := 2, maxLocals := 2, code := jdk_29_method_69_code, exceptionTable := #[], attributes := #[] }
def k2m2 : Method := { name := "min", desc := "(II)I", sig := { parameters := [.int, .int], returnType := some .int }, accessFlags := 9, code := some k2c2 }
/-- java/lang/Math -/
def k2 : Class := { plain "java/lang/Math" (some 0) with
  accessFlags := 49
  interfaces := #[]
  cf := some (fileOf pool2 1 #[.nestMembers #[98]] #[{ accessFlags := 2, nameIndex := 7, descriptorIndex := 8, attributes := #[] }, { accessFlags := 9, nameIndex := 198, descriptorIndex := 335, attributes := #[] }, { accessFlags := 9, nameIndex := 201, descriptorIndex := 335, attributes := #[] }] 49 4 #[] #[{ accessFlags := 25, nameIndex := 354, descriptorIndex := 339, attributes := #[] }, { accessFlags := 25, nameIndex := 358, descriptorIndex := 339, attributes := #[] }, { accessFlags := 25, nameIndex := 361, descriptorIndex := 339, attributes := #[] }, { accessFlags := 26, nameIndex := 364, descriptorIndex := 339, attributes := #[] }, { accessFlags := 26, nameIndex := 365, descriptorIndex := 339, attributes := #[] }, { accessFlags := 26, nameIndex := 172, descriptorIndex := 173, attributes := #[] }, { accessFlags := 26, nameIndex := 176, descriptorIndex := 173, attributes := #[] }, { accessFlags := 8, nameIndex := 344, descriptorIndex := 339, attributes := #[] }, { accessFlags := 8, nameIndex := 338, descriptorIndex := 339, attributes := #[] }, { accessFlags := 4120, nameIndex := 245, descriptorIndex := 246, attributes := #[] }])
  fields := #[{ name := "E", type := .double, accessFlags := 25, slot := 0, constantValue := 0 }, { name := "PI", type := .double, accessFlags := 25, slot := 1, constantValue := 0 }, { name := "TAU", type := .double, accessFlags := 25, slot := 2, constantValue := 0 }, { name := "DEGREES_TO_RADIANS", type := .double, accessFlags := 26, slot := 3, constantValue := 0 }, { name := "RADIANS_TO_DEGREES", type := .double, accessFlags := 26, slot := 4, constantValue := 0 }, { name := "negativeZeroFloatBits", type := .long, accessFlags := 26, slot := 5, constantValue := 0 }, { name := "negativeZeroDoubleBits", type := .long, accessFlags := 26, slot := 6, constantValue := 0 }, { name := "twoToTheDoubleScaleUp", type := .double, accessFlags := 8, slot := 7, constantValue := 0 }, { name := "twoToTheDoubleScaleDown", type := .double, accessFlags := 8, slot := 8, constantValue := 0 }, { name := "$assertionsDisabled", type := .boolean, accessFlags := 4120, slot := 9, constantValue := 0 }]
  methods := #[k2m0, k2m1, k2m2]
  instanceTypes := #[]
  staticTypes := #[.double, .double, .double, .double, .double, .long, .long, .double, .double, .boolean]
  resolved := Array.replicate 460 none
  statics := none }

def pool3 : Array CpInfo := pool [(1, .methodref 2 3), (0, .class_ 4), (0, .nameAndType 5 6), (0, u "java/lang/Object"), (0, u "<init>"), (0, u "()V"), (0, .methodref 8 9), (0, .class_ 10), (0, .nameAndType 11 12), (0, u "java/lang/Math"), (0, u "min"), (0, u "(II)I"), (0, .methodref 8 14), (0, .nameAndType 15 12), (0, u "max"), (0, .class_ 17), (0, u "[I"), (0, .fieldref 19 20), (0, .class_ 21), (0, .nameAndType 22 23), (0, u "com/example/stratigraph/stratigraph/store/RecentLists"), (0, u "lists"), (0, u "[[I"), (0, .fieldref 19 25), (0, .nameAndType 26 17), (0, u "chains"), (0, u "(II)V"), (2, u "list"), (0, u "(I)[I"), (0, u "chain"), (1, u "add"), (0, u "(I[II)V")] 2

def k3c0 : Code := { maxStack := 3, maxLocals := 4, code := prog_47_method_1_code, exceptionTable := #[], attributes := #[] }
def k3m0 : Method := { name := "<init>", desc := "(II)V", sig := { parameters := [.int, .int], returnType := none }, accessFlags := 0, code := some k3c0 }
def k3c1 : Code := { maxStack := 3, maxLocals := 2, code := prog_47_method_2_code, exceptionTable := #[], attributes := #[] }
def k3m1 : Method := { name := "list", desc := "(I)[I", sig := { parameters := [.int], returnType := some (.array .int) }, accessFlags := 0, code := some k3c1 }
def k3c2 : Code := { maxStack := 3, maxLocals := 3, code := prog_47_method_3_code, exceptionTable := #[], attributes := #[] }
def k3m2 : Method := { name := "chain", desc := "(II)I", sig := { parameters := [.int, .int], returnType := some .int }, accessFlags := 0, code := some k3c2 }
def k3c3 : Code := { maxStack := 3, maxLocals := 4, code := prog_47_method_4_code, exceptionTable := #[], attributes := #[] }
def k3m3 : Method := { name := "add", desc := "(I[II)V", sig := { parameters := [.int, (.array .int), .int], returnType := none }, accessFlags := 0, code := some k3c3 }
/-- com/example/stratigraph/stratigraph/store/RecentLists -/
def k3 : Class := { plain "com/example/stratigraph/stratigraph/store/RecentLists" (some 0) with
  accessFlags := 48
  interfaces := #[]
  cf := some (fileOf pool3 19 #[] #[{ accessFlags := 0, nameIndex := 5, descriptorIndex := 27, attributes := #[] }, { accessFlags := 0, nameIndex := 30, descriptorIndex := 31, attributes := #[] }, { accessFlags := 0, nameIndex := 32, descriptorIndex := 12, attributes := #[] }, { accessFlags := 0, nameIndex := 34, descriptorIndex := 35, attributes := #[] }] 48 2 #[] #[{ accessFlags := 18, nameIndex := 22, descriptorIndex := 23, attributes := #[] }, { accessFlags := 18, nameIndex := 26, descriptorIndex := 17, attributes := #[] }])
  fields := #[{ name := "lists", type := (.array (.array .int)), accessFlags := 18, slot := 0, constantValue := 0 }, { name := "chains", type := (.array .int), accessFlags := 18, slot := 1, constantValue := 0 }]
  methods := #[k3m0, k3m1, k3m2, k3m3]
  instanceTypes := #[(.array (.array .int)), (.array .int)]
  staticTypes := #[]
  resolved := Array.replicate 38 none
  statics := none }

def pool4 : Array CpInfo := pool [(1, u "java/lang/Cloneable"), (0, .class_ 1), (0, u "java/lang/Object"), (0, .class_ 3)] 3

/-- java/lang/Cloneable -/
def k4 : Class := { plain "java/lang/Cloneable" (some 0) with
  accessFlags := 1537
  interfaces := #[]
  cf := some (fileOf pool4 2 #[] #[] 1537 4 #[] #[])
  fields := #[]
  methods := #[]
  instanceTypes := #[]
  staticTypes := #[]
  resolved := Array.replicate 8 none
  statics := none }

def pool5 : Array CpInfo := pool [(1, u "java/io/Serializable"), (0, .class_ 1), (0, u "java/lang/Object"), (0, .class_ 3)] 3

/-- java/io/Serializable -/
def k5 : Class := { plain "java/io/Serializable" (some 0) with
  accessFlags := 1537
  interfaces := #[]
  cf := some (fileOf pool5 2 #[] #[] 1537 4 #[] #[])
  fields := #[]
  methods := #[]
  instanceTypes := #[]
  staticTypes := #[]
  resolved := Array.replicate 8 none
  statics := none }

/-- the primitive byte -/
def k6 : Class := { plain "byte" none with kind := .primitive 'B', accessFlags := 0x411 }
/-- [B -/
def k7 : Class := { plain "[B" (some 0) with kind := .array 6 .byte, interfaces := #[4, 5], accessFlags := 1041 }

/-- the primitive int -/
def k8 : Class := { plain "int" none with kind := .primitive 'I', accessFlags := 0x411 }
/-- [I -/
def k9 : Class := { plain "[I" (some 0) with kind := .array 8 .int, interfaces := #[4, 5], accessFlags := 1041 }

/-- [L[I; -/
def k10 : Class := { plain "[[I" (some 0) with kind := .array 9 (.array .int), interfaces := #[4, 5], accessFlags := 1041 }

def heap : Heap := #[{ cls := 10, slots := #[.null], vm := .none }]
def classes : Array Class := #[k0, k1, k2, k3, k4, k5, k6, k7, k8, k9, k10]
def interned : List (Array UInt16 × Addr) := []
def slotsUsed : Nat := 1
def theMethod : MethodId := ⟨1, 1⟩
def args0 : Array Value := #[.int 5, .int 5, .int 5, .int 5, .int 5, .int 5]
def aboutOver (below : List Frame) : State where
  vm := { classes := classes, interned := interned.toArray }
  heap := heap
  slotsUsed := slotsUsed
  threads := #[{ frames := .invoking theMethod args0 :: below }]
def below0 : List Frame := [.native { method := ⟨0, 0⟩, args := #[] }]
def about1 : State := aboutOver below0
def p0 : Program := .bare "" "" ""
def e0 : Env := launch0.env 0 0 0
theorem w_frames : about1.frames = Frame.invoking theMethod args0 :: below0 := rfl
set_option maxRecDepth 65536 in
theorem w_args : argsFit about1.vm theMethod args0 = true := by decide +kernel
set_option maxRecDepth 65536 in
theorem w_heap : heapFits about1 = true := by decide +kernel
set_option maxRecDepth 65536 in
theorem w_runnable : about1.curStatus? = some .runnable := by decide +kernel
set_option maxRecDepth 65536 in
theorem w_alone : about1.alone = true := by decide +kernel
set_option maxRecDepth 65536 in
theorem w_named : about1.methodNamed? x = some theMethod := by decide +kernel
set_option maxRecDepth 65536 in
theorem w_hears : about1.hears theMethod below0 = true := by decide +kernel
set_option maxRecDepth 65536 in
theorem w_ripe : about1.ripe theMethod args0 below0 = true := by decide +kernel
theorem w_running : about1.status = .running := rfl
set_option maxRecDepth 65536 in
theorem w_room : about1.hasRoom e0.platform room_1 = true :=
  launch0.hasRoom_least _ room_1 (by decide +kernel) (by decide +kernel) (by decide +kernel) (by decide +kernel) (by decide +kernel) (by decide +kernel)
theorem allAtoms_all (ts : List Jvm.Cond) (a : Array Jvm.Value) (st : Jvm.State) : (allAtoms ts).before a st = ts.all (fun c => c.before a st) := by
  induction ts with
  | nil => rfl
  | cons c t ih =>
    show (Jvm.Cond.and c (allAtoms t)).before a st = _
    rw [Jvm.Cond.before_and, ih, List.all_cons]
def words1 : List Jvm.Cond := Jvm.Cond.code x code maxLocals ret :: tables_1
/-- a 'code' word, met by the world's own term for the bytes: nothing is compared byte by byte -/
theorem code_word {y : MethodName} {bytes : ByteArray} {mx : Nat} {rt : Option FieldType} {a : Array Value} {s : State} {m : MethodId} {meth : Method} {c : Code} (h1 : s.methodNamed? y = some m) (h2 : s.vm.method? m = some meth) (h3 : meth.code = some c) (h4 : c.code = bytes)
    (h5 : (c.maxLocals == mx && c.exceptionTable.isEmpty && decide (c.maxStack ≤ mostOperands) && decide (meth.sig.returnType = rt) && !meth.locks && decide (parseMethodDescriptor y.desc = some meth.sig)) = true) : (Jvm.Cond.code y bytes mx rt).before a s = true := by
  simp only [Bool.and_eq_true, beq_iff_eq, Bool.not_eq_true', decide_eq_true_eq] at h5
  obtain ⟨⟨⟨⟨⟨g1, g2⟩, g3⟩, g4⟩, g5⟩, g6⟩ := h5
  simp [Cond.before, Cond.holds, Cond.value, h1, h2, h3, h4, g1, g2, g3, g4, g5, g6]
def isCode : Jvm.Cond → Bool
  | .code _ _ _ _ => true
  | _ => false
theorem all_split {L : List Jvm.Cond} {P : Jvm.Cond → Bool} (h1 : L.all (fun c => isCode c || P c) = true) (h2 : ∀ c ∈ L.filter isCode, P c = true) : L.all P = true := by
  refine List.all_eq_true.mpr fun c hc => ?_
  have h := List.all_eq_true.mp h1 c hc
  rcases Bool.eq_false_or_eq_true (isCode c) with hi | hi
  · exact h2 c (List.mem_filter.mpr ⟨hc, hi⟩)
  · simpa [hi] using h
set_option maxRecDepth 65536 in
theorem w_c0 : (Jvm.Cond.code x code maxLocals ret).before args0 about1 = true := code_word (m := ⟨1, 1⟩) (meth := k1m1) (c := k1c1) (by decide +kernel) rfl rfl rfl (by decide +kernel)
set_option maxRecDepth 65536 in
theorem w_c1 : (Jvm.Cond.code ({ cls := "java/lang/Math", name := "min", desc := "(II)I" } : Jvm.MethodName) jdk_29_method_69_code (2 : Nat) (Option.some Jvm.ClassFile.FieldType.int)).before args0 about1 = true := code_word (m := ⟨2, 2⟩) (meth := k2m2) (c := k2c2) (by decide +kernel) rfl rfl rfl (by decide +kernel)
set_option maxRecDepth 65536 in
theorem w_c2 : (Jvm.Cond.code ({ cls := "java/lang/Math", name := "max", desc := "(II)I" } : Jvm.MethodName) jdk_29_method_65_code (2 : Nat) (Option.some Jvm.ClassFile.FieldType.int)).before args0 about1 = true := code_word (m := ⟨2, 1⟩) (meth := k2m1) (c := k2c1) (by decide +kernel) rfl rfl rfl (by decide +kernel)
set_option maxRecDepth 65536 in
theorem w_c3 : (Jvm.Cond.code ({ cls := "com/example/stratigraph/stratigraph/store/RecentLists", name := "<init>", desc := "(II)V" } : Jvm.MethodName) prog_47_method_1_code (4 : Nat) (Option.none : Option Jvm.ClassFile.FieldType)).before args0 about1 = true := code_word (m := ⟨3, 0⟩) (meth := k3m0) (c := k3c0) (by decide +kernel) rfl rfl rfl (by decide +kernel)
set_option maxRecDepth 65536 in
theorem w_c4 : (Jvm.Cond.code ({ cls := "java/lang/Object", name := "<init>", desc := "()V" } : Jvm.MethodName) object_method_1_code (1 : Nat) (Option.none : Option Jvm.ClassFile.FieldType)).before args0 about1 = true := code_word (m := ⟨0, 0⟩) (meth := k0m0) (c := k0c0) (by decide +kernel) rfl rfl rfl (by decide +kernel)
set_option maxRecDepth 65536 in
theorem w_c5 : (Jvm.Cond.code ({ cls := "com/example/stratigraph/stratigraph/store/RecentLists", name := "add", desc := "(I[II)V" } : Jvm.MethodName) prog_47_method_4_code (4 : Nat) (Option.none : Option Jvm.ClassFile.FieldType)).before args0 about1 = true := code_word (m := ⟨3, 3⟩) (meth := k3m3) (c := k3c3) (by decide +kernel) rfl rfl rfl (by decide +kernel)
set_option maxRecDepth 65536 in
theorem w_c6 : (Jvm.Cond.code ({ cls := "com/example/stratigraph/stratigraph/store/RecentLists", name := "list", desc := "(I)[I" } : Jvm.MethodName) prog_47_method_2_code (2 : Nat) (Option.some (Jvm.ClassFile.FieldType.array Jvm.ClassFile.FieldType.int))).before args0 about1 = true := code_word (m := ⟨3, 1⟩) (meth := k3m1) (c := k3c1) (by decide +kernel) rfl rfl rfl (by decide +kernel)
set_option maxRecDepth 65536 in
theorem w_c7 : (Jvm.Cond.code ({ cls := "com/example/stratigraph/stratigraph/store/RecentLists", name := "chain", desc := "(II)I" } : Jvm.MethodName) prog_47_method_3_code (3 : Nat) (Option.some Jvm.ClassFile.FieldType.int)).before args0 about1 = true := code_word (m := ⟨3, 2⟩) (meth := k3m2) (c := k3c2) (by decide +kernel) rfl rfl rfl (by decide +kernel)
def codes1 : List Jvm.Cond := [Jvm.Cond.code x code maxLocals ret, Jvm.Cond.code ({ cls := "java/lang/Math", name := "min", desc := "(II)I" } : Jvm.MethodName) jdk_29_method_69_code (2 : Nat) (Option.some Jvm.ClassFile.FieldType.int), Jvm.Cond.code ({ cls := "java/lang/Math", name := "max", desc := "(II)I" } : Jvm.MethodName) jdk_29_method_65_code (2 : Nat) (Option.some Jvm.ClassFile.FieldType.int), Jvm.Cond.code ({ cls := "com/example/stratigraph/stratigraph/store/RecentLists", name := "<init>", desc := "(II)V" } : Jvm.MethodName) prog_47_method_1_code (4 : Nat) (Option.none : Option Jvm.ClassFile.FieldType), Jvm.Cond.code ({ cls := "java/lang/Object", name := "<init>", desc := "()V" } : Jvm.MethodName) object_method_1_code (1 : Nat) (Option.none : Option Jvm.ClassFile.FieldType), Jvm.Cond.code ({ cls := "com/example/stratigraph/stratigraph/store/RecentLists", name := "add", desc := "(I[II)V" } : Jvm.MethodName) prog_47_method_4_code (4 : Nat) (Option.none : Option Jvm.ClassFile.FieldType), Jvm.Cond.code ({ cls := "com/example/stratigraph/stratigraph/store/RecentLists", name := "list", desc := "(I)[I" } : Jvm.MethodName) prog_47_method_2_code (2 : Nat) (Option.some (Jvm.ClassFile.FieldType.array Jvm.ClassFile.FieldType.int)), Jvm.Cond.code ({ cls := "com/example/stratigraph/stratigraph/store/RecentLists", name := "chain", desc := "(II)I" } : Jvm.MethodName) prog_47_method_3_code (3 : Nat) (Option.some Jvm.ClassFile.FieldType.int)]
set_option maxRecDepth 65536 in
theorem codes_eq : words1.filter isCode = codes1 := rfl
theorem w_codes : ∀ c ∈ words1.filter isCode, c.before args0 about1 = true := by
  rw [codes_eq]
  intro c hc
  simp only [codes1, List.mem_cons, List.not_mem_nil, or_false] at hc
  rcases hc with rfl | rfl | rfl | rfl | rfl | rfl | rfl | rfl
  · exact w_c0
  · exact w_c1
  · exact w_c2
  · exact w_c3
  · exact w_c4
  · exact w_c5
  · exact w_c6
  · exact w_c7
set_option maxRecDepth 65536 in
theorem w_t1 : (words1.take 24).all (fun c => isCode c || c.before args0 about1) = true := by decide +kernel
set_option maxRecDepth 65536 in
theorem w_t2 : (words1.drop 24).all (fun c => isCode c || c.before args0 about1) = true := by decide +kernel
theorem w_tables : (allAtoms (Jvm.Cond.code x code maxLocals ret :: tables_1)).before args0 about1 = true := by
  rw [allAtoms_all]
  show words1.all (fun c => c.before args0 about1) = true
  refine all_split ?_ w_codes
  rw [← List.take_append_drop 24 words1, List.all_append, w_t1, w_t2]
  rfl
set_option maxRecDepth 65536 in
theorem w_case : (Jvm.Cond.and given_1 narrow_1).before args0 about1 = true := by decide +kernel
theorem w_applies : (headSpec (Jvm.Cond.code x code maxLocals ret :: tables_1) room_1).applies x e0.platform about1 = true :=
  (Spec.applies_iff w_frames).mpr ⟨w_running, w_runnable, w_alone, w_named, w_hears, w_ripe, w_room, w_tables⟩
theorem atStart : AtStart classFile x code maxLocals ret World_1 tables_1 room_1 Calls_1 rest_1 Pre_1 launch0 p0 e0 about1 theMethod args0 below0 :=
  ⟨lists_1, trivial, launch0.admits_env _ _ _, launch0.least_env, fairChoices_fair.cas, fairChoices_fair.clock, w_frames, w_args, w_heap, w_applies, trivial, trivial, w_case⟩
end start1
theorem witness_1 : WitnessClaimed_1 := ⟨start1.p0, start1.e0, start1.about1, start1.theMethod, start1.args0, start1.below0, start1.atStart⟩
end Jvm.Pilot.@@N@@
