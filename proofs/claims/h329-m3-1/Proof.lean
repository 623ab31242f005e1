import JvmDerived
import JvmDerived.Pilot.@@N@@Statement
import JvmDerived.Pilot.@@N@@Code
set_option linter.unusedVariables false
set_option linter.unusedSimpArgs false
namespace Jvm.Pilot.@@N@@
open Jvm Jvm.ClassFile Sem Op Lib Jvm.Free Jvm.Stand Jvm.LawKit Jvm.RoadKit Bundle Jvm.Pilot.@@N@@.Jvm.D
section OwnKit
variable {p : Program} {l : Launch} {e : Env} {R : Room} {s : State} {m : MethodId} {args : Array Value} {below : List Frame} {meth : Method} {c : Code} {T : State} {locs : List Loc} {cells slots : Nat} {Z : State} {a0 : Array Value} {h : Heap} {G : Outcome → State → Prop}
def oGo (p : Program) (e : Env) (below : List Frame) (G : Outcome → State → Prop) (T : State) (f : JFrame) : Prop :=
  ∃ s₂ o, Steps p.tables e below (T.setTop f) s₂ ∧ s₂.status = .running ∧ Ended s₂ below o ∧ G o s₂
theorem oGo.step {T' : State} {f f' : JFrame} (st : ∀ t, Steps p.tables e below (T'.setTop f') t → Steps p.tables e below (T.setTop f) t) (k : oGo p e below G T' f') : oGo p e below G T f := by
  obtain ⟨s₂, o, h1, h2⟩ := k
  exact ⟨s₂, o, st _ h1, h2⟩
def oG (s : State) (Q : Option Value → Heap → List Loc → Prop) (C N : Nat) : Outcome → State → Prop := fun o U' => ∃ v L, o = .returned v ∧ Q v U'.heap L ∧ FrameEnd s o U' L C N
def oCon (l : Launch) (Z : State) (y : MethodName) (bytes : ByteArray) (maxL : Nat) (ret : Option FieldType) (rm : Room) (as' : Array Value) (h : Heap) (Q : Option Value → Heap → List Loc → Prop) : Prop :=
  ∀ ws, MetFree l y (head1 (Jvm.Cond.code y bytes maxL ret :: ws) rm) (fun a U => a = as' ∧ Z.Warmed39 U.vm ∧ U.heap = h) (fun _ _ _ _ _ => True) (fun _ U o U' => ∃ v L, o = .returned v ∧ Q v U'.heap L ∧ FrameEnd U o U' L rm.cells rm.slots)
theorem oCon.of {y : MethodName} {bytes : ByteArray} {maxL : Nat} {ret : Option FieldType} {rm : Room} {as' : Array Value} {Q : Option Value → Heap → List Loc → Prop} (hpn : plainFor y = true)
    (body : ∀ p e s m below meth c s₁, p.tables.exec = Jvm.exec → c.code = bytes → c.maxLocals = maxL → s.vm.findClass y.cls = some m.cls → meth.name = y.name → meth.sig.returnType = ret → meth.locks = false → Z.Warmed39 s.vm → Stand p l e rm s m as' below meth c s₁ [] 0 0 → s₁.heap = h → oGo p e below (oG s Q rm.cells rm.slots) s₁ (entryFrame m as' maxL)) :
    oCon l Z y bytes maxL ret rm as' h Q := by
  intro ws
  refine MetFree.of_bodySF hpn hisR ?_
  intro p e s m args below meth c s₁ Bd hml0 hP hK
  obtain ⟨rfl, hZ, hh⟩ := hP
  exact body p e s m below meth c s₁ Bd.exec Bd.bytes hml0 (findClass_of_methodNamed Bd.named) (name_of_methodNamed Bd.named Bd.method).1 Bd.returns (BodyLoose.notSynchronized Bd) hZ (Stand.of_body Bd) (by rw [← hh, Bd.state]; rfl)
theorem o_iloadN (X : Stand p l e R s m args below meth c T locs cells slots) (hx : p.tables.exec = Jvm.exec) {pc pc' : Nat} {Ls : Array Slot} {st : List Value} {k : Fin 4} {v : Int32} (hd : decode c.code pc = .ok (.iload_n k, 1)) (hl : Ls[k.val]? = some (.val (.int v))) (hp : pc + 1 = pc') (q : oGo p e below G T (mkF m pc' Ls (.int v :: st))) : oGo p e below G T (mkF m pc Ls (st)) := by
  subst hp; exact q.step fun t r => XS.iloadN X.here hx rfl hd hl r
theorem o_iload (X : Stand p l e R s m args below meth c T locs cells slots) (hx : p.tables.exec = Jvm.exec) {pc pc' : Nat} {Ls : Array Slot} {st : List Value} {k : Nat} {v : Int32} (hd : decode c.code pc = .ok (.iload k, 2)) (hl : Ls[k]? = some (.val (.int v))) (hp : pc + 2 = pc') (q : oGo p e below G T (mkF m pc' Ls (.int v :: st))) : oGo p e below G T (mkF m pc Ls (st)) := by
  subst hp; exact q.step fun t r => XS.iload X.here hx rfl hd hl r
theorem o_istoreN (X : Stand p l e R s m args below meth c T locs cells slots) (hx : p.tables.exec = Jvm.exec) {pc pc' : Nat} {Ls : Array Slot} {st : List Value} {k : Fin 4} {v : Int32} {l' : Array Slot} (hd : decode c.code pc = .ok (.istore_n k, 1)) (hl : storeLocals Ls k.val (.int v) = some l') (hp : pc + 1 = pc') (q : oGo p e below G T (mkF m pc' l' (st))) : oGo p e below G T (mkF m pc Ls (.int v :: st)) := by
  subst hp; exact q.step fun t r => XS.istoreN X.here hx rfl hd rfl hl r
theorem o_istore (X : Stand p l e R s m args below meth c T locs cells slots) (hx : p.tables.exec = Jvm.exec) {pc pc' : Nat} {Ls : Array Slot} {st : List Value} {k : Nat} {v : Int32} {l' : Array Slot} (hd : decode c.code pc = .ok (.istore k, 2)) (hl : storeLocals Ls k (.int v) = some l') (hp : pc + 2 = pc') (q : oGo p e below G T (mkF m pc' l' (st))) : oGo p e below G T (mkF m pc Ls (.int v :: st)) := by
  subst hp; exact q.step fun t r => XS.istore X.here hx rfl hd rfl hl r
theorem o_lloadN (X : Stand p l e R s m args below meth c T locs cells slots) (hx : p.tables.exec = Jvm.exec) {pc pc' : Nat} {Ls : Array Slot} {st : List Value} {k : Fin 4} {v : Int64} (hd : decode c.code pc = .ok (.lload_n k, 1)) (hl : Ls[k.val]? = some (.val (.long v))) (hp : pc + 1 = pc') (q : oGo p e below G T (mkF m pc' Ls (.long v :: st))) : oGo p e below G T (mkF m pc Ls (st)) := by
  subst hp; exact q.step fun t r => XT.lloadN X.here hx rfl hd hl r
theorem o_lload (X : Stand p l e R s m args below meth c T locs cells slots) (hx : p.tables.exec = Jvm.exec) {pc pc' : Nat} {Ls : Array Slot} {st : List Value} {k : Nat} {v : Int64} (hd : decode c.code pc = .ok (.lload k, 2)) (hl : Ls[k]? = some (.val (.long v))) (hp : pc + 2 = pc') (q : oGo p e below G T (mkF m pc' Ls (.long v :: st))) : oGo p e below G T (mkF m pc Ls (st)) := by
  subst hp; exact q.step fun t r => XT.lload X.here hx rfl hd hl r
theorem o_lstoreN (X : Stand p l e R s m args below meth c T locs cells slots) (hx : p.tables.exec = Jvm.exec) {pc pc' : Nat} {Ls : Array Slot} {st : List Value} {k : Fin 4} {v : Int64} {l' : Array Slot} (hd : decode c.code pc = .ok (.lstore_n k, 1)) (hl : storeLocals Ls k.val (.long v) = some l') (hp : pc + 1 = pc') (q : oGo p e below G T (mkF m pc' l' (st))) : oGo p e below G T (mkF m pc Ls (.long v :: st)) := by
  subst hp; exact q.step fun t r => XT.lstoreN X.here hx rfl hd rfl hl r
theorem o_lstore (X : Stand p l e R s m args below meth c T locs cells slots) (hx : p.tables.exec = Jvm.exec) {pc pc' : Nat} {Ls : Array Slot} {st : List Value} {k : Nat} {v : Int64} {l' : Array Slot} (hd : decode c.code pc = .ok (.lstore k, 2)) (hl : storeLocals Ls k (.long v) = some l') (hp : pc + 2 = pc') (q : oGo p e below G T (mkF m pc' l' (st))) : oGo p e below G T (mkF m pc Ls (.long v :: st)) := by
  subst hp; exact q.step fun t r => XT.lstore X.here hx rfl hd rfl hl r
theorem o_aloadN (X : Stand p l e R s m args below meth c T locs cells slots) (hx : p.tables.exec = Jvm.exec) {pc pc' : Nat} {Ls : Array Slot} {st : List Value} {k : Fin 4} {v : Value} (hd : decode c.code pc = .ok (.aload_n k, 1)) (hl : Ls[k.val]? = some (.val v)) (hv : v.isRef = true) (hp : pc + 1 = pc') (q : oGo p e below G T (mkF m pc' Ls (v :: st))) : oGo p e below G T (mkF m pc Ls (st)) := by
  subst hp; exact q.step fun t r => XS.aloadN X.here hx rfl hd hl hv r
theorem o_aload (X : Stand p l e R s m args below meth c T locs cells slots) (hx : p.tables.exec = Jvm.exec) {pc pc' : Nat} {Ls : Array Slot} {st : List Value} {k : Nat} {v : Value} (hd : decode c.code pc = .ok (.aload k, 2)) (hl : Ls[k]? = some (.val v)) (hv : v.isRef = true) (hp : pc + 2 = pc') (q : oGo p e below G T (mkF m pc' Ls (v :: st))) : oGo p e below G T (mkF m pc Ls (st)) := by
  subst hp; exact q.step fun t r => XS.aload X.here hx rfl hd hl hv r
theorem o_astoreN (X : Stand p l e R s m args below meth c T locs cells slots) (hx : p.tables.exec = Jvm.exec) {pc pc' : Nat} {Ls : Array Slot} {st : List Value} {k : Fin 4} {v : Value} {l' : Array Slot} (hd : decode c.code pc = .ok (.astore_n k, 1)) (hv : v.isRef = true) (hl : storeLocals Ls k.val v = some l') (hp : pc + 1 = pc') (q : oGo p e below G T (mkF m pc' l' (st))) : oGo p e below G T (mkF m pc Ls (v :: st)) := by
  subst hp; exact q.step fun t r => XS.astoreN X.here hx rfl hd rfl hv hl r
theorem o_astore (X : Stand p l e R s m args below meth c T locs cells slots) (hx : p.tables.exec = Jvm.exec) {pc pc' : Nat} {Ls : Array Slot} {st : List Value} {k : Nat} {v : Value} {l' : Array Slot} (hd : decode c.code pc = .ok (.astore k, 2)) (hv : v.isRef = true) (hl : storeLocals Ls k v = some l') (hp : pc + 2 = pc') (q : oGo p e below G T (mkF m pc' l' (st))) : oGo p e below G T (mkF m pc Ls (v :: st)) := by
  subst hp; exact q.step fun t r => XS.astore X.here hx rfl hd rfl hv hl r
theorem o_iconst (X : Stand p l e R s m args below meth c T locs cells slots) (hx : p.tables.exec = Jvm.exec) {pc pc' : Nat} {Ls : Array Slot} {st : List Value} {i : Int} (v : Int32) (hd : decode c.code pc = .ok (.iconst i, 1)) (hv : Int32.ofInt i = v) (hp : pc + 1 = pc') (q : oGo p e below G T (mkF m pc' Ls (.int v :: st))) : oGo p e below G T (mkF m pc Ls (st)) := by
  subst hp; exact q.step fun t r => XT.iconstV X.here hx rfl v hd hv r
theorem o_bipush (X : Stand p l e R s m args below meth c T locs cells slots) (hx : p.tables.exec = Jvm.exec) {pc pc' : Nat} {Ls : Array Slot} {st : List Value} {i : Int} (v : Int32) (hd : decode c.code pc = .ok (.bipush i, 2)) (hv : (Int8.ofInt i).toInt32 = v) (hp : pc + 2 = pc') (q : oGo p e below G T (mkF m pc' Ls (.int v :: st))) : oGo p e below G T (mkF m pc Ls (st)) := by
  subst hp; exact q.step fun t r => XT.bipushV X.here hx rfl v hd hv r
theorem o_sipush (X : Stand p l e R s m args below meth c T locs cells slots) (hx : p.tables.exec = Jvm.exec) {pc pc' : Nat} {Ls : Array Slot} {st : List Value} {i : Int} (v : Int32) (hd : decode c.code pc = .ok (.sipush i, 3)) (hv : (Int16.ofInt i).toInt32 = v) (hp : pc + 3 = pc') (q : oGo p e below G T (mkF m pc' Ls (.int v :: st))) : oGo p e below G T (mkF m pc Ls (st)) := by
  subst hp; exact q.step fun t r => XT.sipushV X.here hx rfl v hd hv r
theorem o_lconst (X : Stand p l e R s m args below meth c T locs cells slots) (hx : p.tables.exec = Jvm.exec) {pc pc' : Nat} {Ls : Array Slot} {st : List Value} {k : Fin 2} (v : Int64) (hd : decode c.code pc = .ok (.lconst k, 1)) (hv : Int64.ofNat k = v) (hp : pc + 1 = pc') (q : oGo p e below G T (mkF m pc' Ls (.long v :: st))) : oGo p e below G T (mkF m pc Ls (st)) := by
  subst hp; exact q.step fun t r => XT.lconstV X.here hx rfl v hd hv r
theorem o_anull (X : Stand p l e R s m args below meth c T locs cells slots) (hx : p.tables.exec = Jvm.exec) {pc pc' : Nat} {Ls : Array Slot} {st : List Value} (hd : decode c.code pc = .ok (.aconst_null, 1)) (hp : pc + 1 = pc') (q : oGo p e below G T (mkF m pc' Ls (.null :: st))) : oGo p e below G T (mkF m pc Ls (st)) := by
  subst hp; exact q.step fun t r => XS.aconstNull X.here hx rfl hd r
theorem o_ldc (X : Stand p l e R s m args below meth c T locs cells slots) (hx : p.tables.exec = Jvm.exec) {pc pc' : Nat} {Ls : Array Slot} {st : List Value} {own : String} {index : Nat} {v : Int32} (hZ : Z.Warmed39 s.vm) (hown : s.vm.findClass own = some m.cls) (w : (Jvm.Cond.constant own index v).before a0 Z = true) (hd : decode c.code pc = .ok (.ldc index, 2)) (hp : pc + 2 = pc') (q : oGo p e below G T (mkF m pc' Ls (.int v :: st))) : oGo p e below G T (mkF m pc Ls (st)) := by
  subst hp; exact q.step fun t r => X.ldcI hx hown (mvT hZ w) rfl hd r
theorem o_ldcw (X : Stand p l e R s m args below meth c T locs cells slots) (hx : p.tables.exec = Jvm.exec) {pc pc' : Nat} {Ls : Array Slot} {st : List Value} {own : String} {index : Nat} {v : Int32} (hZ : Z.Warmed39 s.vm) (hown : s.vm.findClass own = some m.cls) (w : (Jvm.Cond.constant own index v).before a0 Z = true) (hd : decode c.code pc = .ok (.ldc_w index, 3)) (hp : pc + 3 = pc') (q : oGo p e below G T (mkF m pc' Ls (.int v :: st))) : oGo p e below G T (mkF m pc Ls (st)) := by
  subst hp; exact q.step fun t r => X.ldcWI hx hown (mvT hZ w) rfl hd r
theorem o_ldc2 (X : Stand p l e R s m args below meth c T locs cells slots) (hx : p.tables.exec = Jvm.exec) {pc pc' : Nat} {Ls : Array Slot} {st : List Value} {own : String} {index : Nat} {v : Int64} (hZ : Z.Warmed39 s.vm) (hown : s.vm.findClass own = some m.cls) (w : (Jvm.Cond.constantLong own index v).before a0 Z = true) (hd : decode c.code pc = .ok (.ldc2_w index, 3)) (hp : pc + 3 = pc') (q : oGo p e below G T (mkF m pc' Ls (.long v :: st))) : oGo p e below G T (mkF m pc Ls (st)) := by
  subst hp; exact q.step fun t r => X.ldc2J hx hown (mvT hZ w) rfl hd r
theorem o_iadd (X : Stand p l e R s m args below meth c T locs cells slots) (hx : p.tables.exec = Jvm.exec) {pc pc' : Nat} {Ls : Array Slot} {st : List Value} {x y : Int32} (hd : decode c.code pc = .ok (.iadd, 1)) (hp : pc + 1 = pc') (q : oGo p e below G T (mkF m pc' Ls (.int (x + y) :: st))) : oGo p e below G T (mkF m pc Ls (.int y :: .int x :: st)) := by
  subst hp; exact q.step fun t r => XS.iadd X.here hx rfl hd rfl r
theorem o_isub (X : Stand p l e R s m args below meth c T locs cells slots) (hx : p.tables.exec = Jvm.exec) {pc pc' : Nat} {Ls : Array Slot} {st : List Value} {x y : Int32} (hd : decode c.code pc = .ok (.isub, 1)) (hp : pc + 1 = pc') (q : oGo p e below G T (mkF m pc' Ls (.int (x - y) :: st))) : oGo p e below G T (mkF m pc Ls (.int y :: .int x :: st)) := by
  subst hp; exact q.step fun t r => XS.isub X.here hx rfl hd rfl r
theorem o_imul (X : Stand p l e R s m args below meth c T locs cells slots) (hx : p.tables.exec = Jvm.exec) {pc pc' : Nat} {Ls : Array Slot} {st : List Value} {x y : Int32} (hd : decode c.code pc = .ok (.imul, 1)) (hp : pc + 1 = pc') (q : oGo p e below G T (mkF m pc' Ls (.int (x * y) :: st))) : oGo p e below G T (mkF m pc Ls (.int y :: .int x :: st)) := by
  subst hp; exact q.step fun t r => XS.imul X.here hx rfl hd rfl r
theorem o_iand (X : Stand p l e R s m args below meth c T locs cells slots) (hx : p.tables.exec = Jvm.exec) {pc pc' : Nat} {Ls : Array Slot} {st : List Value} {x y : Int32} (hd : decode c.code pc = .ok (.iand, 1)) (hp : pc + 1 = pc') (q : oGo p e below G T (mkF m pc' Ls (.int (x &&& y) :: st))) : oGo p e below G T (mkF m pc Ls (.int y :: .int x :: st)) := by
  subst hp; exact q.step fun t r => XS.iand X.here hx rfl hd rfl r
theorem o_ior (X : Stand p l e R s m args below meth c T locs cells slots) (hx : p.tables.exec = Jvm.exec) {pc pc' : Nat} {Ls : Array Slot} {st : List Value} {x y : Int32} (hd : decode c.code pc = .ok (.ior, 1)) (hp : pc + 1 = pc') (q : oGo p e below G T (mkF m pc' Ls (.int (x ||| y) :: st))) : oGo p e below G T (mkF m pc Ls (.int y :: .int x :: st)) := by
  subst hp; exact q.step fun t r => XT.ior X.here hx rfl hd rfl r
theorem o_ixor (X : Stand p l e R s m args below meth c T locs cells slots) (hx : p.tables.exec = Jvm.exec) {pc pc' : Nat} {Ls : Array Slot} {st : List Value} {x y : Int32} (hd : decode c.code pc = .ok (.ixor, 1)) (hp : pc + 1 = pc') (q : oGo p e below G T (mkF m pc' Ls (.int (x ^^^ y) :: st))) : oGo p e below G T (mkF m pc Ls (.int y :: .int x :: st)) := by
  subst hp; exact q.step fun t r => XT.ixor X.here hx rfl hd rfl r
theorem o_ishl (X : Stand p l e R s m args below meth c T locs cells slots) (hx : p.tables.exec = Jvm.exec) {pc pc' : Nat} {Ls : Array Slot} {st : List Value} {x y : Int32} (hd : decode c.code pc = .ok (.ishl, 1)) (hp : pc + 1 = pc') (q : oGo p e below G T (mkF m pc' Ls (.int (x <<< (y &&& 31)) :: st))) : oGo p e below G T (mkF m pc Ls (.int y :: .int x :: st)) := by
  subst hp; exact q.step fun t r => XT.ishl X.here hx rfl hd rfl r
theorem o_ishr (X : Stand p l e R s m args below meth c T locs cells slots) (hx : p.tables.exec = Jvm.exec) {pc pc' : Nat} {Ls : Array Slot} {st : List Value} {x y : Int32} (hd : decode c.code pc = .ok (.ishr, 1)) (hp : pc + 1 = pc') (q : oGo p e below G T (mkF m pc' Ls (.int (x >>> (y &&& 31)) :: st))) : oGo p e below G T (mkF m pc Ls (.int y :: .int x :: st)) := by
  subst hp; exact q.step fun t r => XT.ishr X.here hx rfl hd rfl r
theorem o_iushr (X : Stand p l e R s m args below meth c T locs cells slots) (hx : p.tables.exec = Jvm.exec) {pc pc' : Nat} {Ls : Array Slot} {st : List Value} {x y : Int32} (hd : decode c.code pc = .ok (.iushr, 1)) (hp : pc + 1 = pc') (q : oGo p e below G T (mkF m pc' Ls (.int (XT.ushr x y) :: st))) : oGo p e below G T (mkF m pc Ls (.int y :: .int x :: st)) := by
  subst hp; exact q.step fun t r => XT.iushr X.here hx rfl hd rfl r
theorem o_ladd (X : Stand p l e R s m args below meth c T locs cells slots) (hx : p.tables.exec = Jvm.exec) {pc pc' : Nat} {Ls : Array Slot} {st : List Value} {x y : Int64} (hd : decode c.code pc = .ok (.ladd, 1)) (hp : pc + 1 = pc') (q : oGo p e below G T (mkF m pc' Ls (.long (x + y) :: st))) : oGo p e below G T (mkF m pc Ls (.long y :: .long x :: st)) := by
  subst hp; exact q.step fun t r => XT.ladd X.here hx rfl hd rfl r
theorem o_lsub (X : Stand p l e R s m args below meth c T locs cells slots) (hx : p.tables.exec = Jvm.exec) {pc pc' : Nat} {Ls : Array Slot} {st : List Value} {x y : Int64} (hd : decode c.code pc = .ok (.lsub, 1)) (hp : pc + 1 = pc') (q : oGo p e below G T (mkF m pc' Ls (.long (x - y) :: st))) : oGo p e below G T (mkF m pc Ls (.long y :: .long x :: st)) := by
  subst hp; exact q.step fun t r => XT.lsub X.here hx rfl hd rfl r
theorem o_lmul (X : Stand p l e R s m args below meth c T locs cells slots) (hx : p.tables.exec = Jvm.exec) {pc pc' : Nat} {Ls : Array Slot} {st : List Value} {x y : Int64} (hd : decode c.code pc = .ok (.lmul, 1)) (hp : pc + 1 = pc') (q : oGo p e below G T (mkF m pc' Ls (.long (x * y) :: st))) : oGo p e below G T (mkF m pc Ls (.long y :: .long x :: st)) := by
  subst hp; exact q.step fun t r => XT.lmul X.here hx rfl hd rfl r
theorem o_land (X : Stand p l e R s m args below meth c T locs cells slots) (hx : p.tables.exec = Jvm.exec) {pc pc' : Nat} {Ls : Array Slot} {st : List Value} {x y : Int64} (hd : decode c.code pc = .ok (.land, 1)) (hp : pc + 1 = pc') (q : oGo p e below G T (mkF m pc' Ls (.long (x &&& y) :: st))) : oGo p e below G T (mkF m pc Ls (.long y :: .long x :: st)) := by
  subst hp; exact q.step fun t r => XT.land X.here hx rfl hd rfl r
theorem o_lor (X : Stand p l e R s m args below meth c T locs cells slots) (hx : p.tables.exec = Jvm.exec) {pc pc' : Nat} {Ls : Array Slot} {st : List Value} {x y : Int64} (hd : decode c.code pc = .ok (.lor, 1)) (hp : pc + 1 = pc') (q : oGo p e below G T (mkF m pc' Ls (.long (x ||| y) :: st))) : oGo p e below G T (mkF m pc Ls (.long y :: .long x :: st)) := by
  subst hp; exact q.step fun t r => XT.lor X.here hx rfl hd rfl r
theorem o_lxor (X : Stand p l e R s m args below meth c T locs cells slots) (hx : p.tables.exec = Jvm.exec) {pc pc' : Nat} {Ls : Array Slot} {st : List Value} {x y : Int64} (hd : decode c.code pc = .ok (.lxor, 1)) (hp : pc + 1 = pc') (q : oGo p e below G T (mkF m pc' Ls (.long (x ^^^ y) :: st))) : oGo p e below G T (mkF m pc Ls (.long y :: .long x :: st)) := by
  subst hp; exact q.step fun t r => XT.lxor X.here hx rfl hd rfl r
theorem o_lshl (X : Stand p l e R s m args below meth c T locs cells slots) (hx : p.tables.exec = Jvm.exec) {pc pc' : Nat} {Ls : Array Slot} {st : List Value} {x : Int64} {y : Int32} (hd : decode c.code pc = .ok (.lshl, 1)) (hp : pc + 1 = pc') (q : oGo p e below G T (mkF m pc' Ls (.long (x <<< (y.toInt64 &&& 63)) :: st))) : oGo p e below G T (mkF m pc Ls (.int y :: .long x :: st)) := by
  subst hp; exact q.step fun t r => XT.lshl X.here hx rfl hd rfl r
theorem o_lshr (X : Stand p l e R s m args below meth c T locs cells slots) (hx : p.tables.exec = Jvm.exec) {pc pc' : Nat} {Ls : Array Slot} {st : List Value} {x : Int64} {y : Int32} (hd : decode c.code pc = .ok (.lshr, 1)) (hp : pc + 1 = pc') (q : oGo p e below G T (mkF m pc' Ls (.long (x >>> (y.toInt64 &&& 63)) :: st))) : oGo p e below G T (mkF m pc Ls (.int y :: .long x :: st)) := by
  subst hp; exact q.step fun t r => XT.lshr X.here hx rfl hd rfl r
theorem o_lushr (X : Stand p l e R s m args below meth c T locs cells slots) (hx : p.tables.exec = Jvm.exec) {pc pc' : Nat} {Ls : Array Slot} {st : List Value} {x : Int64} {y : Int32} (hd : decode c.code pc = .ok (.lushr, 1)) (hp : pc + 1 = pc') (q : oGo p e below G T (mkF m pc' Ls (.long (XT.ushrL x y) :: st))) : oGo p e below G T (mkF m pc Ls (.int y :: .long x :: st)) := by
  subst hp; exact q.step fun t r => XT.lushr X.here hx rfl hd rfl r
theorem o_lcmp (X : Stand p l e R s m args below meth c T locs cells slots) (hx : p.tables.exec = Jvm.exec) {pc pc' : Nat} {Ls : Array Slot} {st : List Value} {x y : Int64} (hd : decode c.code pc = .ok (.lcmp, 1)) (hp : pc + 1 = pc') (q : oGo p e below G T (mkF m pc' Ls (.int (XT.cmpL x y) :: st))) : oGo p e below G T (mkF m pc Ls (.long y :: .long x :: st)) := by
  subst hp; exact q.step fun t r => XT.lcmp X.here hx rfl hd rfl r
theorem o_irem (X : Stand p l e R s m args below meth c T locs cells slots) (hx : p.tables.exec = Jvm.exec) {pc pc' : Nat} {Ls : Array Slot} {st : List Value} {x y : Int32} (hd : decode c.code pc = .ok (.irem, 1)) (hy : y ≠ 0) (hp : pc + 1 = pc') (q : oGo p e below G T (mkF m pc' Ls (.int (x % y) :: st))) : oGo p e below G T (mkF m pc Ls (.int y :: .int x :: st)) := by
  subst hp; exact q.step fun t r => iremM X hx rfl hd rfl hy r
theorem o_lrem (X : Stand p l e R s m args below meth c T locs cells slots) (hx : p.tables.exec = Jvm.exec) {pc pc' : Nat} {Ls : Array Slot} {st : List Value} {x y : Int64} (hd : decode c.code pc = .ok (.lrem, 1)) (hy : y ≠ 0) (hp : pc + 1 = pc') (q : oGo p e below G T (mkF m pc' Ls (.long (x % y) :: st))) : oGo p e below G T (mkF m pc Ls (.long y :: .long x :: st)) := by
  subst hp; exact q.step fun t r => XT.lrem X.here hx rfl hd rfl hy (by rw [lrem_mod]; exact r)
theorem o_i2l (X : Stand p l e R s m args below meth c T locs cells slots) (hx : p.tables.exec = Jvm.exec) {pc pc' : Nat} {Ls : Array Slot} {st : List Value} {x : Int32} (hd : decode c.code pc = .ok (.i2l, 1)) (hp : pc + 1 = pc') (q : oGo p e below G T (mkF m pc' Ls (.long (x.toInt64) :: st))) : oGo p e below G T (mkF m pc Ls (.int x :: st)) := by
  subst hp; exact q.step fun t r => XT.i2l X.here hx rfl hd rfl r
theorem o_l2i (X : Stand p l e R s m args below meth c T locs cells slots) (hx : p.tables.exec = Jvm.exec) {pc pc' : Nat} {Ls : Array Slot} {st : List Value} {x : Int64} (hd : decode c.code pc = .ok (.l2i, 1)) (hp : pc + 1 = pc') (q : oGo p e below G T (mkF m pc' Ls (.int (x.toInt32) :: st))) : oGo p e below G T (mkF m pc Ls (.long x :: st)) := by
  subst hp; exact q.step fun t r => XT.l2i X.here hx rfl hd rfl r
theorem o_i2c (X : Stand p l e R s m args below meth c T locs cells slots) (hx : p.tables.exec = Jvm.exec) {pc pc' : Nat} {Ls : Array Slot} {st : List Value} {x : Int32} (hd : decode c.code pc = .ok (.i2c, 1)) (hp : pc + 1 = pc') (q : oGo p e below G T (mkF m pc' Ls (.int (x.toUInt32.toUInt16.toUInt32.toInt32) :: st))) : oGo p e below G T (mkF m pc Ls (.int x :: st)) := by
  subst hp; exact q.step fun t r => XT.i2c X.here hx rfl hd rfl r
theorem o_i2b (X : Stand p l e R s m args below meth c T locs cells slots) (hx : p.tables.exec = Jvm.exec) {pc pc' : Nat} {Ls : Array Slot} {st : List Value} {x : Int32} (hd : decode c.code pc = .ok (.i2b, 1)) (hp : pc + 1 = pc') (q : oGo p e below G T (mkF m pc' Ls (.int (x.toInt8.toInt32) :: st))) : oGo p e below G T (mkF m pc Ls (.int x :: st)) := by
  subst hp; exact q.step fun t r => XT.i2b X.here hx rfl hd rfl r
theorem o_iinc (X : Stand p l e R s m args below meth c T locs cells slots) (hx : p.tables.exec = Jvm.exec) {pc pc' : Nat} {Ls : Array Slot} {st : List Value} {k : Nat} {cst : Int} {x : Int32} {l' : Array Slot} (v : Int32) (hd : decode c.code pc = .ok (.iinc k cst, 3)) (hv : Int32.ofInt cst = v) (hl : Ls[k]? = some (.val (.int x))) (hl' : storeLocals Ls k (.int (x + v)) = some l') (hp : pc + 3 = pc') (q : oGo p e below G T (mkF m pc' l' (st))) : oGo p e below G T (mkF m pc Ls (st)) := by
  subst hp; exact q.step fun t r => XT.iincV X.here hx rfl v hd hv hl hl' r
theorem o_dup (X : Stand p l e R s m args below meth c T locs cells slots) (hx : p.tables.exec = Jvm.exec) {pc pc' : Nat} {Ls : Array Slot} {st : List Value} {v : Value} (hd : decode c.code pc = .ok (.dup, 1)) (hc : v.category = 1) (hp : pc + 1 = pc') (q : oGo p e below G T (mkF m pc' Ls (v :: v :: st))) : oGo p e below G T (mkF m pc Ls (v :: st)) := by
  subst hp; exact q.step fun t r => XS.dup X.here hx rfl hd rfl hc r
theorem o_pop (X : Stand p l e R s m args below meth c T locs cells slots) (hx : p.tables.exec = Jvm.exec) {pc pc' : Nat} {Ls : Array Slot} {st : List Value} {v : Value} (hd : decode c.code pc = .ok (.pop, 1)) (hc : v.category = 1) (hp : pc + 1 = pc') (q : oGo p e below G T (mkF m pc' Ls (st))) : oGo p e below G T (mkF m pc Ls (v :: st)) := by
  subst hp; exact q.step fun t r => XT.pop X.here hx rfl hd rfl hc r
theorem o_goto (X : Stand p l e R s m args below meth c T locs cells slots) (hx : p.tables.exec = Jvm.exec) {pc pc' : Nat} {Ls : Array Slot} {st : List Value} {o : Int} (hd : decode c.code pc = .ok (.goto o, 3)) (ho : 0 ≤ (pc : Int) + o) (hp : ((pc : Int) + o).toNat = pc') (q : oGo p e below G T (mkF m pc' Ls (st))) : oGo p e below G T (mkF m pc Ls (st)) :=
  q.step fun t r => XS.goto X.here hx rfl rfl hd ho hp r
theorem o_icmpT (X : Stand p l e R s m args below meth c T locs cells slots) (hx : p.tables.exec = Jvm.exec) {pc pc' : Nat} {Ls : Array Slot} {st : List Value} {o : Int} {cd : ClassFile.Cond} {x y : Int32} (hd : decode c.code pc = .ok (.if_icmp cd o, 3)) (hc : if_icmp.holds cd x y = true) (ho : 0 ≤ (pc : Int) + o) (hp : ((pc : Int) + o).toNat = pc') (q : oGo p e below G T (mkF m pc' Ls (st))) : oGo p e below G T (mkF m pc Ls (.int y :: .int x :: st)) :=
  q.step fun t r => XS.icmpYes X.here hx rfl rfl hd rfl hc ho hp r
theorem o_icmpF (X : Stand p l e R s m args below meth c T locs cells slots) (hx : p.tables.exec = Jvm.exec) {pc pc' : Nat} {Ls : Array Slot} {st : List Value} {o : Int} {cd : ClassFile.Cond} {x y : Int32} (hd : decode c.code pc = .ok (.if_icmp cd o, 3)) (hc : if_icmp.holds cd x y = false) (hp : pc + 3 = pc') (q : oGo p e below G T (mkF m pc' Ls (st))) : oGo p e below G T (mkF m pc Ls (.int y :: .int x :: st)) := by
  subst hp; exact q.step fun t r => XS.icmpNo X.here hx rfl hd rfl hc r
theorem o_ifT (X : Stand p l e R s m args below meth c T locs cells slots) (hx : p.tables.exec = Jvm.exec) {pc pc' : Nat} {Ls : Array Slot} {st : List Value} {o : Int} {cd : ClassFile.Cond} {x : Int32} (hd : decode c.code pc = .ok (.ifCond cd o, 3)) (hc : ifCond.holds cd x = true) (ho : 0 ≤ (pc : Int) + o) (hp : ((pc : Int) + o).toNat = pc') (q : oGo p e below G T (mkF m pc' Ls (st))) : oGo p e below G T (mkF m pc Ls (.int x :: st)) :=
  q.step fun t r => XS.ifYes X.here hx rfl rfl hd rfl hc ho hp r
theorem o_ifF (X : Stand p l e R s m args below meth c T locs cells slots) (hx : p.tables.exec = Jvm.exec) {pc pc' : Nat} {Ls : Array Slot} {st : List Value} {o : Int} {cd : ClassFile.Cond} {x : Int32} (hd : decode c.code pc = .ok (.ifCond cd o, 3)) (hc : ifCond.holds cd x = false) (hp : pc + 3 = pc') (q : oGo p e below G T (mkF m pc' Ls (st))) : oGo p e below G T (mkF m pc Ls (.int x :: st)) := by
  subst hp; exact q.step fun t r => XS.ifNo X.here hx rfl hd rfl hc r
theorem o_acmpT (X : Stand p l e R s m args below meth c T locs cells slots) (hx : p.tables.exec = Jvm.exec) {pc pc' : Nat} {Ls : Array Slot} {st : List Value} {o : Int} {cd : ClassFile.ACond} {x y : Value} (hd : decode c.code pc = .ok (.if_acmp cd o, 3)) (h1 : x.isRef = true) (h2 : y.isRef = true) (hc : XT.acmp cd x y = true) (ho : 0 ≤ (pc : Int) + o) (hp : ((pc : Int) + o).toNat = pc') (q : oGo p e below G T (mkF m pc' Ls (st))) : oGo p e below G T (mkF m pc Ls (y :: x :: st)) :=
  q.step fun t r => XT.acmpYes X.here hx rfl rfl hd rfl h1 h2 hc ho hp r
theorem o_acmpF (X : Stand p l e R s m args below meth c T locs cells slots) (hx : p.tables.exec = Jvm.exec) {pc pc' : Nat} {Ls : Array Slot} {st : List Value} {o : Int} {cd : ClassFile.ACond} {x y : Value} (hd : decode c.code pc = .ok (.if_acmp cd o, 3)) (h1 : x.isRef = true) (h2 : y.isRef = true) (hc : XT.acmp cd x y = false) (hp : pc + 3 = pc') (q : oGo p e below G T (mkF m pc' Ls (st))) : oGo p e below G T (mkF m pc Ls (y :: x :: st)) := by
  subst hp; exact q.step fun t r => XT.acmpNo X.here hx rfl hd rfl h1 h2 hc r
theorem o_retI (X : Stand p l e R s m args below meth c T locs cells slots) (hx : p.tables.exec = Jvm.exec) (hret : meth.sig.returnType = some .int) (hlk : meth.locks = false) {pc : Nat} {Ls : Array Slot} {st : List Value} {z : Int32} (hd : decode c.code pc = .ok (.ireturn, 1)) {Q : Option Value → Heap → List Loc → Prop} {C N : Nat} (hc : cells ≤ C) (hn : slots ≤ N) (hQ : Q (some (.int z)) T.heap locs) : oGo p e below (oG s Q C N) T (mkF m pc Ls (.int z :: st)) := by
  obtain ⟨fs, hr, hrun, hended, hW, hsame⟩ := X.leave (v := some (.int z)) (fun h => by rw [hret] at h; cases h) hlk
  exact ⟨_, _, retOut X hx hret rfl (Or.inl ⟨rfl, Or.inl rfl, _, rfl⟩) hd hr, hrun, hended, _, _, rfl, hQ, ⟨_, rfl⟩, hW, hsame.mono hc hn⟩
theorem o_retJ (X : Stand p l e R s m args below meth c T locs cells slots) (hx : p.tables.exec = Jvm.exec) (hret : meth.sig.returnType = some .long) (hlk : meth.locks = false) {pc : Nat} {Ls : Array Slot} {st : List Value} {z : Int64} (hd : decode c.code pc = .ok (.lreturn, 1)) {Q : Option Value → Heap → List Loc → Prop} {C N : Nat} (hc : cells ≤ C) (hn : slots ≤ N) (hQ : Q (some (.long z)) T.heap locs) : oGo p e below (oG s Q C N) T (mkF m pc Ls (.long z :: st)) := by
  obtain ⟨fs, hr, hrun, hended, hW, hsame⟩ := X.leave (v := some (.long z)) (fun h => by rw [hret] at h; cases h) hlk
  exact ⟨_, _, retOut X hx hret rfl (Or.inr (Or.inl ⟨rfl, rfl, _, rfl⟩)) hd hr, hrun, hended, _, _, rfl, hQ, ⟨_, rfl⟩, hW, hsame.mono hc hn⟩
theorem o_retD (X : Stand p l e R s m args below meth c T locs cells slots) (hx : p.tables.exec = Jvm.exec) (hret : meth.sig.returnType = some .double) (hlk : meth.locks = false) {pc : Nat} {Ls : Array Slot} {st : List Value} {z : UInt64} (hd : decode c.code pc = .ok (.dreturn, 1)) {Q : Option Value → Heap → List Loc → Prop} {C N : Nat} (hc : cells ≤ C) (hn : slots ≤ N) (hQ : Q (some (.double z)) T.heap locs) : oGo p e below (oG s Q C N) T (mkF m pc Ls (.double z :: st)) := by
  obtain ⟨fs, hr, hrun, hended, hW, hsame⟩ := X.leave (v := some (.double z)) (fun h => by rw [hret] at h; cases h) hlk
  exact ⟨_, _, retOut X hx hret rfl (Or.inr (Or.inr (Or.inl ⟨rfl, rfl, _, rfl⟩))) hd hr, hrun, hended, _, _, rfl, hQ, ⟨_, rfl⟩, hW, hsame.mono hc hn⟩
theorem o_retZ (X : Stand p l e R s m args below meth c T locs cells slots) (hx : p.tables.exec = Jvm.exec) (hret : meth.sig.returnType = some .boolean) (hlk : meth.locks = false) {pc : Nat} {Ls : Array Slot} {st : List Value} {z : Int32} (hd : decode c.code pc = .ok (.ireturn, 1)) (hz : z &&& 1 = z) {Q : Option Value → Heap → List Loc → Prop} {C N : Nat} (hc : cells ≤ C) (hn : slots ≤ N) (hQ : Q (some (.int z)) T.heap locs) : oGo p e below (oG s Q C N) T (mkF m pc Ls (.int z :: st)) := by
  obtain ⟨fs, hr, hrun, hended, hW, hsame⟩ := X.leave (v := some (.int z)) (fun h => by rw [hret] at h; cases h) hlk
  have hz' : nar .boolean z = z := hz
  exact ⟨_, _, retN X hx (t := .boolean) hret (Or.inl rfl) hd (by rw [hz']; exact hr), hrun, hended, _, _, rfl, hQ, ⟨_, rfl⟩, hW, hsame.mono hc hn⟩
theorem o_retA (X : Stand p l e R s m args below meth c T locs cells slots) (hx : p.tables.exec = Jvm.exec) {C1 : FieldType} (hret : meth.sig.returnType = some C1) (ht : C1.isReference = true) (hlk : meth.locks = false) {pc : Nat} {Ls : Array Slot} {st : List Value} {z : Value} (hz : z.isRef = true) (hna : narrow C1 z = z) (hd : decode c.code pc = .ok (.areturn, 1)) {Q : Option Value → Heap → List Loc → Prop} {C N : Nat} (hc : cells ≤ C) (hn : slots ≤ N) (hQ : Q (some z) T.heap locs) : oGo p e below (oG s Q C N) T (mkF m pc Ls (z :: st)) := by
  obtain ⟨fs, hr, hrun, hended, hW, hsame⟩ := X.leave (v := some z) (fun h => by rw [hret] at h; cases h) hlk
  exact ⟨_, _, retOut X hx hret hna (Or.inr (Or.inr (Or.inr (Or.inr ⟨rfl, ht, hz⟩)))) hd hr, hrun, hended, _, _, rfl, hQ, ⟨_, rfl⟩, hW, hsame.mono hc hn⟩
theorem o_retV (X : Stand p l e R s m args below meth c T locs cells slots) (hx : p.tables.exec = Jvm.exec) (hret : meth.sig.returnType = none) (hlk : meth.locks = false) {pc : Nat} {Ls : Array Slot} (hd : decode c.code pc = .ok (.return_, 1)) {Q : Option Value → Heap → List Loc → Prop} {C N : Nat} (hc : cells ≤ C) (hn : slots ≤ N) (hQ : Q none T.heap locs) : oGo p e below (oG s Q C N) T (mkF m pc Ls []) := by
  obtain ⟨fs, hr, hrun, hended, hW, hsame⟩ := X.leave (v := none) (fun _ => rfl) hlk
  exact ⟨_, _, X.returnOut hx hret hd hr, hrun, hended, _, _, rfl, hQ, ⟨_, rfl⟩, hW, hsame.mono hc hn⟩
theorem o_callS (X : Stand p l e R s m args below meth c T locs cells slots) (hx : p.tables.exec = Jvm.exec) (hZ : Z.Warmed39 s.vm) {own : String} {index : Nat} {y : MethodName} {bytes : ByteArray} {maxL : Nat} {ret : Option FieldType} (hown : s.vm.findClass own = some m.cls) (w1 : (Jvm.Cond.methodLink own index y).before a0 Z = true) (w2 : (Jvm.Cond.static y).before a0 Z = true) (w3 : (Jvm.Cond.initialized y.cls).before a0 Z = true) (w4 : (Jvm.Cond.code y bytes maxL ret).before a0 Z = true) (hy : y.cls ≠ "java/lang/invoke/MethodHandle" ∧ y.cls ≠ "java/lang/invoke/VarHandle") {rm : Room} {as' : Array Value} {Q : Option Value → Heap → List Loc → Prop} (hM : oCon l Z y bytes maxL ret rm as' h Q) (eT : T.heap = h) {pc pc' : Nat} {Ls : Array Slot} {st : List Value} (hsz : Ls.size = c.maxLocals) (argsL rest : List Value) (has : argsL.toArray = as') {ps : List FieldType} {rr : Option FieldType} (hpd : parseMethodDescriptor y.desc = some ⟨ps, rr⟩) (hlen : argsL.length = ps.length) (hst : st = argsL.reverse ++ rest) (W : Nat) (hW : (rest.map fun v => v.category).sum ≤ W) (hd : decode c.code pc = .ok (.invokestatic index, 3)) (hp : pc + 3 = pc') (hf : rm.frames + 1 ≤ R.frames) (hl : W + (maxL + 11) + rm.locals ≤ R.locals) (hc : cells + rm.cells ≤ R.cells) (hn : slots + rm.slots ≤ R.slots) :
    ∃ v T' L, Stand p l e R s m args below meth c T' (locs ++ L) (cells + rm.cells) (slots + rm.slots) ∧ Q v T'.heap L ∧ ∀ t, Steps p.tables e below (T'.setTop (mkF m pc' Ls (v.toList ++ rest))) t → Steps p.tables e below (T.setTop (mkF m pc Ls st)) t := by
  subst hp has
  obtain ⟨v, vm₁, ⟨T', L', k', n'⟩, -, X', ⟨Lc, hQ, l1, y1, z1⟩, st'⟩ := Jvm.LawKit.callS X hx hown (mvT hZ w1) (mvT hZ w2) (mvT hZ w3) (mvT hZ w4) hy (backOf (W := W) (hM []) hZ w4 w3 hf hl) (g := mkF m pc Ls st) rfl hsz (argsL := argsL) (rest := rest) (lenOf hpd hlen) hst (by show 2 * 0 + _ ≤ _; omega) hd (fun _ _ => ⟨rfl, eT, hc, hn⟩)
  dsimp only [Pt.U, Pt.locs, Pt.cells, Pt.slots] at X' l1 y1 z1 st' hQ
  subst l1 y1 z1
  exact ⟨v, T', Lc, X', hQ, st'⟩
theorem o_callN (X : Stand p l e R s m args below meth c T locs cells slots) (hx : p.tables.exec = Jvm.exec) (hZ : Z.Warmed39 s.vm) {own : String} {index : Nat} {y : MethodName} {bytes : ByteArray} {maxL : Nat} (hown : s.vm.findClass own = some m.cls) (hi : y.name = "<init>") (w1 : (Jvm.Cond.methodLink own index y).before a0 Z = true) (w2 : (Jvm.Cond.instanceMethod y).before a0 Z = true) (w3 : (Jvm.Cond.initialized y.cls).before a0 Z = true) (w4 : (Jvm.Cond.code y bytes maxL none).before a0 Z = true) (hy : y.cls ≠ "java/lang/invoke/MethodHandle" ∧ y.cls ≠ "java/lang/invoke/VarHandle") {rm : Room} {as' : Array Value} {Q : Option Value → Heap → List Loc → Prop} (hM : oCon l Z y bytes maxL none rm as' h Q) (eT : T.heap = h) {pc pc' : Nat} {Ls : Array Slot} {st : List Value} (hsz : Ls.size = c.maxLocals) {a : Addr} (argsL rest : List Value) (has : (Value.ref a :: argsL).toArray = as') {ps : List FieldType} {rr : Option FieldType} (hpd : parseMethodDescriptor y.desc = some ⟨ps, rr⟩) (hlen : argsL.length = ps.length) (hst : st = argsL.reverse ++ .ref a :: rest) (W : Nat) (hW : (rest.map fun v => v.category).sum ≤ W) (hd : decode c.code pc = .ok (.invokespecial index, 3)) (hp : pc + 3 = pc') (hf : rm.frames + 1 ≤ R.frames) (hl : W + (maxL + 11) + rm.locals ≤ R.locals) (hc : cells + rm.cells ≤ R.cells) (hn : slots + rm.slots ≤ R.slots) :
    ∃ v T' L, Stand p l e R s m args below meth c T' (locs ++ L) (cells + rm.cells) (slots + rm.slots) ∧ Q v T'.heap L ∧ ∀ t, Steps p.tables e below (T'.setTop (mkF m pc' Ls (v.toList ++ rest))) t → Steps p.tables e below (T.setTop (mkF m pc Ls st)) t := by
  subst hp has
  obtain ⟨v, vm₁, ⟨T', L', k', n'⟩, -, X', ⟨Lc, hQ, l1, y1, z1⟩, st'⟩ := X.specialBack hx hi hown (mvT hZ w1) (mvT hZ w2) (mvT hZ w4) hy (backOf (W := W) (hM []) hZ w4 w3 hf hl) (g := mkF m pc Ls st) rfl hsz (Steps.refl _) (a := a) (argsL := argsL) (rest := rest) (lenOf hpd hlen) hst (by show 2 * 0 + _ ≤ _; omega) hd (fun _ _ => ⟨rfl, eT, hc, hn⟩)
  dsimp only [Pt.U, Pt.locs, Pt.cells, Pt.slots] at X' l1 y1 z1 st' hQ
  subst l1 y1 z1
  exact ⟨v, T', Lc, X', hQ, fun t r => st'.trans r⟩
theorem o_callV (X : Stand p l e R s m args below meth c T locs cells slots) (hx : p.tables.exec = Jvm.exec) (hZ : Z.Warmed39 s.vm) {own : String} {index : Nat} {y : MethodName} {bytes : ByteArray} {maxL : Nat} {ret : Option FieldType} (hown : s.vm.findClass own = some m.cls) {C : String} (w1 : (Jvm.Cond.methodLink own index y).before a0 Z = true) (w2 : (Jvm.Cond.declares y).before a0 Z = true) (w5 : (Jvm.Cond.selects C y y).before a0 Z = true) (w6 : (Jvm.Cond.instanceMethod y).before a0 Z = true) (w3 : (Jvm.Cond.initialized y.cls).before a0 Z = true) (w4 : (Jvm.Cond.code y bytes maxL ret).before a0 Z = true) (hy : y.cls ≠ "java/lang/invoke/MethodHandle" ∧ y.cls ≠ "java/lang/invoke/VarHandle") {aa : Addr} (E : Exa Z h aa C) {rm : Room} {as' : Array Value} {Q : Option Value → Heap → List Loc → Prop} (hM : oCon l Z y bytes maxL ret rm as' h Q) (eT : T.heap = h) {pc pc' : Nat} {Ls : Array Slot} {st : List Value} (hsz : Ls.size = c.maxLocals) (argsL rest : List Value) (has : (Value.ref aa :: argsL).toArray = as') {ps : List FieldType} {rr : Option FieldType} (hpd : parseMethodDescriptor y.desc = some ⟨ps, rr⟩) (hlen : argsL.length = ps.length) (hst : st = argsL.reverse ++ .ref aa :: rest) (W : Nat) (hW : (rest.map fun v => v.category).sum ≤ W) (hd : decode c.code pc = .ok (.invokevirtual index, 3)) (hp : pc + 3 = pc') (hf : rm.frames + 1 ≤ R.frames) (hl : W + (maxL + 11) + rm.locals ≤ R.locals) (hc : cells + rm.cells ≤ R.cells) (hn : slots + rm.slots ≤ R.slots) :
    ∃ v T' L, Stand p l e R s m args below meth c T' (locs ++ L) (cells + rm.cells) (slots + rm.slots) ∧ Q v T'.heap L ∧ ∀ t, Steps p.tables e below (T'.setTop (mkF m pc' Ls (v.toList ++ rest))) t → Steps p.tables e below (T.setTop (mkF m pc Ls st)) t := by
  subst hp has
  obtain ⟨v, vm₁, ⟨T', L', k', n'⟩, -, X', ⟨Lc, hQ, l1, y1, z1⟩, st'⟩ := X.virtualBack hx hown (mvT hZ w1) (mvT hZ w2) (notFace_of_selects (args := #[]) (mvT hZ w5)) (mvT hZ w5) (mvT hZ w6) hy (backOf (W := W) (hM []) hZ w4 w3 hf hl) (isOf hZ eT E).choose_spec.choose_spec.1 (isOf hZ eT E).choose_spec.choose_spec.2.2 (g := mkF m pc Ls st) rfl hsz (Steps.refl _) (argsL := argsL) (rest := rest) (lenOf hpd hlen) hst (by show 2 * 0 + _ ≤ _; omega) hd (fun _ _ => ⟨rfl, eT, hc, hn⟩)
  dsimp only [Pt.U, Pt.locs, Pt.cells, Pt.slots] at X' l1 y1 z1 st' hQ
  subst l1 y1 z1
  exact ⟨v, T', Lc, X', hQ, fun t r => st'.trans r⟩
theorem o_bz (b : Prop) [Decidable b] : (if b then (1 : Int32) else 0) &&& 1 = if b then 1 else 0 := by by_cases q : b <;> simp [q]
theorem o_same {k n : Nat} (X : Stand p l e R s m args below meth c T (locs ++ []) (cells + k) (slots + n)) (hk : k = 0) (hn : n = 0) : Stand p l e R s m args below meth c T locs cells slots := by subst hk hn; simpa using X
theorem o_flat {k n : Nat} (X : Stand p l e R s m args below meth c T locs (cells + k) (slots + n)) (hk : k = 0) (hn : n = 0) : Stand p l e R s m args below meth c T locs cells slots := by subst hk hn; exact X
theorem o_fldI {a : Addr} {C n d : String} {x y : Int32} (q : y = x) (F : Fld Z h a C n d (.int x)) : Fld Z h a C n d (.int y) := q ▸ F
theorem o_fldJ {a : Addr} {C n d : String} {x y : Int64} (q : y = x) (F : Fld Z h a C n d (.long x)) : Fld Z h a C n d (.long y) := q ▸ F
theorem o_nb {z : Int32} (q : z = 0 ∨ z = 1) : narrow .boolean (.int z) = .int z := by rcases q with rfl | rfl <;> rfl
theorem o_fb {z : Int32} (q : z = 0 ∨ z = 1) : fits .boolean (.int z) = true := by rcases q with rfl | rfl <;> rfl
theorem o_zb {z : Int32} (q : z = 0 ∨ z = 1) : z &&& 1 = z := by rcases q with rfl | rfl <;> rfl
theorem o_or1 {z : Int32} (q : z = 0 ∨ z = 1) : (z ||| 1) = 0 ∨ (z ||| 1) = 1 := by rcases q with rfl | rfl <;> simp
theorem o_or0 {z : Int32} (q : z = 0 ∨ z = 1) : (z ||| 0) = 0 ∨ (z ||| 0) = 1 := by rcases q with rfl | rfl <;> simp
def oInts (Z : State) (h : Heap) (a : Addr) (xs : List Int32) : Prop := ∃ c : Cell, Arr Z h a c .int ∧ c.slots = (xs.map Value.int).toArray ∧ xs.length < 2 ^ 31
theorem oInts.lt {a : Addr} {xs : List Int32} (F : oInts Z h a xs) : a < h.size := by obtain ⟨c, A, -⟩ := F; exact A.lt
theorem oInts.ext {h' : Heap} {a : Addr} {xs : List Int32} (F : oInts Z h a xs) (E : Ext h h') : oInts Z h' a xs := by obtain ⟨c, A, r⟩ := F; exact ⟨c, A.ext E, r⟩
theorem oInts.keep {h' : Heap} {a : Addr} {xs : List Int32} {ws : List Addr} (F : oInts Z h a xs) (K : Keep h h' ws) (q : a ∉ ws) : oInts Z h' a xs := by obtain ⟨c, A, r⟩ := F; exact ⟨c, ⟨K.2.1 a c A.1 q, A.2⟩, r⟩
theorem oInts.set {h' : Heap} {a : Addr} {xs : List Int32} {i : Nat} {v : Int32} (F : oInts Z h a xs) (W : Wr h h' a i (.int v)) : oInts Z h' a (xs.set i v) := by
  obtain ⟨c, A, S, L⟩ := F
  refine ⟨_, A.same W, ?_, by simpa using L⟩
  simp [Cell.setSlot, S, List.map_set]
theorem oInts.new {a : Addr} {k : ClassId} {n : Int32} (A : Arr Z h a (newA k .int n) .int) (q : ¬ n < 0) : oInts Z h a (List.replicate n.toNatClampNeg 0) := by
  refine ⟨_, A, ?_, ?_⟩
  · simp [newA, defaultValue]
  · have := n.toInt_lt; simp only [List.length_replicate]; have h2 : n.toInt = (n.toNatClampNeg : Int) := nat_of q; omega
theorem oInts.at {a : Addr} {xs : List Int32} {j v : Int32} (F : oInts Z h a xs) (q : ¬ j < 0) (hj : xs[j.toNatClampNeg]? = some v) : ∃ c : Cell, Arr Z h a c .int ∧ ¬ (j < 0 ∨ c.slots.size ≤ j.toNatClampNeg) ∧ c.slots[j.toNatClampNeg]? = some (.int v) := by
  obtain ⟨c, A, S, L⟩ := F
  have hl : j.toNatClampNeg < xs.length := by
    rcases Nat.lt_or_ge j.toNatClampNeg xs.length with r | r
    · exact r
    · rw [List.getElem?_eq_none r] at hj; cases hj
  refine ⟨c, A, ?_, ?_⟩
  · rw [S]; simp only [List.size_toArray, List.length_map]; rintro (r | r)
    · exact q r
    · omega
  · rw [S]; simp [hj]
theorem o_iaload (X : Stand p l e R s m args below meth c T locs cells slots) (hx : p.tables.exec = Jvm.exec) (hZ : Z.Warmed39 s.vm) (eT : T.heap = h) {a : Addr} {xs : List Int32} (F : oInts Z h a xs) {pc pc' : Nat} {Ls : Array Slot} {st : List Value} {j v : Int32} (hd : decode c.code pc = .ok (.iaload, 1)) (q0 : ¬ j < 0) (hj : xs[j.toNatClampNeg]? = some v) (hp : pc + 1 = pc') (q : oGo p e below G T (mkF m pc' Ls (.int v :: st))) : oGo p e below G T (mkF m pc Ls (.int j :: .ref a :: st)) := by
  subst hp
  obtain ⟨cl, A, h1, h2⟩ := F.at q0 hj
  exact q.step fun t r => X.iaload (g := mkF m pc Ls (.int j :: .ref a :: st)) (rest := st) hx (by rw [eT]; exact A.1) (State.isArrayOf_alike hZ.alike A.2.1) A.2.2 h1 h2 rfl rfl hd t r
theorem o_alen (X : Stand p l e R s m args below meth c T locs cells slots) (hx : p.tables.exec = Jvm.exec) (hZ : Z.Warmed39 s.vm) (eT : T.heap = h) {a : Addr} {xs : List Int32} (F : oInts Z h a xs) {pc pc' : Nat} {Ls : Array Slot} {st : List Value} (hd : decode c.code pc = .ok (.arraylength, 1)) (hp : pc + 1 = pc') (q : oGo p e below G T (mkF m pc' Ls (.int xs.length.toInt32 :: st))) : oGo p e below G T (mkF m pc Ls (.ref a :: st)) := by
  subst hp
  obtain ⟨cl, A, S, L⟩ := F
  refine q.step fun t r => X.arraylength (g := mkF m pc Ls (.ref a :: st)) (rest := st) hx (by rw [eT]; exact A.1) (State.isArrayOf_alike hZ.alike A.2.1) rfl rfl hd t ?_
  have : cl.slots.size = xs.length := by rw [S]; simp
  rw [this]; exact r
theorem o_iastore (X : Stand p l e R s m args below meth c T locs cells slots) (hx : p.tables.exec = Jvm.exec) (hZ : Z.Warmed39 s.vm) (eT : T.heap = h) {a : Addr} {xs : List Int32} (F : oInts Z h a xs) {pc pc' : Nat} {Ls : Array Slot} {st : List Value} {j x : Int32} (hd : decode c.code pc = .ok (.iastore, 1)) (q0 : ¬ j < 0) (hj : j.toNatClampNeg < xs.length) (hp : pc + 1 = pc') :
    ∃ T' h', Stand p l e R s m args below meth c T' (locs ++ [⟨a, j.toNatClampNeg⟩]) cells slots ∧ T'.heap = h' ∧ Wr h h' a j.toNatClampNeg (.int x) ∧ ∀ t, Steps p.tables e below (T'.setTop (mkF m pc' Ls st)) t → Steps p.tables e below (T.setTop (mkF m pc Ls (.int x :: .int j :: .ref a :: st))) t := by
  subst hp
  obtain ⟨v, hv⟩ : ∃ v, xs[j.toNatClampNeg]? = some v := ⟨_, List.getElem?_eq_getElem hj⟩
  obtain ⟨cl, A, h1, h2⟩ := F.at q0 hv
  obtain ⟨T', h', X', e', W', st'⟩ := stI X hx hZ eT A (x := x) h1 (g := mkF m pc Ls (.int x :: .int j :: .ref a :: st)) (rest := st) rfl rfl hd
  exact ⟨T', h', X', e', W', st'⟩
theorem o_newI (X : Stand p l e R s m args below meth c T locs cells slots) (hx : p.tables.exec = Jvm.exec) (hZ : Z.Warmed39 s.vm) (w : (Jvm.Cond.arrayClass .int).before a0 Z = true) (eT : T.heap = h) {pc pc' : Nat} {Ls : Array Slot} {st : List Value} {n : Int32} (hd : decode c.code pc = .ok (.newarray .int, 2)) (hn : ¬ n < 0) (cap : Nat) (hcap : n.toNatClampNeg ≤ cap) (hb : cap * 8 ≤ 536870912) (hc : cells + 1 ≤ R.cells) (hl : slots + cap ≤ R.slots) (hp : pc + 2 = pc') :
    ∃ T' h', Stand p l e R s m args below meth c T' locs (cells + 1) (slots + cap) ∧ T'.heap = h' ∧ Ext h h' ∧ oInts Z h' h.size (List.replicate n.toNatClampNeg 0) ∧ ∀ t, Steps p.tables e below (T'.setTop (mkF m pc' Ls (.ref h.size :: st))) t → Steps p.tables e below (T.setTop (mkF m pc Ls (.int n :: st))) t := by
  subst hp
  obtain ⟨T', h', cA, X', e', E, A, st'⟩ := newP X hx hZ (aty := .int) w eT (g := mkF m pc Ls (.int n :: st)) rfl hd (n := n) (rest := st) rfl hn hcap hb hc hl
  have A' := oInts.new A hn
  exact ⟨T', h', X', e', E, A', st'⟩
end OwnKit
theorem d1_0 : decode jdk_29_method_69_code 0 = .ok (.iload_n 0, 1) := by decide +kernel
theorem d1_1 : decode jdk_29_method_69_code 1 = .ok (.iload_n 1, 1) := by decide +kernel
theorem d1_2 : decode jdk_29_method_69_code 2 = .ok (.if_icmp .gt 7, 3) := by decide +kernel
theorem d1_5 : decode jdk_29_method_69_code 5 = .ok (.iload_n 0, 1) := by decide +kernel
theorem d1_6 : decode jdk_29_method_69_code 6 = .ok (.goto 4, 3) := by decide +kernel
theorem d1_9 : decode jdk_29_method_69_code 9 = .ok (.iload_n 1, 1) := by decide +kernel
theorem d1_10 : decode jdk_29_method_69_code 10 = .ok (.ireturn, 1) := by decide +kernel
theorem ef_1 (m : MethodId) (x0 : Int32) (x1 : Int32) : entryFrame m #[(.int x0), (.int x1)] 2 = mkF m 0 #[.val (.int x0), .val (.int x1)] [] := by first | (simp [entryFrame, mkF, argsToLocals, Value.category]; done) | rfl
def spec1 (x0 : Int32) (x1 : Int32)  : Int32 := (if x1 < x0 then x1 else x0)
def room1 : Room := { frames := 0, cells := 0, slots := 0, locals := 0 }
set_option maxRecDepth 65536 in
set_option maxHeartbeats 40000000 in
theorem rm1 (l : Launch) (Z : State) (a0 : Array Value) (hw : ∀ d ∈ tables_1, d.before a0 Z = true) (x0 : Int32) (x1 : Int32)  (h0 : Heap) (n0 : Nat) (Z0 : n0 ≤ h0.size)  :
    oCon l Z (⟨"java/lang/Math", "min", "(II)I"⟩ : MethodName) jdk_29_method_69_code 2 (some .int) room1 #[(.int x0), (.int x1)] h0 (fun v h L => v = some (.int (spec1 x0 x1)) ∧ L = [] ∧ h = h0) := by
  refine oCon.of (by decide +kernel) ?_
  intro p e s m below meth c s₁ hx hby hml hown hnm hret hlk hZ X0 e0
  rw [ef_1 m x0 x1]
  have N0 := Fr.nil n0
  refine o_iloadN (pc' := 1) X0 hx (hb hby d1_0) rfl rfl ?_
  refine o_iloadN (pc' := 2) X0 hx (hb hby d1_1) rfl rfl ?_
  have J2 : ∀ (v3 : Int32), v3 = (if x1 < x0 then x1 else x0) → oGo p e below (oG s (fun v h L => v = some (.int (spec1 x0 x1)) ∧ L = [] ∧ h = h0) room1.cells room1.slots) s₁ (mkF m 10 #[.val (.int x0), .val (.int x1)] [(.int v3)]) := by
    intro v3 hv3
    refine o_retI X0 hx hret hlk (hb hby d1_10) (by decide) (by decide) ?_
    subst hv3
    exact ⟨congrArg (fun z => some (Value.int z)) (show _ = spec1 x0 x1  from (rfl).symm), rfl, e0⟩
  by_cases c1 : x1 < x0
  · refine o_icmpT (pc' := 9) X0 hx (hb hby d1_2) (XT.ii_gt_t c1) (by decide) (by decide) ?_
    refine o_iloadN (pc' := 10) X0 hx (hb hby d1_9) rfl rfl ?_
    exact J2 _ (if_pos c1).symm
  · refine o_icmpF (pc' := 5) X0 hx (hb hby d1_2) (XT.ii_gt_f c1) rfl ?_
    refine o_iloadN (pc' := 6) X0 hx (hb hby d1_5) rfl rfl ?_
    refine o_goto (pc' := 10) X0 hx (hb hby d1_6) (by decide) (by decide) ?_
    exact J2 _ (if_neg c1).symm
theorem d2_0 : decode jdk_29_method_65_code 0 = .ok (.iload_n 0, 1) := by decide +kernel
theorem d2_1 : decode jdk_29_method_65_code 1 = .ok (.iload_n 1, 1) := by decide +kernel
theorem d2_2 : decode jdk_29_method_65_code 2 = .ok (.if_icmp .lt 7, 3) := by decide +kernel
theorem d2_5 : decode jdk_29_method_65_code 5 = .ok (.iload_n 0, 1) := by decide +kernel
theorem d2_6 : decode jdk_29_method_65_code 6 = .ok (.goto 4, 3) := by decide +kernel
theorem d2_9 : decode jdk_29_method_65_code 9 = .ok (.iload_n 1, 1) := by decide +kernel
theorem d2_10 : decode jdk_29_method_65_code 10 = .ok (.ireturn, 1) := by decide +kernel
theorem ef_2 (m : MethodId) (x0 : Int32) (x1 : Int32) : entryFrame m #[(.int x0), (.int x1)] 2 = mkF m 0 #[.val (.int x0), .val (.int x1)] [] := by first | (simp [entryFrame, mkF, argsToLocals, Value.category]; done) | rfl
def spec2 (x0 : Int32) (x1 : Int32)  : Int32 := (if x0 < x1 then x1 else x0)
def room2 : Room := { frames := 0, cells := 0, slots := 0, locals := 0 }
set_option maxRecDepth 65536 in
set_option maxHeartbeats 40000000 in
theorem rm2 (l : Launch) (Z : State) (a0 : Array Value) (hw : ∀ d ∈ tables_1, d.before a0 Z = true) (x0 : Int32) (x1 : Int32)  (h0 : Heap) (n0 : Nat) (Z0 : n0 ≤ h0.size)  :
    oCon l Z (⟨"java/lang/Math", "max", "(II)I"⟩ : MethodName) jdk_29_method_65_code 2 (some .int) room2 #[(.int x0), (.int x1)] h0 (fun v h L => v = some (.int (spec2 x0 x1)) ∧ L = [] ∧ h = h0) := by
  refine oCon.of (by decide +kernel) ?_
  intro p e s m below meth c s₁ hx hby hml hown hnm hret hlk hZ X0 e0
  rw [ef_2 m x0 x1]
  have N0 := Fr.nil n0
  refine o_iloadN (pc' := 1) X0 hx (hb hby d2_0) rfl rfl ?_
  refine o_iloadN (pc' := 2) X0 hx (hb hby d2_1) rfl rfl ?_
  have J2 : ∀ (v3 : Int32), v3 = (if x0 < x1 then x1 else x0) → oGo p e below (oG s (fun v h L => v = some (.int (spec2 x0 x1)) ∧ L = [] ∧ h = h0) room2.cells room2.slots) s₁ (mkF m 10 #[.val (.int x0), .val (.int x1)] [(.int v3)]) := by
    intro v3 hv3
    refine o_retI X0 hx hret hlk (hb hby d2_10) (by decide) (by decide) ?_
    subst hv3
    exact ⟨congrArg (fun z => some (Value.int z)) (show _ = spec2 x0 x1  from (rfl).symm), rfl, e0⟩
  by_cases c1 : x0 < x1
  · refine o_icmpT (pc' := 9) X0 hx (hb hby d2_2) (XT.ii_lt_t c1) (by decide) (by decide) ?_
    refine o_iloadN (pc' := 10) X0 hx (hb hby d2_9) rfl rfl ?_
    exact J2 _ (if_pos c1).symm
  · refine o_icmpF (pc' := 5) X0 hx (hb hby d2_2) (XT.ii_lt_f c1) rfl ?_
    refine o_iloadN (pc' := 6) X0 hx (hb hby d2_5) rfl rfl ?_
    refine o_goto (pc' := 10) X0 hx (hb hby d2_6) (by decide) (by decide) ?_
    exact J2 _ (if_neg c1).symm
section OwnRefs
variable {p : Program} {l : Launch} {e : Env} {R : Room} {s : State} {m : MethodId} {args : Array Value} {below : List Frame} {meth : Method} {c : Code} {T : State} {locs : List Loc} {cells slots : Nat} {Z : State} {a0 : Array Value} {h : Heap} {G : Outcome → State → Prop}
def oRefs (Z : State) (h : Heap) (a : Addr) (vs : List Value) : Prop := ∃ c : Cell, Arr Z h a c (.array .int) ∧ OvrA Z c.cls .int "[I" ∧ c.slots = vs.toArray ∧ vs.length < 2 ^ 31
theorem oRefs.lt {a : Addr} {vs : List Value} (F : oRefs Z h a vs) : a < h.size := by obtain ⟨c, A, -⟩ := F; exact A.lt
theorem oRefs.keep {h' : Heap} {a : Addr} {vs : List Value} {ws : List Addr} (F : oRefs Z h a vs) (K : Keep h h' ws) (q : a ∉ ws) : oRefs Z h' a vs := by obtain ⟨c, A, r⟩ := F; exact ⟨c, ⟨K.2.1 a c A.1 q, A.2⟩, r⟩
theorem oRefs.set {h' : Heap} {a : Addr} {vs : List Value} {i : Nat} {v : Value} (F : oRefs Z h a vs) (W : Wr h h' a i v) : oRefs Z h' a (vs.set i v) := by
  obtain ⟨c, A, O, S, L⟩ := F
  refine ⟨_, A.same W, O, ?_, by simpa using L⟩
  simp [Cell.setSlot, S]
theorem oRefs.at {a : Addr} {vs : List Value} {j : Int32} {v : Value} (F : oRefs Z h a vs) (q : ¬ j < 0) (hj : vs[j.toNatClampNeg]? = some v) : ∃ c : Cell, Arr Z h a c (.array .int) ∧ OvrA Z c.cls .int "[I" ∧ ¬ (j < 0 ∨ c.slots.size ≤ j.toNatClampNeg) ∧ c.slots[j.toNatClampNeg]? = some v := by
  obtain ⟨c, A, O, S, L⟩ := F
  have hl : j.toNatClampNeg < vs.length := by
    rcases Nat.lt_or_ge j.toNatClampNeg vs.length with r | r
    · exact r
    · rw [List.getElem?_eq_none r] at hj; cases hj
  refine ⟨c, A, O, ?_, ?_⟩
  · rw [S]; simp only [List.size_toArray]; rintro (r | r)
    · exact q r
    · omega
  · rw [S]; simp [hj]
theorem o_rlen (X : Stand p l e R s m args below meth c T locs cells slots) (hx : p.tables.exec = Jvm.exec) (hZ : Z.Warmed39 s.vm) (eT : T.heap = h) {a : Addr} {vs : List Value} (F : oRefs Z h a vs) {pc pc' : Nat} {Ls : Array Slot} {st : List Value} (hd : decode c.code pc = .ok (.arraylength, 1)) (hp : pc + 1 = pc') (q : oGo p e below G T (mkF m pc' Ls (.int vs.length.toInt32 :: st))) : oGo p e below G T (mkF m pc Ls (.ref a :: st)) := by
  subst hp
  obtain ⟨cl, A, O, S, L⟩ := F
  refine q.step fun t r => X.arraylength (g := mkF m pc Ls (.ref a :: st)) (rest := st) hx (by rw [eT]; exact A.1) (State.isArrayOf_alike hZ.alike A.2.1) rfl rfl hd t ?_
  have : cl.slots.size = vs.length := by rw [S]; simp
  rw [this]; exact r
theorem o_aaload (X : Stand p l e R s m args below meth c T locs cells slots) (hx : p.tables.exec = Jvm.exec) (hZ : Z.Warmed39 s.vm) (eT : T.heap = h) {a : Addr} {vs : List Value} (F : oRefs Z h a vs) {pc pc' : Nat} {Ls : Array Slot} {st : List Value} {j : Int32} {v : Value} (hd : decode c.code pc = .ok (.aaload, 1)) (q0 : ¬ j < 0) (hj : vs[j.toNatClampNeg]? = some v) (hp : pc + 1 = pc') (q : oGo p e below G T (mkF m pc' Ls (v :: st))) : oGo p e below G T (mkF m pc Ls (.int j :: .ref a :: st)) := by
  subst hp
  obtain ⟨cl, A, O, h1, h2⟩ := F.at q0 hj
  exact q.step fun t r => X.aaload (g := mkF m pc Ls (.int j :: .ref a :: st)) (rest := st) hx (by rw [eT]; exact A.1) (State.isArrayOf_alike hZ.alike A.2.1) rfl A.2.2 h1 h2 rfl rfl hd t r
theorem o_aastore (X : Stand p l e R s m args below meth c T locs cells slots) (hx : p.tables.exec = Jvm.exec) (hZ : Z.Warmed39 s.vm) (eT : T.heap = h) {a y : Addr} {vs : List Value} (F : oRefs Z h a vs) (E : Exa Z h y "[I") {pc pc' : Nat} {Ls : Array Slot} {st : List Value} {j : Int32} (hd : decode c.code pc = .ok (.aastore, 1)) (q0 : ¬ j < 0) (hj : j.toNatClampNeg < vs.length) (hp : pc + 1 = pc') :
    ∃ T' h', Stand p l e R s m args below meth c T' (locs ++ [⟨a, j.toNatClampNeg⟩]) cells slots ∧ T'.heap = h' ∧ Wr h h' a j.toNatClampNeg (.ref y) ∧ ∀ t, Steps p.tables e below (T'.setTop (mkF m pc' Ls st)) t → Steps p.tables e below (T.setTop (mkF m pc Ls (.ref y :: .int j :: .ref a :: st))) t := by
  subst hp
  obtain ⟨v, hv⟩ : ∃ v, vs[j.toNatClampNeg]? = some v := ⟨_, List.getElem?_eq_getElem hj⟩
  obtain ⟨cl, A, O, h1, h2⟩ := F.at q0 hv
  obtain ⟨T', h', X', e', W', st'⟩ := stR X hx hZ eT A (v := .ref y) h1 rfl (Sto.ofVA A rfl O (Ins.self E)) (g := mkF m pc Ls (.ref y :: .int j :: .ref a :: st)) (rest := st) rfl rfl hd
  exact ⟨T', h', X', e', W', st'⟩
theorem o_anew (X : Stand p l e R s m args below meth c T locs cells slots) (hx : p.tables.exec = Jvm.exec) (hZ : Z.Warmed39 s.vm) {own : String} {index : Nat} (hown : s.vm.findClass own = some m.cls) (w1 : (Jvm.Cond.classLink own index "[I").before a0 Z = true) (w2 : (Jvm.Cond.arrayOver (.array .int)).before a0 Z = true) (eT : T.heap = h) {pc pc' : Nat} {Ls : Array Slot} {st : List Value} {n : Int32} (hd : decode c.code pc = .ok (.anewarray index, 3)) (hn : ¬ n < 0) (cap : Nat) (hcap : n.toNatClampNeg ≤ cap) (hb : cap * 8 ≤ 536870912) (hc : cells + 1 ≤ R.cells) (hl : slots + cap ≤ R.slots) (hp : pc + 3 = pc') :
    ∃ T' h', Stand p l e R s m args below meth c T' locs (cells + 1) (slots + cap) ∧ T'.heap = h' ∧ Ext h h' ∧ oRefs Z h' h.size (List.replicate n.toNatClampNeg .null) ∧ ∀ t, Steps p.tables e below (T'.setTop (mkF m pc' Ls (.ref h.size :: st))) t → Steps p.tables e below (T.setTop (mkF m pc Ls (.int n :: st))) t := by
  subst hp
  obtain ⟨T', h', cA, X', e', E, A, -, O, st'⟩ := newRA X hx hZ hown (ty := .int) (C := "[I") (by decide) w1 w2 eT (g := mkF m pc Ls (.int n :: st)) rfl hd (n := n) (rest := st) rfl hn hcap hb hc hl rfl
  refine ⟨T', h', X', e', E, ⟨_, A, O, ?_, ?_⟩, st'⟩
  · simp [newA, defaultValue]
  · have := n.toInt_lt; simp only [List.length_replicate]; have h2 : n.toInt = (n.toNatClampNeg : Int) := nat_of hn; omega
theorem o_newIE (X : Stand p l e R s m args below meth c T locs cells slots) (hx : p.tables.exec = Jvm.exec) (hZ : Z.Warmed39 s.vm) (w : (Jvm.Cond.arrayClass .int).before a0 Z = true) (eT : T.heap = h) {pc pc' : Nat} {Ls : Array Slot} {st : List Value} {n : Int32} (hd : decode c.code pc = .ok (.newarray .int, 2)) (hn : ¬ n < 0) (cap : Nat) (hcap : n.toNatClampNeg ≤ cap) (hb : cap * 8 ≤ 536870912) (hc : cells + 1 ≤ R.cells) (hl : slots + cap ≤ R.slots) (hp : pc + 2 = pc') :
    ∃ T' h', Stand p l e R s m args below meth c T' locs (cells + 1) (slots + cap) ∧ T'.heap = h' ∧ Ext h h' ∧ oInts Z h' h.size (List.replicate n.toNatClampNeg 0) ∧ Exa Z h' h.size "[I" ∧ ∀ t, Steps p.tables e below (T'.setTop (mkF m pc' Ls (.ref h.size :: st))) t → Steps p.tables e below (T.setTop (mkF m pc Ls (.int n :: st))) t := by
  subst hp
  obtain ⟨T', h', cA, X', e', E, A, Ex, st'⟩ := newPE X hx hZ (aty := .int) w eT (g := mkF m pc Ls (.int n :: st)) rfl hd (n := n) (rest := st) rfl hn hcap hb hc hl (ad := "[I") (by decide)
  have A' := oInts.new A hn
  exact ⟨T', h', X', e', E, A', Ex, st'⟩
end OwnRefs
def oI (x : Int32) (N : Nat) : Nat := (x % N.toInt32).toNatClampNeg
theorem own_len {N : Nat} (h : N < 2 ^ 31) : N.toInt32.toInt = N := len_toInt h
theorem own_nz {N : Nat} (h0 : 0 < N) (h : N < 2 ^ 31) : N.toInt32 ≠ 0 := fun q => by
  have h1 := own_len h; rw [q] at h1; have : (0 : Int32).toInt = 0 := rfl; omega
theorem own_mod {x : Int32} {N : Nat} (hx : ¬ x < 0) (h0 : 0 < N) (h : N < 2 ^ 31) : (¬ (x % N.toInt32) < 0) ∧ (x % N.toInt32).toInt = x.toInt % N ∧ oI x N < N ∧ (oI x N : Int) = x.toInt % N := by
  have hx' : 0 ≤ x.toInt := by rw [Int32.lt_iff_toInt_lt] at hx; have : (0 : Int32).toInt = 0 := rfl; omega
  have e1 : (x % N.toInt32).toInt = x.toInt % N := by rw [Int32.toInt_mod, own_len h]; exact Int.tmod_eq_emod_of_nonneg hx'
  have h2 : 0 ≤ x.toInt % (N : Int) := Int.emod_nonneg _ (by omega)
  have h3 : x.toInt % (N : Int) < N := Int.emod_lt_of_pos _ (by omega)
  have e2 : ¬ (x % N.toInt32) < 0 := by rw [Int32.lt_iff_toInt_lt, e1]; have : (0 : Int32).toInt = 0 := rfl; omega
  have e3 : (oI x N : Int) = x.toInt % N := by rw [← e1]; exact (nat_of e2).symm
  exact ⟨e2, e1, by omega, e3⟩
theorem own_getI {xs : List Int32} {x : Int32} {N : Nat} (hl : xs.length = N) (hx : ¬ x < 0) (h0 : 0 < N) (h : N < 2 ^ 31) : xs[(x % N.toInt32).toNatClampNeg]? = some (xs.getD (oI x N) 0) := by
  have := (own_mod hx h0 h).2.2.1
  show xs[oI x N]? = _
  rw [List.getD_eq_getElem?_getD, List.getElem?_eq_getElem (by omega)]; rfl
theorem own_getV {xs : List Value} {x : Int32} {N : Nat} (hl : xs.length = N) (hx : ¬ x < 0) (h0 : 0 < N) (h : N < 2 ^ 31) : xs[(x % N.toInt32).toNatClampNeg]? = some (xs.getD (oI x N) .null) := by
  have := (own_mod hx h0 h).2.2.1
  show xs[oI x N]? = _
  rw [List.getD_eq_getElem?_getD, List.getElem?_eq_getElem (by omega)]; rfl
theorem d3_0 : decode prog_47_method_1_code 0 = .ok (.aload_n 0, 1) := by decide +kernel
theorem d3_1 : decode prog_47_method_1_code 1 = .ok (.invokespecial 1, 3) := by decide +kernel
theorem d3_4 : decode prog_47_method_1_code 4 = .ok (.iconst 1, 1) := by decide +kernel
theorem d3_5 : decode prog_47_method_1_code 5 = .ok (.iload_n 1, 1) := by decide +kernel
theorem d3_6 : decode prog_47_method_1_code 6 = .ok (.iload_n 2, 1) := by decide +kernel
theorem d3_7 : decode prog_47_method_1_code 7 = .ok (.invokestatic 7, 3) := by decide +kernel
theorem d3_10 : decode prog_47_method_1_code 10 = .ok (.invokestatic 13, 3) := by decide +kernel
theorem d3_13 : decode prog_47_method_1_code 13 = .ok (.istore_n 3, 1) := by decide +kernel
theorem d3_14 : decode prog_47_method_1_code 14 = .ok (.aload_n 0, 1) := by decide +kernel
theorem d3_15 : decode prog_47_method_1_code 15 = .ok (.iload_n 3, 1) := by decide +kernel
theorem d3_16 : decode prog_47_method_1_code 16 = .ok (.anewarray 16, 3) := by decide +kernel
theorem d3_19 : decode prog_47_method_1_code 19 = .ok (.putfield 18, 3) := by decide +kernel
theorem d3_22 : decode prog_47_method_1_code 22 = .ok (.aload_n 0, 1) := by decide +kernel
theorem d3_23 : decode prog_47_method_1_code 23 = .ok (.iload_n 3, 1) := by decide +kernel
theorem d3_24 : decode prog_47_method_1_code 24 = .ok (.newarray .int, 2) := by decide +kernel
theorem d3_26 : decode prog_47_method_1_code 26 = .ok (.putfield 24, 3) := by decide +kernel
theorem d3_29 : decode prog_47_method_1_code 29 = .ok (.return_, 1) := by decide +kernel
theorem pn_3 : plainName "com/example/stratigraph/stratigraph/store/RecentLists" = true := by first | (simp [plainName, overriddenIn]; done) | decide +kernel
theorem ef_3 (m : MethodId) (a1 : Addr) (x1 x2 : Int32) : entryFrame m #[(.ref a1), (.int x1), (.int x2)] 4 = mkF m 0 #[.val (.ref a1), .val (.int x1), .val (.int x2), .unset] [] := by first | (simp [entryFrame, mkF, argsToLocals, Value.category]; done) | rfl
theorem pd0 : parseMethodDescriptor "(II)I" = some ⟨[.int, .int], (some .int)⟩ := by decide +kernel
def room3 : Room := { frames := 1, cells := 2, slots := 24, locals := 14 }
set_option maxRecDepth 65536 in
set_option maxHeartbeats 40000000 in
theorem rm3 (l : Launch) (Z : State) (a0 : Array Value) (hw : ∀ d ∈ tables_1, d.before a0 Z = true) (a1 : Addr) (x1 x2 : Int32) (h0 : Heap) (n0 : Nat) (Z0 : n0 ≤ h0.size) (E0 : Exa Z h0 a1 "com/example/stratigraph/stratigraph/store/RecentLists") (F_lists : Fld Z h0 a1 "com/example/stratigraph/stratigraph/store/RecentLists" "lists" "[[I" .null) (F_chains : Fld Z h0 a1 "com/example/stratigraph/stratigraph/store/RecentLists" "chains" "[I" .null) (ga : n0 ≤ a1) (hs0 : ¬ (spec2 (1 : Int32) (spec1 x1 x2)) < 0) (hs1 : ((spec2 (1 : Int32) (spec1 x1 x2))).toNatClampNeg ≤ 12) :
    oCon l Z (⟨"com/example/stratigraph/stratigraph/store/RecentLists", "<init>", "(II)V"⟩ : MethodName) prog_47_method_1_code 4 none room3 #[(.ref a1), (.int x1), (.int x2)] h0 (fun v h L => ∃ la ca, v = none ∧ Fr n0 L ∧ Keep h0 h [a1] ∧ Exa Z h a1 "com/example/stratigraph/stratigraph/store/RecentLists" ∧ Fld Z h a1 "com/example/stratigraph/stratigraph/store/RecentLists" "lists" "[[I" (.ref la) ∧ Fld Z h a1 "com/example/stratigraph/stratigraph/store/RecentLists" "chains" "[I" (.ref ca) ∧ oRefs Z h la (List.replicate ((spec2 (1 : Int32) (spec1 x1 x2))).toNatClampNeg Value.null) ∧ oInts Z h ca (List.replicate ((spec2 (1 : Int32) (spec1 x1 x2))).toNatClampNeg (0 : Int32)) ∧ n0 ≤ la ∧ n0 ≤ ca ∧ a1 ≠ la ∧ a1 ≠ ca ∧ la ≠ ca ∧ h0.size ≤ la ∧ h0.size ≤ ca) := by
  refine oCon.of (plainFor_of_name pn_3) ?_
  intro p e s m below meth c s₁ hx hby hml hown hnm hret hlk hZ X0 e0
  rw [ef_3 m a1 x1 x2]
  have N0 := Fr.nil n0
  have K0 := Keep.refl h0 [a1]
  refine o_aloadN (pc' := 1) X0 hx (hb hby d3_0) rfl rfl rfl ?_
  obtain ⟨T1, X1, e1, st1⟩ := initO X0 hx hZ hown (hw _ (List.mem_of_getElem? (i := 15) rfl)) (hw _ (List.mem_of_getElem? (i := 16) rfl)) (hw _ (List.mem_of_getElem? (i := 17) rfl)) e0 (g := (mkF m 1 #[.val (.ref a1), .val (.int x1), .val (.int x2), .unset] [(.ref a1)])) rfl (by rw [hml]; rfl) rfl (hb hby d3_1) (by decide) (W := 0) (by show 2 * 0 + _ ≤ _; exact Nat.le_of_eq rfl) (by decide)
  refine oGo.step (f' := (mkF m 4 #[.val (.ref a1), .val (.int x1), .val (.int x2), .unset] [])) st1 ?_
  refine o_iconst (pc' := 5) (v := (1 : Int32)) X1 hx (hb hby d3_4) rfl rfl ?_
  refine o_iloadN (pc' := 6) X1 hx (hb hby d3_5) rfl rfl ?_
  refine o_iloadN (pc' := 7) X1 hx (hb hby d3_6) rfl rfl ?_
  obtain ⟨r2, T2, L2, X2, hq2, st2⟩ := o_callS X1 hx hZ hown (hw _ (List.mem_of_getElem? (i := 18) rfl)) (hw _ (List.mem_of_getElem? (i := 1) rfl)) (hw _ (List.mem_of_getElem? (i := 2) rfl)) (hw _ (List.mem_of_getElem? (i := 3) rfl)) (by decide) (rm1 l Z a0 hw x1 x2  h0 n0 Z0 ) e1 (pc' := 10) (Ls := #[.val (.ref a1), .val (.int x1), .val (.int x2), .unset]) (by rw [hml]; rfl) [(.int x1), (.int x2)] [(.int (1 : Int32))] rfl pd0 rfl rfl 1 (Nat.le_of_eq rfl) (hb hby d3_7) rfl (by decide) (by decide) (by decide) (by decide)
  obtain ⟨rfl, rfl, Kc2⟩ := hq2
  refine oGo.step (f' := (mkF m 10 #[.val (.ref a1), .val (.int x1), .val (.int x2), .unset] [(.int (spec1 x1 x2)), (.int (1 : Int32))])) st2 ?_
  have e2 : T2.heap = h0 := Kc2
  have X2 := o_same X2 rfl rfl
  obtain ⟨r3, T3, L3, X3, hq3, st3⟩ := o_callS X2 hx hZ hown (hw _ (List.mem_of_getElem? (i := 19) rfl)) (hw _ (List.mem_of_getElem? (i := 5) rfl)) (hw _ (List.mem_of_getElem? (i := 2) rfl)) (hw _ (List.mem_of_getElem? (i := 6) rfl)) (by decide) (rm2 l Z a0 hw (1 : Int32) (spec1 x1 x2)  h0 n0 Z0 ) e2 (pc' := 13) (Ls := #[.val (.ref a1), .val (.int x1), .val (.int x2), .unset]) (by rw [hml]; rfl) [(.int (1 : Int32)), (.int (spec1 x1 x2))] [] rfl pd0 rfl rfl 0 (Nat.le_of_eq rfl) (hb hby d3_10) rfl (by decide) (by decide) (by decide) (by decide)
  obtain ⟨rfl, rfl, Kc3⟩ := hq3
  refine oGo.step (f' := (mkF m 13 #[.val (.ref a1), .val (.int x1), .val (.int x2), .unset] [(.int (spec2 (1 : Int32) (spec1 x1 x2)))])) st3 ?_
  have e3 : T3.heap = h0 := Kc3
  have X3 := o_same X3 rfl rfl
  refine o_istoreN (pc' := 14) (l' := #[.val (.ref a1), .val (.int x1), .val (.int x2), .val (.int (spec2 (1 : Int32) (spec1 x1 x2)))]) X3 hx (hb hby d3_13) rfl rfl ?_
  refine o_aloadN (pc' := 15) X3 hx (hb hby d3_14) rfl rfl rfl ?_
  refine o_iloadN (pc' := 16) X3 hx (hb hby d3_15) rfl rfl ?_
  obtain ⟨T4, h4_, X4, e4, E4, A4, st4⟩ := o_anew (Ls := #[.val (.ref a1), .val (.int x1), .val (.int x2), .val (.int (spec2 (1 : Int32) (spec1 x1 x2)))]) (st := [(.ref a1)]) (n := (spec2 (1 : Int32) (spec1 x1 x2))) X3 hx hZ hown (hw _ (List.mem_of_getElem? (i := 20) rfl)) (hw _ (List.mem_of_getElem? (i := 21) rfl)) e3 (hb hby d3_16) hs0 12 hs1 (by decide) (by decide) (by decide) rfl
  obtain ⟨b4, g4⟩ : ∃ z, z = h0.size := ⟨_, rfl⟩
  rw [← g4] at A4 st4
  have ne5 : a1 ≠ b4 := by rw [g4]; exact Nat.ne_of_lt E0.lt
  have ge6 : n0 ≤ b4 := by rw [g4]; exact Z0
  have ge7 : h0.size ≤ b4 := by rw [g4]; exact K0.1
  have K8 := (Keep.refl h0 []).ext E4
  have F9 := E0.keep K8
  have F10 := F_lists.keep K8 nin0
  have F11 := F_chains.keep K8 nin0
  have Z12 := Nat.le_trans Z0 K8.1
  have K13 := K0.trans K8 all0
  refine oGo.step (f' := (mkF m 19 #[.val (.ref a1), .val (.int x1), .val (.int x2), .val (.int (spec2 (1 : Int32) (spec1 x1 x2)))] [(.ref b4), (.ref a1)])) st4 ?_
  obtain ⟨T14, h14_, X14, e14, W14, st14⟩ := putF X4 hx hZ hown (host := "") (Or.inl (hw _ (List.mem_of_getElem? (i := 22) rfl))) Via.refl e4 F10 F9 (Or.inr ⟨(hw _ (List.mem_of_getElem? (i := 23) rfl)), rfl, hnm⟩) (hw _ (List.mem_of_getElem? (i := 10) rfl)) (ty := (.array (.array .int))) (by decide) rfl rfl (g := (mkF m 19 #[.val (.ref a1), .val (.int x1), .val (.int x2), .val (.int (spec2 (1 : Int32) (spec1 x1 x2)))] [(.ref b4), (.ref a1)])) rfl rfl (hb hby d3_19)
  refine oGo.step (f' := (mkF m 22 #[.val (.ref a1), .val (.int x1), .val (.int x2), .val (.int (spec2 (1 : Int32) (spec1 x1 x2)))] [])) st14 ?_
  have N14 := Fr.snoc X14 N0 ga
  have F15 := F9.wr W14
  have F16 := F10.same W14
  have F17 := F11.other W14 (Or.inr (slot_ne (Or.inr (hw _ (List.mem_of_getElem? (i := 26) rfl))) (Or.inr (hw _ (List.mem_of_getElem? (i := 23) rfl))) (by decide) (t := (.array .int)) (t' := (.array (.array .int))) (by decide) (by decide)))
  have F18 := A4.keep (Keep.of_wr W14) (ninS (Ne.symm ne5) nin0)
  have K19 := K13.wr W14 (Or.inl (List.mem_of_getElem? (i := 0) rfl))
  have Z20 := Nat.le_trans Z12 (Keep.of_wr W14).1
  refine o_aloadN (pc' := 23) X14 hx (hb hby d3_22) rfl rfl rfl ?_
  refine o_iloadN (pc' := 24) X14 hx (hb hby d3_23) rfl rfl ?_
  obtain ⟨T21, h21_, X21, e21, E21, A21, Y21, st21⟩ := o_newIE (Ls := #[.val (.ref a1), .val (.int x1), .val (.int x2), .val (.int (spec2 (1 : Int32) (spec1 x1 x2)))]) (st := [(.ref a1)]) (n := (spec2 (1 : Int32) (spec1 x1 x2))) X14 hx hZ (hw _ (List.mem_of_getElem? (i := 24) rfl)) e14 (hb hby d3_24) hs0 12 hs1 (by decide) (by decide) (by decide) rfl
  obtain ⟨b21, g21⟩ : ∃ z, z = h14_.size := ⟨_, rfl⟩
  rw [← g21] at A21 Y21 st21
  have ne22 : a1 ≠ b21 := by rw [g21]; exact Nat.ne_of_lt F15.lt
  have ne23 : b4 ≠ b21 := by rw [g21]; exact Nat.ne_of_lt F18.lt
  have ge24 : n0 ≤ b21 := by rw [g21]; exact Z20
  have ge25 : h0.size ≤ b21 := by rw [g21]; exact K19.1
  have K26 := (Keep.refl h14_ []).ext E21
  have F27 := F15.keep K26
  have F28 := F16.keep K26 nin0
  have F29 := F17.keep K26 nin0
  have F30 := F18.keep K26 nin0
  have Z31 := Nat.le_trans Z20 K26.1
  have K32 := K19.trans K26 all0
  refine oGo.step (f' := (mkF m 26 #[.val (.ref a1), .val (.int x1), .val (.int x2), .val (.int (spec2 (1 : Int32) (spec1 x1 x2)))] [(.ref b21), (.ref a1)])) st21 ?_
  obtain ⟨T33, h33_, X33, e33, W33, st33⟩ := putF X21 hx hZ hown (host := "") (Or.inl (hw _ (List.mem_of_getElem? (i := 25) rfl))) Via.refl e21 F29 F27 (Or.inr ⟨(hw _ (List.mem_of_getElem? (i := 26) rfl)), rfl, hnm⟩) (hw _ (List.mem_of_getElem? (i := 10) rfl)) (ty := (.array .int)) (by decide) rfl rfl (g := (mkF m 26 #[.val (.ref a1), .val (.int x1), .val (.int x2), .val (.int (spec2 (1 : Int32) (spec1 x1 x2)))] [(.ref b21), (.ref a1)])) rfl rfl (hb hby d3_26)
  refine oGo.step (f' := (mkF m 29 #[.val (.ref a1), .val (.int x1), .val (.int x2), .val (.int (spec2 (1 : Int32) (spec1 x1 x2)))] [])) st33 ?_
  have N33 := Fr.snoc X33 N14 ga
  have F34 := F27.wr W33
  have F35 := F28.other W33 (Or.inr (slot_ne (Or.inr (hw _ (List.mem_of_getElem? (i := 23) rfl))) (Or.inr (hw _ (List.mem_of_getElem? (i := 26) rfl))) (by decide) (t := (.array (.array .int))) (t' := (.array .int)) (by decide) (by decide)))
  have F36 := F29.same W33
  have F37 := F30.keep (Keep.of_wr W33) (ninS (Ne.symm ne5) nin0)
  have F38 := A21.keep (Keep.of_wr W33) (ninS (Ne.symm ne22) nin0)
  have F39 := Y21.wr W33
  have K40 := K32.wr W33 (Or.inl (List.mem_of_getElem? (i := 0) rfl))
  have Z41 := Nat.le_trans Z31 (Keep.of_wr W33).1
  refine o_retV X33 hx hret hlk (hb hby d3_29) (by decide) (by decide) ?_
  rw [e33]
  exact ⟨b4, b21, rfl, N33, K40, F34, F35, F36, F37, F38, ge6, ge24, ne5, ne22, ne23, ge7, ge25⟩
theorem d5_0 : decode prog_47_method_4_code 0 = .ok (.aload_n 0, 1) := by decide +kernel
theorem d5_1 : decode prog_47_method_4_code 1 = .ok (.getfield 18, 3) := by decide +kernel
theorem d5_4 : decode prog_47_method_4_code 4 = .ok (.iload_n 1, 1) := by decide +kernel
theorem d5_5 : decode prog_47_method_4_code 5 = .ok (.aload_n 0, 1) := by decide +kernel
theorem d5_6 : decode prog_47_method_4_code 6 = .ok (.getfield 18, 3) := by decide +kernel
theorem d5_9 : decode prog_47_method_4_code 9 = .ok (.arraylength, 1) := by decide +kernel
theorem d5_10 : decode prog_47_method_4_code 10 = .ok (.irem, 1) := by decide +kernel
theorem d5_11 : decode prog_47_method_4_code 11 = .ok (.aload_n 2, 1) := by decide +kernel
theorem d5_12 : decode prog_47_method_4_code 12 = .ok (.aastore, 1) := by decide +kernel
theorem d5_13 : decode prog_47_method_4_code 13 = .ok (.aload_n 0, 1) := by decide +kernel
theorem d5_14 : decode prog_47_method_4_code 14 = .ok (.getfield 24, 3) := by decide +kernel
theorem d5_17 : decode prog_47_method_4_code 17 = .ok (.iload_n 1, 1) := by decide +kernel
theorem d5_18 : decode prog_47_method_4_code 18 = .ok (.aload_n 0, 1) := by decide +kernel
theorem d5_19 : decode prog_47_method_4_code 19 = .ok (.getfield 24, 3) := by decide +kernel
theorem d5_22 : decode prog_47_method_4_code 22 = .ok (.arraylength, 1) := by decide +kernel
theorem d5_23 : decode prog_47_method_4_code 23 = .ok (.irem, 1) := by decide +kernel
theorem d5_24 : decode prog_47_method_4_code 24 = .ok (.iload_n 3, 1) := by decide +kernel
theorem d5_25 : decode prog_47_method_4_code 25 = .ok (.iastore, 1) := by decide +kernel
theorem d5_26 : decode prog_47_method_4_code 26 = .ok (.return_, 1) := by decide +kernel
theorem ef_5 (m : MethodId) (a1 : Addr) (x1 : Int32) (x2 : Addr) (x3 : Int32) : entryFrame m #[(.ref a1), (.int x1), (.ref x2), (.int x3)] 4 = mkF m 0 #[.val (.ref a1), .val (.int x1), .val (.ref x2), .val (.int x3)] [] := by first | (simp [entryFrame, mkF, argsToLocals, Value.category]; done) | rfl
def room5 : Room := { frames := 0, cells := 0, slots := 0, locals := 0 }
set_option maxRecDepth 65536 in
set_option maxHeartbeats 40000000 in
theorem rm5 (l : Launch) (Z : State) (a0 : Array Value) (hw : ∀ d ∈ tables_1, d.before a0 Z = true) (a1 : Addr) (x1 : Int32) (x2 : Addr) (x3 : Int32) (la ca : Addr) (vs : List Value) (xs : List Int32) (N : Nat) (h0 : Heap) (n0 : Nat) (Z0 : n0 ≤ h0.size) (E0 : Exa Z h0 a1 "com/example/stratigraph/stratigraph/store/RecentLists") (F_lists : Fld Z h0 a1 "com/example/stratigraph/stratigraph/store/RecentLists" "lists" "[[I" (.ref la)) (F_chains : Fld Z h0 a1 "com/example/stratigraph/stratigraph/store/RecentLists" "chains" "[I" (.ref ca)) (R0 : oRefs Z h0 la vs) (A0 : oInts Z h0 ca xs) (Y0 : Exa Z h0 x2 "[I") (lv : vs.length = N) (lx : xs.length = N) (N1 : 0 < N) (N2 : N < 2 ^ 31) (hx1 : ¬ x1 < 0) (ge_la : n0 ≤ la) (ge_ca : n0 ≤ ca) (ne_al : a1 ≠ la) (ne_ac : a1 ≠ ca) (ne_lc : la ≠ ca) :
    oCon l Z (⟨"com/example/stratigraph/stratigraph/store/RecentLists", "add", "(I[II)V"⟩ : MethodName) prog_47_method_4_code 4 none room5 #[(.ref a1), (.int x1), (.ref x2), (.int x3)] h0 (fun v h L => v = none ∧ Fr n0 L ∧ Keep h0 h [la, ca] ∧ oRefs Z h la (vs.set (oI x1 N) (.ref x2)) ∧ oInts Z h ca (xs.set (oI x1 N) x3)) := by
  refine oCon.of (plainFor_of_name pn_3) ?_
  intro p e s m below meth c s₁ hx hby hml hown hnm hret hlk hZ X0 e0
  rw [ef_5 m a1 x1 x2 x3]
  have N0 := Fr.nil n0
  have K0 := Keep.refl h0 [la, ca]
  refine o_aloadN (pc' := 1) X0 hx (hb hby d5_0) rfl rfl rfl ?_
  obtain ⟨T1, X1, e1, st1⟩ := getF X0 hx hZ hown (host := "") (Or.inl (hw _ (List.mem_of_getElem? (i := 22) rfl))) Via.refl e0 F_lists (g := (mkF m 1 #[.val (.ref a1), .val (.int x1), .val (.ref x2), .val (.int x3)] [(.ref a1)])) rfl rfl (hb hby d5_1)
  refine oGo.step (f' := (mkF m 4 #[.val (.ref a1), .val (.int x1), .val (.ref x2), .val (.int x3)] [(.ref la)])) st1 ?_
  refine o_iloadN (pc' := 5) X1 hx (hb hby d5_4) rfl rfl ?_
  refine o_aloadN (pc' := 6) X1 hx (hb hby d5_5) rfl rfl rfl ?_
  obtain ⟨T2, X2, e2, st2⟩ := getF X1 hx hZ hown (host := "") (Or.inl (hw _ (List.mem_of_getElem? (i := 22) rfl))) Via.refl e1 F_lists (g := (mkF m 6 #[.val (.ref a1), .val (.int x1), .val (.ref x2), .val (.int x3)] [(.ref a1), (.int x1), (.ref la)])) rfl rfl (hb hby d5_6)
  refine oGo.step (f' := (mkF m 9 #[.val (.ref a1), .val (.int x1), .val (.ref x2), .val (.int x3)] [(.ref la), (.int x1), (.ref la)])) st2 ?_
  refine o_rlen (pc' := 10) X2 hx hZ e2 R0 (hb hby d5_9) rfl ?_
  rw [lv]
  refine o_irem (pc' := 11) X2 hx (hb hby d5_10) (own_nz N1 N2) rfl ?_
  refine o_aloadN (pc' := 12) X2 hx (hb hby d5_11) rfl rfl rfl ?_
  obtain ⟨T3, h3_, X3, e3, W3, st3⟩ := o_aastore (Ls := #[.val (.ref a1), .val (.int x1), .val (.ref x2), .val (.int x3)]) (st := []) X2 hx hZ e2 R0 Y0 (hb hby d5_12) (own_mod hx1 N1 N2).1 (by rw [lv]; exact (own_mod hx1 N1 N2).2.2.1) rfl
  refine oGo.step (f' := (mkF m 13 #[.val (.ref a1), .val (.int x1), .val (.ref x2), .val (.int x3)] [])) st3 ?_
  have N3_ := Fr.snoc X3 N0 ge_la
  have F4 : oRefs Z h3_ la (vs.set (oI x1 N) (.ref x2)) := R0.set W3
  have K5 := Keep.of_wr W3
  have F6 := E0.keep K5
  have F7 := F_lists.keep K5 (ninS ne_al nin0)
  have F8 := F_chains.keep K5 (ninS ne_al nin0)
  have F9 := A0.keep K5 (ninS (Ne.symm ne_lc) nin0)
  have F10 := Y0.keep K5
  have Z11 := Nat.le_trans Z0 K5.1
  have K12 := K0.trans K5 (allS (Or.inl (List.mem_of_getElem? (i := 0) rfl)) all0)
  refine o_aloadN (pc' := 14) X3 hx (hb hby d5_13) rfl rfl rfl ?_
  obtain ⟨T13, X13, e13, st13⟩ := getF X3 hx hZ hown (host := "") (Or.inl (hw _ (List.mem_of_getElem? (i := 25) rfl))) Via.refl e3 F8 (g := (mkF m 14 #[.val (.ref a1), .val (.int x1), .val (.ref x2), .val (.int x3)] [(.ref a1)])) rfl rfl (hb hby d5_14)
  refine oGo.step (f' := (mkF m 17 #[.val (.ref a1), .val (.int x1), .val (.ref x2), .val (.int x3)] [(.ref ca)])) st13 ?_
  refine o_iloadN (pc' := 18) X13 hx (hb hby d5_17) rfl rfl ?_
  refine o_aloadN (pc' := 19) X13 hx (hb hby d5_18) rfl rfl rfl ?_
  obtain ⟨T14, X14, e14, st14⟩ := getF X13 hx hZ hown (host := "") (Or.inl (hw _ (List.mem_of_getElem? (i := 25) rfl))) Via.refl e13 F8 (g := (mkF m 19 #[.val (.ref a1), .val (.int x1), .val (.ref x2), .val (.int x3)] [(.ref a1), (.int x1), (.ref ca)])) rfl rfl (hb hby d5_19)
  refine oGo.step (f' := (mkF m 22 #[.val (.ref a1), .val (.int x1), .val (.ref x2), .val (.int x3)] [(.ref ca), (.int x1), (.ref ca)])) st14 ?_
  refine o_alen (pc' := 23) X14 hx hZ e14 F9 (hb hby d5_22) rfl ?_
  rw [lx]
  refine o_irem (pc' := 24) X14 hx (hb hby d5_23) (own_nz N1 N2) rfl ?_
  refine o_iloadN (pc' := 25) X14 hx (hb hby d5_24) rfl rfl ?_
  obtain ⟨T15, h15_, X15, e15, W15, st15⟩ := o_iastore (x := x3) (j := (x1 % (N.toInt32))) (Ls := #[.val (.ref a1), .val (.int x1), .val (.ref x2), .val (.int x3)]) (st := []) X14 hx hZ e14 F9 (hb hby d5_25) (own_mod hx1 N1 N2).1 (by rw [lx]; exact (own_mod hx1 N1 N2).2.2.1) rfl
  refine oGo.step (f' := (mkF m 26 #[.val (.ref a1), .val (.int x1), .val (.ref x2), .val (.int x3)] [])) st15 ?_
  have N15 := Fr.snoc X15 N3_ ge_ca
  have F16 := F9.set W15
  replace F16 : oInts Z h15_ ca (xs.set (oI x1 N) x3) := F16
  have K17 := Keep.of_wr W15
  have F18 := F6.keep K17
  have F19 := F7.keep K17 (ninS ne_ac nin0)
  have F20 := F8.keep K17 (ninS ne_ac nin0)
  have F21 := F10.keep K17
  have F22 := F4.keep K17 (ninS ne_lc nin0)
  have Z23 := Nat.le_trans Z11 K17.1
  have K24 := K12.trans K17 (allS (Or.inl (List.mem_of_getElem? (i := 1) rfl)) all0)
  refine o_retV X15 hx hret hlk (hb hby d5_26) (by decide) (by decide) ?_
  rw [e15]
  exact ⟨rfl, N15, K24, F22, F16⟩
theorem d6_0 : decode prog_47_method_3_code 0 = .ok (.iload_n 2, 1) := by decide +kernel
theorem d6_1 : decode prog_47_method_3_code 1 = .ok (.ifCond .ne 7, 3) := by decide +kernel
theorem d6_4 : decode prog_47_method_3_code 4 = .ok (.iconst 0, 1) := by decide +kernel
theorem d6_5 : decode prog_47_method_3_code 5 = .ok (.goto 19, 3) := by decide +kernel
theorem d6_8 : decode prog_47_method_3_code 8 = .ok (.aload_n 0, 1) := by decide +kernel
theorem d6_9 : decode prog_47_method_3_code 9 = .ok (.getfield 24, 3) := by decide +kernel
theorem d6_12 : decode prog_47_method_3_code 12 = .ok (.iload_n 1, 1) := by decide +kernel
theorem d6_13 : decode prog_47_method_3_code 13 = .ok (.iload_n 2, 1) := by decide +kernel
theorem d6_14 : decode prog_47_method_3_code 14 = .ok (.isub, 1) := by decide +kernel
theorem d6_15 : decode prog_47_method_3_code 15 = .ok (.aload_n 0, 1) := by decide +kernel
theorem d6_16 : decode prog_47_method_3_code 16 = .ok (.getfield 24, 3) := by decide +kernel
theorem d6_19 : decode prog_47_method_3_code 19 = .ok (.arraylength, 1) := by decide +kernel
theorem d6_20 : decode prog_47_method_3_code 20 = .ok (.irem, 1) := by decide +kernel
theorem d6_21 : decode prog_47_method_3_code 21 = .ok (.iaload, 1) := by decide +kernel
theorem d6_22 : decode prog_47_method_3_code 22 = .ok (.iconst 1, 1) := by decide +kernel
theorem d6_23 : decode prog_47_method_3_code 23 = .ok (.iadd, 1) := by decide +kernel
theorem d6_24 : decode prog_47_method_3_code 24 = .ok (.ireturn, 1) := by decide +kernel
theorem ef6 (m : MethodId) (a1 : Addr) (x1 : Int32) (x2 : Int32) : entryFrame m #[(.ref a1), (.int x1), (.int x2)] 3 = mkF m 0 #[.val (.ref a1), .val (.int x1), .val (.int x2)] [] := by first | (simp [entryFrame, mkF, argsToLocals, Value.category]; done) | rfl
def spec6 (x1 : Int32) (x2 : Int32) (xs : List Int32) (N : Nat) : Int32 := (if x2 = 0 then (0 : Int32) else ((xs.getD (oI (x1 - x2) N) 0) + (1 : Int32)))
def room6 : Room := { frames := 0, cells := 0, slots := 0, locals := 0 }
set_option maxRecDepth 65536 in
set_option maxHeartbeats 40000000 in
theorem rm6 (l : Launch) (Z : State) (a0 : Array Value) (hw : ∀ d ∈ tables_1, d.before a0 Z = true) (a1 : Addr) (x1 : Int32) (x2 : Int32) (ca : Addr) (xs : List Int32) (N : Nat) (h0 : Heap) (n0 : Nat) (Z0 : n0 ≤ h0.size) (E0 : Exa Z h0 a1 "com/example/stratigraph/stratigraph/store/RecentLists") (F_chains : Fld Z h0 a1 "com/example/stratigraph/stratigraph/store/RecentLists" "chains" "[I" (.ref ca)) (A0 : oInts Z h0 ca xs) (lx : xs.length = N) (N1 : 0 < N) (N2 : N < 2 ^ 31) (hx1 : ¬ x2 = 0 → ¬ (x1 - x2) < 0) :
    oCon l Z (⟨"com/example/stratigraph/stratigraph/store/RecentLists", "chain", "(II)I"⟩ : MethodName) prog_47_method_3_code 3 (some .int) room6 #[(.ref a1), (.int x1), (.int x2)] h0 (fun v h L => v = some (.int (spec6 x1 x2 xs N)) ∧ L = [] ∧ h = h0) := by
  refine oCon.of (plainFor_of_name pn_3) ?_
  intro p e s m below meth c s₁ hx hby hml hown hnm hret hlk hZ X0 e0
  rw [ef6 m a1 x1 x2]
  have N0 := Fr.nil n0
  refine o_iloadN (pc' := 1) X0 hx (hb hby d6_0) rfl rfl ?_
  have J2 : ∀ (T6 : State) (X6 : Stand p l e room6 s m #[(.ref a1), (.int x1), (.int x2)] below meth c T6 [] (0) (0)) (e6 : T6.heap = h0) (v5 : Int32), v5 = (if x2 = 0 then (0 : Int32) else ((xs.getD (oI (x1 - x2) N) 0) + (1 : Int32))) → oGo p e below (oG s (fun v h L => v = some (.int (spec6 x1 x2 xs N)) ∧ L = [] ∧ h = h0) room6.cells room6.slots) T6 (mkF m 24 #[.val (.ref a1), .val (.int x1), .val (.int x2)] [(.int v5)]) := by
    intro T6 X6 e6 v5 hv5
    refine o_retI X6 hx hret hlk (hb hby d6_24) (by decide) (by decide) ?_
    subst hv5
    exact ⟨rfl, rfl, e6⟩
  by_cases c1 : x2 = 0
  · refine o_ifF (pc' := 4) X0 hx (hb hby d6_1) (XT.i0_ne_f c1) rfl ?_
    refine o_iconst (pc' := 5) (v := (0 : Int32)) X0 hx (hb hby d6_4) rfl rfl ?_
    refine o_goto (pc' := 24) X0 hx (hb hby d6_5) (by decide) (by decide) ?_
    exact J2 s₁ X0 e0 _ (if_pos c1).symm
  · refine o_ifT (pc' := 8) X0 hx (hb hby d6_1) (XT.i0_ne_t c1) (by decide) (by decide) ?_
    refine o_aloadN (pc' := 9) X0 hx (hb hby d6_8) rfl rfl rfl ?_
    obtain ⟨T3, X3, e3, st3⟩ := getF X0 hx hZ hown (host := "") (Or.inl (hw _ (List.mem_of_getElem? (i := 25) rfl))) Via.refl e0 F_chains (g := (mkF m 9 #[.val (.ref a1), .val (.int x1), .val (.int x2)] [(.ref a1)])) rfl rfl (hb hby d6_9)
    refine oGo.step (f' := (mkF m 12 #[.val (.ref a1), .val (.int x1), .val (.int x2)] [(.ref ca)])) st3 ?_
    refine o_iloadN (pc' := 13) X3 hx (hb hby d6_12) rfl rfl ?_
    refine o_iloadN (pc' := 14) X3 hx (hb hby d6_13) rfl rfl ?_
    refine o_isub (pc' := 15) X3 hx (hb hby d6_14)  rfl ?_
    refine o_aloadN (pc' := 16) X3 hx (hb hby d6_15) rfl rfl rfl ?_
    obtain ⟨T4, X4, e4, st4⟩ := getF X3 hx hZ hown (host := "") (Or.inl (hw _ (List.mem_of_getElem? (i := 25) rfl))) Via.refl e3 F_chains (g := (mkF m 16 #[.val (.ref a1), .val (.int x1), .val (.int x2)] [(.ref a1), (.int (x1 - x2)), (.ref ca)])) rfl rfl (hb hby d6_16)
    refine oGo.step (f' := (mkF m 19 #[.val (.ref a1), .val (.int x1), .val (.int x2)] [(.ref ca), (.int (x1 - x2)), (.ref ca)])) st4 ?_
    refine o_alen (pc' := 20) X4 hx hZ e4 A0 (hb hby d6_19) rfl ?_
    rw [lx]
    refine o_irem (pc' := 21) X4 hx (hb hby d6_20) (own_nz N1 N2) rfl ?_
    refine o_iaload (pc' := 22) (v := (xs.getD (oI (x1 - x2) N) 0)) X4 hx hZ e4 A0 (hb hby d6_21) (own_mod (hx1 c1) N1 N2).1 (own_getI lx (hx1 c1) N1 N2) rfl ?_
    refine o_iconst (pc' := 23) (v := (1 : Int32)) X4 hx (hb hby d6_22) rfl rfl ?_
    refine o_iadd (pc' := 24) X4 hx (hb hby d6_23)  rfl ?_
    exact J2 T4 X4 e4 _ (if_neg c1).symm
theorem own_gs {α : Type} {vs : List α} {i : Nat} {v d : α} (h : i < vs.length) : (vs.set i v).getD i d = v := by
  rw [List.getD_eq_getElem?_getD, List.getElem?_set_self h]; rfl
theorem own_gsn {α : Type} {vs : List α} {i j : Nat} {v d : α} (h : i ≠ j) : (vs.set i v).getD j d = vs.getD j d := by
  rw [List.getD_eq_getElem?_getD, List.getD_eq_getElem?_getD, List.getElem?_set_ne h]
theorem own_chain {xs : List Int32} {i : Nat} {r v : Int32} (hr : ¬ r = 0) (h : xs.getD i 0 = v) : (if r = 0 then (0 : Int32) else (xs.getD i 0 + (1 : Int32))) = v + (1 : Int32) := by
  rw [if_neg hr, h]
theorem own_add {x y : Int32} (h1 : 0 ≤ x.toInt) (h2 : 0 ≤ y.toInt) (h3 : x.toInt + y.toInt < 2147483648) : (x + y).toInt = x.toInt + y.toInt := by
  have := c_iadd x y; have := rng32 (x + y); omega
theorem own_sub {x y : Int32} (h1 : 0 ≤ x.toInt) (h2 : 0 ≤ y.toInt) (h3 : y.toInt ≤ x.toInt) : (x - y).toInt = x.toInt - y.toInt := by
  have := c_isub x y; have := rng32 (x - y); have := rng32 x; omega
theorem own_nlt {x : Int32} (h : 0 ≤ x.toInt) : ¬ x < 0 := by rw [Int32.lt_iff_toInt_lt]; have : (0 : Int32).toInt = 0 := rfl; omega
theorem own_ge {x : Int32} (h : ¬ x < 0) : 0 ≤ x.toInt := by rw [Int32.lt_iff_toInt_lt] at h; have : (0 : Int32).toInt = 0 := rfl; omega
theorem own_ie {x y : Int32} {N : Nat} (hx : ¬ x < 0) (hy : ¬ y < 0) (h0 : 0 < N) (h : N < 2 ^ 31) (q : x.toInt % N = y.toInt % N) : oI x N = oI y N := by
  have := (own_mod hx h0 h).2.2.2; have := (own_mod hy h0 h).2.2.2; omega
theorem own_span (x0 x1 : Int32) : (¬ (spec2 (1 : Int32) (spec1 (x0 &&& (7 : Int32)) (x1 &&& (7 : Int32)))) < 0) ∧ ((spec2 (1 : Int32) (spec1 (x0 &&& (7 : Int32)) (x1 &&& (7 : Int32))))).toNatClampNeg ≤ 12 ∧ 0 < ((spec2 (1 : Int32) (spec1 (x0 &&& (7 : Int32)) (x1 &&& (7 : Int32))))).toNatClampNeg := by
  have h1 := c_mask x0 7 3 (by decide) (by decide)
  have h2 := c_mask x1 7 3 (by decide) (by decide)
  generalize x0 &&& (7 : Int32) = a at *
  generalize x1 &&& (7 : Int32) = b at *
  have o1 : (1 : Int32).toInt = 1 := rfl
  have k : (spec2 (1 : Int32) (spec1 a b)).toInt = max 1 (min a.toInt b.toInt) := by
    unfold spec2 spec1; (repeat' split) <;> rename_i h <;> simp only [Int32.lt_iff_toInt_lt] at * <;> omega
  have g0 : ¬ (spec2 (1 : Int32) (spec1 a b)) < 0 := own_nlt (by omega)
  have n := nat_of g0
  exact ⟨g0, by omega, by omega⟩
theorem own_ref (x3 s : Int32) : ∀ r : Int32, r = (if ((x3 &&& (2147483647 : Int32)) % (3 : Int32)) = (2 : Int32) then (if s < (2 : Int32) then (1 : Int32) else ((x3 &&& (2147483647 : Int32)) % (3 : Int32))) else ((x3 &&& (2147483647 : Int32)) % (3 : Int32))) → r = 0 ∨ r = 1 ∨ (r = 2 ∧ ¬ s < 2) := by
  intro r hr
  have h1 := c_mask x3 2147483647 31 (by decide) (by decide)
  have h2 := (c_irem (x3 &&& (2147483647 : Int32)) 3 3 rfl).1 (by omega)
  generalize ((x3 &&& (2147483647 : Int32)) % (3 : Int32)) = u at *
  have o0 : (0 : Int32).toInt = 0 := rfl
  have o1 : (1 : Int32).toInt = 1 := rfl
  have o2 : (2 : Int32).toInt = 2 := rfl
  by_cases q : u = 2
  · rw [if_pos q] at hr
    by_cases w : s < 2
    · rw [if_pos w] at hr; exact Or.inr (Or.inl hr)
    · rw [if_neg w, q] at hr; exact Or.inr (Or.inr ⟨hr, w⟩)
  · rw [if_neg q] at hr
    simp only [← Int32.toInt_inj] at *
    omega
theorem own_base (x : Int32) : 0 ≤ (x &&& (1073741823 : Int32)).toInt ∧ (x &&& (1073741823 : Int32)).toInt < 1073741824 := by
  have h1 := c_mask x 1073741823 30 (by decide) (by decide)
  omega
theorem own_ne {b s : Int32} {N : Nat} (hb0 : ¬ b < 0) (hb1 : ¬ (b + 1) < 0) (e : (b + 1).toInt = b.toInt + (1 : Int32).toInt) (hN : N = s.toNatClampNeg) (hs : ¬ s < 0) (h2 : ¬ s < 2) (N2 : N < 2 ^ 31) : oI (b + 1) N ≠ oI b N := by
  have n := nat_of hs
  have o1 : (1 : Int32).toInt = 1 := rfl
  have o2 : (2 : Int32).toInt = 2 := rfl
  rw [Int32.lt_iff_toInt_lt] at h2
  have N3 : 2 ≤ N := by omega
  have k0 := (own_mod hb0 (by omega) N2).2.2.2
  have k1 := (own_mod hb1 (by omega) N2).2.2.2
  rw [e, o1] at k1
  intro q
  rw [q, k0] at k1
  have a := Int.emod_emod_of_dvd b.toInt (Int.dvd_refl (N : Int))
  have d1 := Int.emod_add_mul_ediv b.toInt N
  have d2 := Int.emod_add_mul_ediv (b.toInt + 1) N
  have d3 : (N : Int) * ((b.toInt + 1) / N - b.toInt / N) = 1 := by rw [Int.mul_sub]; omega
  have d4 : (N : Int) ∣ 1 := ⟨_, d3.symm⟩
  have := Int.le_of_dvd (by decide) d4
  omega
theorem pn_0 : plainName "com/example/stratigraph/stratigraph/store/RecentListsChainPinLaw" = true := by first | (simp [plainName, overriddenIn]; done) | decide +kernel
theorem ef_0 (m : MethodId) (x0 : Int32) (x1 : Int32) (x2 : Int32) (x3 : Int32) (x4 : Int32) (x5 : Int32) : entryFrame m #[(.int x0), (.int x1), (.int x2), (.int x3), (.int x4), (.int x5)] maxLocals = mkF m 0 #[.val (.int x0), .val (.int x1), .val (.int x2), .val (.int x3), .val (.int x4), .val (.int x5), .unset, .unset, .unset, .unset, .unset, .unset, .unset, .unset] [] := by first | (simp [entryFrame, mkF, argsToLocals, Value.category, maxLocals]; done) | rfl
theorem pd1 : parseMethodDescriptor "(II)V" = some ⟨[.int, .int], none⟩ := by decide +kernel
theorem pd2 : parseMethodDescriptor "(I[II)V" = some ⟨[.int, (.array .int), .int], none⟩ := by decide +kernel

set_option maxRecDepth 65536 in
set_option maxHeartbeats 40000000 in
theorem rm0 (l : Launch) (Z : State) (a0 : Array Value) (hw : ∀ d ∈ tables_1, d.before a0 Z = true) (x0 : Int32) (x1 : Int32) (x2 : Int32) (x3 : Int32) (x4 : Int32) (x5 : Int32) (h0 : Heap) (n0 : Nat) (Z0 : n0 ≤ h0.size)  :
    oCon l Z x code maxLocals ret room_1 #[(.int x0), (.int x1), (.int x2), (.int x3), (.int x4), (.int x5)] h0 (fun v h L => v = some (.int 1) ∧ Fr n0 L) := by
  refine oCon.of (plainFor_of_name pn_0) ?_
  intro p e s m below meth c s₁ hx hby hml hown hnm hret hlk hZ X0 e0
  replace hml : c.maxLocals = 14 := hml
  rw [ef_0 m x0 x1 x2 x3 x4 x5]
  have N0 := Fr.nil n0
  refine o_iloadN (pc' := 1) X0 hx (hb hby at_0) rfl rfl ?_
  refine o_bipush (pc' := 3) (v := (7 : Int32)) X0 hx (hb hby at_1) rfl rfl ?_
  refine o_iand (pc' := 4) X0 hx (hb hby at_3)  rfl ?_
  refine o_istore (pc' := 6) (l' := #[.val (.int x0), .val (.int x1), .val (.int x2), .val (.int x3), .val (.int x4), .val (.int x5), .val (.int (x0 &&& (7 : Int32))), .unset, .unset, .unset, .unset, .unset, .unset, .unset]) X0 hx (hb hby at_4) rfl rfl ?_
  refine o_iloadN (pc' := 7) X0 hx (hb hby at_6) rfl rfl ?_
  refine o_bipush (pc' := 9) (v := (7 : Int32)) X0 hx (hb hby at_7) rfl rfl ?_
  refine o_iand (pc' := 10) X0 hx (hb hby at_9)  rfl ?_
  refine o_istore (pc' := 12) (l' := #[.val (.int x0), .val (.int x1), .val (.int x2), .val (.int x3), .val (.int x4), .val (.int x5), .val (.int (x0 &&& (7 : Int32))), .val (.int (x1 &&& (7 : Int32))), .unset, .unset, .unset, .unset, .unset, .unset]) X0 hx (hb hby at_10) rfl rfl ?_
  refine o_iconst (pc' := 13) (v := (1 : Int32)) X0 hx (hb hby at_12) rfl rfl ?_
  refine o_iload (pc' := 15) X0 hx (hb hby at_13) rfl rfl ?_
  refine o_iload (pc' := 17) X0 hx (hb hby at_15) rfl rfl ?_
  obtain ⟨r1, T1, L1, X1, hq1, st1⟩ := o_callS X0 hx hZ hown (hw _ (List.mem_of_getElem? (i := 0) rfl)) (hw _ (List.mem_of_getElem? (i := 1) rfl)) (hw _ (List.mem_of_getElem? (i := 2) rfl)) (hw _ (List.mem_of_getElem? (i := 3) rfl)) (by decide) (rm1 l Z a0 hw (x0 &&& (7 : Int32)) (x1 &&& (7 : Int32))  h0 n0 Z0 ) e0 (pc' := 20) (Ls := #[.val (.int x0), .val (.int x1), .val (.int x2), .val (.int x3), .val (.int x4), .val (.int x5), .val (.int (x0 &&& (7 : Int32))), .val (.int (x1 &&& (7 : Int32))), .unset, .unset, .unset, .unset, .unset, .unset]) (by rw [hml]; rfl) [(.int (x0 &&& (7 : Int32))), (.int (x1 &&& (7 : Int32)))] [(.int (1 : Int32))] rfl pd0 rfl rfl 1 (Nat.le_of_eq rfl) (hb hby at_17) rfl (by decide) (by decide) (by decide) (by decide)
  obtain ⟨rfl, rfl, Kc1⟩ := hq1
  refine oGo.step (f' := (mkF m 20 #[.val (.int x0), .val (.int x1), .val (.int x2), .val (.int x3), .val (.int x4), .val (.int x5), .val (.int (x0 &&& (7 : Int32))), .val (.int (x1 &&& (7 : Int32))), .unset, .unset, .unset, .unset, .unset, .unset] [(.int (spec1 (x0 &&& (7 : Int32)) (x1 &&& (7 : Int32)))), (.int (1 : Int32))])) st1 ?_
  have e1 : T1.heap = h0 := Kc1
  have X1 := o_same X1 rfl rfl
  obtain ⟨r2, T2, L2, X2, hq2, st2⟩ := o_callS X1 hx hZ hown (hw _ (List.mem_of_getElem? (i := 4) rfl)) (hw _ (List.mem_of_getElem? (i := 5) rfl)) (hw _ (List.mem_of_getElem? (i := 2) rfl)) (hw _ (List.mem_of_getElem? (i := 6) rfl)) (by decide) (rm2 l Z a0 hw (1 : Int32) (spec1 (x0 &&& (7 : Int32)) (x1 &&& (7 : Int32)))  h0 n0 Z0 ) e1 (pc' := 23) (Ls := #[.val (.int x0), .val (.int x1), .val (.int x2), .val (.int x3), .val (.int x4), .val (.int x5), .val (.int (x0 &&& (7 : Int32))), .val (.int (x1 &&& (7 : Int32))), .unset, .unset, .unset, .unset, .unset, .unset]) (by rw [hml]; rfl) [(.int (1 : Int32)), (.int (spec1 (x0 &&& (7 : Int32)) (x1 &&& (7 : Int32))))] [] rfl pd0 rfl rfl 0 (Nat.le_of_eq rfl) (hb hby at_20) rfl (by decide) (by decide) (by decide) (by decide)
  obtain ⟨rfl, rfl, Kc2⟩ := hq2
  refine oGo.step (f' := (mkF m 23 #[.val (.int x0), .val (.int x1), .val (.int x2), .val (.int x3), .val (.int x4), .val (.int x5), .val (.int (x0 &&& (7 : Int32))), .val (.int (x1 &&& (7 : Int32))), .unset, .unset, .unset, .unset, .unset, .unset] [(.int (spec2 (1 : Int32) (spec1 (x0 &&& (7 : Int32)) (x1 &&& (7 : Int32)))))])) st2 ?_
  have e2 : T2.heap = h0 := Kc2
  have X2 := o_same X2 rfl rfl
  refine o_istore (pc' := 25) (l' := #[.val (.int x0), .val (.int x1), .val (.int x2), .val (.int x3), .val (.int x4), .val (.int x5), .val (.int (x0 &&& (7 : Int32))), .val (.int (x1 &&& (7 : Int32))), .val (.int (spec2 (1 : Int32) (spec1 (x0 &&& (7 : Int32)) (x1 &&& (7 : Int32))))), .unset, .unset, .unset, .unset, .unset]) X2 hx (hb hby at_23) rfl rfl ?_
  refine o_iloadN (pc' := 26) X2 hx (hb hby at_25) rfl rfl ?_
  refine o_ldc (pc' := 28) (v := (1073741823 : Int32)) X2 hx hZ hown (hw _ (List.mem_of_getElem? (i := 7) rfl)) (hb hby at_26) rfl ?_
  refine o_iand (pc' := 29) X2 hx (hb hby at_28)  rfl ?_
  refine o_istore (pc' := 31) (l' := #[.val (.int x0), .val (.int x1), .val (.int x2), .val (.int x3), .val (.int x4), .val (.int x5), .val (.int (x0 &&& (7 : Int32))), .val (.int (x1 &&& (7 : Int32))), .val (.int (spec2 (1 : Int32) (spec1 (x0 &&& (7 : Int32)) (x1 &&& (7 : Int32))))), .val (.int (x2 &&& (1073741823 : Int32))), .unset, .unset, .unset, .unset]) X2 hx (hb hby at_29) rfl rfl ?_
  refine o_iloadN (pc' := 32) X2 hx (hb hby at_31) rfl rfl ?_
  refine o_ldc (pc' := 34) (v := (2147483647 : Int32)) X2 hx hZ hown (hw _ (List.mem_of_getElem? (i := 8) rfl)) (hb hby at_32) rfl ?_
  refine o_iand (pc' := 35) X2 hx (hb hby at_34)  rfl ?_
  refine o_iconst (pc' := 36) (v := (3 : Int32)) X2 hx (hb hby at_35) rfl rfl ?_
  refine o_irem (pc' := 37) X2 hx (hb hby at_36) (by decide) rfl ?_
  refine o_istore (pc' := 39) (l' := #[.val (.int x0), .val (.int x1), .val (.int x2), .val (.int x3), .val (.int x4), .val (.int x5), .val (.int (x0 &&& (7 : Int32))), .val (.int (x1 &&& (7 : Int32))), .val (.int (spec2 (1 : Int32) (spec1 (x0 &&& (7 : Int32)) (x1 &&& (7 : Int32))))), .val (.int (x2 &&& (1073741823 : Int32))), .val (.int ((x3 &&& (2147483647 : Int32)) % (3 : Int32))), .unset, .unset, .unset]) X2 hx (hb hby at_37) rfl rfl ?_
  refine o_iload (pc' := 41) X2 hx (hb hby at_39) rfl rfl ?_
  refine o_iconst (pc' := 42) (v := (2 : Int32)) X2 hx (hb hby at_41) rfl rfl ?_
  have J4 : ∀ (v6 : Int32), v6 = (if ((x3 &&& (2147483647 : Int32)) % (3 : Int32)) = (2 : Int32) then (if (spec2 (1 : Int32) (spec1 (x0 &&& (7 : Int32)) (x1 &&& (7 : Int32)))) < (2 : Int32) then (1 : Int32) else ((x3 &&& (2147483647 : Int32)) % (3 : Int32))) else ((x3 &&& (2147483647 : Int32)) % (3 : Int32))) → oGo p e below (oG s (fun v h L => v = some (.int 1) ∧ Fr n0 L) room_1.cells room_1.slots) T2 (mkF m 54 #[.val (.int x0), .val (.int x1), .val (.int x2), .val (.int x3), .val (.int x4), .val (.int x5), .val (.int (x0 &&& (7 : Int32))), .val (.int (x1 &&& (7 : Int32))), .val (.int (spec2 (1 : Int32) (spec1 (x0 &&& (7 : Int32)) (x1 &&& (7 : Int32))))), .val (.int (x2 &&& (1073741823 : Int32))), .val (.int v6), .unset, .unset, .unset] []) := by
    intro v6 hv6
    obtain ⟨hs0, hs1, hs2⟩ := own_span x0 x1
    have hB0 := own_base x2
    have o1 : (1 : Int32).toInt = 1 := rfl
    have o2 : (2 : Int32).toInt = 2 := rfl
    have eb1 := own_add (x := (x2 &&& (1073741823 : Int32))) (y := 1) (by omega) (by omega) (by omega)
    have eb2 := own_add (x := (x2 &&& (1073741823 : Int32))) (y := 2) (by omega) (by omega) (by omega)
    have hb0 : ¬ (x2 &&& (1073741823 : Int32)) < 0 := own_nlt (by omega)
    have hb1 : ¬ ((x2 &&& (1073741823 : Int32)) + (1 : Int32)) < 0 := own_nlt (by omega)
    rcases own_ref x3 (spec2 (1 : Int32) (spec1 (x0 &&& (7 : Int32)) (x1 &&& (7 : Int32)))) v6 hv6 with hr | hr | ⟨hr, hsp⟩
    · subst hr
      obtain ⟨T7, h7_, X7, e7, E7, A7, D7, -, st7⟩ := newO X2 hx hZ hown (hw _ (List.mem_of_getElem? (i := 9) rfl)) (hw _ (List.mem_of_getElem? (i := 10) rfl)) (hw _ (List.mem_of_getElem? (i := 11) rfl)) e2 (g := (mkF m 54 #[.val (.int x0), .val (.int x1), .val (.int x2), .val (.int x3), .val (.int x4), .val (.int x5), .val (.int (x0 &&& (7 : Int32))), .val (.int (x1 &&& (7 : Int32))), .val (.int (spec2 (1 : Int32) (spec1 (x0 &&& (7 : Int32)) (x1 &&& (7 : Int32))))), .val (.int (x2 &&& (1073741823 : Int32))), .val (.int (0 : Int32)), .unset, .unset, .unset] [])) rfl (hb hby at_54) (by decide) (by decide)
      obtain ⟨b7, g7⟩ : ∃ z, z = h0.size := ⟨_, rfl⟩
      rw [← g7] at A7 D7 st7
      have ge8 : n0 ≤ b7 := by rw [g7]; exact Z0
      have K9 := (Keep.refl h0 []).ext E7
      have Z10 := Nat.le_trans Z0 K9.1
      have F11 : Fld Z h7_ b7 "com/example/stratigraph/stratigraph/store/RecentLists" "lists" "[[I" .null := D7 (Or.inr (hw _ (List.mem_of_getElem? (i := 23) rfl))) (ty := (.array (.array .int))) (by decide)
      have F12 : Fld Z h7_ b7 "com/example/stratigraph/stratigraph/store/RecentLists" "chains" "[I" .null := D7 (Or.inr (hw _ (List.mem_of_getElem? (i := 26) rfl))) (ty := (.array .int)) (by decide)
      refine oGo.step (f' := (mkF m 57 #[.val (.int x0), .val (.int x1), .val (.int x2), .val (.int x3), .val (.int x4), .val (.int x5), .val (.int (x0 &&& (7 : Int32))), .val (.int (x1 &&& (7 : Int32))), .val (.int (spec2 (1 : Int32) (spec1 (x0 &&& (7 : Int32)) (x1 &&& (7 : Int32))))), .val (.int (x2 &&& (1073741823 : Int32))), .val (.int (0 : Int32)), .unset, .unset, .unset] [(.ref b7)])) st7 ?_
      refine o_dup (pc' := 58) X7 hx (hb hby at_57) rfl rfl ?_
      refine o_iload (pc' := 60) X7 hx (hb hby at_58) rfl rfl ?_
      refine o_iload (pc' := 62) X7 hx (hb hby at_60) rfl rfl ?_
      obtain ⟨r13, T13, L13, X13, hq13, st13⟩ := o_callN X7 hx hZ hown rfl (hw _ (List.mem_of_getElem? (i := 12) rfl)) (hw _ (List.mem_of_getElem? (i := 13) rfl)) (hw _ (List.mem_of_getElem? (i := 11) rfl)) (hw _ (List.mem_of_getElem? (i := 14) rfl)) (by decide) (rm3 l Z a0 hw b7 (x0 &&& (7 : Int32)) (x1 &&& (7 : Int32)) h7_ n0 Z10 A7 F11 F12 ge8 hs0 hs1) e7 (pc' := 65) (Ls := #[.val (.int x0), .val (.int x1), .val (.int x2), .val (.int x3), .val (.int x4), .val (.int x5), .val (.int (x0 &&& (7 : Int32))), .val (.int (x1 &&& (7 : Int32))), .val (.int (spec2 (1 : Int32) (spec1 (x0 &&& (7 : Int32)) (x1 &&& (7 : Int32))))), .val (.int (x2 &&& (1073741823 : Int32))), .val (.int (0 : Int32)), .unset, .unset, .unset]) (by rw [hml]; rfl) [(.int (x0 &&& (7 : Int32))), (.int (x1 &&& (7 : Int32)))] [(.ref b7)] rfl pd1 rfl rfl 1 (Nat.le_of_eq rfl) (hb hby at_62) rfl (by decide) (by decide) (by decide) (by decide)
      obtain ⟨la, ca, rfl, N13, Kc13, E13_, F13_l, F13_c, R13_, A13_, ge_la, ge_ca, ne_al, ne_ac, ne_lc, sz_la, sz_ca⟩ := hq13
      refine oGo.step (f' := (mkF m 65 #[.val (.int x0), .val (.int x1), .val (.int x2), .val (.int x3), .val (.int x4), .val (.int x5), .val (.int (x0 &&& (7 : Int32))), .val (.int (x1 &&& (7 : Int32))), .val (.int (spec2 (1 : Int32) (spec1 (x0 &&& (7 : Int32)) (x1 &&& (7 : Int32))))), .val (.int (x2 &&& (1073741823 : Int32))), .val (.int (0 : Int32)), .unset, .unset, .unset] [(.ref b7)])) st13 ?_
      have N13_ := Fr.app N0 N13
      have K14 := Kc13
      have F15 := A7.keep K14
      have Z18 := Nat.le_trans Z10 K14.1
      obtain ⟨N, hN⟩ : ∃ z, z = ((spec2 (1 : Int32) (spec1 (x0 &&& (7 : Int32)) (x1 &&& (7 : Int32))))).toNatClampNeg := ⟨_, rfl⟩
      rw [← hN] at R13_ A13_
      obtain ⟨vs, hvs⟩ : ∃ z, z = List.replicate N Value.null := ⟨_, rfl⟩
      obtain ⟨xs, hxs⟩ : ∃ z, z = List.replicate N (0 : Int32) := ⟨_, rfl⟩
      rw [← hvs] at R13_
      rw [← hxs] at A13_
      have lv : vs.length = N := by rw [hvs]; simp
      have lx : xs.length = N := by rw [hxs]; simp
      have N1 : 0 < N := by rw [hN]; exact hs2
      have N2 : N < 2 ^ 31 := by rw [hN]; exact Nat.lt_of_le_of_lt hs1 (by decide)
      refine o_astore (pc' := 67) (l' := #[.val (.int x0), .val (.int x1), .val (.int x2), .val (.int x3), .val (.int x4), .val (.int x5), .val (.int (x0 &&& (7 : Int32))), .val (.int (x1 &&& (7 : Int32))), .val (.int (spec2 (1 : Int32) (spec1 (x0 &&& (7 : Int32)) (x1 &&& (7 : Int32))))), .val (.int (x2 &&& (1073741823 : Int32))), .val (.int (0 : Int32)), .val (.ref b7), .unset, .unset]) X13 hx (hb hby at_65) rfl rfl rfl ?_
      refine o_aload (pc' := 69) X13 hx (hb hby at_67) rfl rfl rfl ?_
      refine o_iload (pc' := 71) X13 hx (hb hby at_69) rfl rfl ?_
      refine o_iconst (pc' := 72) (v := (0 : Int32)) X13 hx (hb hby at_71) rfl rfl ?_
      obtain ⟨T19, h19_, X19, e19, E19, A19, Y19, st19⟩ := o_newIE (Ls := #[.val (.int x0), .val (.int x1), .val (.int x2), .val (.int x3), .val (.int x4), .val (.int x5), .val (.int (x0 &&& (7 : Int32))), .val (.int (x1 &&& (7 : Int32))), .val (.int (spec2 (1 : Int32) (spec1 (x0 &&& (7 : Int32)) (x1 &&& (7 : Int32))))), .val (.int (x2 &&& (1073741823 : Int32))), .val (.int (0 : Int32)), .val (.ref b7), .unset, .unset]) (st := [(.int (x2 &&& (1073741823 : Int32))), (.ref b7)]) (n := (0 : Int32)) X13 hx hZ (hw _ (List.mem_of_getElem? (i := 24) rfl)) (rfl : T13.heap = _) (hb hby at_72) (by decide) 0 (by decide) (by decide) (by decide) (by decide) rfl
      obtain ⟨b19, g19⟩ : ∃ z, z = T13.heap.size := ⟨_, rfl⟩
      rw [← g19] at A19 Y19 st19
      have ne20 : b7 ≠ b19 := by rw [g19]; exact Nat.ne_of_lt E13_.lt
      have ne21 : la ≠ b19 := by rw [g19]; exact Nat.ne_of_lt R13_.lt
      have ne22 : ca ≠ b19 := by rw [g19]; exact Nat.ne_of_lt A13_.lt
      have ge23 : n0 ≤ b19 := by rw [g19]; exact Z18
      have K24 := (Keep.refl T13.heap []).ext E19
      have F25 := E13_.keep K24
      have F26 := F13_l.keep K24 nin0
      have F27 := F13_c.keep K24 nin0
      have F28 := R13_.keep K24 nin0
      have F29 := A13_.keep K24 nin0
      have Z30 := Nat.le_trans Z18 K24.1
      refine oGo.step (f' := (mkF m 74 #[.val (.int x0), .val (.int x1), .val (.int x2), .val (.int x3), .val (.int x4), .val (.int x5), .val (.int (x0 &&& (7 : Int32))), .val (.int (x1 &&& (7 : Int32))), .val (.int (spec2 (1 : Int32) (spec1 (x0 &&& (7 : Int32)) (x1 &&& (7 : Int32))))), .val (.int (x2 &&& (1073741823 : Int32))), .val (.int (0 : Int32)), .val (.ref b7), .unset, .unset] [(.ref b19), (.int (x2 &&& (1073741823 : Int32))), (.ref b7)])) st19 ?_
      refine o_iload (pc' := 76) X19 hx (hb hby at_74) rfl rfl ?_
      obtain ⟨r31, T31, L31, X31, hq31, st31⟩ := o_callV X19 hx hZ hown (hw _ (List.mem_of_getElem? (i := 27) rfl)) (hw _ (List.mem_of_getElem? (i := 28) rfl)) (hw _ (List.mem_of_getElem? (i := 30) rfl)) (hw _ (List.mem_of_getElem? (i := 29) rfl)) (hw _ (List.mem_of_getElem? (i := 11) rfl)) (hw _ (List.mem_of_getElem? (i := 31) rfl)) (by decide) F25 (rm5 l Z a0 hw b7 (x2 &&& (1073741823 : Int32)) b19 x4 la ca vs xs N h19_ n0 Z30 F25 F26 F27 F28 F29 Y19 lv lx N1 N2 hb0 ge_la ge_ca ne_al ne_ac ne_lc) e19 (pc' := 79) (Ls := #[.val (.int x0), .val (.int x1), .val (.int x2), .val (.int x3), .val (.int x4), .val (.int x5), .val (.int (x0 &&& (7 : Int32))), .val (.int (x1 &&& (7 : Int32))), .val (.int (spec2 (1 : Int32) (spec1 (x0 &&& (7 : Int32)) (x1 &&& (7 : Int32))))), .val (.int (x2 &&& (1073741823 : Int32))), .val (.int (0 : Int32)), .val (.ref b7), .unset, .unset]) (by rw [hml]; rfl) [(.int (x2 &&& (1073741823 : Int32))), (.ref b19), (.int x4)] [] rfl pd2 rfl rfl 0 (Nat.le_of_eq rfl) (hb hby at_76) rfl (by decide) (by decide) (by decide) (by decide)
      obtain ⟨rfl, N31, Kc31, R31_, A31_⟩ := hq31
      refine oGo.step (f' := (mkF m 79 #[.val (.int x0), .val (.int x1), .val (.int x2), .val (.int x3), .val (.int x4), .val (.int x5), .val (.int (x0 &&& (7 : Int32))), .val (.int (x1 &&& (7 : Int32))), .val (.int (spec2 (1 : Int32) (spec1 (x0 &&& (7 : Int32)) (x1 &&& (7 : Int32))))), .val (.int (x2 &&& (1073741823 : Int32))), .val (.int (0 : Int32)), .val (.ref b7), .unset, .unset] [])) st31 ?_
      have N31_ := Fr.app N13_ N31
      have K32 := Kc31
      have F33 := F25.keep K32
      have F34 := F26.keep K32 (ninS ne_al (ninS ne_ac nin0))
      have F35 := F27.keep K32 (ninS ne_al (ninS ne_ac nin0))
      have F38 := A19.keep K32 (ninS (Ne.symm ne21) (ninS (Ne.symm ne22) nin0))
      have F39 := Y19.keep K32
      have Z40 := Nat.le_trans Z30 K32.1
      obtain ⟨vs31, hvs31⟩ : ∃ z, z = vs.set (oI (x2 &&& (1073741823 : Int32)) N) (Value.ref b19) := ⟨_, rfl⟩
      obtain ⟨xs31, hxs31⟩ : ∃ z, z = xs.set (oI (x2 &&& (1073741823 : Int32)) N) x4 := ⟨_, rfl⟩
      rw [← hvs31] at R31_
      rw [← hxs31] at A31_
      have lv31 : vs31.length = N := by rw [hvs31, List.length_set]; exact lv
      have lx31 : xs31.length = N := by rw [hxs31, List.length_set]; exact lx
      have X31 := o_flat X31 rfl rfl
      refine o_aload (pc' := 81) X31 hx (hb hby at_79) rfl rfl rfl ?_
      refine o_iload (pc' := 83) X31 hx (hb hby at_81) rfl rfl ?_
      refine o_iconst (pc' := 84) (v := (1 : Int32)) X31 hx (hb hby at_83) rfl rfl ?_
      refine o_iadd (pc' := 85) X31 hx (hb hby at_84)  rfl ?_
      refine o_iconst (pc' := 86) (v := (0 : Int32)) X31 hx (hb hby at_85) rfl rfl ?_
      obtain ⟨T41, h41_, X41, e41, E41, A41, Y41, st41⟩ := o_newIE (Ls := #[.val (.int x0), .val (.int x1), .val (.int x2), .val (.int x3), .val (.int x4), .val (.int x5), .val (.int (x0 &&& (7 : Int32))), .val (.int (x1 &&& (7 : Int32))), .val (.int (spec2 (1 : Int32) (spec1 (x0 &&& (7 : Int32)) (x1 &&& (7 : Int32))))), .val (.int (x2 &&& (1073741823 : Int32))), .val (.int (0 : Int32)), .val (.ref b7), .unset, .unset]) (st := [(.int ((x2 &&& (1073741823 : Int32)) + (1 : Int32))), (.ref b7)]) (n := (0 : Int32)) X31 hx hZ (hw _ (List.mem_of_getElem? (i := 24) rfl)) (rfl : T31.heap = _) (hb hby at_86) (by decide) 0 (by decide) (by decide) (by decide) (by decide) rfl
      obtain ⟨b41, g41⟩ : ∃ z, z = T31.heap.size := ⟨_, rfl⟩
      rw [← g41] at A41 Y41 st41
      have ne42 : b7 ≠ b41 := by rw [g41]; exact Nat.ne_of_lt F33.lt
      have ne43 : b19 ≠ b41 := by rw [g41]; exact Nat.ne_of_lt F38.lt
      have ne44 : la ≠ b41 := by rw [g41]; exact Nat.ne_of_lt R31_.lt
      have ne45 : ca ≠ b41 := by rw [g41]; exact Nat.ne_of_lt A31_.lt
      have ge46 : n0 ≤ b41 := by rw [g41]; exact Z40
      have K47 := (Keep.refl T31.heap []).ext E41
      have F48 := F33.keep K47
      have F49 := F34.keep K47 nin0
      have F50 := F35.keep K47 nin0
      have F51 := F38.keep K47 nin0
      have F52 := F39.keep K47
      have F53 := R31_.keep K47 nin0
      have F54 := A31_.keep K47 nin0
      have Z55 := Nat.le_trans Z40 K47.1
      refine oGo.step (f' := (mkF m 88 #[.val (.int x0), .val (.int x1), .val (.int x2), .val (.int x3), .val (.int x4), .val (.int x5), .val (.int (x0 &&& (7 : Int32))), .val (.int (x1 &&& (7 : Int32))), .val (.int (spec2 (1 : Int32) (spec1 (x0 &&& (7 : Int32)) (x1 &&& (7 : Int32))))), .val (.int (x2 &&& (1073741823 : Int32))), .val (.int (0 : Int32)), .val (.ref b7), .unset, .unset] [(.ref b41), (.int ((x2 &&& (1073741823 : Int32)) + (1 : Int32))), (.ref b7)])) st41 ?_
      refine o_iload (pc' := 90) X41 hx (hb hby at_88) rfl rfl ?_
      obtain ⟨r56, T56, L56, X56, hq56, st56⟩ := o_callV X41 hx hZ hown (hw _ (List.mem_of_getElem? (i := 27) rfl)) (hw _ (List.mem_of_getElem? (i := 28) rfl)) (hw _ (List.mem_of_getElem? (i := 30) rfl)) (hw _ (List.mem_of_getElem? (i := 29) rfl)) (hw _ (List.mem_of_getElem? (i := 11) rfl)) (hw _ (List.mem_of_getElem? (i := 31) rfl)) (by decide) F48 (rm5 l Z a0 hw b7 ((x2 &&& (1073741823 : Int32)) + (1 : Int32)) b41 x5 la ca vs31 xs31 N h41_ n0 Z55 F48 F49 F50 F53 F54 Y41 lv31 lx31 N1 N2 hb1 ge_la ge_ca ne_al ne_ac ne_lc) e41 (pc' := 93) (Ls := #[.val (.int x0), .val (.int x1), .val (.int x2), .val (.int x3), .val (.int x4), .val (.int x5), .val (.int (x0 &&& (7 : Int32))), .val (.int (x1 &&& (7 : Int32))), .val (.int (spec2 (1 : Int32) (spec1 (x0 &&& (7 : Int32)) (x1 &&& (7 : Int32))))), .val (.int (x2 &&& (1073741823 : Int32))), .val (.int (0 : Int32)), .val (.ref b7), .unset, .unset]) (by rw [hml]; rfl) [(.int ((x2 &&& (1073741823 : Int32)) + (1 : Int32))), (.ref b41), (.int x5)] [] rfl pd2 rfl rfl 0 (Nat.le_of_eq rfl) (hb hby at_90) rfl (by decide) (by decide) (by decide) (by decide)
      obtain ⟨rfl, N56, Kc56, R56_, A56_⟩ := hq56
      refine oGo.step (f' := (mkF m 93 #[.val (.int x0), .val (.int x1), .val (.int x2), .val (.int x3), .val (.int x4), .val (.int x5), .val (.int (x0 &&& (7 : Int32))), .val (.int (x1 &&& (7 : Int32))), .val (.int (spec2 (1 : Int32) (spec1 (x0 &&& (7 : Int32)) (x1 &&& (7 : Int32))))), .val (.int (x2 &&& (1073741823 : Int32))), .val (.int (0 : Int32)), .val (.ref b7), .unset, .unset] [])) st56 ?_
      have N56_ := Fr.app N31_ N56
      have K57 := Kc56
      have F58 := F48.keep K57
      have F59 := F49.keep K57 (ninS ne_al (ninS ne_ac nin0))
      have F60 := F50.keep K57 (ninS ne_al (ninS ne_ac nin0))
      have F61 := F51.keep K57 (ninS (Ne.symm ne21) (ninS (Ne.symm ne22) nin0))
      have F62 := F52.keep K57
      have F65 := A41.keep K57 (ninS (Ne.symm ne44) (ninS (Ne.symm ne45) nin0))
      have F66 := Y41.keep K57
      have Z67 := Nat.le_trans Z55 K57.1
      obtain ⟨vs56, hvs56⟩ : ∃ z, z = vs31.set (oI ((x2 &&& (1073741823 : Int32)) + (1 : Int32)) N) (Value.ref b41) := ⟨_, rfl⟩
      obtain ⟨xs56, hxs56⟩ : ∃ z, z = xs31.set (oI ((x2 &&& (1073741823 : Int32)) + (1 : Int32)) N) x5 := ⟨_, rfl⟩
      rw [← hvs56] at R56_
      rw [← hxs56] at A56_
      have lv56 : vs56.length = N := by rw [hvs56, List.length_set]; exact lv31
      have lx56 : xs56.length = N := by rw [hxs56, List.length_set]; exact lx31
      have X56 := o_flat X56 rfl rfl
      refine o_aload (pc' := 95) X56 hx (hb hby at_93) rfl rfl rfl ?_
      refine o_iload (pc' := 97) X56 hx (hb hby at_95) rfl rfl ?_
      refine o_iconst (pc' := 98) (v := (2 : Int32)) X56 hx (hb hby at_97) rfl rfl ?_
      refine o_iadd (pc' := 99) X56 hx (hb hby at_98)  rfl ?_
      refine o_iload (pc' := 101) X56 hx (hb hby at_99) rfl rfl ?_
      have ed1 : (((x2 &&& (1073741823 : Int32)) + (2 : Int32)) - (1 : Int32)).toInt = (x2 &&& (1073741823 : Int32)).toInt + 1 := by rw [own_sub (by omega) (by omega) (by omega)]; omega
      have hd1 : ¬ (((x2 &&& (1073741823 : Int32)) + (2 : Int32)) - (1 : Int32)) < 0 := own_nlt (by omega)
      have ed2 : (((x2 &&& (1073741823 : Int32)) + (2 : Int32)) - (2 : Int32)).toInt = (x2 &&& (1073741823 : Int32)).toInt := by rw [own_sub (by omega) (by omega) (by omega)]; omega
      have hd2 : ¬ (((x2 &&& (1073741823 : Int32)) + (2 : Int32)) - (2 : Int32)) < 0 := own_nlt (by omega)
      obtain ⟨r68, T68, L68, X68, hq68, st68⟩ := o_callV X56 hx hZ hown (hw _ (List.mem_of_getElem? (i := 33) rfl)) (hw _ (List.mem_of_getElem? (i := 34) rfl)) (hw _ (List.mem_of_getElem? (i := 36) rfl)) (hw _ (List.mem_of_getElem? (i := 35) rfl)) (hw _ (List.mem_of_getElem? (i := 11) rfl)) (hw _ (List.mem_of_getElem? (i := 37) rfl)) (by decide) F58 (rm6 l Z a0 hw b7 ((x2 &&& (1073741823 : Int32)) + (2 : Int32)) (0 : Int32) ca xs56 N T56.heap n0 Z67 F58 F60 A56_ lx56 N1 N2 (fun q => absurd rfl q)) (rfl : T56.heap = _) (pc' := 104) (Ls := #[.val (.int x0), .val (.int x1), .val (.int x2), .val (.int x3), .val (.int x4), .val (.int x5), .val (.int (x0 &&& (7 : Int32))), .val (.int (x1 &&& (7 : Int32))), .val (.int (spec2 (1 : Int32) (spec1 (x0 &&& (7 : Int32)) (x1 &&& (7 : Int32))))), .val (.int (x2 &&& (1073741823 : Int32))), .val (.int (0 : Int32)), .val (.ref b7), .unset, .unset]) (by rw [hml]; rfl) [(.int ((x2 &&& (1073741823 : Int32)) + (2 : Int32))), (.int (0 : Int32))] [] rfl pd0 rfl rfl 0 (Nat.le_of_eq rfl) (hb hby at_101) rfl (by decide) (by decide) (by decide) (by decide)
      obtain ⟨rfl, rfl, Kc68⟩ := hq68
      have hc68 : (spec6 ((x2 &&& (1073741823 : Int32)) + (2 : Int32)) (0 : Int32) xs56 N) = (0 : Int32) := (if_pos rfl)
      rw [hc68] at st68
      refine oGo.step (f' := (mkF m 104 #[.val (.int x0), .val (.int x1), .val (.int x2), .val (.int x3), .val (.int x4), .val (.int x5), .val (.int (x0 &&& (7 : Int32))), .val (.int (x1 &&& (7 : Int32))), .val (.int (spec2 (1 : Int32) (spec1 (x0 &&& (7 : Int32)) (x1 &&& (7 : Int32))))), .val (.int (x2 &&& (1073741823 : Int32))), .val (.int (0 : Int32)), .val (.ref b7), .unset, .unset] [(.int (0 : Int32))])) st68 ?_
      have e68 : T68.heap = T56.heap := Kc68
      have X68 := o_same X68 rfl rfl
      refine o_istore (pc' := 106) (l' := #[.val (.int x0), .val (.int x1), .val (.int x2), .val (.int x3), .val (.int x4), .val (.int x5), .val (.int (x0 &&& (7 : Int32))), .val (.int (x1 &&& (7 : Int32))), .val (.int (spec2 (1 : Int32) (spec1 (x0 &&& (7 : Int32)) (x1 &&& (7 : Int32))))), .val (.int (x2 &&& (1073741823 : Int32))), .val (.int (0 : Int32)), .val (.ref b7), .val (.int (0 : Int32)), .unset]) X68 hx (hb hby at_104) rfl rfl ?_
      refine o_iload (pc' := 108) X68 hx (hb hby at_106) rfl rfl ?_
      refine o_ifF (pc' := 111) X68 hx (hb hby at_108) (XT.i0_ne_f (by decide)) rfl ?_
      refine o_iconst (pc' := 112) (v := (0 : Int32)) X68 hx (hb hby at_111) rfl rfl ?_
      refine o_istore (pc' := 114) (l' := #[.val (.int x0), .val (.int x1), .val (.int x2), .val (.int x3), .val (.int x4), .val (.int x5), .val (.int (x0 &&& (7 : Int32))), .val (.int (x1 &&& (7 : Int32))), .val (.int (spec2 (1 : Int32) (spec1 (x0 &&& (7 : Int32)) (x1 &&& (7 : Int32))))), .val (.int (x2 &&& (1073741823 : Int32))), .val (.int (0 : Int32)), .val (.ref b7), .val (.int (0 : Int32)), .val (.int (0 : Int32))]) X68 hx (hb hby at_112) rfl rfl ?_
      refine o_goto (pc' := 138) X68 hx (hb hby at_114) (by decide) (by decide) ?_
      refine o_iload (pc' := 140) X68 hx (hb hby at_138) rfl rfl ?_
      refine o_iload (pc' := 142) X68 hx (hb hby at_140) rfl rfl ?_
      refine o_icmpF (pc' := 145) X68 hx (hb hby at_142) (XT.ii_ne_f (by decide)) rfl ?_
      refine o_iconst (pc' := 146) (v := (1 : Int32)) X68 hx (hb hby at_145) rfl rfl ?_
      refine o_goto (pc' := 150) X68 hx (hb hby at_146) (by decide) (by decide) ?_
      refine o_retZ X68 hx hret hlk (hb hby at_150) (by decide) (by decide) (by decide) ?_
      exact ⟨rfl, N56_⟩
    · subst hr
      obtain ⟨T69, h69_, X69, e69, E69, A69, D69, -, st69⟩ := newO X2 hx hZ hown (hw _ (List.mem_of_getElem? (i := 9) rfl)) (hw _ (List.mem_of_getElem? (i := 10) rfl)) (hw _ (List.mem_of_getElem? (i := 11) rfl)) e2 (g := (mkF m 54 #[.val (.int x0), .val (.int x1), .val (.int x2), .val (.int x3), .val (.int x4), .val (.int x5), .val (.int (x0 &&& (7 : Int32))), .val (.int (x1 &&& (7 : Int32))), .val (.int (spec2 (1 : Int32) (spec1 (x0 &&& (7 : Int32)) (x1 &&& (7 : Int32))))), .val (.int (x2 &&& (1073741823 : Int32))), .val (.int (1 : Int32)), .unset, .unset, .unset] [])) rfl (hb hby at_54) (by decide) (by decide)
      obtain ⟨b69, g69⟩ : ∃ z, z = h0.size := ⟨_, rfl⟩
      rw [← g69] at A69 D69 st69
      have ge70 : n0 ≤ b69 := by rw [g69]; exact Z0
      have K71 := (Keep.refl h0 []).ext E69
      have Z72 := Nat.le_trans Z0 K71.1
      have F73 : Fld Z h69_ b69 "com/example/stratigraph/stratigraph/store/RecentLists" "lists" "[[I" .null := D69 (Or.inr (hw _ (List.mem_of_getElem? (i := 23) rfl))) (ty := (.array (.array .int))) (by decide)
      have F74 : Fld Z h69_ b69 "com/example/stratigraph/stratigraph/store/RecentLists" "chains" "[I" .null := D69 (Or.inr (hw _ (List.mem_of_getElem? (i := 26) rfl))) (ty := (.array .int)) (by decide)
      refine oGo.step (f' := (mkF m 57 #[.val (.int x0), .val (.int x1), .val (.int x2), .val (.int x3), .val (.int x4), .val (.int x5), .val (.int (x0 &&& (7 : Int32))), .val (.int (x1 &&& (7 : Int32))), .val (.int (spec2 (1 : Int32) (spec1 (x0 &&& (7 : Int32)) (x1 &&& (7 : Int32))))), .val (.int (x2 &&& (1073741823 : Int32))), .val (.int (1 : Int32)), .unset, .unset, .unset] [(.ref b69)])) st69 ?_
      refine o_dup (pc' := 58) X69 hx (hb hby at_57) rfl rfl ?_
      refine o_iload (pc' := 60) X69 hx (hb hby at_58) rfl rfl ?_
      refine o_iload (pc' := 62) X69 hx (hb hby at_60) rfl rfl ?_
      obtain ⟨r75, T75, L75, X75, hq75, st75⟩ := o_callN X69 hx hZ hown rfl (hw _ (List.mem_of_getElem? (i := 12) rfl)) (hw _ (List.mem_of_getElem? (i := 13) rfl)) (hw _ (List.mem_of_getElem? (i := 11) rfl)) (hw _ (List.mem_of_getElem? (i := 14) rfl)) (by decide) (rm3 l Z a0 hw b69 (x0 &&& (7 : Int32)) (x1 &&& (7 : Int32)) h69_ n0 Z72 A69 F73 F74 ge70 hs0 hs1) e69 (pc' := 65) (Ls := #[.val (.int x0), .val (.int x1), .val (.int x2), .val (.int x3), .val (.int x4), .val (.int x5), .val (.int (x0 &&& (7 : Int32))), .val (.int (x1 &&& (7 : Int32))), .val (.int (spec2 (1 : Int32) (spec1 (x0 &&& (7 : Int32)) (x1 &&& (7 : Int32))))), .val (.int (x2 &&& (1073741823 : Int32))), .val (.int (1 : Int32)), .unset, .unset, .unset]) (by rw [hml]; rfl) [(.int (x0 &&& (7 : Int32))), (.int (x1 &&& (7 : Int32)))] [(.ref b69)] rfl pd1 rfl rfl 1 (Nat.le_of_eq rfl) (hb hby at_62) rfl (by decide) (by decide) (by decide) (by decide)
      obtain ⟨la, ca, rfl, N75, Kc75, E75_, F75_l, F75_c, R75_, A75_, ge_la, ge_ca, ne_al, ne_ac, ne_lc, sz_la, sz_ca⟩ := hq75
      refine oGo.step (f' := (mkF m 65 #[.val (.int x0), .val (.int x1), .val (.int x2), .val (.int x3), .val (.int x4), .val (.int x5), .val (.int (x0 &&& (7 : Int32))), .val (.int (x1 &&& (7 : Int32))), .val (.int (spec2 (1 : Int32) (spec1 (x0 &&& (7 : Int32)) (x1 &&& (7 : Int32))))), .val (.int (x2 &&& (1073741823 : Int32))), .val (.int (1 : Int32)), .unset, .unset, .unset] [(.ref b69)])) st75 ?_
      have N75_ := Fr.app N0 N75
      have K76 := Kc75
      have F77 := A69.keep K76
      have Z80 := Nat.le_trans Z72 K76.1
      obtain ⟨N, hN⟩ : ∃ z, z = ((spec2 (1 : Int32) (spec1 (x0 &&& (7 : Int32)) (x1 &&& (7 : Int32))))).toNatClampNeg := ⟨_, rfl⟩
      rw [← hN] at R75_ A75_
      obtain ⟨vs, hvs⟩ : ∃ z, z = List.replicate N Value.null := ⟨_, rfl⟩
      obtain ⟨xs, hxs⟩ : ∃ z, z = List.replicate N (0 : Int32) := ⟨_, rfl⟩
      rw [← hvs] at R75_
      rw [← hxs] at A75_
      have lv : vs.length = N := by rw [hvs]; simp
      have lx : xs.length = N := by rw [hxs]; simp
      have N1 : 0 < N := by rw [hN]; exact hs2
      have N2 : N < 2 ^ 31 := by rw [hN]; exact Nat.lt_of_le_of_lt hs1 (by decide)
      refine o_astore (pc' := 67) (l' := #[.val (.int x0), .val (.int x1), .val (.int x2), .val (.int x3), .val (.int x4), .val (.int x5), .val (.int (x0 &&& (7 : Int32))), .val (.int (x1 &&& (7 : Int32))), .val (.int (spec2 (1 : Int32) (spec1 (x0 &&& (7 : Int32)) (x1 &&& (7 : Int32))))), .val (.int (x2 &&& (1073741823 : Int32))), .val (.int (1 : Int32)), .val (.ref b69), .unset, .unset]) X75 hx (hb hby at_65) rfl rfl rfl ?_
      refine o_aload (pc' := 69) X75 hx (hb hby at_67) rfl rfl rfl ?_
      refine o_iload (pc' := 71) X75 hx (hb hby at_69) rfl rfl ?_
      refine o_iconst (pc' := 72) (v := (0 : Int32)) X75 hx (hb hby at_71) rfl rfl ?_
      obtain ⟨T81, h81_, X81, e81, E81, A81, Y81, st81⟩ := o_newIE (Ls := #[.val (.int x0), .val (.int x1), .val (.int x2), .val (.int x3), .val (.int x4), .val (.int x5), .val (.int (x0 &&& (7 : Int32))), .val (.int (x1 &&& (7 : Int32))), .val (.int (spec2 (1 : Int32) (spec1 (x0 &&& (7 : Int32)) (x1 &&& (7 : Int32))))), .val (.int (x2 &&& (1073741823 : Int32))), .val (.int (1 : Int32)), .val (.ref b69), .unset, .unset]) (st := [(.int (x2 &&& (1073741823 : Int32))), (.ref b69)]) (n := (0 : Int32)) X75 hx hZ (hw _ (List.mem_of_getElem? (i := 24) rfl)) (rfl : T75.heap = _) (hb hby at_72) (by decide) 0 (by decide) (by decide) (by decide) (by decide) rfl
      obtain ⟨b81, g81⟩ : ∃ z, z = T75.heap.size := ⟨_, rfl⟩
      rw [← g81] at A81 Y81 st81
      have ne82 : b69 ≠ b81 := by rw [g81]; exact Nat.ne_of_lt E75_.lt
      have ne83 : la ≠ b81 := by rw [g81]; exact Nat.ne_of_lt R75_.lt
      have ne84 : ca ≠ b81 := by rw [g81]; exact Nat.ne_of_lt A75_.lt
      have ge85 : n0 ≤ b81 := by rw [g81]; exact Z80
      have K86 := (Keep.refl T75.heap []).ext E81
      have F87 := E75_.keep K86
      have F88 := F75_l.keep K86 nin0
      have F89 := F75_c.keep K86 nin0
      have F90 := R75_.keep K86 nin0
      have F91 := A75_.keep K86 nin0
      have Z92 := Nat.le_trans Z80 K86.1
      refine oGo.step (f' := (mkF m 74 #[.val (.int x0), .val (.int x1), .val (.int x2), .val (.int x3), .val (.int x4), .val (.int x5), .val (.int (x0 &&& (7 : Int32))), .val (.int (x1 &&& (7 : Int32))), .val (.int (spec2 (1 : Int32) (spec1 (x0 &&& (7 : Int32)) (x1 &&& (7 : Int32))))), .val (.int (x2 &&& (1073741823 : Int32))), .val (.int (1 : Int32)), .val (.ref b69), .unset, .unset] [(.ref b81), (.int (x2 &&& (1073741823 : Int32))), (.ref b69)])) st81 ?_
      refine o_iload (pc' := 76) X81 hx (hb hby at_74) rfl rfl ?_
      obtain ⟨r93, T93, L93, X93, hq93, st93⟩ := o_callV X81 hx hZ hown (hw _ (List.mem_of_getElem? (i := 27) rfl)) (hw _ (List.mem_of_getElem? (i := 28) rfl)) (hw _ (List.mem_of_getElem? (i := 30) rfl)) (hw _ (List.mem_of_getElem? (i := 29) rfl)) (hw _ (List.mem_of_getElem? (i := 11) rfl)) (hw _ (List.mem_of_getElem? (i := 31) rfl)) (by decide) F87 (rm5 l Z a0 hw b69 (x2 &&& (1073741823 : Int32)) b81 x4 la ca vs xs N h81_ n0 Z92 F87 F88 F89 F90 F91 Y81 lv lx N1 N2 hb0 ge_la ge_ca ne_al ne_ac ne_lc) e81 (pc' := 79) (Ls := #[.val (.int x0), .val (.int x1), .val (.int x2), .val (.int x3), .val (.int x4), .val (.int x5), .val (.int (x0 &&& (7 : Int32))), .val (.int (x1 &&& (7 : Int32))), .val (.int (spec2 (1 : Int32) (spec1 (x0 &&& (7 : Int32)) (x1 &&& (7 : Int32))))), .val (.int (x2 &&& (1073741823 : Int32))), .val (.int (1 : Int32)), .val (.ref b69), .unset, .unset]) (by rw [hml]; rfl) [(.int (x2 &&& (1073741823 : Int32))), (.ref b81), (.int x4)] [] rfl pd2 rfl rfl 0 (Nat.le_of_eq rfl) (hb hby at_76) rfl (by decide) (by decide) (by decide) (by decide)
      obtain ⟨rfl, N93, Kc93, R93_, A93_⟩ := hq93
      refine oGo.step (f' := (mkF m 79 #[.val (.int x0), .val (.int x1), .val (.int x2), .val (.int x3), .val (.int x4), .val (.int x5), .val (.int (x0 &&& (7 : Int32))), .val (.int (x1 &&& (7 : Int32))), .val (.int (spec2 (1 : Int32) (spec1 (x0 &&& (7 : Int32)) (x1 &&& (7 : Int32))))), .val (.int (x2 &&& (1073741823 : Int32))), .val (.int (1 : Int32)), .val (.ref b69), .unset, .unset] [])) st93 ?_
      have N93_ := Fr.app N75_ N93
      have K94 := Kc93
      have F95 := F87.keep K94
      have F96 := F88.keep K94 (ninS ne_al (ninS ne_ac nin0))
      have F97 := F89.keep K94 (ninS ne_al (ninS ne_ac nin0))
      have F100 := A81.keep K94 (ninS (Ne.symm ne83) (ninS (Ne.symm ne84) nin0))
      have F101 := Y81.keep K94
      have Z102 := Nat.le_trans Z92 K94.1
      obtain ⟨vs93, hvs93⟩ : ∃ z, z = vs.set (oI (x2 &&& (1073741823 : Int32)) N) (Value.ref b81) := ⟨_, rfl⟩
      obtain ⟨xs93, hxs93⟩ : ∃ z, z = xs.set (oI (x2 &&& (1073741823 : Int32)) N) x4 := ⟨_, rfl⟩
      rw [← hvs93] at R93_
      rw [← hxs93] at A93_
      have lv93 : vs93.length = N := by rw [hvs93, List.length_set]; exact lv
      have lx93 : xs93.length = N := by rw [hxs93, List.length_set]; exact lx
      have X93 := o_flat X93 rfl rfl
      refine o_aload (pc' := 81) X93 hx (hb hby at_79) rfl rfl rfl ?_
      refine o_iload (pc' := 83) X93 hx (hb hby at_81) rfl rfl ?_
      refine o_iconst (pc' := 84) (v := (1 : Int32)) X93 hx (hb hby at_83) rfl rfl ?_
      refine o_iadd (pc' := 85) X93 hx (hb hby at_84)  rfl ?_
      refine o_iconst (pc' := 86) (v := (0 : Int32)) X93 hx (hb hby at_85) rfl rfl ?_
      obtain ⟨T103, h103_, X103, e103, E103, A103, Y103, st103⟩ := o_newIE (Ls := #[.val (.int x0), .val (.int x1), .val (.int x2), .val (.int x3), .val (.int x4), .val (.int x5), .val (.int (x0 &&& (7 : Int32))), .val (.int (x1 &&& (7 : Int32))), .val (.int (spec2 (1 : Int32) (spec1 (x0 &&& (7 : Int32)) (x1 &&& (7 : Int32))))), .val (.int (x2 &&& (1073741823 : Int32))), .val (.int (1 : Int32)), .val (.ref b69), .unset, .unset]) (st := [(.int ((x2 &&& (1073741823 : Int32)) + (1 : Int32))), (.ref b69)]) (n := (0 : Int32)) X93 hx hZ (hw _ (List.mem_of_getElem? (i := 24) rfl)) (rfl : T93.heap = _) (hb hby at_86) (by decide) 0 (by decide) (by decide) (by decide) (by decide) rfl
      obtain ⟨b103, g103⟩ : ∃ z, z = T93.heap.size := ⟨_, rfl⟩
      rw [← g103] at A103 Y103 st103
      have ne104 : b69 ≠ b103 := by rw [g103]; exact Nat.ne_of_lt F95.lt
      have ne105 : b81 ≠ b103 := by rw [g103]; exact Nat.ne_of_lt F100.lt
      have ne106 : la ≠ b103 := by rw [g103]; exact Nat.ne_of_lt R93_.lt
      have ne107 : ca ≠ b103 := by rw [g103]; exact Nat.ne_of_lt A93_.lt
      have ge108 : n0 ≤ b103 := by rw [g103]; exact Z102
      have K109 := (Keep.refl T93.heap []).ext E103
      have F110 := F95.keep K109
      have F111 := F96.keep K109 nin0
      have F112 := F97.keep K109 nin0
      have F113 := F100.keep K109 nin0
      have F114 := F101.keep K109
      have F115 := R93_.keep K109 nin0
      have F116 := A93_.keep K109 nin0
      have Z117 := Nat.le_trans Z102 K109.1
      refine oGo.step (f' := (mkF m 88 #[.val (.int x0), .val (.int x1), .val (.int x2), .val (.int x3), .val (.int x4), .val (.int x5), .val (.int (x0 &&& (7 : Int32))), .val (.int (x1 &&& (7 : Int32))), .val (.int (spec2 (1 : Int32) (spec1 (x0 &&& (7 : Int32)) (x1 &&& (7 : Int32))))), .val (.int (x2 &&& (1073741823 : Int32))), .val (.int (1 : Int32)), .val (.ref b69), .unset, .unset] [(.ref b103), (.int ((x2 &&& (1073741823 : Int32)) + (1 : Int32))), (.ref b69)])) st103 ?_
      refine o_iload (pc' := 90) X103 hx (hb hby at_88) rfl rfl ?_
      obtain ⟨r118, T118, L118, X118, hq118, st118⟩ := o_callV X103 hx hZ hown (hw _ (List.mem_of_getElem? (i := 27) rfl)) (hw _ (List.mem_of_getElem? (i := 28) rfl)) (hw _ (List.mem_of_getElem? (i := 30) rfl)) (hw _ (List.mem_of_getElem? (i := 29) rfl)) (hw _ (List.mem_of_getElem? (i := 11) rfl)) (hw _ (List.mem_of_getElem? (i := 31) rfl)) (by decide) F110 (rm5 l Z a0 hw b69 ((x2 &&& (1073741823 : Int32)) + (1 : Int32)) b103 x5 la ca vs93 xs93 N h103_ n0 Z117 F110 F111 F112 F115 F116 Y103 lv93 lx93 N1 N2 hb1 ge_la ge_ca ne_al ne_ac ne_lc) e103 (pc' := 93) (Ls := #[.val (.int x0), .val (.int x1), .val (.int x2), .val (.int x3), .val (.int x4), .val (.int x5), .val (.int (x0 &&& (7 : Int32))), .val (.int (x1 &&& (7 : Int32))), .val (.int (spec2 (1 : Int32) (spec1 (x0 &&& (7 : Int32)) (x1 &&& (7 : Int32))))), .val (.int (x2 &&& (1073741823 : Int32))), .val (.int (1 : Int32)), .val (.ref b69), .unset, .unset]) (by rw [hml]; rfl) [(.int ((x2 &&& (1073741823 : Int32)) + (1 : Int32))), (.ref b103), (.int x5)] [] rfl pd2 rfl rfl 0 (Nat.le_of_eq rfl) (hb hby at_90) rfl (by decide) (by decide) (by decide) (by decide)
      obtain ⟨rfl, N118, Kc118, R118_, A118_⟩ := hq118
      refine oGo.step (f' := (mkF m 93 #[.val (.int x0), .val (.int x1), .val (.int x2), .val (.int x3), .val (.int x4), .val (.int x5), .val (.int (x0 &&& (7 : Int32))), .val (.int (x1 &&& (7 : Int32))), .val (.int (spec2 (1 : Int32) (spec1 (x0 &&& (7 : Int32)) (x1 &&& (7 : Int32))))), .val (.int (x2 &&& (1073741823 : Int32))), .val (.int (1 : Int32)), .val (.ref b69), .unset, .unset] [])) st118 ?_
      have N118_ := Fr.app N93_ N118
      have K119 := Kc118
      have F120 := F110.keep K119
      have F121 := F111.keep K119 (ninS ne_al (ninS ne_ac nin0))
      have F122 := F112.keep K119 (ninS ne_al (ninS ne_ac nin0))
      have F123 := F113.keep K119 (ninS (Ne.symm ne83) (ninS (Ne.symm ne84) nin0))
      have F124 := F114.keep K119
      have F127 := A103.keep K119 (ninS (Ne.symm ne106) (ninS (Ne.symm ne107) nin0))
      have F128 := Y103.keep K119
      have Z129 := Nat.le_trans Z117 K119.1
      obtain ⟨vs118, hvs118⟩ : ∃ z, z = vs93.set (oI ((x2 &&& (1073741823 : Int32)) + (1 : Int32)) N) (Value.ref b103) := ⟨_, rfl⟩
      obtain ⟨xs118, hxs118⟩ : ∃ z, z = xs93.set (oI ((x2 &&& (1073741823 : Int32)) + (1 : Int32)) N) x5 := ⟨_, rfl⟩
      rw [← hvs118] at R118_
      rw [← hxs118] at A118_
      have lv118 : vs118.length = N := by rw [hvs118, List.length_set]; exact lv93
      have lx118 : xs118.length = N := by rw [hxs118, List.length_set]; exact lx93
      have X118 := o_flat X118 rfl rfl
      refine o_aload (pc' := 95) X118 hx (hb hby at_93) rfl rfl rfl ?_
      refine o_iload (pc' := 97) X118 hx (hb hby at_95) rfl rfl ?_
      refine o_iconst (pc' := 98) (v := (2 : Int32)) X118 hx (hb hby at_97) rfl rfl ?_
      refine o_iadd (pc' := 99) X118 hx (hb hby at_98)  rfl ?_
      refine o_iload (pc' := 101) X118 hx (hb hby at_99) rfl rfl ?_
      have ed1 : (((x2 &&& (1073741823 : Int32)) + (2 : Int32)) - (1 : Int32)).toInt = (x2 &&& (1073741823 : Int32)).toInt + 1 := by rw [own_sub (by omega) (by omega) (by omega)]; omega
      have hd1 : ¬ (((x2 &&& (1073741823 : Int32)) + (2 : Int32)) - (1 : Int32)) < 0 := own_nlt (by omega)
      have ed2 : (((x2 &&& (1073741823 : Int32)) + (2 : Int32)) - (2 : Int32)).toInt = (x2 &&& (1073741823 : Int32)).toInt := by rw [own_sub (by omega) (by omega) (by omega)]; omega
      have hd2 : ¬ (((x2 &&& (1073741823 : Int32)) + (2 : Int32)) - (2 : Int32)) < 0 := own_nlt (by omega)
      obtain ⟨r130, T130, L130, X130, hq130, st130⟩ := o_callV X118 hx hZ hown (hw _ (List.mem_of_getElem? (i := 33) rfl)) (hw _ (List.mem_of_getElem? (i := 34) rfl)) (hw _ (List.mem_of_getElem? (i := 36) rfl)) (hw _ (List.mem_of_getElem? (i := 35) rfl)) (hw _ (List.mem_of_getElem? (i := 11) rfl)) (hw _ (List.mem_of_getElem? (i := 37) rfl)) (by decide) F120 (rm6 l Z a0 hw b69 ((x2 &&& (1073741823 : Int32)) + (2 : Int32)) (1 : Int32) ca xs118 N T118.heap n0 Z129 F120 F122 A118_ lx118 N1 N2 (fun _ => hd1)) (rfl : T118.heap = _) (pc' := 104) (Ls := #[.val (.int x0), .val (.int x1), .val (.int x2), .val (.int x3), .val (.int x4), .val (.int x5), .val (.int (x0 &&& (7 : Int32))), .val (.int (x1 &&& (7 : Int32))), .val (.int (spec2 (1 : Int32) (spec1 (x0 &&& (7 : Int32)) (x1 &&& (7 : Int32))))), .val (.int (x2 &&& (1073741823 : Int32))), .val (.int (1 : Int32)), .val (.ref b69), .unset, .unset]) (by rw [hml]; rfl) [(.int ((x2 &&& (1073741823 : Int32)) + (2 : Int32))), (.int (1 : Int32))] [] rfl pd0 rfl rfl 0 (Nat.le_of_eq rfl) (hb hby at_101) rfl (by decide) (by decide) (by decide) (by decide)
      obtain ⟨rfl, rfl, Kc130⟩ := hq130
      have hc130 : (spec6 ((x2 &&& (1073741823 : Int32)) + (2 : Int32)) (1 : Int32) xs118 N) = (x5 + (1 : Int32)) := own_chain (by decide) (by rw [hxs118, own_ie (x := ((x2 &&& (1073741823 : Int32)) + (2 : Int32)) - (1 : Int32)) (y := (x2 &&& (1073741823 : Int32)) + (1 : Int32)) hd1 hb1 N1 N2 (by rw [ed1, eb1] <;> rfl), own_gs (by rw [lx93]; exact (own_mod hb1 N1 N2).2.2.1)])
      rw [hc130] at st130
      refine oGo.step (f' := (mkF m 104 #[.val (.int x0), .val (.int x1), .val (.int x2), .val (.int x3), .val (.int x4), .val (.int x5), .val (.int (x0 &&& (7 : Int32))), .val (.int (x1 &&& (7 : Int32))), .val (.int (spec2 (1 : Int32) (spec1 (x0 &&& (7 : Int32)) (x1 &&& (7 : Int32))))), .val (.int (x2 &&& (1073741823 : Int32))), .val (.int (1 : Int32)), .val (.ref b69), .unset, .unset] [(.int (x5 + (1 : Int32)))])) st130 ?_
      have e130 : T130.heap = T118.heap := Kc130
      have X130 := o_same X130 rfl rfl
      refine o_istore (pc' := 106) (l' := #[.val (.int x0), .val (.int x1), .val (.int x2), .val (.int x3), .val (.int x4), .val (.int x5), .val (.int (x0 &&& (7 : Int32))), .val (.int (x1 &&& (7 : Int32))), .val (.int (spec2 (1 : Int32) (spec1 (x0 &&& (7 : Int32)) (x1 &&& (7 : Int32))))), .val (.int (x2 &&& (1073741823 : Int32))), .val (.int (1 : Int32)), .val (.ref b69), .val (.int (x5 + (1 : Int32))), .unset]) X130 hx (hb hby at_104) rfl rfl ?_
      refine o_iload (pc' := 108) X130 hx (hb hby at_106) rfl rfl ?_
      refine o_ifT (pc' := 117) X130 hx (hb hby at_108) (XT.i0_ne_t (by decide)) (by decide) (by decide) ?_
      refine o_iload (pc' := 119) X130 hx (hb hby at_117) rfl rfl ?_
      refine o_iconst (pc' := 120) (v := (1 : Int32)) X130 hx (hb hby at_119) rfl rfl ?_
      refine o_icmpF (pc' := 123) X130 hx (hb hby at_120) (XT.ii_ne_f (by decide)) rfl ?_
      refine o_iload (pc' := 125) X130 hx (hb hby at_123) rfl rfl ?_
      refine o_iconst (pc' := 126) (v := (1 : Int32)) X130 hx (hb hby at_125) rfl rfl ?_
      refine o_iadd (pc' := 127) X130 hx (hb hby at_126)  rfl ?_
      refine o_istore (pc' := 129) (l' := #[.val (.int x0), .val (.int x1), .val (.int x2), .val (.int x3), .val (.int x4), .val (.int x5), .val (.int (x0 &&& (7 : Int32))), .val (.int (x1 &&& (7 : Int32))), .val (.int (spec2 (1 : Int32) (spec1 (x0 &&& (7 : Int32)) (x1 &&& (7 : Int32))))), .val (.int (x2 &&& (1073741823 : Int32))), .val (.int (1 : Int32)), .val (.ref b69), .val (.int (x5 + (1 : Int32))), .val (.int (x5 + (1 : Int32)))]) X130 hx (hb hby at_127) rfl rfl ?_
      refine o_goto (pc' := 138) X130 hx (hb hby at_129) (by decide) (by decide) ?_
      refine o_iload (pc' := 140) X130 hx (hb hby at_138) rfl rfl ?_
      refine o_iload (pc' := 142) X130 hx (hb hby at_140) rfl rfl ?_
      refine o_icmpF (pc' := 145) X130 hx (hb hby at_142) (XT.ii_ne_f rfl) rfl ?_
      refine o_iconst (pc' := 146) (v := (1 : Int32)) X130 hx (hb hby at_145) rfl rfl ?_
      refine o_goto (pc' := 150) X130 hx (hb hby at_146) (by decide) (by decide) ?_
      refine o_retZ X130 hx hret hlk (hb hby at_150) (by decide) (by decide) (by decide) ?_
      exact ⟨rfl, N118_⟩
    · subst hr
      obtain ⟨T131, h131_, X131, e131, E131, A131, D131, -, st131⟩ := newO X2 hx hZ hown (hw _ (List.mem_of_getElem? (i := 9) rfl)) (hw _ (List.mem_of_getElem? (i := 10) rfl)) (hw _ (List.mem_of_getElem? (i := 11) rfl)) e2 (g := (mkF m 54 #[.val (.int x0), .val (.int x1), .val (.int x2), .val (.int x3), .val (.int x4), .val (.int x5), .val (.int (x0 &&& (7 : Int32))), .val (.int (x1 &&& (7 : Int32))), .val (.int (spec2 (1 : Int32) (spec1 (x0 &&& (7 : Int32)) (x1 &&& (7 : Int32))))), .val (.int (x2 &&& (1073741823 : Int32))), .val (.int (2 : Int32)), .unset, .unset, .unset] [])) rfl (hb hby at_54) (by decide) (by decide)
      obtain ⟨b131, g131⟩ : ∃ z, z = h0.size := ⟨_, rfl⟩
      rw [← g131] at A131 D131 st131
      have ge132 : n0 ≤ b131 := by rw [g131]; exact Z0
      have K133 := (Keep.refl h0 []).ext E131
      have Z134 := Nat.le_trans Z0 K133.1
      have F135 : Fld Z h131_ b131 "com/example/stratigraph/stratigraph/store/RecentLists" "lists" "[[I" .null := D131 (Or.inr (hw _ (List.mem_of_getElem? (i := 23) rfl))) (ty := (.array (.array .int))) (by decide)
      have F136 : Fld Z h131_ b131 "com/example/stratigraph/stratigraph/store/RecentLists" "chains" "[I" .null := D131 (Or.inr (hw _ (List.mem_of_getElem? (i := 26) rfl))) (ty := (.array .int)) (by decide)
      refine oGo.step (f' := (mkF m 57 #[.val (.int x0), .val (.int x1), .val (.int x2), .val (.int x3), .val (.int x4), .val (.int x5), .val (.int (x0 &&& (7 : Int32))), .val (.int (x1 &&& (7 : Int32))), .val (.int (spec2 (1 : Int32) (spec1 (x0 &&& (7 : Int32)) (x1 &&& (7 : Int32))))), .val (.int (x2 &&& (1073741823 : Int32))), .val (.int (2 : Int32)), .unset, .unset, .unset] [(.ref b131)])) st131 ?_
      refine o_dup (pc' := 58) X131 hx (hb hby at_57) rfl rfl ?_
      refine o_iload (pc' := 60) X131 hx (hb hby at_58) rfl rfl ?_
      refine o_iload (pc' := 62) X131 hx (hb hby at_60) rfl rfl ?_
      obtain ⟨r137, T137, L137, X137, hq137, st137⟩ := o_callN X131 hx hZ hown rfl (hw _ (List.mem_of_getElem? (i := 12) rfl)) (hw _ (List.mem_of_getElem? (i := 13) rfl)) (hw _ (List.mem_of_getElem? (i := 11) rfl)) (hw _ (List.mem_of_getElem? (i := 14) rfl)) (by decide) (rm3 l Z a0 hw b131 (x0 &&& (7 : Int32)) (x1 &&& (7 : Int32)) h131_ n0 Z134 A131 F135 F136 ge132 hs0 hs1) e131 (pc' := 65) (Ls := #[.val (.int x0), .val (.int x1), .val (.int x2), .val (.int x3), .val (.int x4), .val (.int x5), .val (.int (x0 &&& (7 : Int32))), .val (.int (x1 &&& (7 : Int32))), .val (.int (spec2 (1 : Int32) (spec1 (x0 &&& (7 : Int32)) (x1 &&& (7 : Int32))))), .val (.int (x2 &&& (1073741823 : Int32))), .val (.int (2 : Int32)), .unset, .unset, .unset]) (by rw [hml]; rfl) [(.int (x0 &&& (7 : Int32))), (.int (x1 &&& (7 : Int32)))] [(.ref b131)] rfl pd1 rfl rfl 1 (Nat.le_of_eq rfl) (hb hby at_62) rfl (by decide) (by decide) (by decide) (by decide)
      obtain ⟨la, ca, rfl, N137, Kc137, E137_, F137_l, F137_c, R137_, A137_, ge_la, ge_ca, ne_al, ne_ac, ne_lc, sz_la, sz_ca⟩ := hq137
      refine oGo.step (f' := (mkF m 65 #[.val (.int x0), .val (.int x1), .val (.int x2), .val (.int x3), .val (.int x4), .val (.int x5), .val (.int (x0 &&& (7 : Int32))), .val (.int (x1 &&& (7 : Int32))), .val (.int (spec2 (1 : Int32) (spec1 (x0 &&& (7 : Int32)) (x1 &&& (7 : Int32))))), .val (.int (x2 &&& (1073741823 : Int32))), .val (.int (2 : Int32)), .unset, .unset, .unset] [(.ref b131)])) st137 ?_
      have N137_ := Fr.app N0 N137
      have K138 := Kc137
      have F139 := A131.keep K138
      have Z142 := Nat.le_trans Z134 K138.1
      obtain ⟨N, hN⟩ : ∃ z, z = ((spec2 (1 : Int32) (spec1 (x0 &&& (7 : Int32)) (x1 &&& (7 : Int32))))).toNatClampNeg := ⟨_, rfl⟩
      rw [← hN] at R137_ A137_
      obtain ⟨vs, hvs⟩ : ∃ z, z = List.replicate N Value.null := ⟨_, rfl⟩
      obtain ⟨xs, hxs⟩ : ∃ z, z = List.replicate N (0 : Int32) := ⟨_, rfl⟩
      rw [← hvs] at R137_
      rw [← hxs] at A137_
      have lv : vs.length = N := by rw [hvs]; simp
      have lx : xs.length = N := by rw [hxs]; simp
      have N1 : 0 < N := by rw [hN]; exact hs2
      have N2 : N < 2 ^ 31 := by rw [hN]; exact Nat.lt_of_le_of_lt hs1 (by decide)
      refine o_astore (pc' := 67) (l' := #[.val (.int x0), .val (.int x1), .val (.int x2), .val (.int x3), .val (.int x4), .val (.int x5), .val (.int (x0 &&& (7 : Int32))), .val (.int (x1 &&& (7 : Int32))), .val (.int (spec2 (1 : Int32) (spec1 (x0 &&& (7 : Int32)) (x1 &&& (7 : Int32))))), .val (.int (x2 &&& (1073741823 : Int32))), .val (.int (2 : Int32)), .val (.ref b131), .unset, .unset]) X137 hx (hb hby at_65) rfl rfl rfl ?_
      refine o_aload (pc' := 69) X137 hx (hb hby at_67) rfl rfl rfl ?_
      refine o_iload (pc' := 71) X137 hx (hb hby at_69) rfl rfl ?_
      refine o_iconst (pc' := 72) (v := (0 : Int32)) X137 hx (hb hby at_71) rfl rfl ?_
      obtain ⟨T143, h143_, X143, e143, E143, A143, Y143, st143⟩ := o_newIE (Ls := #[.val (.int x0), .val (.int x1), .val (.int x2), .val (.int x3), .val (.int x4), .val (.int x5), .val (.int (x0 &&& (7 : Int32))), .val (.int (x1 &&& (7 : Int32))), .val (.int (spec2 (1 : Int32) (spec1 (x0 &&& (7 : Int32)) (x1 &&& (7 : Int32))))), .val (.int (x2 &&& (1073741823 : Int32))), .val (.int (2 : Int32)), .val (.ref b131), .unset, .unset]) (st := [(.int (x2 &&& (1073741823 : Int32))), (.ref b131)]) (n := (0 : Int32)) X137 hx hZ (hw _ (List.mem_of_getElem? (i := 24) rfl)) (rfl : T137.heap = _) (hb hby at_72) (by decide) 0 (by decide) (by decide) (by decide) (by decide) rfl
      obtain ⟨b143, g143⟩ : ∃ z, z = T137.heap.size := ⟨_, rfl⟩
      rw [← g143] at A143 Y143 st143
      have ne144 : b131 ≠ b143 := by rw [g143]; exact Nat.ne_of_lt E137_.lt
      have ne145 : la ≠ b143 := by rw [g143]; exact Nat.ne_of_lt R137_.lt
      have ne146 : ca ≠ b143 := by rw [g143]; exact Nat.ne_of_lt A137_.lt
      have ge147 : n0 ≤ b143 := by rw [g143]; exact Z142
      have K148 := (Keep.refl T137.heap []).ext E143
      have F149 := E137_.keep K148
      have F150 := F137_l.keep K148 nin0
      have F151 := F137_c.keep K148 nin0
      have F152 := R137_.keep K148 nin0
      have F153 := A137_.keep K148 nin0
      have Z154 := Nat.le_trans Z142 K148.1
      refine oGo.step (f' := (mkF m 74 #[.val (.int x0), .val (.int x1), .val (.int x2), .val (.int x3), .val (.int x4), .val (.int x5), .val (.int (x0 &&& (7 : Int32))), .val (.int (x1 &&& (7 : Int32))), .val (.int (spec2 (1 : Int32) (spec1 (x0 &&& (7 : Int32)) (x1 &&& (7 : Int32))))), .val (.int (x2 &&& (1073741823 : Int32))), .val (.int (2 : Int32)), .val (.ref b131), .unset, .unset] [(.ref b143), (.int (x2 &&& (1073741823 : Int32))), (.ref b131)])) st143 ?_
      refine o_iload (pc' := 76) X143 hx (hb hby at_74) rfl rfl ?_
      obtain ⟨r155, T155, L155, X155, hq155, st155⟩ := o_callV X143 hx hZ hown (hw _ (List.mem_of_getElem? (i := 27) rfl)) (hw _ (List.mem_of_getElem? (i := 28) rfl)) (hw _ (List.mem_of_getElem? (i := 30) rfl)) (hw _ (List.mem_of_getElem? (i := 29) rfl)) (hw _ (List.mem_of_getElem? (i := 11) rfl)) (hw _ (List.mem_of_getElem? (i := 31) rfl)) (by decide) F149 (rm5 l Z a0 hw b131 (x2 &&& (1073741823 : Int32)) b143 x4 la ca vs xs N h143_ n0 Z154 F149 F150 F151 F152 F153 Y143 lv lx N1 N2 hb0 ge_la ge_ca ne_al ne_ac ne_lc) e143 (pc' := 79) (Ls := #[.val (.int x0), .val (.int x1), .val (.int x2), .val (.int x3), .val (.int x4), .val (.int x5), .val (.int (x0 &&& (7 : Int32))), .val (.int (x1 &&& (7 : Int32))), .val (.int (spec2 (1 : Int32) (spec1 (x0 &&& (7 : Int32)) (x1 &&& (7 : Int32))))), .val (.int (x2 &&& (1073741823 : Int32))), .val (.int (2 : Int32)), .val (.ref b131), .unset, .unset]) (by rw [hml]; rfl) [(.int (x2 &&& (1073741823 : Int32))), (.ref b143), (.int x4)] [] rfl pd2 rfl rfl 0 (Nat.le_of_eq rfl) (hb hby at_76) rfl (by decide) (by decide) (by decide) (by decide)
      obtain ⟨rfl, N155, Kc155, R155_, A155_⟩ := hq155
      refine oGo.step (f' := (mkF m 79 #[.val (.int x0), .val (.int x1), .val (.int x2), .val (.int x3), .val (.int x4), .val (.int x5), .val (.int (x0 &&& (7 : Int32))), .val (.int (x1 &&& (7 : Int32))), .val (.int (spec2 (1 : Int32) (spec1 (x0 &&& (7 : Int32)) (x1 &&& (7 : Int32))))), .val (.int (x2 &&& (1073741823 : Int32))), .val (.int (2 : Int32)), .val (.ref b131), .unset, .unset] [])) st155 ?_
      have N155_ := Fr.app N137_ N155
      have K156 := Kc155
      have F157 := F149.keep K156
      have F158 := F150.keep K156 (ninS ne_al (ninS ne_ac nin0))
      have F159 := F151.keep K156 (ninS ne_al (ninS ne_ac nin0))
      have F162 := A143.keep K156 (ninS (Ne.symm ne145) (ninS (Ne.symm ne146) nin0))
      have F163 := Y143.keep K156
      have Z164 := Nat.le_trans Z154 K156.1
      obtain ⟨vs155, hvs155⟩ : ∃ z, z = vs.set (oI (x2 &&& (1073741823 : Int32)) N) (Value.ref b143) := ⟨_, rfl⟩
      obtain ⟨xs155, hxs155⟩ : ∃ z, z = xs.set (oI (x2 &&& (1073741823 : Int32)) N) x4 := ⟨_, rfl⟩
      rw [← hvs155] at R155_
      rw [← hxs155] at A155_
      have lv155 : vs155.length = N := by rw [hvs155, List.length_set]; exact lv
      have lx155 : xs155.length = N := by rw [hxs155, List.length_set]; exact lx
      have X155 := o_flat X155 rfl rfl
      refine o_aload (pc' := 81) X155 hx (hb hby at_79) rfl rfl rfl ?_
      refine o_iload (pc' := 83) X155 hx (hb hby at_81) rfl rfl ?_
      refine o_iconst (pc' := 84) (v := (1 : Int32)) X155 hx (hb hby at_83) rfl rfl ?_
      refine o_iadd (pc' := 85) X155 hx (hb hby at_84)  rfl ?_
      refine o_iconst (pc' := 86) (v := (0 : Int32)) X155 hx (hb hby at_85) rfl rfl ?_
      obtain ⟨T165, h165_, X165, e165, E165, A165, Y165, st165⟩ := o_newIE (Ls := #[.val (.int x0), .val (.int x1), .val (.int x2), .val (.int x3), .val (.int x4), .val (.int x5), .val (.int (x0 &&& (7 : Int32))), .val (.int (x1 &&& (7 : Int32))), .val (.int (spec2 (1 : Int32) (spec1 (x0 &&& (7 : Int32)) (x1 &&& (7 : Int32))))), .val (.int (x2 &&& (1073741823 : Int32))), .val (.int (2 : Int32)), .val (.ref b131), .unset, .unset]) (st := [(.int ((x2 &&& (1073741823 : Int32)) + (1 : Int32))), (.ref b131)]) (n := (0 : Int32)) X155 hx hZ (hw _ (List.mem_of_getElem? (i := 24) rfl)) (rfl : T155.heap = _) (hb hby at_86) (by decide) 0 (by decide) (by decide) (by decide) (by decide) rfl
      obtain ⟨b165, g165⟩ : ∃ z, z = T155.heap.size := ⟨_, rfl⟩
      rw [← g165] at A165 Y165 st165
      have ne166 : b131 ≠ b165 := by rw [g165]; exact Nat.ne_of_lt F157.lt
      have ne167 : b143 ≠ b165 := by rw [g165]; exact Nat.ne_of_lt F162.lt
      have ne168 : la ≠ b165 := by rw [g165]; exact Nat.ne_of_lt R155_.lt
      have ne169 : ca ≠ b165 := by rw [g165]; exact Nat.ne_of_lt A155_.lt
      have ge170 : n0 ≤ b165 := by rw [g165]; exact Z164
      have K171 := (Keep.refl T155.heap []).ext E165
      have F172 := F157.keep K171
      have F173 := F158.keep K171 nin0
      have F174 := F159.keep K171 nin0
      have F175 := F162.keep K171 nin0
      have F176 := F163.keep K171
      have F177 := R155_.keep K171 nin0
      have F178 := A155_.keep K171 nin0
      have Z179 := Nat.le_trans Z164 K171.1
      refine oGo.step (f' := (mkF m 88 #[.val (.int x0), .val (.int x1), .val (.int x2), .val (.int x3), .val (.int x4), .val (.int x5), .val (.int (x0 &&& (7 : Int32))), .val (.int (x1 &&& (7 : Int32))), .val (.int (spec2 (1 : Int32) (spec1 (x0 &&& (7 : Int32)) (x1 &&& (7 : Int32))))), .val (.int (x2 &&& (1073741823 : Int32))), .val (.int (2 : Int32)), .val (.ref b131), .unset, .unset] [(.ref b165), (.int ((x2 &&& (1073741823 : Int32)) + (1 : Int32))), (.ref b131)])) st165 ?_
      refine o_iload (pc' := 90) X165 hx (hb hby at_88) rfl rfl ?_
      obtain ⟨r180, T180, L180, X180, hq180, st180⟩ := o_callV X165 hx hZ hown (hw _ (List.mem_of_getElem? (i := 27) rfl)) (hw _ (List.mem_of_getElem? (i := 28) rfl)) (hw _ (List.mem_of_getElem? (i := 30) rfl)) (hw _ (List.mem_of_getElem? (i := 29) rfl)) (hw _ (List.mem_of_getElem? (i := 11) rfl)) (hw _ (List.mem_of_getElem? (i := 31) rfl)) (by decide) F172 (rm5 l Z a0 hw b131 ((x2 &&& (1073741823 : Int32)) + (1 : Int32)) b165 x5 la ca vs155 xs155 N h165_ n0 Z179 F172 F173 F174 F177 F178 Y165 lv155 lx155 N1 N2 hb1 ge_la ge_ca ne_al ne_ac ne_lc) e165 (pc' := 93) (Ls := #[.val (.int x0), .val (.int x1), .val (.int x2), .val (.int x3), .val (.int x4), .val (.int x5), .val (.int (x0 &&& (7 : Int32))), .val (.int (x1 &&& (7 : Int32))), .val (.int (spec2 (1 : Int32) (spec1 (x0 &&& (7 : Int32)) (x1 &&& (7 : Int32))))), .val (.int (x2 &&& (1073741823 : Int32))), .val (.int (2 : Int32)), .val (.ref b131), .unset, .unset]) (by rw [hml]; rfl) [(.int ((x2 &&& (1073741823 : Int32)) + (1 : Int32))), (.ref b165), (.int x5)] [] rfl pd2 rfl rfl 0 (Nat.le_of_eq rfl) (hb hby at_90) rfl (by decide) (by decide) (by decide) (by decide)
      obtain ⟨rfl, N180, Kc180, R180_, A180_⟩ := hq180
      refine oGo.step (f' := (mkF m 93 #[.val (.int x0), .val (.int x1), .val (.int x2), .val (.int x3), .val (.int x4), .val (.int x5), .val (.int (x0 &&& (7 : Int32))), .val (.int (x1 &&& (7 : Int32))), .val (.int (spec2 (1 : Int32) (spec1 (x0 &&& (7 : Int32)) (x1 &&& (7 : Int32))))), .val (.int (x2 &&& (1073741823 : Int32))), .val (.int (2 : Int32)), .val (.ref b131), .unset, .unset] [])) st180 ?_
      have N180_ := Fr.app N155_ N180
      have K181 := Kc180
      have F182 := F172.keep K181
      have F183 := F173.keep K181 (ninS ne_al (ninS ne_ac nin0))
      have F184 := F174.keep K181 (ninS ne_al (ninS ne_ac nin0))
      have F185 := F175.keep K181 (ninS (Ne.symm ne145) (ninS (Ne.symm ne146) nin0))
      have F186 := F176.keep K181
      have F189 := A165.keep K181 (ninS (Ne.symm ne168) (ninS (Ne.symm ne169) nin0))
      have F190 := Y165.keep K181
      have Z191 := Nat.le_trans Z179 K181.1
      obtain ⟨vs180, hvs180⟩ : ∃ z, z = vs155.set (oI ((x2 &&& (1073741823 : Int32)) + (1 : Int32)) N) (Value.ref b165) := ⟨_, rfl⟩
      obtain ⟨xs180, hxs180⟩ : ∃ z, z = xs155.set (oI ((x2 &&& (1073741823 : Int32)) + (1 : Int32)) N) x5 := ⟨_, rfl⟩
      rw [← hvs180] at R180_
      rw [← hxs180] at A180_
      have lv180 : vs180.length = N := by rw [hvs180, List.length_set]; exact lv155
      have lx180 : xs180.length = N := by rw [hxs180, List.length_set]; exact lx155
      have X180 := o_flat X180 rfl rfl
      refine o_aload (pc' := 95) X180 hx (hb hby at_93) rfl rfl rfl ?_
      refine o_iload (pc' := 97) X180 hx (hb hby at_95) rfl rfl ?_
      refine o_iconst (pc' := 98) (v := (2 : Int32)) X180 hx (hb hby at_97) rfl rfl ?_
      refine o_iadd (pc' := 99) X180 hx (hb hby at_98)  rfl ?_
      refine o_iload (pc' := 101) X180 hx (hb hby at_99) rfl rfl ?_
      have ed1 : (((x2 &&& (1073741823 : Int32)) + (2 : Int32)) - (1 : Int32)).toInt = (x2 &&& (1073741823 : Int32)).toInt + 1 := by rw [own_sub (by omega) (by omega) (by omega)]; omega
      have hd1 : ¬ (((x2 &&& (1073741823 : Int32)) + (2 : Int32)) - (1 : Int32)) < 0 := own_nlt (by omega)
      have ed2 : (((x2 &&& (1073741823 : Int32)) + (2 : Int32)) - (2 : Int32)).toInt = (x2 &&& (1073741823 : Int32)).toInt := by rw [own_sub (by omega) (by omega) (by omega)]; omega
      have hd2 : ¬ (((x2 &&& (1073741823 : Int32)) + (2 : Int32)) - (2 : Int32)) < 0 := own_nlt (by omega)
      have hne : oI ((x2 &&& (1073741823 : Int32)) + (1 : Int32)) N ≠ oI (x2 &&& (1073741823 : Int32)) N := own_ne hb0 hb1 eb1 hN hs0 hsp N2
      obtain ⟨r192, T192, L192, X192, hq192, st192⟩ := o_callV X180 hx hZ hown (hw _ (List.mem_of_getElem? (i := 33) rfl)) (hw _ (List.mem_of_getElem? (i := 34) rfl)) (hw _ (List.mem_of_getElem? (i := 36) rfl)) (hw _ (List.mem_of_getElem? (i := 35) rfl)) (hw _ (List.mem_of_getElem? (i := 11) rfl)) (hw _ (List.mem_of_getElem? (i := 37) rfl)) (by decide) F182 (rm6 l Z a0 hw b131 ((x2 &&& (1073741823 : Int32)) + (2 : Int32)) (2 : Int32) ca xs180 N T180.heap n0 Z191 F182 F184 A180_ lx180 N1 N2 (fun _ => hd2)) (rfl : T180.heap = _) (pc' := 104) (Ls := #[.val (.int x0), .val (.int x1), .val (.int x2), .val (.int x3), .val (.int x4), .val (.int x5), .val (.int (x0 &&& (7 : Int32))), .val (.int (x1 &&& (7 : Int32))), .val (.int (spec2 (1 : Int32) (spec1 (x0 &&& (7 : Int32)) (x1 &&& (7 : Int32))))), .val (.int (x2 &&& (1073741823 : Int32))), .val (.int (2 : Int32)), .val (.ref b131), .unset, .unset]) (by rw [hml]; rfl) [(.int ((x2 &&& (1073741823 : Int32)) + (2 : Int32))), (.int (2 : Int32))] [] rfl pd0 rfl rfl 0 (Nat.le_of_eq rfl) (hb hby at_101) rfl (by decide) (by decide) (by decide) (by decide)
      obtain ⟨rfl, rfl, Kc192⟩ := hq192
      have hc192 : (spec6 ((x2 &&& (1073741823 : Int32)) + (2 : Int32)) (2 : Int32) xs180 N) = (x4 + (1 : Int32)) := own_chain (by decide) (by rw [hxs180, own_ie (x := ((x2 &&& (1073741823 : Int32)) + (2 : Int32)) - (2 : Int32)) (y := (x2 &&& (1073741823 : Int32))) hd2 hb0 N1 N2 (by rw [ed2] <;> rfl), own_gsn hne, hxs155, own_gs (by rw [lx]; exact (own_mod hb0 N1 N2).2.2.1)])
      rw [hc192] at st192
      refine oGo.step (f' := (mkF m 104 #[.val (.int x0), .val (.int x1), .val (.int x2), .val (.int x3), .val (.int x4), .val (.int x5), .val (.int (x0 &&& (7 : Int32))), .val (.int (x1 &&& (7 : Int32))), .val (.int (spec2 (1 : Int32) (spec1 (x0 &&& (7 : Int32)) (x1 &&& (7 : Int32))))), .val (.int (x2 &&& (1073741823 : Int32))), .val (.int (2 : Int32)), .val (.ref b131), .unset, .unset] [(.int (x4 + (1 : Int32)))])) st192 ?_
      have e192 : T192.heap = T180.heap := Kc192
      have X192 := o_same X192 rfl rfl
      refine o_istore (pc' := 106) (l' := #[.val (.int x0), .val (.int x1), .val (.int x2), .val (.int x3), .val (.int x4), .val (.int x5), .val (.int (x0 &&& (7 : Int32))), .val (.int (x1 &&& (7 : Int32))), .val (.int (spec2 (1 : Int32) (spec1 (x0 &&& (7 : Int32)) (x1 &&& (7 : Int32))))), .val (.int (x2 &&& (1073741823 : Int32))), .val (.int (2 : Int32)), .val (.ref b131), .val (.int (x4 + (1 : Int32))), .unset]) X192 hx (hb hby at_104) rfl rfl ?_
      refine o_iload (pc' := 108) X192 hx (hb hby at_106) rfl rfl ?_
      refine o_ifT (pc' := 117) X192 hx (hb hby at_108) (XT.i0_ne_t (by decide)) (by decide) (by decide) ?_
      refine o_iload (pc' := 119) X192 hx (hb hby at_117) rfl rfl ?_
      refine o_iconst (pc' := 120) (v := (1 : Int32)) X192 hx (hb hby at_119) rfl rfl ?_
      refine o_icmpT (pc' := 132) X192 hx (hb hby at_120) (XT.ii_ne_t (by decide)) (by decide) (by decide) ?_
      refine o_iload (pc' := 134) X192 hx (hb hby at_132) rfl rfl ?_
      refine o_iconst (pc' := 135) (v := (1 : Int32)) X192 hx (hb hby at_134) rfl rfl ?_
      refine o_iadd (pc' := 136) X192 hx (hb hby at_135)  rfl ?_
      refine o_istore (pc' := 138) (l' := #[.val (.int x0), .val (.int x1), .val (.int x2), .val (.int x3), .val (.int x4), .val (.int x5), .val (.int (x0 &&& (7 : Int32))), .val (.int (x1 &&& (7 : Int32))), .val (.int (spec2 (1 : Int32) (spec1 (x0 &&& (7 : Int32)) (x1 &&& (7 : Int32))))), .val (.int (x2 &&& (1073741823 : Int32))), .val (.int (2 : Int32)), .val (.ref b131), .val (.int (x4 + (1 : Int32))), .val (.int (x4 + (1 : Int32)))]) X192 hx (hb hby at_136) rfl rfl ?_
      refine o_iload (pc' := 140) X192 hx (hb hby at_138) rfl rfl ?_
      refine o_iload (pc' := 142) X192 hx (hb hby at_140) rfl rfl ?_
      refine o_icmpF (pc' := 145) X192 hx (hb hby at_142) (XT.ii_ne_f rfl) rfl ?_
      refine o_iconst (pc' := 146) (v := (1 : Int32)) X192 hx (hb hby at_145) rfl rfl ?_
      refine o_goto (pc' := 150) X192 hx (hb hby at_146) (by decide) (by decide) ?_
      refine o_retZ X192 hx hret hlk (hb hby at_150) (by decide) (by decide) (by decide) ?_
      exact ⟨rfl, N180_⟩
  by_cases c3 : ((x3 &&& (2147483647 : Int32)) % (3 : Int32)) = (2 : Int32)
  · refine o_icmpF (pc' := 45) X2 hx (hb hby at_42) (XT.ii_ne_f c3) rfl ?_
    refine o_iload (pc' := 47) X2 hx (hb hby at_45) rfl rfl ?_
    refine o_iconst (pc' := 48) (v := (2 : Int32)) X2 hx (hb hby at_47) rfl rfl ?_
    by_cases c5 : (spec2 (1 : Int32) (spec1 (x0 &&& (7 : Int32)) (x1 &&& (7 : Int32)))) < (2 : Int32)
    · refine o_icmpF (pc' := 51) X2 hx (hb hby at_48) (XT.ii_ge_f c5) rfl ?_
      refine o_iconst (pc' := 52) (v := (1 : Int32)) X2 hx (hb hby at_51) rfl rfl ?_
      refine o_istore (pc' := 54) (l' := #[.val (.int x0), .val (.int x1), .val (.int x2), .val (.int x3), .val (.int x4), .val (.int x5), .val (.int (x0 &&& (7 : Int32))), .val (.int (x1 &&& (7 : Int32))), .val (.int (spec2 (1 : Int32) (spec1 (x0 &&& (7 : Int32)) (x1 &&& (7 : Int32))))), .val (.int (x2 &&& (1073741823 : Int32))), .val (.int (1 : Int32)), .unset, .unset, .unset]) X2 hx (hb hby at_52) rfl rfl ?_
      exact J4 _ ((if_pos c3).trans (if_pos c5)).symm
    · refine o_icmpT (pc' := 54) X2 hx (hb hby at_48) (XT.ii_ge_t c5) (by decide) (by decide) ?_
      exact J4 _ ((if_pos c3).trans (if_neg c5)).symm
  · refine o_icmpT (pc' := 54) X2 hx (hb hby at_42) (XT.ii_ne_t c3) (by decide) (by decide) ?_
    exact J4 _ (if_neg c3).symm
set_option maxRecDepth 65536 in
set_option maxHeartbeats 40000000 in
theorem comes_1 {Post : Tables → Env → Array Value → State → Outcome → State → Prop} (hpost : ∀ tb e args s v u, (limb_1_1.after args s (.returned v) u = true ∧ limb_1_2.after args s (.returned v) u = true ∧ True) → FrameEnd s (.returned v) u (Jvm.fieldLocs frame_1_writes args s ++ Jvm.arrayLocs frame_1_arrays args s ++ Jvm.staticLocs frame_1_statics s) 24 128 → Post tb e args s (.returned v) u) :
    ArmFor flags0 classFile x code maxLocals ret World_1 tables_1 room_1 Calls_1 rest_1 Pre_1 Post := by
  intro l hfl _ _ p e ha hc hk s m args below hf hA hF happ hP
  obtain ⟨hcalls, hrest, hpre⟩ := hP
  obtain ⟨-, -, -, hnamed, -, -, -, hat⟩ := (Spec.applies_iff hf).mp happ
  obtain ⟨hg, hn⟩ := and_e (Cond.before_iff.mp (show (Jvm.Cond.and given_1 narrow_1).before args s = true from hpre))
  obtain ⟨hcount, q0⟩ := and_e hg
  obtain ⟨a0, q1⟩ := and_e q0
  obtain ⟨a1, q2⟩ := and_e q1
  obtain ⟨a2, q3⟩ := and_e q2
  obtain ⟨a3, q4⟩ := and_e q3
  obtain ⟨a4, q5⟩ := and_e q4
  obtain ⟨w0, w1, w2, w3, w4, w5, rfl⟩ : ∃ w0 w1 w2 w3 w4 w5 : Value, args = #[w0, w1, w2, w3, w4, w5] := by
    have hs : args.size = 6 := by simpa [Cond.value, given_1] using hcount
    obtain ⟨L⟩ := args
    match L, hs with
    | [w0, w1, w2, w3, w4, w5], _ => exact ⟨w0, w1, w2, w3, w4, w5, rfl⟩
  have hw := fun d (hd : d ∈ tables_1) => atoms_spec (ws := Jvm.Cond.code x code maxLocals ret :: tables_1) hat d (List.mem_cons_of_mem _ hd)
  have hfit : Fit s := fun {y c} hc i hi => by
    obtain ⟨ha, rfl⟩ := Array.getElem?_eq_some_iff.mp hc
    have q := List.all_eq_true.mp ((Array.all_eq_true_iff_forall_mem.mp hF) _ (Array.getElem_mem ha)) i (List.mem_range.mpr hi)
    simpa [Array.getElem?_eq_getElem hi] using q
  obtain ⟨x0, e0⟩ := is_v a0
  obtain rfl : w0 = (.int x0) := Option.some.inj e0
  obtain ⟨x1, e1⟩ := is_v a1
  obtain rfl : w1 = (.int x1) := Option.some.inj e1
  obtain ⟨x2, e2⟩ := is_v a2
  obtain rfl : w2 = (.int x2) := Option.some.inj e2
  obtain ⟨x3, e3⟩ := is_v a3
  obtain rfl : w3 = (.int x3) := Option.some.inj e3
  obtain ⟨x4, e4⟩ := is_v a4
  obtain rfl : w4 = (.int x4) := Option.some.inj e4
  obtain ⟨x5, e5⟩ := is_v q5
  obtain rfl : w5 = (.int x5) := Option.some.inj e5
  obtain ⟨n, o, h1, h2, h3, _, L, rfl, ⟨rfl, N⟩, hq⟩ := rm0 l s _ hw x0 x1 x2 x3 x4 x5  s.heap s.heap.size (Nat.le_refl _)  tables_1 p e ha hc hk s m _ below hf ((Spec.applies_iff_loose hf).mp happ).1 ⟨rfl, State.Warmed39.refl s, rfl⟩ trivial
  refine ⟨n, _, h1, h2, h3, hpost _ _ _ _ _ _ ⟨Cond.after_iff.mpr rfl, Cond.after_iff.mpr (eq_i res_at (Term.int_eval (1)) rfl), trivial⟩ ⟨hq.1, hq.2.1, (hq.2.2.sift fun y hy => Or.inr (N y hy)).mono (by decide) (by decide)⟩⟩
theorem main_1_1 : Claimed_1_1 := comes_1 fun _ _ _ _ _ _ h hF => ⟨h.1, hF⟩
theorem main_1_2 : Claimed_1_2 := comes_1 fun _ _ _ _ _ _ h hF => ⟨h.2.1, hF⟩
end Jvm.Pilot.@@N@@
namespace Jvm.Pilot.@@N@@
open Jvm Jvm.ClassFile Sem Op Lib Jvm.Free Jvm.Stand Jvm.Pilot.@@N@@.Jvm.D
/-! MADE BY PROGRAM (witnessworld.py) out of the Statement's table words and the real class files: 11 classes; the members and pool entries that the words name. The judged class is class 1, her method 1. -/
namespace start1
open Jvm.ClassFile
def u (s : String) : CpInfo := .utf8 (stringToUtf16 s)
/-- a pool by its gaps: so many unusable entries, then the entry; so many at the end -/
def gap : Nat → List CpInfo → List CpInfo
  | 0, r => r
  | n + 1, r => .unusable :: gap n r
def poolList (es : List (Nat × CpInfo)) (last : Nat) : List CpInfo := es.foldr (fun e r => gap e.1 (e.2 :: r)) (gap last [])
def pool (es : List (Nat × CpInfo)) (last : Nat) : Array CpInfo := ⟨poolList es last⟩
def fileOf (pool : Array CpInfo) (this : Nat) (attrs : Array Attribute := #[]) (ms : Array MethodInfo := #[]) (fl : Nat := 33) (sup : Nat := 0) (ifs : Array Nat := #[]) (fds : Array FieldInfo := #[]) : ClassFile where
  minorVersion := 0
  majorVersion := 65
  constantPool := pool
  accessFlags := fl
  thisClass := this
  superClass := sup
  interfaces := ifs
  fields := fds
  methods := ms
  attributes := attrs
def plain (name : String) (sup : Option ClassId) : Class where
  name := name
  kind := .ordinary
  loader := none
  accessFlags := 33
  super := sup
  interfaces := #[]
  cf := none
  fields := #[]
  methods := #[]
  instanceTypes := #[]
  staticTypes := #[]
  resolved := #[]
  callSites := []
  init := .initialized
  statics := none
  mirror := none

def pool0 : Array CpInfo := pool [(5, u "<init>"), (0, u "()V"), (1, .class_ 10), (1, u "java/lang/Object")] 113

def k0c0 : Code := { maxStack := 0, maxLocals := 1, code := object_method_1_code, exceptionTable := #[], attributes := #[] }
def k0m0 : Method := { name := "<init>", desc := "()V", sig := { parameters := [], returnType := none }, accessFlags := 1, code := some k0c0 }
/-- java/lang/Object -/
def k0 : Class := { plain "java/lang/Object" none with
  accessFlags := 33
  interfaces := #[]
  cf := some (fileOf pool0 8 #[] #[{ accessFlags := 1, nameIndex := 5, descriptorIndex := 6, attributes := #[] }] 33 0 #[] #[])
  fields := #[]
  methods := #[k0m0]
  instanceTypes := #[]
  staticTypes := #[]
  resolved := Array.replicate 124 none
  statics := none }

def pool1 : Array CpInfo := pool [(2, .class_ 4), (1, u "java/lang/Object"), (0, u "<init>"), (0, u "()V"), (0, .methodref 8 9), (0, .class_ 10), (0, .nameAndType 11 12), (0, u "java/lang/Math"), (0, u "min"), (0, u "(II)I"), (0, .methodref 8 14), (0, .nameAndType 15 12), (0, u "max"), (0, .integer 1073741823), (0, .integer 2147483647), (0, .class_ 19), (0, u "com/example/stratigraph/stratigraph/store/RecentLists"), (0, .methodref 18 21), (0, .nameAndType 5 22), (0, u "(II)V"), (0, .methodref 18 24), (0, .nameAndType 25 26), (0, u "add"), (0, u "(I[II)V"), (0, .methodref 18 28), (0, .nameAndType 29 12), (0, u "chain"), (0, .class_ 31), (0, u "com/example/stratigraph/stratigraph/store/RecentListsChainPinLaw"), (2, u "law"), (0, u "(IIIIII)Z")] 3

def k1m0 : Method := { name := "<init>", desc := "()V", sig := { parameters := [], returnType := none }, accessFlags := 1, code := none }
def k1c1 : Code := { maxStack := 4, maxLocals := 14, code := code, exceptionTable := #[], attributes := #[] }
def k1m1 : Method := { name := "law", desc := "(IIIIII)Z", sig := { parameters := [.int, .int, .int, .int, .int, .int], returnType := some .boolean }, accessFlags := 9, code := some k1c1 }
/-- com/example/stratigraph/stratigraph/store/RecentListsChainPinLaw -/
def k1 : Class := { plain "com/example/stratigraph/stratigraph/store/RecentListsChainPinLaw" (some 0) with
  accessFlags := 49
  interfaces := #[]
  cf := some (fileOf pool1 30 #[] #[{ accessFlags := 1, nameIndex := 5, descriptorIndex := 6, attributes := #[] }, { accessFlags := 9, nameIndex := 34, descriptorIndex := 35, attributes := #[] }] 49 2 #[] #[])
  fields := #[]
  methods := #[k1m0, k1m1]
  instanceTypes := #[]
  staticTypes := #[]
  resolved := Array.replicate 39 none
  statics := none }

def pool2 : Array CpInfo := pool [(1, .class_ 2), (0, u "java/lang/Math"), (1, .class_ 6), (1, u "java/lang/Object"), (0, u "<init>"), (0, u "()V"), (89, .class_ 100), (1, u "java/lang/Math$RandomNumberGeneratorHolder"), (71, u "negativeZeroFloatBits"), (0, u "J"), (2, u "negativeZeroDoubleBits"), (21, u "max"), (2, u "min"), (43, u "$assertionsDisabled"), (0, u "Z"), (88, u "(II)I"), (2, u "twoToTheDoubleScaleDown"), (0, u "D"), (4, u "twoToTheDoubleScaleUp"), (9, u "E"), (3, u "PI"), (2, u "TAU"), (2, u "DEGREES_TO_RADIANS"), (0, u "RADIANS_TO_DEGREES")] 94

def k2m0 : Method := { name := "<init>", desc := "()V", sig := { parameters := [], returnType := none }, accessFlags := 2, code := none }
def k2c1 : Code := { maxStack := 2, maxLocals := 2, code := jdk_29_method_65_code, exceptionTable := #[], attributes := #[] }
def k2m1 : Method := { name := "max", desc := "(II)I", sig := { parameters := [.int, .int], returnType := some .int }, accessFlags := 9, code := some k2c1 }
def k2c2 : Code := { maxStack := 2, maxLocals := 2, code := jdk_29_method_69_code, exceptionTable := #[], attributes := #[] }
def k2m2 : Method := { name := "min", desc := "(II)I", sig := { parameters := [.int, .int], returnType := some .int }, accessFlags := 9, code := some k2c2 }
/-- java/lang/Math -/
def k2 : Class := { plain "java/lang/Math" (some 0) with
  accessFlags := 49
  interfaces := #[]
  cf := some (fileOf pool2 1 #[.nestMembers #[98]] #[{ accessFlags := 2, nameIndex := 7, descriptorIndex := 8, attributes := #[] }, { accessFlags := 9, nameIndex := 198, descriptorIndex := 335, attributes := #[] }, { accessFlags := 9, nameIndex := 201, descriptorIndex := 335, attributes := #[] }] 49 4 #[] #[{ accessFlags := 25, nameIndex := 354, descriptorIndex := 339, attributes := #[] }, { accessFlags := 25, nameIndex := 358, descriptorIndex := 339, attributes := #[] }, { accessFlags := 25, nameIndex := 361, descriptorIndex := 339, attributes := #[] }, { accessFlags := 26, nameIndex := 364, descriptorIndex := 339, attributes := #[] }, { accessFlags := 26, nameIndex := 365, descriptorIndex := 339, attributes := #[] }, { accessFlags := 26, nameIndex := 172, descriptorIndex := 173, attributes := #[] }, { accessFlags := 26, nameIndex := 176, descriptorIndex := 173, attributes := #[] }, { accessFlags := 8, nameIndex := 344, descriptorIndex := 339, attributes := #[] }, { accessFlags := 8, nameIndex := 338, descriptorIndex := 339, attributes := #[] }, { accessFlags := 4120, nameIndex := 245, descriptorIndex := 246, attributes := #[] }])
  fields := #[{ name := "E", type := .double, accessFlags := 25, slot := 0, constantValue := 0 }, { name := "PI", type := .double, accessFlags := 25, slot := 1, constantValue := 0 }, { name := "TAU", type := .double, accessFlags := 25, slot := 2, constantValue := 0 }, { name := "DEGREES_TO_RADIANS", type := .double, accessFlags := 26, slot := 3, constantValue := 0 }, { name := "RADIANS_TO_DEGREES", type := .double, accessFlags := 26, slot := 4, constantValue := 0 }, { name := "negativeZeroFloatBits", type := .long, accessFlags := 26, slot := 5, constantValue := 0 }, { name := "negativeZeroDoubleBits", type := .long, accessFlags := 26, slot := 6, constantValue := 0 }, { name := "twoToTheDoubleScaleUp", type := .double, accessFlags := 8, slot := 7, constantValue := 0 }, { name := "twoToTheDoubleScaleDown", type := .double, accessFlags := 8, slot := 8, constantValue := 0 }, { name := "$assertionsDisabled", type := .boolean, accessFlags := 4120, slot := 9, constantValue := 0 }]
  methods := #[k2m0, k2m1, k2m2]
  instanceTypes := #[]
  staticTypes := #[.double, .double, .double, .double, .double, .long, .long, .double, .double, .boolean]
  resolved := Array.replicate 460 none
  statics := none }

def pool3 : Array CpInfo := pool [(1, .methodref 2 3), (0, .class_ 4), (0, .nameAndType 5 6), (0, u "java/lang/Object"), (0, u "<init>"), (0, u "()V"), (0, .methodref 8 9), (0, .class_ 10), (0, .nameAndType 11 12), (0, u "java/lang/Math"), (0, u "min"), (0, u "(II)I"), (0, .methodref 8 14), (0, .nameAndType 15 12), (0, u "max"), (0, .class_ 17), (0, u "[I"), (0, .fieldref 19 20), (0, .class_ 21), (0, .nameAndType 22 23), (0, u "com/example/stratigraph/stratigraph/store/RecentLists"), (0, u "lists"), (0, u "[[I"), (0, .fieldref 19 25), (0, .nameAndType 26 17), (0, u "chains"), (0, u "(II)V"), (4, u "chain"), (1, u "add"), (0, u "(I[II)V")] 2

def k3c0 : Code := { maxStack := 3, maxLocals := 4, code := prog_47_method_1_code, exceptionTable := #[], attributes := #[] }
def k3m0 : Method := { name := "<init>", desc := "(II)V", sig := { parameters := [.int, .int], returnType := none }, accessFlags := 0, code := some k3c0 }
def k3c1 : Code := { maxStack := 3, maxLocals := 3, code := prog_47_method_3_code, exceptionTable := #[], attributes := #[] }
def k3m1 : Method := { name := "chain", desc := "(II)I", sig := { parameters := [.int, .int], returnType := some .int }, accessFlags := 0, code := some k3c1 }
def k3c2 : Code := { maxStack := 3, maxLocals := 4, code := prog_47_method_4_code, exceptionTable := #[], attributes := #[] }
def k3m2 : Method := { name := "add", desc := "(I[II)V", sig := { parameters := [.int, (.array .int), .int], returnType := none }, accessFlags := 0, code := some k3c2 }
/-- com/example/stratigraph/stratigraph/store/RecentLists -/
def k3 : Class := { plain "com/example/stratigraph/stratigraph/store/RecentLists" (some 0) with
  accessFlags := 48
  interfaces := #[]
  cf := some (fileOf pool3 19 #[] #[{ accessFlags := 0, nameIndex := 5, descriptorIndex := 27, attributes := #[] }, { accessFlags := 0, nameIndex := 32, descriptorIndex := 12, attributes := #[] }, { accessFlags := 0, nameIndex := 34, descriptorIndex := 35, attributes := #[] }] 48 2 #[] #[{ accessFlags := 18, nameIndex := 22, descriptorIndex := 23, attributes := #[] }, { accessFlags := 18, nameIndex := 26, descriptorIndex := 17, attributes := #[] }])
  fields := #[{ name := "lists", type := (.array (.array .int)), accessFlags := 18, slot := 0, constantValue := 0 }, { name := "chains", type := (.array .int), accessFlags := 18, slot := 1, constantValue := 0 }]
  methods := #[k3m0, k3m1, k3m2]
  instanceTypes := #[(.array (.array .int)), (.array .int)]
  staticTypes := #[]
  resolved := Array.replicate 38 none
  statics := none }

def pool4 : Array CpInfo := pool [(1, u "java/lang/Cloneable"), (0, .class_ 1), (0, u "java/lang/Object"), (0, .class_ 3)] 3

/-- java/lang/Cloneable -/
def k4 : Class := { plain "java/lang/Cloneable" (some 0) with
  accessFlags := 1537
  interfaces := #[]
  cf := some (fileOf pool4 2 #[] #[] 1537 4 #[] #[])
  fields := #[]
  methods := #[]
  instanceTypes := #[]
  staticTypes := #[]
  resolved := Array.replicate 8 none
  statics := none }

def pool5 : Array CpInfo := pool [(1, u "java/io/Serializable"), (0, .class_ 1), (0, u "java/lang/Object"), (0, .class_ 3)] 3

/-- java/io/Serializable -/
def k5 : Class := { plain "java/io/Serializable" (some 0) with
  accessFlags := 1537
  interfaces := #[]
  cf := some (fileOf pool5 2 #[] #[] 1537 4 #[] #[])
  fields := #[]
  methods := #[]
  instanceTypes := #[]
  staticTypes := #[]
  resolved := Array.replicate 8 none
  statics := none }

/-- the primitive byte -/
def k6 : Class := { plain "byte" none with kind := .primitive 'B', accessFlags := 0x411 }
/-- [B -/
def k7 : Class := { plain "[B" (some 0) with kind := .array 6 .byte, interfaces := #[4, 5], accessFlags := 1041 }

/-- the primitive int -/
def k8 : Class := { plain "int" none with kind := .primitive 'I', accessFlags := 0x411 }
/-- [I -/
def k9 : Class := { plain "[I" (some 0) with kind := .array 8 .int, interfaces := #[4, 5], accessFlags := 1041 }

/-- [L[I; -/
def k10 : Class := { plain "[[I" (some 0) with kind := .array 9 (.array .int), interfaces := #[4, 5], accessFlags := 1041 }

def heap : Heap := #[{ cls := 10, slots := #[.null], vm := .none }]
def classes : Array Class := #[k0, k1, k2, k3, k4, k5, k6, k7, k8, k9, k10]
def interned : List (Array UInt16 × Addr) := []
def slotsUsed : Nat := 1
def theMethod : MethodId := ⟨1, 1⟩
def args0 : Array Value := #[.int 5, .int 5, .int 5, .int 5, .int 5, .int 5]
def aboutOver (below : List Frame) : State where
  vm := { classes := classes, interned := interned.toArray }
  heap := heap
  slotsUsed := slotsUsed
  threads := #[{ frames := .invoking theMethod args0 :: below }]
def below0 : List Frame := [.native { method := ⟨0, 0⟩, args := #[] }]
def about1 : State := aboutOver below0
def p0 : Program := .bare "" "" ""
def e0 : Env := launch0.env 0 0 0
theorem w_frames : about1.frames = Frame.invoking theMethod args0 :: below0 := rfl
set_option maxRecDepth 65536 in
theorem w_args : argsFit about1.vm theMethod args0 = true := by decide +kernel
set_option maxRecDepth 65536 in
theorem w_heap : heapFits about1 = true := by decide +kernel
set_option maxRecDepth 65536 in
theorem w_runnable : about1.curStatus? = some .runnable := by decide +kernel
set_option maxRecDepth 65536 in
theorem w_alone : about1.alone = true := by decide +kernel
set_option maxRecDepth 65536 in
theorem w_named : about1.methodNamed? x = some theMethod := by decide +kernel
set_option maxRecDepth 65536 in
theorem w_hears : about1.hears theMethod below0 = true := by decide +kernel
set_option maxRecDepth 65536 in
theorem w_ripe : about1.ripe theMethod args0 below0 = true := by decide +kernel
theorem w_running : about1.status = .running := rfl
set_option maxRecDepth 65536 in
theorem w_room : about1.hasRoom e0.platform room_1 = true :=
  launch0.hasRoom_least _ room_1 (by decide +kernel) (by decide +kernel) (by decide +kernel) (by decide +kernel) (by decide +kernel) (by decide +kernel)
theorem allAtoms_all (ts : List Jvm.Cond) (a : Array Jvm.Value) (st : Jvm.State) : (allAtoms ts).before a st = ts.all (fun c => c.before a st) := by
  induction ts with
  | nil => rfl
  | cons c t ih =>
    show (Jvm.Cond.and c (allAtoms t)).before a st = _
    rw [Jvm.Cond.before_and, ih, List.all_cons]
def words1 : List Jvm.Cond := Jvm.Cond.code x code maxLocals ret :: tables_1
/-- a 'code' word, met by the world's own term for the bytes: nothing is compared byte by byte -/
theorem code_word {y : MethodName} {bytes : ByteArray} {mx : Nat} {rt : Option FieldType} {a : Array Value} {s : State} {m : MethodId} {meth : Method} {c : Code} (h1 : s.methodNamed? y = some m) (h2 : s.vm.method? m = some meth) (h3 : meth.code = some c) (h4 : c.code = bytes)
    (h5 : (c.maxLocals == mx && c.exceptionTable.isEmpty && decide (c.maxStack ≤ mostOperands) && decide (meth.sig.returnType = rt) && !meth.locks && decide (parseMethodDescriptor y.desc = some meth.sig)) = true) : (Jvm.Cond.code y bytes mx rt).before a s = true := by
  simp only [Bool.and_eq_true, beq_iff_eq, Bool.not_eq_true', decide_eq_true_eq] at h5
  obtain ⟨⟨⟨⟨⟨g1, g2⟩, g3⟩, g4⟩, g5⟩, g6⟩ := h5
  simp [Cond.before, Cond.holds, Cond.value, h1, h2, h3, h4, g1, g2, g3, g4, g5, g6]
def isCode : Jvm.Cond → Bool
  | .code _ _ _ _ => true
  | _ => false
theorem all_split {L : List Jvm.Cond} {P : Jvm.Cond → Bool} (h1 : L.all (fun c => isCode c || P c) = true) (h2 : ∀ c ∈ L.filter isCode, P c = true) : L.all P = true := by
  refine List.all_eq_true.mpr fun c hc => ?_
  have h := List.all_eq_true.mp h1 c hc
  rcases Bool.eq_false_or_eq_true (isCode c) with hi | hi
  · exact h2 c (List.mem_filter.mpr ⟨hc, hi⟩)
  · simpa [hi] using h
set_option maxRecDepth 65536 in
theorem w_c0 : (Jvm.Cond.code x code maxLocals ret).before args0 about1 = true := code_word (m := ⟨1, 1⟩) (meth := k1m1) (c := k1c1) (by decide +kernel) rfl rfl rfl (by decide +kernel)
set_option maxRecDepth 65536 in
theorem w_c1 : (Jvm.Cond.code ({ cls := "java/lang/Math", name := "min", desc := "(II)I" } : Jvm.MethodName) jdk_29_method_69_code (2 : Nat) (Option.some Jvm.ClassFile.FieldType.int)).before args0 about1 = true := code_word (m := ⟨2, 2⟩) (meth := k2m2) (c := k2c2) (by decide +kernel) rfl rfl rfl (by decide +kernel)
set_option maxRecDepth 65536 in
theorem w_c2 : (Jvm.Cond.code ({ cls := "java/lang/Math", name := "max", desc := "(II)I" } : Jvm.MethodName) jdk_29_method_65_code (2 : Nat) (Option.some Jvm.ClassFile.FieldType.int)).before args0 about1 = true := code_word (m := ⟨2, 1⟩) (meth := k2m1) (c := k2c1) (by decide +kernel) rfl rfl rfl (by decide +kernel)
set_option maxRecDepth 65536 in
theorem w_c3 : (Jvm.Cond.code ({ cls := "com/example/stratigraph/stratigraph/store/RecentLists", name := "<init>", desc := "(II)V" } : Jvm.MethodName) prog_47_method_1_code (4 : Nat) (Option.none : Option Jvm.ClassFile.FieldType)).before args0 about1 = true := code_word (m := ⟨3, 0⟩) (meth := k3m0) (c := k3c0) (by decide +kernel) rfl rfl rfl (by decide +kernel)
set_option maxRecDepth 65536 in
theorem w_c4 : (Jvm.Cond.code ({ cls := "java/lang/Object", name := "<init>", desc := "()V" } : Jvm.MethodName) object_method_1_code (1 : Nat) (Option.none : Option Jvm.ClassFile.FieldType)).before args0 about1 = true := code_word (m := ⟨0, 0⟩) (meth := k0m0) (c := k0c0) (by decide +kernel) rfl rfl rfl (by decide +kernel)
set_option maxRecDepth 65536 in
theorem w_c5 : (Jvm.Cond.code ({ cls := "com/example/stratigraph/stratigraph/store/RecentLists", name := "add", desc := "(I[II)V" } : Jvm.MethodName) prog_47_method_4_code (4 : Nat) (Option.none : Option Jvm.ClassFile.FieldType)).before args0 about1 = true := code_word (m := ⟨3, 2⟩) (meth := k3m2) (c := k3c2) (by decide +kernel) rfl rfl rfl (by decide +kernel)
set_option maxRecDepth 65536 in
theorem w_c6 : (Jvm.Cond.code ({ cls := "com/example/stratigraph/stratigraph/store/RecentLists", name := "chain", desc := "(II)I" } : Jvm.MethodName) prog_47_method_3_code (3 : Nat) (Option.some Jvm.ClassFile.FieldType.int)).before args0 about1 = true := code_word (m := ⟨3, 1⟩) (meth := k3m1) (c := k3c1) (by decide +kernel) rfl rfl rfl (by decide +kernel)
def codes1 : List Jvm.Cond := [Jvm.Cond.code x code maxLocals ret, Jvm.Cond.code ({ cls := "java/lang/Math", name := "min", desc := "(II)I" } : Jvm.MethodName) jdk_29_method_69_code (2 : Nat) (Option.some Jvm.ClassFile.FieldType.int), Jvm.Cond.code ({ cls := "java/lang/Math", name := "max", desc := "(II)I" } : Jvm.MethodName) jdk_29_method_65_code (2 : Nat) (Option.some Jvm.ClassFile.FieldType.int), Jvm.Cond.code ({ cls := "com/example/stratigraph/stratigraph/store/RecentLists", name := "<init>", desc := "(II)V" } : Jvm.MethodName) prog_47_method_1_code (4 : Nat) (Option.none : Option Jvm.ClassFile.FieldType), Jvm.Cond.code ({ cls := "java/lang/Object", name := "<init>", desc := "()V" } : Jvm.MethodName) object_method_1_code (1 : Nat) (Option.none : Option Jvm.ClassFile.FieldType), Jvm.Cond.code ({ cls := "com/example/stratigraph/stratigraph/store/RecentLists", name := "add", desc := "(I[II)V" } : Jvm.MethodName) prog_47_method_4_code (4 : Nat) (Option.none : Option Jvm.ClassFile.FieldType), Jvm.Cond.code ({ cls := "com/example/stratigraph/stratigraph/store/RecentLists", name := "chain", desc := "(II)I" } : Jvm.MethodName) prog_47_method_3_code (3 : Nat) (Option.some Jvm.ClassFile.FieldType.int)]
set_option maxRecDepth 65536 in
theorem codes_eq : words1.filter isCode = codes1 := rfl
theorem w_codes : ∀ c ∈ words1.filter isCode, c.before args0 about1 = true := by
  rw [codes_eq]
  intro c hc
  simp only [codes1, List.mem_cons, List.not_mem_nil, or_false] at hc
  rcases hc with rfl | rfl | rfl | rfl | rfl | rfl | rfl
  · exact w_c0
  · exact w_c1
  · exact w_c2
  · exact w_c3
  · exact w_c4
  · exact w_c5
  · exact w_c6
set_option maxRecDepth 65536 in
theorem w_t1 : (words1.take 24).all (fun c => isCode c || c.before args0 about1) = true := by decide +kernel
set_option maxRecDepth 65536 in
theorem w_t2 : (words1.drop 24).all (fun c => isCode c || c.before args0 about1) = true := by decide +kernel
theorem w_tables : (allAtoms (Jvm.Cond.code x code maxLocals ret :: tables_1)).before args0 about1 = true := by
  rw [allAtoms_all]
  show words1.all (fun c => c.before args0 about1) = true
  refine all_split ?_ w_codes
  rw [← List.take_append_drop 24 words1, List.all_append, w_t1, w_t2]
  rfl
set_option maxRecDepth 65536 in
theorem w_case : (Jvm.Cond.and given_1 narrow_1).before args0 about1 = true := by decide +kernel
theorem w_applies : (headSpec (Jvm.Cond.code x code maxLocals ret :: tables_1) room_1).applies x e0.platform about1 = true :=
  (Spec.applies_iff w_frames).mpr ⟨w_running, w_runnable, w_alone, w_named, w_hears, w_ripe, w_room, w_tables⟩
theorem atStart : AtStart classFile x code maxLocals ret World_1 tables_1 room_1 Calls_1 rest_1 Pre_1 launch0 p0 e0 about1 theMethod args0 below0 :=
  ⟨lists_1, trivial, launch0.admits_env _ _ _, launch0.least_env, fairChoices_fair.cas, fairChoices_fair.clock, w_frames, w_args, w_heap, w_applies, trivial, trivial, w_case⟩
end start1
theorem witness_1 : WitnessClaimed_1 := ⟨start1.p0, start1.e0, start1.about1, start1.theMethod, start1.args0, start1.below0, start1.atStart⟩
end Jvm.Pilot.@@N@@
