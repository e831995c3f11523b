import JvmDerived
import JvmDerived.Pilot.@@N@@Statement
import JvmDerived.Pilot.@@N@@Code
set_option linter.unusedVariables false
set_option linter.unusedSimpArgs false
namespace Jvm.Own
open Sem ClassFile Op Lib Jvm.Stand Jvm.Free Jvm.LawKit Jvm.RoadKit
/-- the walk that stands in T at the frame g runs to the method's return, and Q is said of what it leaves -/
def OEnds (p : Program) (e : Env) (below : List Frame) (s : State) (C S : Nat) (Q : Option Value → Heap → List Loc → Prop) (T : State) (g : JFrame) : Prop :=
  ∃ (t : State) (v : Option Value) (L : List Loc), Steps p.tables e below (T.setTop g) t ∧ t.status = .running ∧ Ended t below (.returned v) ∧ Q v t.heap L ∧ FrameEnd s (.returned v) t L C S
/-- a callee's contract, at one array of arguments and one heap -/
def OCon (l : Launch) (Z : State) (y : MethodName) (bytes : ByteArray) (maxL : Nat) (ret : Option FieldType) (ws : List Jvm.Cond) (rm : Room) (as' : Array Value) (h : Heap) (Q : Option Value → Heap → List Loc → Prop) : Prop :=
  MetFree l y (head1 (Jvm.Cond.code y bytes maxL ret :: ws) rm) (fun a U => a = as' ∧ Z.Warmed39 U.vm ∧ U.heap = h) (fun _ _ _ _ _ => True) (fun _ U o U' => ∃ v L, o = .returned v ∧ Q v U'.heap L ∧ FrameEnd U o U' L rm.cells rm.slots)
section Walk
variable {p : Program} {l : Launch} {e : Env} {R : Room} {s : State} {m : MethodId} {args : Array Value} {below : List Frame} {meth : Method} {c : Code} {T : State} {locs : List Loc} {cells slots : Nat} {C S : Nat} {Q : Option Value → Heap → List Loc → Prop} {bytes : ByteArray} {pc n : Nat} {L : Array Slot} {st : List Value} {Z : State} {a0 : Array Value} {h : Heap}
theorem OEnds.pre {T' : State} {g g' : JFrame} (k : OEnds p e below s C S Q T' g') (f : ∀ t, Steps p.tables e below (T'.setTop g') t → Steps p.tables e below (T.setTop g) t) : OEnds p e below s C S Q T g := by
  obtain ⟨t, v, L, h1, h2⟩ := k
  exact ⟨t, v, L, f _ h1, h2⟩
theorem OEnds.weaken {Q' : Option Value → Heap → List Loc → Prop} {g : JFrame} (k : OEnds p e below s C S Q T g) (f : ∀ v h L, Q v h L → Q' v h L) : OEnds p e below s C S Q' T g := by
  obtain ⟨t, v, L, h1, h2, h3, h4, h5⟩ := k
  exact ⟨t, v, L, h1, h2, h3, f _ _ _ h4, h5⟩
theorem OCon.weaken {y : MethodName} {maxL : Nat} {ret : Option FieldType} {ws : List Jvm.Cond} {rm : Room} {as' : Array Value} {Q' : Option Value → Heap → List Loc → Prop} (k : OCon l Z y bytes maxL ret ws rm as' h Q) (f : ∀ v h L, Q v h L → Q' v h L) : OCon l Z y bytes maxL ret ws rm as' h Q' := by
  intro p e ha hc hk s m args below hf happ hP hK
  obtain ⟨n, o, h1, h2, h3, v, L, h4, h5, h6⟩ := k p e ha hc hk s m args below hf happ hP hK
  exact ⟨n, o, h1, h2, h3, v, L, h4, f _ _ _ h5, h6⟩
/-- a contract by a walk -/
theorem con {y : MethodName} {maxL : Nat} {ret : Option FieldType} {ws : List Jvm.Cond} {rm : Room} {as' : Array Value} (hp : plainFor y = true)
    (body : ∀ (p : Program) (e : Env) (s : State) (m : MethodId) (below : List Frame) (meth : Method) (c : Code) (s₁ : State), p.tables.exec = Jvm.exec → c.code = bytes → c.maxLocals = maxL → Z.Warmed39 s.vm → s.vm.findClass y.cls = some m.cls → meth.name = y.name → meth.sig.returnType = ret → meth.locks = false →
      Stand p l e rm s m as' below meth c s₁ [] 0 0 → s₁.heap = h → OEnds p e below s rm.cells rm.slots Q s₁ (entryFrame m as' maxL)) : OCon l Z y bytes maxL ret ws rm as' h Q := by
  refine MetFree.of_bodySF hp hisR ?_
  intro p e s m args below meth c s₁ Bd hml hP hK
  obtain ⟨rfl, hZ, hh⟩ := hP
  obtain ⟨t, v, L, h1, h2, h3, h4, h5⟩ := body p e s m below meth c s₁ Bd.exec Bd.bytes hml hZ (findClass_of_methodNamed Bd.named) (name_of_methodNamed Bd.named Bd.method).1 Bd.returns Bd.notSynchronized (Stand.of_body Bd) (by rw [← hh, Bd.state]; rfl)
  exact ⟨t, _, h1, h2, h3, v, L, rfl, h4, h5⟩
theorem entry {mm : MethodId} {as' : Array Value} {maxL : Nat} {g : JFrame} (q : entryFrame mm as' maxL = g) (k : OEnds p e below s C S Q T g) : OEnds p e below s C S Q T (entryFrame mm as' maxL) := q ▸ k
theorem s_iloadN (X : Stand p l e R s m args below meth c T locs cells slots) (hx : p.tables.exec = Jvm.exec) (hby : c.code = bytes) {i : Fin 4} {x : Int32} (hd : decode bytes pc = .ok (.iload_n i, 1)) (hl : L[i.val]? = some (.val (.int x))) (hn : pc + 1 = n) (k : OEnds p e below s C S Q T (mkF m n L (.int x :: st))) : OEnds p e below s C S Q T (mkF m pc L (st)) := by
  subst hn
  exact k.pre fun t r => XS.iloadN X.here hx rfl (hb hby hd) hl r
theorem s_iload (X : Stand p l e R s m args below meth c T locs cells slots) (hx : p.tables.exec = Jvm.exec) (hby : c.code = bytes) {i : Nat} {x : Int32} (hd : decode bytes pc = .ok (.iload i, 2)) (hl : L[i]? = some (.val (.int x))) (hn : pc + 2 = n) (k : OEnds p e below s C S Q T (mkF m n L (.int x :: st))) : OEnds p e below s C S Q T (mkF m pc L (st)) := by
  subst hn
  exact k.pre fun t r => XS.iload X.here hx rfl (hb hby hd) hl r
theorem s_lloadN (X : Stand p l e R s m args below meth c T locs cells slots) (hx : p.tables.exec = Jvm.exec) (hby : c.code = bytes) {i : Fin 4} {x : Int64} (hd : decode bytes pc = .ok (.lload_n i, 1)) (hl : L[i.val]? = some (.val (.long x))) (hn : pc + 1 = n) (k : OEnds p e below s C S Q T (mkF m n L (.long x :: st))) : OEnds p e below s C S Q T (mkF m pc L (st)) := by
  subst hn
  exact k.pre fun t r => XT.lloadN X.here hx rfl (hb hby hd) hl r
theorem s_lload (X : Stand p l e R s m args below meth c T locs cells slots) (hx : p.tables.exec = Jvm.exec) (hby : c.code = bytes) {i : Nat} {x : Int64} (hd : decode bytes pc = .ok (.lload i, 2)) (hl : L[i]? = some (.val (.long x))) (hn : pc + 2 = n) (k : OEnds p e below s C S Q T (mkF m n L (.long x :: st))) : OEnds p e below s C S Q T (mkF m pc L (st)) := by
  subst hn
  exact k.pre fun t r => XT.lload X.here hx rfl (hb hby hd) hl r
theorem s_aloadN (X : Stand p l e R s m args below meth c T locs cells slots) (hx : p.tables.exec = Jvm.exec) (hby : c.code = bytes) {i : Fin 4} {x : Value} (hd : decode bytes pc = .ok (.aload_n i, 1)) (hl : L[i.val]? = some (.val x)) (hv : x.isRef = true) (hn : pc + 1 = n) (k : OEnds p e below s C S Q T (mkF m n L (x :: st))) : OEnds p e below s C S Q T (mkF m pc L (st)) := by
  subst hn
  exact k.pre fun t r => XS.aloadN X.here hx rfl (hb hby hd) hl hv r
theorem s_aload (X : Stand p l e R s m args below meth c T locs cells slots) (hx : p.tables.exec = Jvm.exec) (hby : c.code = bytes) {i : Nat} {x : Value} (hd : decode bytes pc = .ok (.aload i, 2)) (hl : L[i]? = some (.val x)) (hv : x.isRef = true) (hn : pc + 2 = n) (k : OEnds p e below s C S Q T (mkF m n L (x :: st))) : OEnds p e below s C S Q T (mkF m pc L (st)) := by
  subst hn
  exact k.pre fun t r => XS.aload X.here hx rfl (hb hby hd) hl hv r
theorem s_istoreN (X : Stand p l e R s m args below meth c T locs cells slots) (hx : p.tables.exec = Jvm.exec) (hby : c.code = bytes) {i : Fin 4} {x : Int32} {L' : Array Slot} (hd : decode bytes pc = .ok (.istore_n i, 1)) (hl : storeLocals L i.val (.int x) = some L') (hn : pc + 1 = n) (k : OEnds p e below s C S Q T (mkF m n L' (st))) : OEnds p e below s C S Q T (mkF m pc L (.int x :: st)) := by
  subst hn
  exact k.pre fun t r => XS.istoreN X.here hx rfl (hb hby hd) rfl hl r
theorem s_istore (X : Stand p l e R s m args below meth c T locs cells slots) (hx : p.tables.exec = Jvm.exec) (hby : c.code = bytes) {i : Nat} {x : Int32} {L' : Array Slot} (hd : decode bytes pc = .ok (.istore i, 2)) (hl : storeLocals L i (.int x) = some L') (hn : pc + 2 = n) (k : OEnds p e below s C S Q T (mkF m n L' (st))) : OEnds p e below s C S Q T (mkF m pc L (.int x :: st)) := by
  subst hn
  exact k.pre fun t r => XS.istore X.here hx rfl (hb hby hd) rfl hl r
theorem s_lstoreN (X : Stand p l e R s m args below meth c T locs cells slots) (hx : p.tables.exec = Jvm.exec) (hby : c.code = bytes) {i : Fin 4} {x : Int64} {L' : Array Slot} (hd : decode bytes pc = .ok (.lstore_n i, 1)) (hl : storeLocals L i.val (.long x) = some L') (hn : pc + 1 = n) (k : OEnds p e below s C S Q T (mkF m n L' (st))) : OEnds p e below s C S Q T (mkF m pc L (.long x :: st)) := by
  subst hn
  exact k.pre fun t r => XT.lstoreN X.here hx rfl (hb hby hd) rfl hl r
theorem s_lstore (X : Stand p l e R s m args below meth c T locs cells slots) (hx : p.tables.exec = Jvm.exec) (hby : c.code = bytes) {i : Nat} {x : Int64} {L' : Array Slot} (hd : decode bytes pc = .ok (.lstore i, 2)) (hl : storeLocals L i (.long x) = some L') (hn : pc + 2 = n) (k : OEnds p e below s C S Q T (mkF m n L' (st))) : OEnds p e below s C S Q T (mkF m pc L (.long x :: st)) := by
  subst hn
  exact k.pre fun t r => XT.lstore X.here hx rfl (hb hby hd) rfl hl r
theorem s_astoreN (X : Stand p l e R s m args below meth c T locs cells slots) (hx : p.tables.exec = Jvm.exec) (hby : c.code = bytes) {i : Fin 4} {x : Value} {L' : Array Slot} (hd : decode bytes pc = .ok (.astore_n i, 1)) (hv : x.isRef = true) (hl : storeLocals L i.val x = some L') (hn : pc + 1 = n) (k : OEnds p e below s C S Q T (mkF m n L' (st))) : OEnds p e below s C S Q T (mkF m pc L (x :: st)) := by
  subst hn
  exact k.pre fun t r => XS.astoreN X.here hx rfl (hb hby hd) rfl hv hl r
theorem s_astore (X : Stand p l e R s m args below meth c T locs cells slots) (hx : p.tables.exec = Jvm.exec) (hby : c.code = bytes) {i : Nat} {x : Value} {L' : Array Slot} (hd : decode bytes pc = .ok (.astore i, 2)) (hv : x.isRef = true) (hl : storeLocals L i x = some L') (hn : pc + 2 = n) (k : OEnds p e below s C S Q T (mkF m n L' (st))) : OEnds p e below s C S Q T (mkF m pc L (x :: st)) := by
  subst hn
  exact k.pre fun t r => XS.astore X.here hx rfl (hb hby hd) rfl hv hl r
theorem s_iinc (X : Stand p l e R s m args below meth c T locs cells slots) (hx : p.tables.exec = Jvm.exec) (hby : c.code = bytes) {i : Nat} {cst : Int} {x v : Int32} {L' : Array Slot} (hd : decode bytes pc = .ok (.iinc i cst, 3)) (hv : Int32.ofInt cst = v) (hi : L[i]? = some (.val (.int x))) (hl : storeLocals L i (.int (x + v)) = some L') (hn : pc + 3 = n) (k : OEnds p e below s C S Q T (mkF m n L' (st))) : OEnds p e below s C S Q T (mkF m pc L (st)) := by
  subst hn
  exact k.pre fun t r => XT.iincV X.here hx rfl _ (hb hby hd) hv hi hl r
theorem s_iconst (X : Stand p l e R s m args below meth c T locs cells slots) (hx : p.tables.exec = Jvm.exec) (hby : c.code = bytes) {i : Int} {v : Int32} (hd : decode bytes pc = .ok (.iconst i, 1)) (hv : Int32.ofInt i = v) (hn : pc + 1 = n) (k : OEnds p e below s C S Q T (mkF m n L (.int v :: st))) : OEnds p e below s C S Q T (mkF m pc L (st)) := by
  subst hn
  exact k.pre fun t r => XT.iconstV X.here hx rfl _ (hb hby hd) hv r
theorem s_bipush (X : Stand p l e R s m args below meth c T locs cells slots) (hx : p.tables.exec = Jvm.exec) (hby : c.code = bytes) {i : Int} {v : Int32} (hd : decode bytes pc = .ok (.bipush i, 2)) (hv : (Int8.ofInt i).toInt32 = v) (hn : pc + 2 = n) (k : OEnds p e below s C S Q T (mkF m n L (.int v :: st))) : OEnds p e below s C S Q T (mkF m pc L (st)) := by
  subst hn
  exact k.pre fun t r => XT.bipushV X.here hx rfl _ (hb hby hd) hv r
theorem s_sipush (X : Stand p l e R s m args below meth c T locs cells slots) (hx : p.tables.exec = Jvm.exec) (hby : c.code = bytes) {i : Int} {v : Int32} (hd : decode bytes pc = .ok (.sipush i, 3)) (hv : (Int16.ofInt i).toInt32 = v) (hn : pc + 3 = n) (k : OEnds p e below s C S Q T (mkF m n L (.int v :: st))) : OEnds p e below s C S Q T (mkF m pc L (st)) := by
  subst hn
  exact k.pre fun t r => XT.sipushV X.here hx rfl _ (hb hby hd) hv r
theorem s_lconst (X : Stand p l e R s m args below meth c T locs cells slots) (hx : p.tables.exec = Jvm.exec) (hby : c.code = bytes) {i : Fin 2} {v : Int64} (hd : decode bytes pc = .ok (.lconst i, 1)) (hv : Int64.ofNat i = v) (hn : pc + 1 = n) (k : OEnds p e below s C S Q T (mkF m n L (.long v :: st))) : OEnds p e below s C S Q T (mkF m pc L (st)) := by
  subst hn
  exact k.pre fun t r => XT.lconstV X.here hx rfl _ (hb hby hd) hv r
theorem s_aconstNull (X : Stand p l e R s m args below meth c T locs cells slots) (hx : p.tables.exec = Jvm.exec) (hby : c.code = bytes)  (hd : decode bytes pc = .ok (.aconst_null, 1)) (hn : pc + 1 = n) (k : OEnds p e below s C S Q T (mkF m n L (.null :: st))) : OEnds p e below s C S Q T (mkF m pc L (st)) := by
  subst hn
  exact k.pre fun t r => XS.aconstNull X.here hx rfl (hb hby hd)  r
theorem s_iadd (X : Stand p l e R s m args below meth c T locs cells slots) (hx : p.tables.exec = Jvm.exec) (hby : c.code = bytes) {x y : Int32} (hd : decode bytes pc = .ok (.iadd, 1)) (hn : pc + 1 = n) (k : OEnds p e below s C S Q T (mkF m n L (.int (x + y) :: st))) : OEnds p e below s C S Q T (mkF m pc L (.int y :: .int x :: st)) := by
  subst hn
  exact k.pre fun t r => XS.iadd X.here hx rfl (hb hby hd) rfl r
theorem s_isub (X : Stand p l e R s m args below meth c T locs cells slots) (hx : p.tables.exec = Jvm.exec) (hby : c.code = bytes) {x y : Int32} (hd : decode bytes pc = .ok (.isub, 1)) (hn : pc + 1 = n) (k : OEnds p e below s C S Q T (mkF m n L (.int (x - y) :: st))) : OEnds p e below s C S Q T (mkF m pc L (.int y :: .int x :: st)) := by
  subst hn
  exact k.pre fun t r => XS.isub X.here hx rfl (hb hby hd) rfl r
theorem s_iand (X : Stand p l e R s m args below meth c T locs cells slots) (hx : p.tables.exec = Jvm.exec) (hby : c.code = bytes) {x y : Int32} (hd : decode bytes pc = .ok (.iand, 1)) (hn : pc + 1 = n) (k : OEnds p e below s C S Q T (mkF m n L (.int (x &&& y) :: st))) : OEnds p e below s C S Q T (mkF m pc L (.int y :: .int x :: st)) := by
  subst hn
  exact k.pre fun t r => XS.iand X.here hx rfl (hb hby hd) rfl r
theorem s_imul (X : Stand p l e R s m args below meth c T locs cells slots) (hx : p.tables.exec = Jvm.exec) (hby : c.code = bytes) {x y : Int32} (hd : decode bytes pc = .ok (.imul, 1)) (hn : pc + 1 = n) (k : OEnds p e below s C S Q T (mkF m n L (.int (x * y) :: st))) : OEnds p e below s C S Q T (mkF m pc L (.int y :: .int x :: st)) := by
  subst hn
  exact k.pre fun t r => XS.imul X.here hx rfl (hb hby hd) rfl r
theorem s_ixor (X : Stand p l e R s m args below meth c T locs cells slots) (hx : p.tables.exec = Jvm.exec) (hby : c.code = bytes) {x y : Int32} (hd : decode bytes pc = .ok (.ixor, 1)) (hn : pc + 1 = n) (k : OEnds p e below s C S Q T (mkF m n L (.int (x ^^^ y) :: st))) : OEnds p e below s C S Q T (mkF m pc L (.int y :: .int x :: st)) := by
  subst hn
  exact k.pre fun t r => XT.ixor X.here hx rfl (hb hby hd) rfl r
theorem s_ior (X : Stand p l e R s m args below meth c T locs cells slots) (hx : p.tables.exec = Jvm.exec) (hby : c.code = bytes) {x y : Int32} (hd : decode bytes pc = .ok (.ior, 1)) (hn : pc + 1 = n) (k : OEnds p e below s C S Q T (mkF m n L (.int (x ||| y) :: st))) : OEnds p e below s C S Q T (mkF m pc L (.int y :: .int x :: st)) := by
  subst hn
  exact k.pre fun t r => XT.ior X.here hx rfl (hb hby hd) rfl r
theorem s_ishl (X : Stand p l e R s m args below meth c T locs cells slots) (hx : p.tables.exec = Jvm.exec) (hby : c.code = bytes) {x y : Int32} (hd : decode bytes pc = .ok (.ishl, 1)) (hn : pc + 1 = n) (k : OEnds p e below s C S Q T (mkF m n L (.int (x <<< (y &&& 31)) :: st))) : OEnds p e below s C S Q T (mkF m pc L (.int y :: .int x :: st)) := by
  subst hn
  exact k.pre fun t r => XT.ishl X.here hx rfl (hb hby hd) rfl r
theorem s_ishr (X : Stand p l e R s m args below meth c T locs cells slots) (hx : p.tables.exec = Jvm.exec) (hby : c.code = bytes) {x y : Int32} (hd : decode bytes pc = .ok (.ishr, 1)) (hn : pc + 1 = n) (k : OEnds p e below s C S Q T (mkF m n L (.int (x >>> (y &&& 31)) :: st))) : OEnds p e below s C S Q T (mkF m pc L (.int y :: .int x :: st)) := by
  subst hn
  exact k.pre fun t r => XT.ishr X.here hx rfl (hb hby hd) rfl r
theorem s_iushr (X : Stand p l e R s m args below meth c T locs cells slots) (hx : p.tables.exec = Jvm.exec) (hby : c.code = bytes) {x y : Int32} (hd : decode bytes pc = .ok (.iushr, 1)) (hn : pc + 1 = n) (k : OEnds p e below s C S Q T (mkF m n L (.int (XT.ushr x y) :: st))) : OEnds p e below s C S Q T (mkF m pc L (.int y :: .int x :: st)) := by
  subst hn
  exact k.pre fun t r => XT.iushr X.here hx rfl (hb hby hd) rfl r
theorem s_ladd (X : Stand p l e R s m args below meth c T locs cells slots) (hx : p.tables.exec = Jvm.exec) (hby : c.code = bytes) {x y : Int64} (hd : decode bytes pc = .ok (.ladd, 1)) (hn : pc + 1 = n) (k : OEnds p e below s C S Q T (mkF m n L (.long (x + y) :: st))) : OEnds p e below s C S Q T (mkF m pc L (.long y :: .long x :: st)) := by
  subst hn
  exact k.pre fun t r => XT.ladd X.here hx rfl (hb hby hd) rfl r
theorem s_lsub (X : Stand p l e R s m args below meth c T locs cells slots) (hx : p.tables.exec = Jvm.exec) (hby : c.code = bytes) {x y : Int64} (hd : decode bytes pc = .ok (.lsub, 1)) (hn : pc + 1 = n) (k : OEnds p e below s C S Q T (mkF m n L (.long (x - y) :: st))) : OEnds p e below s C S Q T (mkF m pc L (.long y :: .long x :: st)) := by
  subst hn
  exact k.pre fun t r => XT.lsub X.here hx rfl (hb hby hd) rfl r
theorem s_lmul (X : Stand p l e R s m args below meth c T locs cells slots) (hx : p.tables.exec = Jvm.exec) (hby : c.code = bytes) {x y : Int64} (hd : decode bytes pc = .ok (.lmul, 1)) (hn : pc + 1 = n) (k : OEnds p e below s C S Q T (mkF m n L (.long (x * y) :: st))) : OEnds p e below s C S Q T (mkF m pc L (.long y :: .long x :: st)) := by
  subst hn
  exact k.pre fun t r => XT.lmul X.here hx rfl (hb hby hd) rfl r
theorem s_land (X : Stand p l e R s m args below meth c T locs cells slots) (hx : p.tables.exec = Jvm.exec) (hby : c.code = bytes) {x y : Int64} (hd : decode bytes pc = .ok (.land, 1)) (hn : pc + 1 = n) (k : OEnds p e below s C S Q T (mkF m n L (.long (x &&& y) :: st))) : OEnds p e below s C S Q T (mkF m pc L (.long y :: .long x :: st)) := by
  subst hn
  exact k.pre fun t r => XT.land X.here hx rfl (hb hby hd) rfl r
theorem s_lor (X : Stand p l e R s m args below meth c T locs cells slots) (hx : p.tables.exec = Jvm.exec) (hby : c.code = bytes) {x y : Int64} (hd : decode bytes pc = .ok (.lor, 1)) (hn : pc + 1 = n) (k : OEnds p e below s C S Q T (mkF m n L (.long (x ||| y) :: st))) : OEnds p e below s C S Q T (mkF m pc L (.long y :: .long x :: st)) := by
  subst hn
  exact k.pre fun t r => XT.lor X.here hx rfl (hb hby hd) rfl r
theorem s_lxor (X : Stand p l e R s m args below meth c T locs cells slots) (hx : p.tables.exec = Jvm.exec) (hby : c.code = bytes) {x y : Int64} (hd : decode bytes pc = .ok (.lxor, 1)) (hn : pc + 1 = n) (k : OEnds p e below s C S Q T (mkF m n L (.long (x ^^^ y) :: st))) : OEnds p e below s C S Q T (mkF m pc L (.long y :: .long x :: st)) := by
  subst hn
  exact k.pre fun t r => XT.lxor X.here hx rfl (hb hby hd) rfl r
theorem s_lshl (X : Stand p l e R s m args below meth c T locs cells slots) (hx : p.tables.exec = Jvm.exec) (hby : c.code = bytes) {x : Int64} {y : Int32} (hd : decode bytes pc = .ok (.lshl, 1)) (hn : pc + 1 = n) (k : OEnds p e below s C S Q T (mkF m n L (.long (x <<< (y.toInt64 &&& 63)) :: st))) : OEnds p e below s C S Q T (mkF m pc L (.int y :: .long x :: st)) := by
  subst hn
  exact k.pre fun t r => XT.lshl X.here hx rfl (hb hby hd) rfl r
theorem s_lshr (X : Stand p l e R s m args below meth c T locs cells slots) (hx : p.tables.exec = Jvm.exec) (hby : c.code = bytes) {x : Int64} {y : Int32} (hd : decode bytes pc = .ok (.lshr, 1)) (hn : pc + 1 = n) (k : OEnds p e below s C S Q T (mkF m n L (.long (x >>> (y.toInt64 &&& 63)) :: st))) : OEnds p e below s C S Q T (mkF m pc L (.int y :: .long x :: st)) := by
  subst hn
  exact k.pre fun t r => XT.lshr X.here hx rfl (hb hby hd) rfl r
theorem s_lushr (X : Stand p l e R s m args below meth c T locs cells slots) (hx : p.tables.exec = Jvm.exec) (hby : c.code = bytes) {x : Int64} {y : Int32} (hd : decode bytes pc = .ok (.lushr, 1)) (hn : pc + 1 = n) (k : OEnds p e below s C S Q T (mkF m n L (.long (XT.ushrL x y) :: st))) : OEnds p e below s C S Q T (mkF m pc L (.int y :: .long x :: st)) := by
  subst hn
  exact k.pre fun t r => XT.lushr X.here hx rfl (hb hby hd) rfl r
theorem s_idiv (X : Stand p l e R s m args below meth c T locs cells slots) (hx : p.tables.exec = Jvm.exec) (hby : c.code = bytes) {x y : Int32} (hd : decode bytes pc = .ok (.idiv, 1)) (hy : y ≠ 0) (hn : pc + 1 = n) (k : OEnds p e below s C S Q T (mkF m n L (.int (x / y) :: st))) : OEnds p e below s C S Q T (mkF m pc L (.int y :: .int x :: st)) := by
  subst hn
  exact k.pre fun t r => XS.idiv X.here hx rfl (hb hby hd) rfl hy r
theorem s_ldiv (X : Stand p l e R s m args below meth c T locs cells slots) (hx : p.tables.exec = Jvm.exec) (hby : c.code = bytes) {x y : Int64} (hd : decode bytes pc = .ok (.ldiv, 1)) (hy : y ≠ 0) (hn : pc + 1 = n) (k : OEnds p e below s C S Q T (mkF m n L (.long (x / y) :: st))) : OEnds p e below s C S Q T (mkF m pc L (.long y :: .long x :: st)) := by
  subst hn
  exact k.pre fun t r => XT.ldiv X.here hx rfl (hb hby hd) rfl hy r
theorem s_irem (X : Stand p l e R s m args below meth c T locs cells slots) (hx : p.tables.exec = Jvm.exec) (hby : c.code = bytes) {x y : Int32} (hd : decode bytes pc = .ok (.irem, 1)) (hy : y ≠ 0) (hn : pc + 1 = n) (k : OEnds p e below s C S Q T (mkF m n L (.int (x % y) :: st))) : OEnds p e below s C S Q T (mkF m pc L (.int y :: .int x :: st)) := by
  subst hn
  exact k.pre fun t r => iremM X hx rfl (hb hby hd) rfl hy r
theorem s_lrem (X : Stand p l e R s m args below meth c T locs cells slots) (hx : p.tables.exec = Jvm.exec) (hby : c.code = bytes) {x y : Int64} (hd : decode bytes pc = .ok (.lrem, 1)) (hy : y ≠ 0) (hn : pc + 1 = n) (k : OEnds p e below s C S Q T (mkF m n L (.long (x % y) :: st))) : OEnds p e below s C S Q T (mkF m pc L (.long y :: .long x :: st)) := by
  subst hn
  rw [← lrem_mod] at k
  exact k.pre fun t r => XT.lrem X.here hx rfl (hb hby hd) rfl hy r
theorem s_ineg (X : Stand p l e R s m args below meth c T locs cells slots) (hx : p.tables.exec = Jvm.exec) (hby : c.code = bytes) {x : Int32} (hd : decode bytes pc = .ok (.ineg, 1)) (hn : pc + 1 = n) (k : OEnds p e below s C S Q T (mkF m n L (.int (-x) :: st))) : OEnds p e below s C S Q T (mkF m pc L (.int x :: st)) := by
  subst hn
  exact k.pre fun t r => XS.ineg X.here hx rfl (hb hby hd) rfl r
theorem s_lneg (X : Stand p l e R s m args below meth c T locs cells slots) (hx : p.tables.exec = Jvm.exec) (hby : c.code = bytes) {x : Int64} (hd : decode bytes pc = .ok (.lneg, 1)) (hn : pc + 1 = n) (k : OEnds p e below s C S Q T (mkF m n L (.long (-x) :: st))) : OEnds p e below s C S Q T (mkF m pc L (.long x :: st)) := by
  subst hn
  exact k.pre fun t r => XT.lneg X.here hx rfl (hb hby hd) rfl r
theorem s_i2l (X : Stand p l e R s m args below meth c T locs cells slots) (hx : p.tables.exec = Jvm.exec) (hby : c.code = bytes) {x : Int32} (hd : decode bytes pc = .ok (.i2l, 1)) (hn : pc + 1 = n) (k : OEnds p e below s C S Q T (mkF m n L (.long x.toInt64 :: st))) : OEnds p e below s C S Q T (mkF m pc L (.int x :: st)) := by
  subst hn
  exact k.pre fun t r => XT.i2l X.here hx rfl (hb hby hd) rfl r
theorem s_l2i (X : Stand p l e R s m args below meth c T locs cells slots) (hx : p.tables.exec = Jvm.exec) (hby : c.code = bytes) {x : Int64} (hd : decode bytes pc = .ok (.l2i, 1)) (hn : pc + 1 = n) (k : OEnds p e below s C S Q T (mkF m n L (.int x.toInt32 :: st))) : OEnds p e below s C S Q T (mkF m pc L (.long x :: st)) := by
  subst hn
  exact k.pre fun t r => XT.l2i X.here hx rfl (hb hby hd) rfl r
theorem s_i2b (X : Stand p l e R s m args below meth c T locs cells slots) (hx : p.tables.exec = Jvm.exec) (hby : c.code = bytes) {x : Int32} (hd : decode bytes pc = .ok (.i2b, 1)) (hn : pc + 1 = n) (k : OEnds p e below s C S Q T (mkF m n L (.int x.toInt8.toInt32 :: st))) : OEnds p e below s C S Q T (mkF m pc L (.int x :: st)) := by
  subst hn
  exact k.pre fun t r => XT.i2b X.here hx rfl (hb hby hd) rfl r
theorem s_i2c (X : Stand p l e R s m args below meth c T locs cells slots) (hx : p.tables.exec = Jvm.exec) (hby : c.code = bytes) {x : Int32} (hd : decode bytes pc = .ok (.i2c, 1)) (hn : pc + 1 = n) (k : OEnds p e below s C S Q T (mkF m n L (.int x.toUInt32.toUInt16.toUInt32.toInt32 :: st))) : OEnds p e below s C S Q T (mkF m pc L (.int x :: st)) := by
  subst hn
  exact k.pre fun t r => XT.i2c X.here hx rfl (hb hby hd) rfl r
theorem s_i2s (X : Stand p l e R s m args below meth c T locs cells slots) (hx : p.tables.exec = Jvm.exec) (hby : c.code = bytes) {x : Int32} (hd : decode bytes pc = .ok (.i2s, 1)) (hn : pc + 1 = n) (k : OEnds p e below s C S Q T (mkF m n L (.int x.toInt16.toInt32 :: st))) : OEnds p e below s C S Q T (mkF m pc L (.int x :: st)) := by
  subst hn
  exact k.pre fun t r => XT.i2s X.here hx rfl (hb hby hd) rfl r
theorem s_lcmp (X : Stand p l e R s m args below meth c T locs cells slots) (hx : p.tables.exec = Jvm.exec) (hby : c.code = bytes) {x y : Int64} (hd : decode bytes pc = .ok (.lcmp, 1)) (hn : pc + 1 = n) (k : OEnds p e below s C S Q T (mkF m n L (.int (XT.cmpL x y) :: st))) : OEnds p e below s C S Q T (mkF m pc L (.long y :: .long x :: st)) := by
  subst hn
  exact k.pre fun t r => XT.lcmp X.here hx rfl (hb hby hd) rfl r
theorem s_dup (X : Stand p l e R s m args below meth c T locs cells slots) (hx : p.tables.exec = Jvm.exec) (hby : c.code = bytes) {x : Value} (hd : decode bytes pc = .ok (.dup, 1)) (hc : x.category = 1) (hn : pc + 1 = n) (k : OEnds p e below s C S Q T (mkF m n L (x :: x :: st))) : OEnds p e below s C S Q T (mkF m pc L (x :: st)) := by
  subst hn
  exact k.pre fun t r => XS.dup X.here hx rfl (hb hby hd) rfl hc r
theorem s_pop (X : Stand p l e R s m args below meth c T locs cells slots) (hx : p.tables.exec = Jvm.exec) (hby : c.code = bytes) {x : Value} (hd : decode bytes pc = .ok (.pop, 1)) (hc : x.category = 1) (hn : pc + 1 = n) (k : OEnds p e below s C S Q T (mkF m n L (st))) : OEnds p e below s C S Q T (mkF m pc L (x :: st)) := by
  subst hn
  exact k.pre fun t r => XT.pop X.here hx rfl (hb hby hd) rfl hc r
theorem s_dupX1 (X : Stand p l e R s m args below meth c T locs cells slots) (hx : p.tables.exec = Jvm.exec) (hby : c.code = bytes) {x y : Value} (hd : decode bytes pc = .ok (.dup_x1, 1)) (hc : x.category = 1) (hc' : y.category = 1) (hn : pc + 1 = n) (k : OEnds p e below s C S Q T (mkF m n L (x :: y :: x :: st))) : OEnds p e below s C S Q T (mkF m pc L (x :: y :: st)) := by
  subst hn
  exact k.pre fun t r => XT.dupX1 X.here hx rfl (hb hby hd) rfl hc hc' r
theorem s_dup2 (X : Stand p l e R s m args below meth c T locs cells slots) (hx : p.tables.exec = Jvm.exec) (hby : c.code = bytes) {x y : Value} (hd : decode bytes pc = .ok (.dup2, 1)) (hc : x.category = 1) (hc' : y.category = 1) (hn : pc + 1 = n) (k : OEnds p e below s C S Q T (mkF m n L (x :: y :: x :: y :: st))) : OEnds p e below s C S Q T (mkF m pc L (x :: y :: st)) := by
  subst hn
  exact k.pre fun t r => XT.dup2 X.here hx rfl (hb hby hd) rfl hc hc' r
theorem s_dup2L (X : Stand p l e R s m args below meth c T locs cells slots) (hx : p.tables.exec = Jvm.exec) (hby : c.code = bytes) {x : Int64} (hd : decode bytes pc = .ok (.dup2, 1)) (hn : pc + 1 = n) (k : OEnds p e below s C S Q T (mkF m n L (.long x :: .long x :: st))) : OEnds p e below s C S Q T (mkF m pc L (.long x :: st)) := by
  subst hn
  exact k.pre fun t r => XT.dup2L X.here hx rfl (hb hby hd) rfl r
theorem s_goto (X : Stand p l e R s m args below meth c T locs cells slots) (hx : p.tables.exec = Jvm.exec) (hby : c.code = bytes) {o : Int}  (hd : decode bytes pc = .ok (.goto o, 3)) (ho : 0 ≤ (pc : Int) + o) (hn : ((pc : Int) + o).toNat = n) (k : OEnds p e below s C S Q T (mkF m n L st)) : OEnds p e below s C S Q T (mkF m pc L (st)) :=
  k.pre fun t r => XS.goto X.here hx rfl rfl (hb hby hd)  ho hn r
theorem s_ifY (X : Stand p l e R s m args below meth c T locs cells slots) (hx : p.tables.exec = Jvm.exec) (hby : c.code = bytes) {o : Int} {cd : ClassFile.Cond} {x : Int32} (hd : decode bytes pc = .ok (.ifCond cd o, 3)) (hc : ifCond.holds cd x = true) (ho : 0 ≤ (pc : Int) + o) (hn : ((pc : Int) + o).toNat = n) (k : OEnds p e below s C S Q T (mkF m n L st)) : OEnds p e below s C S Q T (mkF m pc L (.int x :: st)) :=
  k.pre fun t r => XS.ifYes X.here hx rfl rfl (hb hby hd) rfl hc ho hn r
theorem s_ifN (X : Stand p l e R s m args below meth c T locs cells slots) (hx : p.tables.exec = Jvm.exec) (hby : c.code = bytes) {o : Int} {cd : ClassFile.Cond} {x : Int32} (hd : decode bytes pc = .ok (.ifCond cd o, 3)) (hc : ifCond.holds cd x = false) (hn : pc + 3 = n) (k : OEnds p e below s C S Q T (mkF m n L st)) : OEnds p e below s C S Q T (mkF m pc L (.int x :: st)) := by
  subst hn
  exact k.pre fun t r => XS.ifNo X.here hx rfl (hb hby hd) rfl hc r
theorem s_icmpY (X : Stand p l e R s m args below meth c T locs cells slots) (hx : p.tables.exec = Jvm.exec) (hby : c.code = bytes) {o : Int} {cd : ClassFile.Cond} {x y : Int32} (hd : decode bytes pc = .ok (.if_icmp cd o, 3)) (hc : if_icmp.holds cd x y = true) (ho : 0 ≤ (pc : Int) + o) (hn : ((pc : Int) + o).toNat = n) (k : OEnds p e below s C S Q T (mkF m n L st)) : OEnds p e below s C S Q T (mkF m pc L (.int y :: .int x :: st)) :=
  k.pre fun t r => XS.icmpYes X.here hx rfl rfl (hb hby hd) rfl hc ho hn r
theorem s_icmpN (X : Stand p l e R s m args below meth c T locs cells slots) (hx : p.tables.exec = Jvm.exec) (hby : c.code = bytes) {o : Int} {cd : ClassFile.Cond} {x y : Int32} (hd : decode bytes pc = .ok (.if_icmp cd o, 3)) (hc : if_icmp.holds cd x y = false) (hn : pc + 3 = n) (k : OEnds p e below s C S Q T (mkF m n L st)) : OEnds p e below s C S Q T (mkF m pc L (.int y :: .int x :: st)) := by
  subst hn
  exact k.pre fun t r => XS.icmpNo X.here hx rfl (hb hby hd) rfl hc r
theorem s_acmpY (X : Stand p l e R s m args below meth c T locs cells slots) (hx : p.tables.exec = Jvm.exec) (hby : c.code = bytes) {o : Int} {cd : ClassFile.ACond} {x y : Value} (hd : decode bytes pc = .ok (.if_acmp cd o, 3)) (h1 : x.isRef = true) (h2 : y.isRef = true) (hc : XT.acmp cd x y = true) (ho : 0 ≤ (pc : Int) + o) (hn : ((pc : Int) + o).toNat = n) (k : OEnds p e below s C S Q T (mkF m n L st)) : OEnds p e below s C S Q T (mkF m pc L (y :: x :: st)) :=
  k.pre fun t r => XT.acmpYes X.here hx rfl rfl (hb hby hd) rfl h1 h2 hc ho hn r
theorem s_acmpN (X : Stand p l e R s m args below meth c T locs cells slots) (hx : p.tables.exec = Jvm.exec) (hby : c.code = bytes) {o : Int} {cd : ClassFile.ACond} {x y : Value} (hd : decode bytes pc = .ok (.if_acmp cd o, 3)) (h1 : x.isRef = true) (h2 : y.isRef = true) (hc : XT.acmp cd x y = false) (hn : pc + 3 = n) (k : OEnds p e below s C S Q T (mkF m n L st)) : OEnds p e below s C S Q T (mkF m pc L (y :: x :: st)) := by
  subst hn
  exact k.pre fun t r => XT.acmpNo X.here hx rfl (hb hby hd) rfl h1 h2 hc r
theorem s_nullY (X : Stand p l e R s m args below meth c T locs cells slots) (hx : p.tables.exec = Jvm.exec) (hby : c.code = bytes) {o : Int} {x : Value} (hd : decode bytes pc = .ok (.ifnull o, 3)) (hv : x = .null) (ho : 0 ≤ (pc : Int) + o) (hn : ((pc : Int) + o).toNat = n) (k : OEnds p e below s C S Q T (mkF m n L st)) : OEnds p e below s C S Q T (mkF m pc L (x :: st)) :=
  k.pre fun t r => XT.nullYes X.here hx rfl rfl (hb hby hd) rfl hv ho hn r
theorem s_nullN (X : Stand p l e R s m args below meth c T locs cells slots) (hx : p.tables.exec = Jvm.exec) (hby : c.code = bytes) {o : Int} {x : Value} (hd : decode bytes pc = .ok (.ifnull o, 3)) (h1 : x.isRef = true) (hv : ¬ x = .null) (hn : pc + 3 = n) (k : OEnds p e below s C S Q T (mkF m n L st)) : OEnds p e below s C S Q T (mkF m pc L (x :: st)) := by
  subst hn
  exact k.pre fun t r => XT.nullNo X.here hx rfl (hb hby hd) rfl h1 hv r
theorem s_nonnullY (X : Stand p l e R s m args below meth c T locs cells slots) (hx : p.tables.exec = Jvm.exec) (hby : c.code = bytes) {o : Int} {x : Value} (hd : decode bytes pc = .ok (.ifnonnull o, 3)) (h1 : x.isRef = true) (hv : ¬ x = .null) (ho : 0 ≤ (pc : Int) + o) (hn : ((pc : Int) + o).toNat = n) (k : OEnds p e below s C S Q T (mkF m n L st)) : OEnds p e below s C S Q T (mkF m pc L (x :: st)) :=
  k.pre fun t r => XT.nonnullYes X.here hx rfl rfl (hb hby hd) rfl h1 hv ho hn r
theorem s_nonnullN (X : Stand p l e R s m args below meth c T locs cells slots) (hx : p.tables.exec = Jvm.exec) (hby : c.code = bytes) {o : Int} {x : Value} (hd : decode bytes pc = .ok (.ifnonnull o, 3)) (hv : x = .null) (hn : pc + 3 = n) (k : OEnds p e below s C S Q T (mkF m n L st)) : OEnds p e below s C S Q T (mkF m pc L (x :: st)) := by
  subst hn
  exact k.pre fun t r => XT.nonnullNo X.here hx rfl (hb hby hd) rfl hv r
theorem s_iincC (X : Stand p l e R s m args below meth c T locs cells slots) (hx : p.tables.exec = Jvm.exec) (hby : c.code = bytes) {i : Nat} {cst : Int} {x v z : Int32} {L' : Array Slot} (hd : decode bytes pc = .ok (.iinc i cst, 3)) (hv : Int32.ofInt cst = v) (hi : L[i]? = some (.val (.int x))) (hz : x + v = z) (hl : storeLocals L i (.int z) = some L') (hn : pc + 3 = n) (k : OEnds p e below s C S Q T (mkF m n L' (st))) : OEnds p e below s C S Q T (mkF m pc L (st)) := by
  subst hn
  exact k.pre fun t r => XT.iincV X.here hx rfl _ (hb hby hd) hv hi (hz ▸ hl) r

theorem s_fold {x z : Int32} (hz : x = z) (k : OEnds p e below s C S Q T (mkF m pc L (.int z :: st))) : OEnds p e below s C S Q T (mkF m pc L (.int x :: st)) := hz ▸ k
theorem s_foldJ {x z : Int64} (hz : x = z) (k : OEnds p e below s C S Q T (mkF m pc L (.long z :: st))) : OEnds p e below s C S Q T (mkF m pc L (.long x :: st)) := hz ▸ k
/-- the constants of the pool -/
theorem s_ldcI (X : Stand p l e R s m args below meth c T locs cells slots) (hx : p.tables.exec = Jvm.exec) (hby : c.code = bytes) (hZ : Z.Warmed39 s.vm) {own : String} {index : Nat} {v : Int32} (hown : s.vm.findClass own = some m.cls) (w : (Jvm.Cond.constant own index v).before a0 Z = true) (hd : decode bytes pc = .ok (.ldc index, 2)) (hn : pc + 2 = n) (k : OEnds p e below s C S Q T (mkF m n L (.int v :: st))) : OEnds p e below s C S Q T (mkF m pc L st) := by
  subst hn
  exact k.pre fun t r => X.ldcI hx hown (mvT hZ w) rfl (hb hby hd) r
theorem s_ldcWI (X : Stand p l e R s m args below meth c T locs cells slots) (hx : p.tables.exec = Jvm.exec) (hby : c.code = bytes) (hZ : Z.Warmed39 s.vm) {own : String} {index : Nat} {v : Int32} (hown : s.vm.findClass own = some m.cls) (w : (Jvm.Cond.constant own index v).before a0 Z = true) (hd : decode bytes pc = .ok (.ldc_w index, 3)) (hn : pc + 3 = n) (k : OEnds p e below s C S Q T (mkF m n L (.int v :: st))) : OEnds p e below s C S Q T (mkF m pc L st) := by
  subst hn
  exact k.pre fun t r => X.ldcWI hx hown (mvT hZ w) rfl (hb hby hd) r
theorem s_ldc2J (X : Stand p l e R s m args below meth c T locs cells slots) (hx : p.tables.exec = Jvm.exec) (hby : c.code = bytes) (hZ : Z.Warmed39 s.vm) {own : String} {index : Nat} {v : Int64} (hown : s.vm.findClass own = some m.cls) (w : (Jvm.Cond.constantLong own index v).before a0 Z = true) (hd : decode bytes pc = .ok (.ldc2_w index, 3)) (hn : pc + 3 = n) (k : OEnds p e below s C S Q T (mkF m n L (.long v :: st))) : OEnds p e below s C S Q T (mkF m pc L st) := by
  subst hn
  exact k.pre fun t r => X.ldc2J hx hown (mvT hZ w) rfl (hb hby hd) r
/-- the returns -/
theorem s_retV (X : Stand p l e R s m args below meth c T locs cells slots) (hx : p.tables.exec = Jvm.exec) (hby : c.code = bytes) (hlk : meth.locks = false) {t : FieldType} (hret : meth.sig.returnType = some t) {w : Value} {i : Instr} (hi : (i = .ireturn ∧ (t = .int ∨ t = .boolean ∨ t = .byte ∨ t = .char ∨ t = .short) ∧ ∃ z, w = .int z) ∨ (i = .lreturn ∧ t = .long ∧ ∃ z, w = .long z) ∨ (i = .dreturn ∧ t = .double ∧ ∃ z, w = .double z) ∨ (i = .freturn ∧ t = .float ∧ ∃ z, w = .float z) ∨ (i = .areturn ∧ t.isReference = true ∧ w.isRef = true))
    (hnw : narrow t w = w) (hd : decode bytes pc = .ok (i, 1)) (hc : cells ≤ C) (hs : slots ≤ S) (q : Q (some w) T.heap locs) : OEnds p e below s C S Q T (mkF m pc L (w :: st)) := by
  obtain ⟨fs, hr, hrun, hended, hW, hsame⟩ := X.leave (v := some w) (fun h => by rw [hret] at h; cases h) hlk
  exact ⟨_, _, _, retOut X hx hret hnw hi (hb hby hd) hr, hrun, hended, q, ⟨_, rfl⟩, hW, hsame.mono hc hs⟩
theorem s_retI (X : Stand p l e R s m args below meth c T locs cells slots) (hx : p.tables.exec = Jvm.exec) (hby : c.code = bytes) (hlk : meth.locks = false) (hret : meth.sig.returnType = some .int) {z : Int32} (hd : decode bytes pc = .ok (.ireturn, 1)) (hc : cells ≤ C) (hs : slots ≤ S) (q : Q (some (.int z)) T.heap locs) : OEnds p e below s C S Q T (mkF m pc L (.int z :: st)) :=
  s_retV X hx hby hlk hret (Or.inl ⟨rfl, Or.inl rfl, _, rfl⟩) rfl hd hc hs q
theorem s_retJ (X : Stand p l e R s m args below meth c T locs cells slots) (hx : p.tables.exec = Jvm.exec) (hby : c.code = bytes) (hlk : meth.locks = false) (hret : meth.sig.returnType = some .long) {z : Int64} (hd : decode bytes pc = .ok (.lreturn, 1)) (hc : cells ≤ C) (hs : slots ≤ S) (q : Q (some (.long z)) T.heap locs) : OEnds p e below s C S Q T (mkF m pc L (.long z :: st)) :=
  s_retV X hx hby hlk hret (Or.inr (Or.inl ⟨rfl, rfl, _, rfl⟩)) rfl hd hc hs q
theorem s_retA (X : Stand p l e R s m args below meth c T locs cells slots) (hx : p.tables.exec = Jvm.exec) (hby : c.code = bytes) (hlk : meth.locks = false) {t : FieldType} (hret : meth.sig.returnType = some t) (ht : t.isReference = true) {w : Value} (hw : w.isRef = true) (hd : decode bytes pc = .ok (.areturn, 1)) (hc : cells ≤ C) (hs : slots ≤ S) (q : Q (some w) T.heap locs) : OEnds p e below s C S Q T (mkF m pc L (w :: st)) :=
  s_retV X hx hby hlk hret (Or.inr (Or.inr (Or.inr (Or.inr ⟨rfl, ht, hw⟩)))) (by cases w <;> cases t <;> simp_all [Value.isRef, FieldType.isReference, narrow]) hd hc hs q
theorem s_retN (X : Stand p l e R s m args below meth c T locs cells slots) (hx : p.tables.exec = Jvm.exec) (hby : c.code = bytes) (hlk : meth.locks = false) {t : FieldType} (hret : meth.sig.returnType = some t) (ht : t = .boolean ∨ t = .byte ∨ t = .char ∨ t = .short) {z z' : Int32} (hz : nar t z = z') (hd : decode bytes pc = .ok (.ireturn, 1)) (hc : cells ≤ C) (hs : slots ≤ S) (q : Q (some (.int z')) T.heap locs) : OEnds p e below s C S Q T (mkF m pc L (.int z :: st)) := by
  subst hz
  obtain ⟨fs, hr, hrun, hended, hW, hsame⟩ := X.leave (v := some (.int (nar t z))) (fun h => by rw [hret] at h; cases h) hlk
  exact ⟨_, _, _, retN X hx hret ht (hb hby hd) hr, hrun, hended, q, ⟨_, rfl⟩, hW, hsame.mono hc hs⟩
theorem s_ret (X : Stand p l e R s m args below meth c T locs cells slots) (hx : p.tables.exec = Jvm.exec) (hby : c.code = bytes) (hlk : meth.locks = false) (hret : meth.sig.returnType = none) (hd : decode bytes pc = .ok (.return_, 1)) (hc : cells ≤ C) (hs : slots ≤ S) (q : Q none T.heap locs) : OEnds p e below s C S Q T (mkF m pc L []) := by
  obtain ⟨fs, hr, hrun, hended, hW, hsame⟩ := X.leave (v := none) (fun _ => rfl) hlk
  exact ⟨_, _, _, X.returnOut hx hret (hb hby hd) hr, hrun, hended, q, ⟨_, rfl⟩, hW, hsame.mono hc hs⟩
/-- the heap: fields -/
theorem s_getF (X : Stand p l e R s m args below meth c T locs cells slots) (hx : p.tables.exec = Jvm.exec) (hby : c.code = bytes) (hZ : Z.Warmed39 s.vm) {own O f d : String} {index : Nat} (hown : s.vm.findClass own = some m.cls) (w : (Jvm.Cond.fieldLink own index O f d).before a0 Z = true) (eT : T.heap = h) {a : Addr} {v : Value} (F : Fld Z h a O f d v) (hd : decode bytes pc = .ok (.getfield index, 3)) (hn : pc + 3 = n)
    (k : ∀ T', Stand p l e R s m args below meth c T' locs cells slots → T'.heap = h → OEnds p e below s C S Q T' (mkF m n L (v :: st))) : OEnds p e below s C S Q T (mkF m pc L (.ref a :: st)) := by
  subst hn
  obtain ⟨T', X', e', f'⟩ := getF X hx hZ hown (host := "") (Or.inl w) Via.refl eT F (g := mkF m pc L (.ref a :: st)) rfl rfl (hb hby hd)
  exact (k T' X' e').pre f'
theorem s_putF (X : Stand p l e R s m args below meth c T locs cells slots) (hx : p.tables.exec = Jvm.exec) (hby : c.code = bytes) (hZ : Z.Warmed39 s.vm) {own O f d K : String} {index kk : Nat} {ty : FieldType} (hown : s.vm.findClass own = some m.cls) (w : (Jvm.Cond.fieldLink own index O f d).before a0 Z = true) (eT : T.heap = h) {a : Addr} {v old : Value} (F : Fld Z h a O f d old) (E : Exa Z h a K)
    (Lw : (Jvm.Cond.lays K O f d).before a0 Z = true ∨ ((Jvm.Cond.laysFinal K O f d).before a0 Z = true ∧ own = O ∧ meth.name = "<init>")) (wi : (Jvm.Cond.instantiable K kk).before a0 Z = true) (hty : parseFieldDescriptor d = some ty) (hnw : narrow ty v = v) (hf : fits ty v = true) (hd : decode bytes pc = .ok (.putfield index, 3)) (hn : pc + 3 = n)
    (k : ∀ T' h', Stand p l e R s m args below meth c T' (locs ++ [⟨a, RoadKit.slotOf Z O f d⟩]) cells slots → T'.heap = h' → Wr h h' a (RoadKit.slotOf Z O f d) v → OEnds p e below s C S Q T' (mkF m n L st)) : OEnds p e below s C S Q T (mkF m pc L (v :: .ref a :: st)) := by
  subst hn
  obtain ⟨T', h', X', e', W', f'⟩ := putF X hx hZ hown (host := "") (Or.inl w) Via.refl eT F E Lw wi hty hnw hf (g := mkF m pc L (v :: .ref a :: st)) rfl rfl (hb hby hd)
  exact (k T' h' X' e' W').pre f'
theorem s_getS (X : Stand p l e R s m args below meth c T locs cells slots) (hx : p.tables.exec = Jvm.exec) (hby : c.code = bytes) (hZ : Z.Warmed39 s.vm) {own O f d : String} {index : Nat} (hown : s.vm.findClass own = some m.cls) (w : (Jvm.Cond.fieldLink own index O f d).before a0 Z = true) (eT : T.heap = h) {v : Value} (F : Sta Z h O f d v) (hd : decode bytes pc = .ok (.getstatic index, 3)) (hn : pc + 3 = n)
    (k : ∀ T', Stand p l e R s m args below meth c T' locs cells slots → T'.heap = h → OEnds p e below s C S Q T' (mkF m n L (v :: st))) : OEnds p e below s C S Q T (mkF m pc L st) := by
  subst hn
  obtain ⟨T', X', e', f'⟩ := getS X hx hZ hown (host := "") w Via.refl eT F (g := mkF m pc L st) rfl (hb hby hd)
  exact (k T' X' e').pre f'
theorem s_newO (X : Stand p l e R s m args below meth c T locs cells slots) (hx : p.tables.exec = Jvm.exec) (hby : c.code = bytes) (hZ : Z.Warmed39 s.vm) {own K : String} {index num : Nat} (hown : s.vm.findClass own = some m.cls) (w : (Jvm.Cond.classLink own index K).before a0 Z = true) (wi : (Jvm.Cond.instantiable K num).before a0 Z = true) (wz : (Jvm.Cond.initialized K).before a0 Z = true) (eT : T.heap = h) (hc : cells + 1 ≤ R.cells) (hl : slots + num ≤ R.slots) (hd : decode bytes pc = .ok (.new index, 3)) (hn : pc + 3 = n)
    (k : ∀ T' h' a, a = h.size → Stand p l e R s m args below meth c T' locs (cells + 1) (slots + num) → T'.heap = h' → Ext h h' → Exa Z h' a K → (∀ {O nm d : String} {ty : FieldType}, Laid Z a0 K O nm d → parseFieldDescriptor d = some ty → Fld Z h' a O nm d (defaultValue ty)) → OEnds p e below s C S Q T' (mkF m n L (.ref a :: st))) : OEnds p e below s C S Q T (mkF m pc L st) := by
  subst hn
  obtain ⟨T', h', X', e', E', A', D', -, f'⟩ := newO X hx hZ hown w wi wz eT (g := mkF m pc L st) rfl (hb hby hd) hc hl
  exact (k T' h' _ rfl X' e' E' A' D').pre f'
theorem s_initO (X : Stand p l e R s m args below meth c T locs cells slots) (hx : p.tables.exec = Jvm.exec) (hby : c.code = bytes) {ml : Nat} (hml : c.maxLocals = ml) (hZ : Z.Warmed39 s.vm) {own : String} {index : Nat} (hown : s.vm.findClass own = some m.cls) (w1 : (Jvm.Cond.methodLink own index Lib.objectInit).before a0 Z = true) (w2 : (Jvm.Cond.instanceMethod Lib.objectInit).before a0 Z = true) (w3 : (Jvm.Cond.code Lib.objectInit ⟨#[0xb1]⟩ 1 none).before a0 Z = true) (eT : T.heap = h) {a : Addr} (hf : 1 ≤ R.frames) (W : Nat) (hW : (st.map fun v => v.category).sum ≤ W) (hl : W + 12 ≤ R.locals) (hsz : L.size = ml) (hd : decode bytes pc = .ok (.invokespecial index, 3)) (hn : pc + 3 = n)
    (k : ∀ T', Stand p l e R s m args below meth c T' locs cells slots → T'.heap = h → OEnds p e below s C S Q T' (mkF m n L st)) : OEnds p e below s C S Q T (mkF m pc L (.ref a :: st)) := by
  subst hn
  obtain ⟨T', X', e', f'⟩ := initO X hx hZ hown w1 w2 w3 eT (g := mkF m pc L (.ref a :: st)) rfl (by rw [hml]; exact hsz) rfl (hb hby hd) hf (W := W) (by show 2 * 0 + _ ≤ _; rw [Nat.mul_zero, Nat.zero_add]; exact hW) hl
  exact (k T' X' e').pre f'
/-- the calls by a contract -/
theorem s_callS (X : Stand p l e R s m args below meth c T locs cells slots) (hx : p.tables.exec = Jvm.exec) (hby : c.code = bytes) {ml : Nat} (hml : c.maxLocals = ml) (hZ : Z.Warmed39 s.vm) {own : String} {index : Nat} {y : MethodName} {yb : ByteArray} {maxL : Nat} {ret : Option FieldType} (hown : s.vm.findClass own = some m.cls) (w1 : (Jvm.Cond.methodLink own index y).before a0 Z = true) (w2 : (Jvm.Cond.static y).before a0 Z = true) (w3 : (Jvm.Cond.initialized y.cls).before a0 Z = true) (w4 : (Jvm.Cond.code y yb maxL ret).before a0 Z = true) (hy : y.cls ≠ "java/lang/invoke/MethodHandle" ∧ y.cls ≠ "java/lang/invoke/VarHandle")
    {rm : Room} {as' : Array Value} {Q' : Option Value → Heap → List Loc → Prop} (K : OCon l Z y yb maxL ret [] rm as' h Q') (eT : T.heap = h) (hf : rm.frames + 1 ≤ R.frames) (W : Nat) (hl : W + (maxL + 11) + rm.locals ≤ R.locals) (hc : cells + rm.cells ≤ R.cells) (hs : slots + rm.slots ≤ R.slots) {ps : List FieldType} {rt : Option FieldType} (pd : parseMethodDescriptor y.desc = some ⟨ps, rt⟩) (argsL rest : List Value) (hlen : argsL.length = ps.length) (has : argsL.toArray = as') (hst : st = argsL.reverse ++ rest) (hW : (rest.map fun v => v.category).sum ≤ W) (hsz : L.size = ml) (hd : decode bytes pc = .ok (.invokestatic index, 3)) (hn : pc + 3 = n)
    (k : ∀ T' L' v, Stand p l e R s m args below meth c T' (locs ++ L') (cells + rm.cells) (slots + rm.slots) → Q' v T'.heap L' → OEnds p e below s C S Q T' (mkF m n L (v.toList ++ rest))) : OEnds p e below s C S Q T (mkF m pc L st) := by
  subst hn has
  obtain ⟨v, _, ⟨T', L', k', n'⟩, -, X', ⟨Lc, hQ, l', y', z'⟩, f'⟩ := Jvm.LawKit.callS X hx (y := y) hown (mvT hZ w1) (mvT hZ w2) (mvT hZ w3) (mvT hZ w4) hy (backOf (W := W) K hZ w4 w3 hf hl) (g := mkF m pc L st) rfl (by rw [hml]; exact hsz) (argsL := argsL) (rest := rest) (lenOf pd hlen) hst (by show 2 * 0 + _ ≤ _; rw [Nat.mul_zero, Nat.zero_add]; exact hW) (hb hby hd) (fun _ _ => ⟨rfl, eT, hc, hs⟩)
  dsimp only [Pt.U, Pt.locs, Pt.cells, Pt.slots] at X' l' y' z' f' hQ
  subst l' y' z'
  exact (k T' Lc v X' hQ).pre f'
theorem s_callI (X : Stand p l e R s m args below meth c T locs cells slots) (hx : p.tables.exec = Jvm.exec) (hby : c.code = bytes) {ml : Nat} (hml : c.maxLocals = ml) (hZ : Z.Warmed39 s.vm) {own : String} {index : Nat} {y : MethodName} {yb : ByteArray} {maxL : Nat} (hy1 : y.name = "<init>") (hown : s.vm.findClass own = some m.cls) (w1 : (Jvm.Cond.methodLink own index y).before a0 Z = true) (w2 : (Jvm.Cond.instanceMethod y).before a0 Z = true) (w3 : (Jvm.Cond.initialized y.cls).before a0 Z = true) (w4 : (Jvm.Cond.code y yb maxL none).before a0 Z = true) (hy : y.cls ≠ "java/lang/invoke/MethodHandle" ∧ y.cls ≠ "java/lang/invoke/VarHandle")
    {rm : Room} {as' : Array Value} {Q' : Option Value → Heap → List Loc → Prop} (K : OCon l Z y yb maxL none [] rm as' h Q') (eT : T.heap = h) (hf : rm.frames + 1 ≤ R.frames) (W : Nat) (hl : W + (maxL + 11) + rm.locals ≤ R.locals) (hc : cells + rm.cells ≤ R.cells) (hs : slots + rm.slots ≤ R.slots) {ps : List FieldType} {rt : Option FieldType} (pd : parseMethodDescriptor y.desc = some ⟨ps, rt⟩) (a : Addr) (argsL rest : List Value) (hlen : argsL.length = ps.length) (has : (Value.ref a :: argsL).toArray = as') (hst : st = argsL.reverse ++ .ref a :: rest) (hW : (rest.map fun v => v.category).sum ≤ W) (hsz : L.size = ml) (hd : decode bytes pc = .ok (.invokespecial index, 3)) (hn : pc + 3 = n)
    (k : ∀ T' L' v, Stand p l e R s m args below meth c T' (locs ++ L') (cells + rm.cells) (slots + rm.slots) → Q' v T'.heap L' → OEnds p e below s C S Q T' (mkF m n L (v.toList ++ rest))) : OEnds p e below s C S Q T (mkF m pc L st) := by
  subst hn has
  obtain ⟨v, _, ⟨T', L', k', n'⟩, -, X', ⟨Lc, hQ, l', y', z'⟩, f'⟩ := X.specialBack hx (y := y) hy1 hown (mvT hZ w1) (mvT hZ w2) (mvT hZ w4) hy (backOf (W := W) K hZ w4 w3 hf hl) (g := mkF m pc L st) rfl (by rw [hml]; exact hsz) (Steps.refl _) (a := a) (argsL := argsL) (rest := rest) (lenOf pd hlen) hst (by show 2 * 0 + _ ≤ _; rw [Nat.mul_zero, Nat.zero_add]; exact hW) (hb hby hd) (fun _ _ => ⟨rfl, eT, hc, hs⟩)
  dsimp only [Pt.U, Pt.locs, Pt.cells, Pt.slots] at X' l' y' z' f' hQ
  subst l' y' z'
  exact (k T' Lc v X' hQ).pre fun t r => f'.trans r
theorem s_callV (X : Stand p l e R s m args below meth c T locs cells slots) (hx : p.tables.exec = Jvm.exec) (hby : c.code = bytes) {ml : Nat} (hml : c.maxLocals = ml) (hZ : Z.Warmed39 s.vm) {own K0 : String} {index : Nat} {y z : MethodName} {yb : ByteArray} {maxL : Nat} {ret : Option FieldType} (hown : s.vm.findClass own = some m.cls) (w1 : (Jvm.Cond.methodLink own index y).before a0 Z = true) (w2 : (Jvm.Cond.declares y).before a0 Z = true) (w5 : NotFace s y) (w6 : (Jvm.Cond.selects K0 y z).before a0 Z = true) (w7 : (Jvm.Cond.instanceMethod z).before a0 Z = true) (w3 : (Jvm.Cond.initialized z.cls).before a0 Z = true) (w4 : (Jvm.Cond.code z yb maxL ret).before a0 Z = true) (hy : y.cls ≠ "java/lang/invoke/MethodHandle" ∧ y.cls ≠ "java/lang/invoke/VarHandle")
    {rm : Room} {as' : Array Value} {Q' : Option Value → Heap → List Loc → Prop} (K : OCon l Z z yb maxL ret [] rm as' h Q') (eT : T.heap = h) (hf : rm.frames + 1 ≤ R.frames) (W : Nat) (hl : W + (maxL + 11) + rm.locals ≤ R.locals) (hc : cells + rm.cells ≤ R.cells) (hs : slots + rm.slots ≤ R.slots) {ps : List FieldType} {rt : Option FieldType} (pd : parseMethodDescriptor y.desc = some ⟨ps, rt⟩) {a : Addr} (E : Exa Z h a K0) (argsL rest : List Value) (hlen : argsL.length = ps.length) (has : (Value.ref a :: argsL).toArray = as') (hst : st = argsL.reverse ++ .ref a :: rest) (hW : (rest.map fun v => v.category).sum ≤ W) (hsz : L.size = ml) (hd : decode bytes pc = .ok (.invokevirtual index, 3)) (hn : pc + 3 = n)
    (k : ∀ T' L' v, Stand p l e R s m args below meth c T' (locs ++ L') (cells + rm.cells) (slots + rm.slots) → Q' v T'.heap L' → OEnds p e below s C S Q T' (mkF m n L (v.toList ++ rest))) : OEnds p e below s C S Q T (mkF m pc L st) := by
  subst hn has
  obtain ⟨cq, kq, qa, qb, qc⟩ := isOf hZ eT E
  obtain ⟨v, _, ⟨T', L', k', n'⟩, -, X', ⟨Lc, hQ, l', y', z'⟩, f'⟩ := X.virtualBack hx (y := y) (z := z) hown (mvT hZ w1) (mvT hZ w2) w5 (mvT hZ w6) (mvT hZ w7) hy (backOf (W := W) K hZ w4 w3 hf hl) qa qc (g := mkF m pc L st) rfl (by rw [hml]; exact hsz) (Steps.refl _) (argsL := argsL) (rest := rest) (lenOf pd hlen) hst (by show 2 * 0 + _ ≤ _; rw [Nat.mul_zero, Nat.zero_add]; exact hW) (hb hby hd) (fun _ _ => ⟨rfl, eT, hc, hs⟩)
  dsimp only [Pt.U, Pt.locs, Pt.cells, Pt.slots] at X' l' y' z' f' hQ
  subst l' y' z'
  exact (k T' Lc v X' hQ).pre fun t r => f'.trans r
/-- arrays -/
theorem s_newP (X : Stand p l e R s m args below meth c T locs cells slots) (hx : p.tables.exec = Jvm.exec) (hby : c.code = bytes) (hZ : Z.Warmed39 s.vm) {aty : ArrayType} (w : (Jvm.Cond.arrayClass (newarray.typeOf aty)).before a0 Z = true) {ty : FieldType} (hty : newarray.typeOf aty = ty) (eT : T.heap = h) {num : Int32} (hnn : ¬ num < 0) (cap : Nat) (hcap : num.toNatClampNeg ≤ cap) (hb8 : cap * 8 ≤ 536870912) (hc : cells + 1 ≤ R.cells) (hl : slots + cap ≤ R.slots) (hd : decode bytes pc = .ok (.newarray aty, 2)) (hn : pc + 2 = n)
    (k : ∀ T' h' cA a, a = h.size → Stand p l e R s m args below meth c T' locs (cells + 1) (slots + cap) → T'.heap = h' → Ext h h' → Arr Z h' a (newA cA ty num) ty → OEnds p e below s C S Q T' (mkF m n L (.ref a :: st))) : OEnds p e below s C S Q T (mkF m pc L (.int num :: st)) := by
  subst hn hty
  obtain ⟨T', h', cA, X', e', E', A', f'⟩ := newP X hx hZ w eT (g := mkF m pc L (.int num :: st)) rfl (hb hby hd) rfl hnn hcap hb8 hc hl
  exact (k T' h' cA _ rfl X' e' E' A').pre f'
theorem s_arraylength (X : Stand p l e R s m args below meth c T locs cells slots) (hx : p.tables.exec = Jvm.exec) (hby : c.code = bytes) (hZ : Z.Warmed39 s.vm) (eT : T.heap = h) {a : Addr} {cl : Cell} {ty : FieldType} (A : Arr Z h a cl ty) {z : Int32} (hsz : cl.slots.size = z.toNatClampNeg) (hz : ¬ z < 0) (hd : decode bytes pc = .ok (.arraylength, 1)) (hn : pc + 1 = n)
    (k : OEnds p e below s C S Q T (mkF m n L (.int z :: st))) : OEnds p e below s C S Q T (mkF m pc L (.ref a :: st)) := by
  subst hn
  rw [← len_of hsz hz] at k
  exact k.pre fun t r => X.arraylength hx (by rw [eT]; exact A.1) (State.isArrayOf_alike hZ.alike A.2.1) (g := mkF m pc L (.ref a :: st)) rfl rfl (hb hby hd) _ r
theorem s_iaload (X : Stand p l e R s m args below meth c T locs cells slots) (hx : p.tables.exec = Jvm.exec) (hby : c.code = bytes) (hZ : Z.Warmed39 s.vm) (eT : T.heap = h) {a : Addr} {cl : Cell} (A : Arr Z h a cl .int) {j : Int32} (hj : ¬ (j < 0 ∨ cl.slots.size ≤ j.toNatClampNeg)) {v : Value} (hv : cl.slots[j.toNatClampNeg]? = some v) (hd : decode bytes pc = .ok (.iaload, 1)) (hn : pc + 1 = n)
    (k : OEnds p e below s C S Q T (mkF m n L (v :: st))) : OEnds p e below s C S Q T (mkF m pc L (.int j :: .ref a :: st)) := by
  subst hn
  exact k.pre fun t r => X.iaload hx (by rw [eT]; exact A.1) (State.isArrayOf_alike hZ.alike A.2.1) A.2.2 hj hv (g := mkF m pc L (.int j :: .ref a :: st)) rfl rfl (hb hby hd) _ r
theorem s_baload (X : Stand p l e R s m args below meth c T locs cells slots) (hx : p.tables.exec = Jvm.exec) (hby : c.code = bytes) (hZ : Z.Warmed39 s.vm) (eT : T.heap = h) {a : Addr} {cl : Cell} (A : Arr Z h a cl .byte) {j : Int32} (hj : ¬ (j < 0 ∨ cl.slots.size ≤ j.toNatClampNeg)) {v : Value} (hv : cl.slots[j.toNatClampNeg]? = some v) (hd : decode bytes pc = .ok (.baload, 1)) (hn : pc + 1 = n)
    (k : OEnds p e below s C S Q T (mkF m n L (v :: st))) : OEnds p e below s C S Q T (mkF m pc L (.int j :: .ref a :: st)) := by
  subst hn
  exact k.pre fun t r => X.baloadBytes hx (by rw [eT]; exact A.1) (State.isArrayOf_alike hZ.alike A.2.1) A.2.2 hj hv (g := mkF m pc L (.int j :: .ref a :: st)) rfl rfl (hb hby hd) _ r
theorem s_caload (X : Stand p l e R s m args below meth c T locs cells slots) (hx : p.tables.exec = Jvm.exec) (hby : c.code = bytes) (hZ : Z.Warmed39 s.vm) (eT : T.heap = h) {a : Addr} {cl : Cell} (A : Arr Z h a cl .char) {j : Int32} (hj : ¬ (j < 0 ∨ cl.slots.size ≤ j.toNatClampNeg)) {v : Value} (hv : cl.slots[j.toNatClampNeg]? = some v) (hd : decode bytes pc = .ok (.caload, 1)) (hn : pc + 1 = n)
    (k : OEnds p e below s C S Q T (mkF m n L (v :: st))) : OEnds p e below s C S Q T (mkF m pc L (.int j :: .ref a :: st)) := by
  subst hn
  exact k.pre fun t r => X.caload hx (by rw [eT]; exact A.1) (State.isArrayOf_alike hZ.alike A.2.1) A.2.2 hj hv (g := mkF m pc L (.int j :: .ref a :: st)) rfl rfl (hb hby hd) _ r
theorem s_iastore (X : Stand p l e R s m args below meth c T locs cells slots) (hx : p.tables.exec = Jvm.exec) (hby : c.code = bytes) (hZ : Z.Warmed39 s.vm) (eT : T.heap = h) {a : Addr} {cl : Cell} (A : Arr Z h a cl .int) {j x : Int32} (hj : ¬ (j < 0 ∨ cl.slots.size ≤ j.toNatClampNeg)) (hd : decode bytes pc = .ok (.iastore, 1)) (hn : pc + 1 = n)
    (k : ∀ T' h', Stand p l e R s m args below meth c T' (locs ++ [⟨a, j.toNatClampNeg⟩]) cells slots → T'.heap = h' → Wr h h' a j.toNatClampNeg (.int x) → OEnds p e below s C S Q T' (mkF m n L st)) : OEnds p e below s C S Q T (mkF m pc L (.int x :: .int j :: .ref a :: st)) := by
  subst hn
  obtain ⟨T', h', X', e', W', f'⟩ := stI X hx hZ eT A hj (g := mkF m pc L (.int x :: .int j :: .ref a :: st)) rfl rfl (hb hby hd)
  exact (k T' h' X' e' W').pre f'
theorem s_bastore (X : Stand p l e R s m args below meth c T locs cells slots) (hx : p.tables.exec = Jvm.exec) (hby : c.code = bytes) (hZ : Z.Warmed39 s.vm) (eT : T.heap = h) {a : Addr} {cl : Cell} (A : Arr Z h a cl .byte) {j x : Int32} (hj : ¬ (j < 0 ∨ cl.slots.size ≤ j.toNatClampNeg)) (hd : decode bytes pc = .ok (.bastore, 1)) (hn : pc + 1 = n)
    (k : ∀ T' h', Stand p l e R s m args below meth c T' (locs ++ [⟨a, j.toNatClampNeg⟩]) cells slots → T'.heap = h' → Wr h h' a j.toNatClampNeg (.int (nar .byte x)) → OEnds p e below s C S Q T' (mkF m n L st)) : OEnds p e below s C S Q T (mkF m pc L (.int x :: .int j :: .ref a :: st)) := by
  subst hn
  obtain ⟨T', h', X', e', W', f'⟩ := stB X hx hZ eT A hj (g := mkF m pc L (.int x :: .int j :: .ref a :: st)) rfl rfl (hb hby hd)
  exact (k T' h' X' e' W').pre f'
theorem s_castore (X : Stand p l e R s m args below meth c T locs cells slots) (hx : p.tables.exec = Jvm.exec) (hby : c.code = bytes) (hZ : Z.Warmed39 s.vm) (eT : T.heap = h) {a : Addr} {cl : Cell} (A : Arr Z h a cl .char) {j x : Int32} (hj : ¬ (j < 0 ∨ cl.slots.size ≤ j.toNatClampNeg)) (hd : decode bytes pc = .ok (.castore, 1)) (hn : pc + 1 = n)
    (k : ∀ T' h', Stand p l e R s m args below meth c T' (locs ++ [⟨a, j.toNatClampNeg⟩]) cells slots → T'.heap = h' → Wr h h' a j.toNatClampNeg (.int (nar .char x)) → OEnds p e below s C S Q T' (mkF m n L st)) : OEnds p e below s C S Q T (mkF m pc L (.int x :: .int j :: .ref a :: st)) := by
  subst hn
  obtain ⟨T', h', X', e', W', f'⟩ := stC X hx hZ eT A hj (g := mkF m pc L (.int x :: .int j :: .ref a :: st)) rfl rfl (hb hby hd)
  exact (k T' h' X' e' W').pre f'
theorem s_bastoreC (X : Stand p l e R s m args below meth c T locs cells slots) (hx : p.tables.exec = Jvm.exec) (hby : c.code = bytes) (hZ : Z.Warmed39 s.vm) (eT : T.heap = h) {a : Addr} {cl : Cell} (A : Arr Z h a cl .byte) {j x : Int32} (i : Nat) (hj : ¬ j < 0) (hi : j.toNatClampNeg = i) (hs : i < cl.slots.size) (hd : decode bytes pc = .ok (.bastore, 1)) (hn : pc + 1 = n)
    (k : ∀ T' h', Stand p l e R s m args below meth c T' (locs ++ [⟨a, i⟩]) cells slots → T'.heap = h' → Wr h h' a i (.int (nar .byte x)) → OEnds p e below s C S Q T' (mkF m n L st)) : OEnds p e below s C S Q T (mkF m pc L (.int x :: .int j :: .ref a :: st)) := by
  subst hi
  exact s_bastore X hx hby hZ eT A (fun q => q.elim hj (Nat.not_le.mpr hs)) hd hn k
theorem s_iastoreC (X : Stand p l e R s m args below meth c T locs cells slots) (hx : p.tables.exec = Jvm.exec) (hby : c.code = bytes) (hZ : Z.Warmed39 s.vm) (eT : T.heap = h) {a : Addr} {cl : Cell} (A : Arr Z h a cl .int) {j x : Int32} (i : Nat) (hj : ¬ j < 0) (hi : j.toNatClampNeg = i) (hs : i < cl.slots.size) (hd : decode bytes pc = .ok (.iastore, 1)) (hn : pc + 1 = n)
    (k : ∀ T' h', Stand p l e R s m args below meth c T' (locs ++ [⟨a, i⟩]) cells slots → T'.heap = h' → Wr h h' a i (.int x) → OEnds p e below s C S Q T' (mkF m n L st)) : OEnds p e below s C S Q T (mkF m pc L (.int x :: .int j :: .ref a :: st)) := by
  subst hi
  exact s_iastore X hx hby hZ eT A (fun q => q.elim hj (Nat.not_le.mpr hs)) hd hn k
theorem s_castoreC (X : Stand p l e R s m args below meth c T locs cells slots) (hx : p.tables.exec = Jvm.exec) (hby : c.code = bytes) (hZ : Z.Warmed39 s.vm) (eT : T.heap = h) {a : Addr} {cl : Cell} (A : Arr Z h a cl .char) {j x : Int32} (i : Nat) (hj : ¬ j < 0) (hi : j.toNatClampNeg = i) (hs : i < cl.slots.size) (hd : decode bytes pc = .ok (.castore, 1)) (hn : pc + 1 = n)
    (k : ∀ T' h', Stand p l e R s m args below meth c T' (locs ++ [⟨a, i⟩]) cells slots → T'.heap = h' → Wr h h' a i (.int (nar .char x)) → OEnds p e below s C S Q T' (mkF m n L st)) : OEnds p e below s C S Q T (mkF m pc L (.int x :: .int j :: .ref a :: st)) := by
  subst hi
  exact s_castore X hx hby hZ eT A (fun q => q.elim hj (Nat.not_le.mpr hs)) hd hn k
theorem s_baloadC (X : Stand p l e R s m args below meth c T locs cells slots) (hx : p.tables.exec = Jvm.exec) (hby : c.code = bytes) (hZ : Z.Warmed39 s.vm) (eT : T.heap = h) {a : Addr} {cl : Cell} (A : Arr Z h a cl .byte) {j : Int32} (i : Nat) (hj : ¬ j < 0) (hi : j.toNatClampNeg = i) (hs : i < cl.slots.size) {v : Value} (hv : cl.slots[i]? = some v) (hd : decode bytes pc = .ok (.baload, 1)) (hn : pc + 1 = n)
    (k : OEnds p e below s C S Q T (mkF m n L (v :: st))) : OEnds p e below s C S Q T (mkF m pc L (.int j :: .ref a :: st)) := by
  subst hi
  exact s_baload X hx hby hZ eT A (fun q => q.elim hj (Nat.not_le.mpr hs)) hv hd hn k
theorem s_caloadC (X : Stand p l e R s m args below meth c T locs cells slots) (hx : p.tables.exec = Jvm.exec) (hby : c.code = bytes) (hZ : Z.Warmed39 s.vm) (eT : T.heap = h) {a : Addr} {cl : Cell} (A : Arr Z h a cl .char) {j : Int32} (i : Nat) (hj : ¬ j < 0) (hi : j.toNatClampNeg = i) (hs : i < cl.slots.size) {v : Value} (hv : cl.slots[i]? = some v) (hd : decode bytes pc = .ok (.caload, 1)) (hn : pc + 1 = n)
    (k : OEnds p e below s C S Q T (mkF m n L (v :: st))) : OEnds p e below s C S Q T (mkF m pc L (.int j :: .ref a :: st)) := by
  subst hi
  exact s_caload X hx hby hZ eT A (fun q => q.elim hj (Nat.not_le.mpr hs)) hv hd hn k
theorem s_ialoadC (X : Stand p l e R s m args below meth c T locs cells slots) (hx : p.tables.exec = Jvm.exec) (hby : c.code = bytes) (hZ : Z.Warmed39 s.vm) (eT : T.heap = h) {a : Addr} {cl : Cell} (A : Arr Z h a cl .int) {j : Int32} (i : Nat) (hj : ¬ j < 0) (hi : j.toNatClampNeg = i) (hs : i < cl.slots.size) {v : Value} (hv : cl.slots[i]? = some v) (hd : decode bytes pc = .ok (.iaload, 1)) (hn : pc + 1 = n)
    (k : OEnds p e below s C S Q T (mkF m n L (v :: st))) : OEnds p e below s C S Q T (mkF m pc L (.int j :: .ref a :: st)) := by
  subst hi
  exact s_iaload X hx hby hZ eT A (fun q => q.elim hj (Nat.not_le.mpr hs)) hv hd hn k
theorem set_hit {cl : Cell} {i : Nat} {v : Value} (hs : i < cl.slots.size) : (cl.setSlot i v).slots[i]? = some v := by simp [Cell.setSlot, hs]
theorem set_mis {cl : Cell} {i j : Nat} {v : Value} {w : Option Value} (hv : cl.slots[j]? = w) (q : i ≠ j) : (cl.setSlot i v).slots[j]? = w := by
  rw [← hv]; exact Array.getElem?_setIfInBounds_ne q
theorem new_at (cA : ClassId) (ty : FieldType) {z : Int32} {i : Nat} (q : i < z.toNatClampNeg) : (newA cA ty z).slots[i]? = some (defaultValue ty) := by simp [newA, q]
/-- instanceof, checkcast, aaload -/
theorem s_instY (X : Stand p l e R s m args below meth c T locs cells slots) (hx : p.tables.exec = Jvm.exec) (hby : c.code = bytes) (hZ : Z.Warmed39 s.vm) {own K : String} {index : Nat} (hown : s.vm.findClass own = some m.cls) (w : (Jvm.Cond.classLink own index K).before a0 Z = true) (eT : T.heap = h) {a : Addr} (F : Ins Z h a K true) (hd : decode bytes pc = .ok (.instanceof index, 3)) (hn : pc + 3 = n)
    (k : ∀ T', Stand p l e R s m args below meth c T' locs cells slots → T'.heap = h → OEnds p e below s C S Q T' (mkF m n L (.int 1 :: st))) : OEnds p e below s C S Q T (mkF m pc L (.ref a :: st)) := by
  subst hn
  obtain ⟨T', X', e', f'⟩ := instY X hx hZ hown w eT F (g := mkF m pc L (.ref a :: st)) rfl rfl (hb hby hd)
  exact (k T' X' e').pre f'
theorem s_instNo (X : Stand p l e R s m args below meth c T locs cells slots) (hx : p.tables.exec = Jvm.exec) (hby : c.code = bytes) (hZ : Z.Warmed39 s.vm) {own K C0 : String} {index : Nat} (hown : s.vm.findClass own = some m.cls) (w : (Jvm.Cond.classLink own index K).before a0 Z = true) (eT : T.heap = h) {a : Addr} (E : Exa Z h a C0) (F : ∃ c t, Z.vm.findClass C0 = some c ∧ Z.vm.findClass K = some t ∧ Z.vm.assignable c t = false) (hd : decode bytes pc = .ok (.instanceof index, 3)) (hn : pc + 3 = n)
    (k : ∀ T', Stand p l e R s m args below meth c T' locs cells slots → T'.heap = h → OEnds p e below s C S Q T' (mkF m n L (.int 0 :: st))) : OEnds p e below s C S Q T (mkF m pc L (.ref a :: st)) := by
  subst hn
  obtain ⟨T', X', e', f'⟩ := instNo X hx hZ hown w eT E F (g := mkF m pc L (.ref a :: st)) rfl rfl (hb hby hd)
  exact (k T' X' e').pre f'
theorem s_instNull (X : Stand p l e R s m args below meth c T locs cells slots) (hx : p.tables.exec = Jvm.exec) (hby : c.code = bytes) {index : Nat} (hd : decode bytes pc = .ok (.instanceof index, 3)) (hn : pc + 3 = n)
    (k : OEnds p e below s C S Q T (mkF m n L (.int 0 :: st))) : OEnds p e below s C S Q T (mkF m pc L (.null :: st)) := by
  subst hn
  exact k.pre fun t r => Stand.instanceofNull X hx (g := mkF m pc L (.null :: st)) rfl rfl (hb hby hd) t r
theorem s_castY (X : Stand p l e R s m args below meth c T locs cells slots) (hx : p.tables.exec = Jvm.exec) (hby : c.code = bytes) (hZ : Z.Warmed39 s.vm) {own K : String} {index : Nat} (hown : s.vm.findClass own = some m.cls) (w : (Jvm.Cond.classLink own index K).before a0 Z = true) (eT : T.heap = h) {a : Addr} (F : Ins Z h a K true) (hd : decode bytes pc = .ok (.checkcast index, 3)) (hn : pc + 3 = n)
    (k : ∀ T', Stand p l e R s m args below meth c T' locs cells slots → T'.heap = h → OEnds p e below s C S Q T' (mkF m n L (.ref a :: st))) : OEnds p e below s C S Q T (mkF m pc L (.ref a :: st)) := by
  subst hn
  obtain ⟨T', X', e', f'⟩ := castY X hx hZ hown w eT F (g := mkF m pc L (.ref a :: st)) rfl rfl (hb hby hd)
  exact (k T' X' e').pre f'
theorem s_aaload (X : Stand p l e R s m args below meth c T locs cells slots) (hx : p.tables.exec = Jvm.exec) (hby : c.code = bytes) (hZ : Z.Warmed39 s.vm) (eT : T.heap = h) {a : Addr} {cl : Cell} {ty : FieldType} (A : Arr Z h a cl ty) (hty : ty.isReference = true) {j : Int32} (hj : ¬ (j < 0 ∨ cl.slots.size ≤ j.toNatClampNeg)) {v : Value} (hv : cl.slots[j.toNatClampNeg]? = some v) (hd : decode bytes pc = .ok (.aaload, 1)) (hn : pc + 1 = n)
    (k : OEnds p e below s C S Q T (mkF m n L (v :: st))) : OEnds p e below s C S Q T (mkF m pc L (.int j :: .ref a :: st)) := by
  subst hn
  exact k.pre fun t r => X.aaload hx (by rw [eT]; exact A.1) (State.isArrayOf_alike hZ.alike A.2.1) hty A.2.2 hj hv (g := mkF m pc L (.int j :: .ref a :: st)) rfl rfl (hb hby hd) _ r
theorem ns_root {O K : String} {num : Nat} (w : (Jvm.Cond.noSuperclass O).before a0 Z = true) (wi : (Jvm.Cond.instantiable K num).before a0 Z = true) (hn : O ≠ K) : NS Z O K := by
  obtain ⟨c, k, h1, h2, h3, -, -⟩ := Cond.noSuperclass_spec w
  obtain ⟨t, kt, g1, -⟩ := Cond.instantiable_spec wi
  have ne := ids_ne h1 g1 hn
  refine ⟨c, t, h1, g1, fun fuel => ?_⟩
  match fuel with
  | 0 => rfl
  | f + 1 => simp [Vm.isSubclassAux, ne, h2, h3]
theorem ns_no {C0 S0 K : String} {num : Nat} (w : (Jvm.Cond.superclass C0 S0).before a0 Z = true) (wi : (Jvm.Cond.instantiable K num).before a0 Z = true) (nn : NS Z C0 K) (hn : C0 ≠ K) : ∃ c t, Z.vm.findClass C0 = some c ∧ Z.vm.findClass K = some t ∧ Z.vm.assignable c t = false := by
  obtain ⟨c, t, q0, g0, n3⟩ := nn
  obtain ⟨p, k, kp, h1, h2, h3, h4, h5, -, h7⟩ := Cond.superclass_spec q0 w
  obtain ⟨t', kt, g1, g2, g3, g4, -⟩ := Cond.instantiable_spec wi
  cases g0.symm.trans g1
  have ne := ids_ne q0 g0 hn
  have g7 : kt.isInterface = false := by simp only [Bool.or_eq_false_iff] at g4; exact g4.1
  refine ⟨c, t, q0, g0, ?_⟩
  show Z.vm.assignableAux (255 + 1) c t = false
  simp [Vm.assignableAux, ne, h2, g2, h5, g3, g7, Vm.isSubclass, n3]
/-- the wide frame: a walk that may have interned -/
def FrameEndW (s : State) (o : Outcome) (t : State) (L : List Loc) (k n : Nat) : Prop :=
  (∃ v : Option Value, o = Outcome.returned v) ∧ s.Warmed39 t.vm ∧ (∀ (j : Nat) (p : Array UInt16 × Addr), s.vm.interned.size ≤ j → t.vm.interned[j]? = some p → s.heap.size ≤ p.2 ∧ p.2 < t.heap.size) ∧ s.sameButNew { t with vm := s.vm } L k n
def OEndsW (p : Program) (e : Env) (below : List Frame) (s : State) (C S : Nat) (Q : Option Value → Heap → List Loc → Prop) (T : State) (g : JFrame) : Prop :=
  ∃ (t : State) (v : Option Value) (L : List Loc), Steps p.tables e below (T.setTop g) t ∧ t.status = .running ∧ Ended t below (.returned v) ∧ Q v t.heap L ∧ FrameEndW s (.returned v) t L C S
def OConW (l : Launch) (Z : State) (y : MethodName) (bytes : ByteArray) (maxL : Nat) (ret : Option FieldType) (ws : List Jvm.Cond) (rm : Room) (as' : Array Value) (s₀ : State) (Q : Option Value → Heap → List Loc → Prop) : Prop :=
  MetFree l y (head1 (Jvm.Cond.code y bytes maxL ret :: ws) rm) (fun a U => a = as' ∧ U = s₀) (fun _ _ _ _ _ => True) (fun _ U o U' => ∃ v L, o = .returned v ∧ Q v U'.heap L ∧ FrameEndW U o U' L rm.cells rm.slots)
theorem OEnds.wide {g : JFrame} (k : OEnds p e below s C S Q T g) : OEndsW p e below s C S Q T g := by
  obtain ⟨t, v, L, h1, h2, h3, h4, h5⟩ := k
  exact ⟨t, v, L, h1, h2, h3, h4, RoadKit.wide h5⟩
theorem OEndsW.pre {T' : State} {g g' : JFrame} (k : OEndsW p e below s C S Q T' g') (f : ∀ t, Steps p.tables e below (T'.setTop g') t → Steps p.tables e below (T.setTop g) t) : OEndsW p e below s C S Q T g := by
  obtain ⟨t, v, L, h1, h2⟩ := k
  exact ⟨t, v, L, f _ h1, h2⟩
theorem OEnds.reb {vm1 : Vm} {k1 : Nat} (hS : s.Since vm1 k1) {g : JFrame} (k : OEnds p e below (s.setVm vm1) C S (fun v h L => Q v h L ∧ k1 ≤ h.size) T g) : OEndsW p e below s C S Q T g := by
  obtain ⟨t, v, L, h1, h2, h3, ⟨h4, h4'⟩, h5, h6, h7⟩ := k
  obtain ⟨q1, q2, q3⟩ := hS.ended h6 h4' h7
  exact ⟨t, v, L, h1, h2, h3, h4, h5, q1, q2, q3⟩
theorem conW {y : MethodName} {maxL : Nat} {ret : Option FieldType} {ws : List Jvm.Cond} {rm : Room} {as' : Array Value} {s₀ : State} (hp : plainFor y = true)
    (body : ∀ (p : Program) (e : Env) (m : MethodId) (below : List Frame) (meth : Method) (c : Code) (s₁ : State), p.tables.exec = Jvm.exec → c.code = bytes → c.maxLocals = maxL → s₀.vm.findClass y.cls = some m.cls → meth.name = y.name → meth.sig.returnType = ret → meth.locks = false →
      Stand p l e rm s₀ m as' below meth c s₁ [] 0 0 → s₁.heap = s₀.heap → OEndsW p e below s₀ rm.cells rm.slots Q s₁ (entryFrame m as' maxL)) : OConW l Z y bytes maxL ret ws rm as' s₀ Q := by
  refine MetFree.of_bodySF hp hisR ?_
  intro p e s m args below meth c s₁ Bd hml hP hK
  obtain ⟨rfl, rfl⟩ := hP
  obtain ⟨t, v, L, h1, h2, h3, h4, h5⟩ := body p e m below meth c s₁ Bd.exec Bd.bytes hml (findClass_of_methodNamed Bd.named) (name_of_methodNamed Bd.named Bd.method).1 Bd.returns Bd.notSynchronized (Stand.of_body Bd) (by rw [Bd.state]; rfl)
  exact ⟨t, _, h1, h2, h3, v, L, rfl, h4, h5⟩
theorem entryW {mm : MethodId} {as' : Array Value} {maxL : Nat} {g : JFrame} (q : entryFrame mm as' maxL = g) (k : OEndsW p e below s C S Q T g) : OEndsW p e below s C S Q T (entryFrame mm as' maxL) := q ▸ k
end Walk
/-- a boolean as an int -/
def b2i (b : Bool) : Int32 := if b = true then 1 else 0
theorem b2i_t : b2i true = 1 := rfl
theorem b2i_f : b2i false = 0 := rfl
theorem nar_b2i (b : Bool) : nar .boolean (b2i b) = b2i b := by cases b <;> decide
theorem ifb_eq_t {b : Bool} (q : b = false) : ifCond.holds .eq (b2i b) = true := by subst q; decide
theorem ifb_eq_f {b : Bool} (q : b = true) : ifCond.holds .eq (b2i b) = false := by subst q; decide
theorem ifb_ne_t {b : Bool} (q : b = true) : ifCond.holds .ne (b2i b) = true := by subst q; decide
theorem ifb_ne_f {b : Bool} (q : b = false) : ifCond.holds .ne (b2i b) = false := by subst q; decide
theorem icb_eq_t {a b : Bool} (q : a = b) : if_icmp.holds .eq (b2i a) (b2i b) = true := by subst q; cases a <;> decide
theorem icb_eq_f {a b : Bool} (q : ¬ a = b) : if_icmp.holds .eq (b2i a) (b2i b) = false := by cases a <;> cases b <;> first | exact absurd rfl q | decide
theorem icb_ne_t {a b : Bool} (q : ¬ a = b) : if_icmp.holds .ne (b2i a) (b2i b) = true := by cases a <;> cases b <;> first | exact absurd rfl q | decide
theorem icb_ne_f {a b : Bool} (q : a = b) : if_icmp.holds .ne (b2i a) (b2i b) = false := by subst q; cases a <;> decide
end Jvm.Own
namespace Jvm.Pilot.@@N@@
open Jvm Jvm.ClassFile Sem Op Lib Jvm.Free Jvm.Stand Jvm.LawKit Jvm.RoadKit Bundle Jvm.Own Jvm.Pilot.@@N@@.Jvm.D
theorem d1_0 : decode jdk_42_method_56_code 0 = .ok (.aload_n 0, 1) := by decide +kernel
theorem d1_1 : decode jdk_42_method_56_code 1 = .ok (.invokevirtual 492, 3) := by decide +kernel
theorem d1_4 : decode jdk_42_method_56_code 4 = .ok (.ifCond .eq 12, 3) := by decide +kernel
theorem d1_7 : decode jdk_42_method_56_code 7 = .ok (.aload_n 0, 1) := by decide +kernel
theorem d1_8 : decode jdk_42_method_56_code 8 = .ok (.getfield 9, 3) := by decide +kernel
theorem d1_11 : decode jdk_42_method_56_code 11 = .ok (.iload_n 1, 1) := by decide +kernel
theorem d1_12 : decode jdk_42_method_56_code 12 = .ok (.invokestatic 495, 3) := by decide +kernel
theorem d1_15 : decode jdk_42_method_56_code 15 = .ok (.ireturn, 1) := by decide +kernel
theorem d2_0 : decode jdk_42_method_154_code 0 = .ok (.getstatic 38, 3) := by decide +kernel
theorem d2_3 : decode jdk_42_method_154_code 3 = .ok (.ifCond .eq 14, 3) := by decide +kernel
theorem d2_6 : decode jdk_42_method_154_code 6 = .ok (.aload_n 0, 1) := by decide +kernel
theorem d2_7 : decode jdk_42_method_154_code 7 = .ok (.getfield 15, 3) := by decide +kernel
theorem d2_10 : decode jdk_42_method_154_code 10 = .ok (.ifCond .ne 7, 3) := by decide +kernel
theorem d2_13 : decode jdk_42_method_154_code 13 = .ok (.iconst 1, 1) := by decide +kernel
theorem d2_14 : decode jdk_42_method_154_code 14 = .ok (.goto 4, 3) := by decide +kernel
theorem d2_18 : decode jdk_42_method_154_code 18 = .ok (.ireturn, 1) := by decide +kernel
theorem d3_0 : decode jdk_43_method_2_code 0 = .ok (.iload_n 1, 1) := by decide +kernel
theorem d3_1 : decode jdk_43_method_2_code 1 = .ok (.aload_n 0, 1) := by decide +kernel
theorem d3_2 : decode jdk_43_method_2_code 2 = .ok (.arraylength, 1) := by decide +kernel
theorem d3_3 : decode jdk_43_method_2_code 3 = .ok (.invokestatic 9, 3) := by decide +kernel
theorem d3_6 : decode jdk_43_method_2_code 6 = .ok (.aload_n 0, 1) := by decide +kernel
theorem d3_7 : decode jdk_43_method_2_code 7 = .ok (.iload_n 1, 1) := by decide +kernel
theorem d3_8 : decode jdk_43_method_2_code 8 = .ok (.baload, 1) := by decide +kernel
theorem d3_9 : decode jdk_43_method_2_code 9 = .ok (.sipush 255, 3) := by decide +kernel
theorem d3_12 : decode jdk_43_method_2_code 12 = .ok (.iand, 1) := by decide +kernel
theorem d3_13 : decode jdk_43_method_2_code 13 = .ok (.i2c, 1) := by decide +kernel
theorem d3_14 : decode jdk_43_method_2_code 14 = .ok (.ireturn, 1) := by decide +kernel
theorem d4_0 : decode jdk_42_method_155_code 0 = .ok (.iload_n 0, 1) := by decide +kernel
theorem d4_1 : decode jdk_42_method_155_code 1 = .ok (.iload_n 1, 1) := by decide +kernel
theorem d4_2 : decode jdk_42_method_155_code 2 = .ok (.getstatic 1053, 3) := by decide +kernel
theorem d4_5 : decode jdk_42_method_155_code 5 = .ok (.invokestatic 1059, 3) := by decide +kernel
theorem d4_8 : decode jdk_42_method_155_code 8 = .ok (.pop, 1) := by decide +kernel
theorem d4_9 : decode jdk_42_method_155_code 9 = .ok (.return_, 1) := by decide +kernel
theorem d5_0 : decode jdk_41_method_11_code 0 = .ok (.iload_n 0, 1) := by decide +kernel
theorem d5_1 : decode jdk_41_method_11_code 1 = .ok (.ifCond .lt 8, 3) := by decide +kernel
theorem d5_4 : decode jdk_41_method_11_code 4 = .ok (.iload_n 0, 1) := by decide +kernel
theorem d5_5 : decode jdk_41_method_11_code 5 = .ok (.iload_n 1, 1) := by decide +kernel
theorem d5_6 : decode jdk_41_method_11_code 6 = .ok (.if_icmp .lt 10, 3) := by decide +kernel
theorem d5_16 : decode jdk_41_method_11_code 16 = .ok (.iload_n 0, 1) := by decide +kernel
theorem d5_17 : decode jdk_41_method_11_code 17 = .ok (.ireturn, 1) := by decide +kernel
theorem d6_0 : decode prog_46_method_3_code 0 = .ok (.iload_n 0, 1) := by decide +kernel
theorem d6_1 : decode prog_46_method_3_code 1 = .ok (.bipush 48, 2) := by decide +kernel
theorem d6_3 : decode prog_46_method_3_code 3 = .ok (.if_icmp .lt 9, 3) := by decide +kernel
theorem d6_6 : decode prog_46_method_3_code 6 = .ok (.iload_n 0, 1) := by decide +kernel
theorem d6_7 : decode prog_46_method_3_code 7 = .ok (.bipush 57, 2) := by decide +kernel
theorem d6_9 : decode prog_46_method_3_code 9 = .ok (.if_icmp .le 27, 3) := by decide +kernel
theorem d6_12 : decode prog_46_method_3_code 12 = .ok (.iload_n 0, 1) := by decide +kernel
theorem d6_13 : decode prog_46_method_3_code 13 = .ok (.bipush 65, 2) := by decide +kernel
theorem d6_15 : decode prog_46_method_3_code 15 = .ok (.if_icmp .lt 9, 3) := by decide +kernel
theorem d6_18 : decode prog_46_method_3_code 18 = .ok (.iload_n 0, 1) := by decide +kernel
theorem d6_19 : decode prog_46_method_3_code 19 = .ok (.bipush 90, 2) := by decide +kernel
theorem d6_21 : decode prog_46_method_3_code 21 = .ok (.if_icmp .le 15, 3) := by decide +kernel
theorem d6_24 : decode prog_46_method_3_code 24 = .ok (.iload_n 0, 1) := by decide +kernel
theorem d6_25 : decode prog_46_method_3_code 25 = .ok (.bipush 97, 2) := by decide +kernel
theorem d6_27 : decode prog_46_method_3_code 27 = .ok (.if_icmp .lt 13, 3) := by decide +kernel
theorem d6_30 : decode prog_46_method_3_code 30 = .ok (.iload_n 0, 1) := by decide +kernel
theorem d6_31 : decode prog_46_method_3_code 31 = .ok (.bipush 122, 2) := by decide +kernel
theorem d6_33 : decode prog_46_method_3_code 33 = .ok (.if_icmp .gt 7, 3) := by decide +kernel
theorem d6_36 : decode prog_46_method_3_code 36 = .ok (.iconst 1, 1) := by decide +kernel
theorem d6_37 : decode prog_46_method_3_code 37 = .ok (.goto 4, 3) := by decide +kernel
theorem d6_40 : decode prog_46_method_3_code 40 = .ok (.iconst 0, 1) := by decide +kernel
theorem d6_41 : decode prog_46_method_3_code 41 = .ok (.ireturn, 1) := by decide +kernel
theorem d7_0 : decode method_2_code 0 = .ok (.iload_n 0, 1) := by decide +kernel
theorem d7_1 : decode method_2_code 1 = .ok (.bipush 48, 2) := by decide +kernel
theorem d7_3 : decode method_2_code 3 = .ok (.if_icmp .lt 11, 3) := by decide +kernel
theorem d7_6 : decode method_2_code 6 = .ok (.iload_n 0, 1) := by decide +kernel
theorem d7_7 : decode method_2_code 7 = .ok (.bipush 57, 2) := by decide +kernel
theorem d7_9 : decode method_2_code 9 = .ok (.if_icmp .gt 5, 3) := by decide +kernel
theorem d7_12 : decode method_2_code 12 = .ok (.iconst 1, 1) := by decide +kernel
theorem d7_13 : decode method_2_code 13 = .ok (.ireturn, 1) := by decide +kernel
theorem d7_14 : decode method_2_code 14 = .ok (.iload_n 0, 1) := by decide +kernel
theorem d7_15 : decode method_2_code 15 = .ok (.bipush 32, 2) := by decide +kernel
theorem d7_17 : decode method_2_code 17 = .ok (.ior, 1) := by decide +kernel
theorem d7_18 : decode method_2_code 18 = .ok (.istore_n 1, 1) := by decide +kernel
theorem d7_19 : decode method_2_code 19 = .ok (.iload_n 1, 1) := by decide +kernel
theorem d7_20 : decode method_2_code 20 = .ok (.bipush 97, 2) := by decide +kernel
theorem d7_22 : decode method_2_code 22 = .ok (.if_icmp .lt 13, 3) := by decide +kernel
theorem d7_25 : decode method_2_code 25 = .ok (.iload_n 1, 1) := by decide +kernel
theorem d7_26 : decode method_2_code 26 = .ok (.bipush 122, 2) := by decide +kernel
theorem d7_28 : decode method_2_code 28 = .ok (.if_icmp .gt 7, 3) := by decide +kernel
theorem d7_31 : decode method_2_code 31 = .ok (.iconst 1, 1) := by decide +kernel
theorem d7_32 : decode method_2_code 32 = .ok (.goto 4, 3) := by decide +kernel
theorem d7_35 : decode method_2_code 35 = .ok (.iconst 0, 1) := by decide +kernel
theorem d7_36 : decode method_2_code 36 = .ok (.ireturn, 1) := by decide +kernel
theorem pd_0 : parseMethodDescriptor "(IILjava/util/function/BiFunction;)I" = some ⟨[.int, .int, .object "java/util/function/BiFunction"], some (.int)⟩ := by decide +kernel
theorem pd_1 : parseMethodDescriptor "(II)V" = some ⟨[.int, .int], none⟩ := by decide +kernel
theorem pd_2 : parseMethodDescriptor "()Z" = some ⟨[], some (.boolean)⟩ := by decide +kernel
theorem pd_3 : parseMethodDescriptor "([BI)C" = some ⟨[(.array (.byte)), .int], some (.char)⟩ := by decide +kernel
theorem pd_4 : parseMethodDescriptor "(I)C" = some ⟨[.int], some (.char)⟩ := by decide +kernel
theorem pd_5 : parseMethodDescriptor "(I)Z" = some ⟨[.int], some (.boolean)⟩ := by decide +kernel
theorem pn1 : plainName "com/example/stackroom/stackroom/collection/MarcRecord" = true := by first | (simp [plainName, overriddenIn]; done) | decide +kernel
theorem pn0 : plainName "com/example/stackroom/stackroom/collection/MarcRecordIsTagCharacterPinLaw" = true := by first | (simp [plainName, overriddenIn]; done) | decide +kernel
theorem efI1 (m : MethodId) (x0 : Int32) : entryFrame m #[(.int x0)] 1 = mkF m 0 #[.val (.int x0)] [] := by first | (simp [entryFrame, mkF, argsToLocals, Value.category, maxLocals]; done) | rfl
theorem efX (m : MethodId) (x0 : Int32) : entryFrame m #[(.int x0)] 2 = mkF m 0 #[.val (.int x0), .unset] [] := by first | (simp [entryFrame, mkF, argsToLocals, Value.category, maxLocals]; done) | rfl
theorem ef0 (m : MethodId) (x0 : Int32) (x1 : Int32) : entryFrame m #[(.int x0), (.int x1)] maxLocals = mkF m 0 #[.val (.int x0), .val (.int x1), .unset, .unset, .unset, .unset] [] := by first | (simp [entryFrame, mkF, argsToLocals, Value.category, maxLocals]; done) | rfl
theorem pnS : plainName "java/lang/String" = true := by first | (simp [plainName, overriddenIn]; done) | decide +kernel
theorem pnSL : plainName "java/lang/StringLatin1" = true := by first | (simp [plainName, overriddenIn]; done) | decide +kernel
theorem pnPC : plainName "jdk/internal/util/Preconditions" = true := by first | (simp [plainName, overriddenIn]; done) | decide +kernel
theorem efS1 (m : MethodId) (x0 : Addr) : entryFrame m #[(.ref x0)] 1 = mkF m 0 #[.val (.ref x0)] [] := by first | (simp [entryFrame, mkF, argsToLocals, Value.category, maxLocals]; done) | rfl
theorem efSI (m : MethodId) (x0 : Addr) (x1 : Int32) : entryFrame m #[(.ref x0), (.int x1)] 2 = mkF m 0 #[.val (.ref x0), .val (.int x1)] [] := by first | (simp [entryFrame, mkF, argsToLocals, Value.category, maxLocals]; done) | rfl
theorem efAI (m : MethodId) (x0 : Addr) (x1 : Int32) : entryFrame m #[(.ref x0), (.int x1)] 2 = mkF m 0 #[.val (.ref x0), .val (.int x1)] [] := by first | (simp [entryFrame, mkF, argsToLocals, Value.category, maxLocals]; done) | rfl
theorem efII2 (m : MethodId) (x0 : Int32) (x1 : Int32) : entryFrame m #[(.int x0), (.int x1)] 2 = mkF m 0 #[.val (.int x0), .val (.int x1)] [] := by first | (simp [entryFrame, mkF, argsToLocals, Value.category, maxLocals]; done) | rfl
theorem efP3 (m : MethodId) (x0 x1 : Int32) (x2 : Value) (hr : x2.isRef = true) : entryFrame m #[(.int x0), (.int x1), x2] 3 = mkF m 0 #[.val (.int x0), .val (.int x1), .val x2] [] := by
  rcases ref_cases hr with rfl | ⟨a, rfl⟩ <;> first | (simp [entryFrame, mkF, argsToLocals, Value.category, maxLocals]; done) | rfl
set_option maxRecDepth 65536 in
set_option maxHeartbeats 40000000 in
theorem rmPC (l : Launch) (Z : State) (a0 : Array Value) (hw : ∀ d ∈ tables_1, d.before a0 Z = true) (p1 p2 : Int32) (fm : Value) (hfm : fm.isRef = true) (q1 : ¬ p1 < 0) (q2 : p1 < p2) (h0 : Heap) (n0 : Nat)  :
    OCon l Z (⟨"jdk/internal/util/Preconditions", "checkIndex", "(IILjava/util/function/BiFunction;)I"⟩ : MethodName) jdk_41_method_11_code 3 (some (.int)) [] ({ frames := 0, cells := 0, slots := 0, locals := 0 } : Room) #[(.int p1), (.int p2), fm] h0 (fun v h L => v = some (.int p1) ∧ h = h0 ∧ Fr n0 L) := by
  refine con (plainFor_of_name pnPC) ?_
  intro p e s m below meth c s₁ hx hby hml hZ hown hnm hret hlk X0 e0
  refine entry (efP3 m p1 p2 fm hfm) ?_
  have M0 := Fr.nil n0
  refine s_iloadN X0 hx hby (n := 1) (x := p1) d5_0 rfl rfl ?_
  refine s_ifN X0 hx hby (n := 4) d5_1 (XT.i0_lt_f q1) rfl ?_
  refine s_iloadN X0 hx hby (n := 5) (x := p1) d5_4 rfl rfl ?_
  refine s_iloadN X0 hx hby (n := 6) (x := p2) d5_5 rfl rfl ?_
  refine s_icmpY X0 hx hby (n := 16) d5_6 (XT.ii_lt_t q2) (by decide) (by decide) ?_
  refine s_iloadN X0 hx hby (n := 17) (x := p1) d5_16 rfl rfl ?_
  exact s_retI X0 hx hby hlk hret d5_17 (by decide) (by decide) ⟨rfl, e0, M0⟩
set_option maxRecDepth 65536 in
set_option maxHeartbeats 40000000 in
theorem rmCk (l : Launch) (Z : State) (a0 : Array Value) (hw : ∀ d ∈ tables_1, d.before a0 Z = true) (p1 p2 : Int32) (q1 : ¬ p1 < 0) (q2 : p1 < p2) (h0 : Heap) (n0 : Nat) (fm : Value) (hfm : fm.isRef = true) (Sfm : Sta Z h0 "jdk/internal/util/Preconditions" "SIOOBE_FORMATTER" "Ljava/util/function/BiFunction;" fm) :
    OCon l Z (⟨"java/lang/String", "checkIndex", "(II)V"⟩ : MethodName) jdk_42_method_155_code 2 (none) [] ({ frames := 1, cells := 0, slots := 0, locals := 14 } : Room) #[(.int p1), (.int p2)] h0 (fun v h L => v = none ∧ h = h0 ∧ Fr n0 L) := by
  refine con (plainFor_of_name pnS) ?_
  intro p e s m below meth c s₁ hx hby hml hZ hown hnm hret hlk X0 e0
  refine entry (efII2 m p1 p2) ?_
  have M0 := Fr.nil n0
  refine s_iloadN X0 hx hby (n := 1) (x := p1) d4_0 rfl rfl ?_
  refine s_iloadN X0 hx hby (n := 2) (x := p2) d4_1 rfl rfl ?_
  refine s_getS X0 hx hby hZ (n := 5) hown (hw _ (List.mem_of_getElem? (i := 29) rfl)) e0 Sfm d4_2 rfl ?_
  intro T1 X1 e1
  refine s_callS X1 hx hby hml hZ (n := 8) hown (hw _ (List.mem_of_getElem? (i := 31) rfl)) (hw _ (List.mem_of_getElem? (i := 32) rfl)) (hw _ (List.mem_of_getElem? (i := 30) rfl)) (hw _ (List.mem_of_getElem? (i := 33) rfl)) (by decide) (rmPC l Z a0 hw p1 p2 fm hfm q1 q2 h0 n0) e1 (by decide) 0 (by decide) (by decide) (by decide) pd_0 [(.int p1), (.int p2), fm] [] rfl rfl rfl (Nat.le_of_eq rfl) rfl d4_5 rfl ?_
  intro T2 L2 v2 X2 q2c
  obtain ⟨rfl, e2, N2⟩ := q2c
  show OEnds p e below s _ _ _ T2 (mkF m 8 #[.val (.int p1), .val (.int p2)] [(.int p1)])
  have M2 := Fr.app M0 N2
  refine s_pop X2 hx hby (n := 9) d4_8 rfl rfl ?_
  exact s_ret X2 hx hby hlk hret d4_9 (by decide) (by decide) ⟨rfl, e2, M2⟩
set_option maxRecDepth 65536 in
set_option maxHeartbeats 40000000 in
theorem rmLat (l : Launch) (Z : State) (a0 : Array Value) (hw : ∀ d ∈ tables_1, d.before a0 Z = true) (o : Addr) (h0 : Heap) (n0 : Nat) (z0 : Int32) (hz0 : ¬ z0 = (0 : Int32)) (Sz0 : Sta Z h0 "java/lang/String" "COMPACT_STRINGS" "Z" (.int z0)) (Fc : Fld Z h0 o "java/lang/String" "coder" "B" (.int (0 : Int32))) :
    OCon l Z (⟨"java/lang/String", "isLatin1", "()Z"⟩ : MethodName) jdk_42_method_154_code 1 (some (.boolean)) [] ({ frames := 0, cells := 0, slots := 0, locals := 0 } : Room) #[(.ref o)] h0 (fun v h L => v = some (.int 1) ∧ h = h0 ∧ Fr n0 L) := by
  refine con (plainFor_of_name pnS) ?_
  intro p e s m below meth c s₁ hx hby hml hZ hown hnm hret hlk X0 e0
  refine entry (efS1 m o) ?_
  have M0 := Fr.nil n0
  refine s_getS X0 hx hby hZ (n := 3) hown (hw _ (List.mem_of_getElem? (i := 19) rfl)) e0 Sz0 d2_0 rfl ?_
  intro T1 X1 e1
  refine s_ifN X1 hx hby (n := 6) d2_3 (XT.i0_eq_f hz0) rfl ?_
  refine s_aloadN X1 hx hby (n := 7) (x := (.ref o)) d2_6 rfl rfl rfl ?_
  refine s_getF X1 hx hby hZ (n := 10) hown (hw _ (List.mem_of_getElem? (i := 20) rfl)) e1 Fc d2_7 rfl ?_
  intro T2 X2 e2
  refine s_ifN X2 hx hby (n := 13) d2_10 (by decide) rfl ?_
  refine s_iconst X2 hx hby (n := 14) (v := (1 : Int32)) d2_13 rfl rfl ?_
  refine s_goto X2 hx hby (n := 18) d2_14 (by decide) (by decide) ?_
  exact s_retN X2 hx hby hlk hret (t := .boolean) (by simp) (z' := (1 : Int32)) (by decide) d2_18 (by decide) (by decide) ⟨rfl, e2, M0⟩
set_option maxRecDepth 65536 in
set_option maxHeartbeats 40000000 in
theorem rmLC (l : Launch) (Z : State) (a0 : Array Value) (hw : ∀ d ∈ tables_1, d.before a0 Z = true) (a : Addr) (cl : Cell) (z p1 b : Int32) (h0 : Heap) (n0 : Nat) (fm : Value) (hfm : fm.isRef = true) (Sfm : Sta Z h0 "jdk/internal/util/Preconditions" "SIOOBE_FORMATTER" "Ljava/util/function/BiFunction;" fm) (Ar : Arr Z h0 a cl .byte) (Sz : cl.slots.size = z.toNatClampNeg) (hz : ¬ z < 0) (q1 : ¬ p1 < 0) (q2 : p1 < z) (Bi : cl.slots[p1.toNatClampNeg]? = some (.int b)) :
    OCon l Z (⟨"java/lang/StringLatin1", "charAt", "([BI)C"⟩ : MethodName) jdk_43_method_2_code 2 (some (.char)) [] ({ frames := 2, cells := 0, slots := 0, locals := 27 } : Room) #[(.ref a), (.int p1)] h0 (fun v h L => v = some (.int (b &&& (255 : Int32))) ∧ h = h0 ∧ Fr n0 L) := by
  refine con (plainFor_of_name pnSL) ?_
  intro p e s m below meth c s₁ hx hby hml hZ hown hnm hret hlk X0 e0
  refine entry (efAI m a p1) ?_
  have M0 := Fr.nil n0
  refine s_iloadN X0 hx hby (n := 1) (x := p1) d3_0 rfl rfl ?_
  refine s_aloadN X0 hx hby (n := 2) (x := (.ref a)) d3_1 rfl rfl rfl ?_
  refine s_arraylength X0 hx hby hZ (n := 3) e0 Ar (z := z) Sz hz d3_2 rfl ?_
  refine s_callS X0 hx hby hml hZ (n := 6) hown (hw _ (List.mem_of_getElem? (i := 26) rfl)) (hw _ (List.mem_of_getElem? (i := 27) rfl)) (hw _ (List.mem_of_getElem? (i := 1) rfl)) (hw _ (List.mem_of_getElem? (i := 28) rfl)) (by decide) (rmCk l Z a0 hw p1 z q1 q2 h0 n0 fm hfm Sfm) e0 (by decide) 0 (by decide) (by decide) (by decide) pd_1 [(.int p1), (.int z)] [] rfl rfl rfl (Nat.le_of_eq rfl) rfl d3_3 rfl ?_
  intro T1 L1 v1 X1 q1c
  obtain ⟨rfl, e1, N1⟩ := q1c
  show OEnds p e below s _ _ _ T1 (mkF m 6 #[.val (.ref a), .val (.int p1)] [])
  have M1 := Fr.app M0 N1
  refine s_aloadN X1 hx hby (n := 7) (x := (.ref a)) d3_6 rfl rfl rfl ?_
  refine s_iloadN X1 hx hby (n := 8) (x := p1) d3_7 rfl rfl ?_
  refine s_baload X1 hx hby hZ (n := 9) e1 Ar (inb_of Sz ⟨q1, q2⟩) Bi d3_8 rfl ?_
  refine s_sipush X1 hx hby (n := 12) (v := (255 : Int32)) d3_9 rfl rfl ?_
  refine s_iand X1 hx hby (n := 13) d3_12 rfl ?_
  refine s_i2c X1 hx hby (n := 14) d3_13 rfl ?_
  refine s_fold (z := (b &&& (255 : Int32))) (i2c_mask b) ?_
  exact s_retN X1 hx hby hlk hret (t := .char) (by simp) (z' := (b &&& (255 : Int32))) (i2c_mask b) d3_14 (by decide) (by decide) ⟨rfl, e1, M1⟩
set_option maxRecDepth 65536 in
set_option maxHeartbeats 40000000 in
theorem rmCh (l : Launch) (Z : State) (a0 : Array Value) (hw : ∀ d ∈ tables_1, d.before a0 Z = true) (o a : Addr) (cl : Cell) (z p1 b : Int32) (h0 : Heap) (n0 : Nat) (z0 : Int32) (hz0 : ¬ z0 = (0 : Int32)) (Sz0 : Sta Z h0 "java/lang/String" "COMPACT_STRINGS" "Z" (.int z0)) (fm : Value) (hfm : fm.isRef = true) (Sfm : Sta Z h0 "jdk/internal/util/Preconditions" "SIOOBE_FORMATTER" "Ljava/util/function/BiFunction;" fm) (E : Exa Z h0 o "java/lang/String") (Fc : Fld Z h0 o "java/lang/String" "coder" "B" (.int (0 : Int32))) (Fv : Fld Z h0 o "java/lang/String" "value" "[B" (.ref a)) (Ar : Arr Z h0 a cl .byte) (Sz : cl.slots.size = z.toNatClampNeg) (hz : ¬ z < 0) (q1 : ¬ p1 < 0) (q2 : p1 < z) (Bi : cl.slots[p1.toNatClampNeg]? = some (.int b)) :
    OCon l Z (⟨"java/lang/String", "charAt", "(I)C"⟩ : MethodName) jdk_42_method_56_code 2 (some (.char)) [] ({ frames := 3, cells := 0, slots := 0, locals := 40 } : Room) #[(.ref o), (.int p1)] h0 (fun v h L => v = some (.int (b &&& (255 : Int32))) ∧ h = h0 ∧ Fr n0 L) := by
  refine con (plainFor_of_name pnS) ?_
  intro p e s m below meth c s₁ hx hby hml hZ hown hnm hret hlk X0 e0
  refine entry (efSI m o p1) ?_
  have M0 := Fr.nil n0
  refine s_aloadN X0 hx hby (n := 1) (x := (.ref o)) d1_0 rfl rfl rfl ?_
  refine s_callV X0 hx hby hml hZ (n := 4) hown (hw _ (List.mem_of_getElem? (i := 14) rfl)) (hw _ (List.mem_of_getElem? (i := 15) rfl)) (notFace_of_selects (args := #[]) (mvT hZ (hw _ (List.mem_of_getElem? (i := 17) rfl)))) (hw _ (List.mem_of_getElem? (i := 17) rfl)) (hw _ (List.mem_of_getElem? (i := 16) rfl)) (hw _ (List.mem_of_getElem? (i := 1) rfl)) (hw _ (List.mem_of_getElem? (i := 18) rfl)) (by decide) (rmLat l Z a0 hw o h0 n0 z0 hz0 Sz0 Fc) e0 (by decide) 0 (by decide) (by decide) (by decide) pd_2 E [] [] rfl rfl rfl (Nat.le_of_eq rfl) rfl d1_1 rfl ?_
  intro T1 L1 v1 X1 q1c
  obtain ⟨rfl, e1, N1⟩ := q1c
  show OEnds p e below s _ _ _ T1 (mkF m 4 #[.val (.ref o), .val (.int p1)] [(.int (1 : Int32))])
  have M1 := Fr.app M0 N1
  refine s_ifN X1 hx hby (n := 7) d1_4 (by decide) rfl ?_
  refine s_aloadN X1 hx hby (n := 8) (x := (.ref o)) d1_7 rfl rfl rfl ?_
  refine s_getF X1 hx hby hZ (n := 11) hown (hw _ (List.mem_of_getElem? (i := 21) rfl)) e1 Fv d1_8 rfl ?_
  intro T2 X2 e2
  refine s_iloadN X2 hx hby (n := 12) (x := p1) d1_11 rfl rfl ?_
  refine s_callS X2 hx hby hml hZ (n := 15) hown (hw _ (List.mem_of_getElem? (i := 22) rfl)) (hw _ (List.mem_of_getElem? (i := 23) rfl)) (hw _ (List.mem_of_getElem? (i := 24) rfl)) (hw _ (List.mem_of_getElem? (i := 25) rfl)) (by decide) (rmLC l Z a0 hw a cl z p1 b h0 n0 fm hfm Sfm Ar Sz hz q1 q2 Bi) e2 (by decide) 0 (by decide) (by decide) (by decide) pd_3 [(.ref a), (.int p1)] [] rfl rfl rfl (Nat.le_of_eq rfl) rfl d1_12 rfl ?_
  intro T3 L3 v3 X3 q3c
  obtain ⟨rfl, e3, N3⟩ := q3c
  show OEnds p e below s _ _ _ T3 (mkF m 15 #[.val (.ref o), .val (.int p1)] [(.int (b &&& (255 : Int32)))])
  have M3 := Fr.app M1 N3
  exact s_retN X3 hx hby hlk hret (t := .char) (by simp) (z' := (b &&& (255 : Int32))) (i2c_mask b) d1_15 (by decide) (by decide) ⟨rfl, e3, M3⟩
def own_f_40 (p1 : Int32) : Bool := false
def own_f_36 (p1 : Int32) : Bool := true
def own_f_24 (p1 : Int32) : Bool := if p1 < (97 : Int32) then false else (if (122 : Int32) < p1 then false else (true))
def own_f_12 (p1 : Int32) : Bool := if p1 < (65 : Int32) then own_f_24 p1 else (if (90 : Int32) < p1 then own_f_24 p1 else (true))
def own_f_0 (p1 : Int32) : Bool := if p1 < (48 : Int32) then own_f_12 p1 else (if (57 : Int32) < p1 then own_f_12 p1 else (true))
theorem own_true : ((true : Bool) = true) = True := by simp
theorem own_false : ((false : Bool) = true) = False := by simp
theorem own_lA {c lo hi : Int32} {r : Bool} (l h : Int) (q1 : lo.toInt = l) (q2 : hi.toInt = h) : ((if c < lo then r else (if hi < c then r else true)) = true) ↔ ((l ≤ c.toInt ∧ c.toInt ≤ h) ∨ r = true) := by
  simp only [Int32.lt_iff_toInt_lt, q1, q2]
  by_cases a : c.toInt < l
  · simp [a]; omega
  · by_cases b : h < c.toInt
    · simp [a, b]; omega
    · simp [a, b]; omega
theorem own_lD {c lo hi : Int32} (l h : Int) (q1 : lo.toInt = l) (q2 : hi.toInt = h) : ((if c < lo then false else (if hi < c then false else true)) = true) ↔ (l ≤ c.toInt ∧ c.toInt ≤ h) := by
  rw [own_lA l h q1 q2]; simp
theorem own_lB {c k : Int32} {r : Bool} (z : Int) (q : k.toInt = z) : ((if c = k then true else r) = true) ↔ (c.toInt = z ∨ r = true) := by
  subst q
  by_cases a : c = k
  · simp [a]
  · have : ¬ c.toInt = k.toInt := fun h => a (Int32.toInt_inj.mp h)
    simp [a, this]
theorem own_lC {c k : Int32} {r : Bool} (z : Int) (q : k.toInt = z) : ((if c < k then true else r) = true) ↔ (c.toInt < z ∨ r = true) := by
  simp only [Int32.lt_iff_toInt_lt, q]
  by_cases a : c.toInt < z <;> simp [a]
theorem own_lE {c k : Int32} (z : Int) (q : k.toInt = z) : ((if k < c then true else false) = true) ↔ (z < c.toInt) := by
  simp only [Int32.lt_iff_toInt_lt, q]
  by_cases a : z < c.toInt <;> simp [a]
theorem own_nA {c lo hi : Int32} {r : Bool} (l h : Int) (q1 : lo.toInt = l) (q2 : hi.toInt = h) : ((if c < lo then r else (if hi < c then r else false)) = true) ↔ ((c.toInt < l ∨ h < c.toInt) ∧ r = true) := by
  simp only [Int32.lt_iff_toInt_lt, q1, q2]
  by_cases a : c.toInt < l
  · simp [a]
  · by_cases b : h < c.toInt
    · simp [a, b]
    · simp [a, b]
theorem own_nB {c k : Int32} {r : Bool} (z : Int) (q : k.toInt = z) : ((if c = k then false else r) = true) ↔ (¬ c.toInt = z ∧ r = true) := by
  subst q
  by_cases a : c = k
  · simp [a]
  · have : ¬ c.toInt = k.toInt := fun h => a (Int32.toInt_inj.mp h)
    simp [a, this]
theorem own_nC {c k : Int32} {r : Bool} (z : Int) (q : k.toInt = z) : ((if c < k then false else r) = true) ↔ (¬ c.toInt < z ∧ r = true) := by
  simp only [Int32.lt_iff_toInt_lt, q]
  by_cases a : c.toInt < z <;> simp [a]
theorem own_nE {c k : Int32} {r : Bool} (z : Int) (q : k.toInt = z) : ((if k < c then false else r) = true) ↔ (¬ z < c.toInt ∧ r = true) := by
  simp only [Int32.lt_iff_toInt_lt, q]
  by_cases a : z < c.toInt <;> simp [a]
theorem own_lF {c k : Int32} {r : Bool} (z : Int) (q : k.toInt = z) : ((if k < c then true else r) = true) ↔ (z < c.toInt ∨ r = true) := by
  simp only [Int32.lt_iff_toInt_lt, q]
  by_cases a : z < c.toInt <;> simp [a]
theorem own_lEn {c k : Int32} (z : Int) (q : k.toInt = z) : ((if k < c then false else true) = true) ↔ (¬ z < c.toInt) := by
  simp only [Int32.lt_iff_toInt_lt, q]
  by_cases a : z < c.toInt <;> simp [a]
theorem own_f_i (p1 : Int32) : own_f_0 p1 = true ↔ ((48 ≤ p1.toInt ∧ p1.toInt ≤ 57) ∨ ((65 ≤ p1.toInt ∧ p1.toInt ≤ 90) ∨ (97 ≤ p1.toInt ∧ p1.toInt ≤ 122))) := by
  rw [own_f_0, own_lA 48 57 (by decide) (by decide), own_f_12, own_lA 65 90 (by decide) (by decide), own_f_24, own_lD 97 122 (by decide) (by decide)]
set_option maxRecDepth 65536 in
set_option maxHeartbeats 40000000 in
theorem rmT (l : Launch) (Z : State) (a0 : Array Value) (hw : ∀ d ∈ tables_1, d.before a0 Z = true) (p1 : Int32) (h0 : Heap) (n0 : Nat)  :
    OCon l Z (⟨"com/example/stackroom/stackroom/collection/MarcRecord", "isTagCharacter", "(I)Z"⟩ : MethodName) prog_46_method_3_code 1 (some (.boolean)) [] ({ frames := 0, cells := 0, slots := 0, locals := 0 } : Room) #[(.int p1)] h0 (fun v h L => v = some (.int (b2i (own_f_0 p1))) ∧ h = h0 ∧ Fr n0 L) := by
  refine con (plainFor_of_name pn1) ?_
  intro p e s m below meth c s₁ hx hby hml hZ hown hnm hret hlk X0 e0
  refine entry (efI1 m p1) ?_
  have B40 : OEnds p e below s 0 0 (fun v h L => v = some (.int (b2i (own_f_40 p1))) ∧ h = h0 ∧ Fr n0 L) s₁ (mkF m 40 #[.val (.int p1)] []) := by
    refine s_iconst X0 hx hby (n := 41) (v := (0 : Int32)) d6_40 rfl rfl ?_
    exact s_retN X0 hx hby hlk hret (t := .boolean) (by simp) (z' := (0 : Int32)) (by decide) d6_41 (by decide) (by decide) ⟨by simp [own_f_40, b2i], e0, Fr.nil _⟩
  have B36 : OEnds p e below s 0 0 (fun v h L => v = some (.int (b2i (own_f_36 p1))) ∧ h = h0 ∧ Fr n0 L) s₁ (mkF m 36 #[.val (.int p1)] []) := by
    refine s_iconst X0 hx hby (n := 37) (v := (1 : Int32)) d6_36 rfl rfl ?_
    refine s_goto X0 hx hby (n := 41) d6_37 (by decide) (by decide) ?_
    exact s_retN X0 hx hby hlk hret (t := .boolean) (by simp) (z' := (1 : Int32)) (by decide) d6_41 (by decide) (by decide) ⟨by simp [own_f_36, own_f_40, b2i], e0, Fr.nil _⟩
  have B24 : OEnds p e below s 0 0 (fun v h L => v = some (.int (b2i (own_f_24 p1))) ∧ h = h0 ∧ Fr n0 L) s₁ (mkF m 24 #[.val (.int p1)] []) := by
    refine s_iloadN X0 hx hby (n := 25) (x := p1) d6_24 rfl rfl ?_
    refine s_bipush X0 hx hby (n := 27) (v := (97 : Int32)) d6_25 rfl rfl ?_
    by_cases c27 : p1 < (97 : Int32)
    · refine s_icmpY X0 hx hby (n := 40) d6_27 (XT.ii_lt_t c27) (by decide) (by decide) ?_
      rw [show own_f_24 p1 = own_f_40 p1 from by simp [own_f_24, own_f_40, own_f_36, c27]]
      exact B40
    · refine s_icmpN X0 hx hby (n := 30) d6_27 (XT.ii_lt_f c27) rfl ?_
      refine s_iloadN X0 hx hby (n := 31) (x := p1) d6_30 rfl rfl ?_
      refine s_bipush X0 hx hby (n := 33) (v := (122 : Int32)) d6_31 rfl rfl ?_
      by_cases c33 : (122 : Int32) < p1
      · refine s_icmpY X0 hx hby (n := 40) d6_33 (XT.ii_gt_t c33) (by decide) (by decide) ?_
        rw [show own_f_24 p1 = own_f_40 p1 from by simp [own_f_24, own_f_40, own_f_36, c27, c33]]
        exact B40
      · refine s_icmpN X0 hx hby (n := 36) d6_33 (XT.ii_gt_f c33) rfl ?_
        rw [show own_f_24 p1 = own_f_36 p1 from by simp [own_f_24, own_f_40, own_f_36, c27, c33]]
        exact B36
  have B12 : OEnds p e below s 0 0 (fun v h L => v = some (.int (b2i (own_f_12 p1))) ∧ h = h0 ∧ Fr n0 L) s₁ (mkF m 12 #[.val (.int p1)] []) := by
    refine s_iloadN X0 hx hby (n := 13) (x := p1) d6_12 rfl rfl ?_
    refine s_bipush X0 hx hby (n := 15) (v := (65 : Int32)) d6_13 rfl rfl ?_
    by_cases c15 : p1 < (65 : Int32)
    · refine s_icmpY X0 hx hby (n := 24) d6_15 (XT.ii_lt_t c15) (by decide) (by decide) ?_
      rw [show own_f_12 p1 = own_f_24 p1 from by simp [own_f_12, own_f_40, own_f_36, c15]]
      exact B24
    · refine s_icmpN X0 hx hby (n := 18) d6_15 (XT.ii_lt_f c15) rfl ?_
      refine s_iloadN X0 hx hby (n := 19) (x := p1) d6_18 rfl rfl ?_
      refine s_bipush X0 hx hby (n := 21) (v := (90 : Int32)) d6_19 rfl rfl ?_
      by_cases c21 : (90 : Int32) < p1
      · refine s_icmpN X0 hx hby (n := 24) d6_21 (XT.ii_le_f c21) rfl ?_
        rw [show own_f_12 p1 = own_f_24 p1 from by simp [own_f_12, own_f_40, own_f_36, c15, c21]]
        exact B24
      · refine s_icmpY X0 hx hby (n := 36) d6_21 (XT.ii_le_t c21) (by decide) (by decide) ?_
        rw [show own_f_12 p1 = own_f_36 p1 from by simp [own_f_12, own_f_40, own_f_36, c15, c21]]
        exact B36
  have B0 : OEnds p e below s 0 0 (fun v h L => v = some (.int (b2i (own_f_0 p1))) ∧ h = h0 ∧ Fr n0 L) s₁ (mkF m 0 #[.val (.int p1)] []) := by
    refine s_iloadN X0 hx hby (n := 1) (x := p1) d6_0 rfl rfl ?_
    refine s_bipush X0 hx hby (n := 3) (v := (48 : Int32)) d6_1 rfl rfl ?_
    by_cases c3 : p1 < (48 : Int32)
    · refine s_icmpY X0 hx hby (n := 12) d6_3 (XT.ii_lt_t c3) (by decide) (by decide) ?_
      rw [show own_f_0 p1 = own_f_12 p1 from by simp [own_f_0, own_f_40, own_f_36, c3]]
      exact B12
    · refine s_icmpN X0 hx hby (n := 6) d6_3 (XT.ii_lt_f c3) rfl ?_
      refine s_iloadN X0 hx hby (n := 7) (x := p1) d6_6 rfl rfl ?_
      refine s_bipush X0 hx hby (n := 9) (v := (57 : Int32)) d6_7 rfl rfl ?_
      by_cases c9 : (57 : Int32) < p1
      · refine s_icmpN X0 hx hby (n := 12) d6_9 (XT.ii_le_f c9) rfl ?_
        rw [show own_f_0 p1 = own_f_12 p1 from by simp [own_f_0, own_f_40, own_f_36, c3, c9]]
        exact B12
      · refine s_icmpY X0 hx hby (n := 36) d6_9 (XT.ii_le_t c9) (by decide) (by decide) ?_
        rw [show own_f_0 p1 = own_f_36 p1 from by simp [own_f_0, own_f_40, own_f_36, c3, c9]]
        exact B36
  exact B0
def own_g14 (p1 : Int32) : Bool := !decide ((p1 ||| (32 : Int32)) < (97 : Int32)) && !decide ((122 : Int32) < (p1 ||| (32 : Int32)))
def own_g (p1 : Int32) : Bool := if p1 < (48 : Int32) then own_g14 p1 else if (57 : Int32) < p1 then own_g14 p1 else true
theorem own_small : ∀ i : Fin 128, own_f_0 (Int32.ofNat i.1) = own_g (Int32.ofNat i.1) := by decide +kernel
theorem own_same (c : Int32) : own_f_0 c = own_g c := by
  by_cases h : 0 ≤ c.toInt ∧ c.toInt < 128
  · have e : c = Int32.ofNat (⟨c.toInt.toNat, by omega⟩ : Fin 128).1 := by
      apply Int32.toInt_inj.mp
      rw [Int32.toInt_ofNat_of_lt (by show c.toInt.toNat < 2 ^ 31; omega)]
      show c.toInt = ((c.toInt.toNat : Nat) : Int)
      omega
    rw [e]; exact own_small _
  · have r := rng32 c
    have k48 : (48 : Int32).toInt = 48 := by decide
    have k57 : (57 : Int32).toInt = 57 := by decide
    have k65 : (65 : Int32).toInt = 65 := by decide
    have k90 : (90 : Int32).toInt = 90 := by decide
    have k97 : (97 : Int32).toInt = 97 := by decide
    have k122 : (122 : Int32).toInt = 122 := by decide
    have k32 : (32 : Int32).toInt = 32 := by decide
    have o1 := c_orS c 32
    have o2 := c_or0 c 32
    rw [k32] at o1 o2
    by_cases n : c.toInt < 0
    · have o3 := o1.2.1 n
      have f1 : own_f_0 c = false := by rw [Bool.eq_false_iff]; intro q; rw [own_f_i] at q; omega
      have f2 : (c ||| (32 : Int32)) < (97 : Int32) := by rw [Int32.lt_iff_toInt_lt, k97]; omega
      have f3 : c < (48 : Int32) := by rw [Int32.lt_iff_toInt_lt, k48]; omega
      rw [f1]; simp [own_g, own_g14, f2, f3]
    · have o3 := o2 (by omega) (by omega)
      have f1 : own_f_0 c = false := by rw [Bool.eq_false_iff]; intro q; rw [own_f_i] at q; omega
      have f2 : (122 : Int32) < (c ||| (32 : Int32)) := by rw [Int32.lt_iff_toInt_lt, k122]; omega
      have f3 : (57 : Int32) < c := by rw [Int32.lt_iff_toInt_lt, k57]; omega
      have f4 : ¬ c < (48 : Int32) := by rw [Int32.lt_iff_toInt_lt, k48]; omega
      rw [f1]; simp [own_g, own_g14, f2, f3, f4]
set_option maxRecDepth 65536 in
set_option maxHeartbeats 40000000 in
theorem rmX (l : Launch) (Z : State) (a0 : Array Value) (hw : ∀ d ∈ tables_1, d.before a0 Z = true) (p1 : Int32) (h0 : Heap) (n0 : Nat)  :
    OCon l Z (⟨"com/example/stackroom/stackroom/collection/MarcRecordIsTagCharacterPinLaw", "expected", "(I)Z"⟩ : MethodName) method_2_code 2 (some (.boolean)) [] ({ frames := 0, cells := 0, slots := 0, locals := 0 } : Room) #[(.int p1)] h0 (fun v h L => v = some (.int (b2i (own_g p1))) ∧ h = h0 ∧ Fr n0 L) := by
  refine con (plainFor_of_name pn0) ?_
  intro p e s m below meth c s₁ hx hby hml hZ hown hnm hret hlk X0 e0
  refine entry (efX m p1) ?_
  have B14 : OEnds p e below s 0 0 (fun v h L => v = some (.int (b2i (own_g14 p1))) ∧ h = h0 ∧ Fr n0 L) s₁ (mkF m 14 #[.val (.int p1), .unset] []) := by
    refine s_iloadN X0 hx hby (n := 15) (x := p1) d7_14 rfl rfl ?_
    refine s_bipush X0 hx hby (n := 17) (v := (32 : Int32)) d7_15 rfl rfl ?_
    refine s_ior X0 hx hby (n := 18) d7_17 rfl ?_
    refine s_istoreN X0 hx hby (n := 19) (L' := #[.val (.int p1), .val (.int (p1 ||| (32 : Int32)))]) d7_18 rfl rfl ?_
    refine s_iloadN X0 hx hby (n := 20) (x := (p1 ||| (32 : Int32))) d7_19 rfl rfl ?_
    refine s_bipush X0 hx hby (n := 22) (v := (97 : Int32)) d7_20 rfl rfl ?_
    by_cases c22 : (p1 ||| (32 : Int32)) < (97 : Int32)
    · refine s_icmpY X0 hx hby (n := 35) d7_22 (XT.ii_lt_t c22) (by decide) (by decide) ?_
      refine s_iconst X0 hx hby (n := 36) (v := (0 : Int32)) d7_35 rfl rfl ?_
      exact s_retN X0 hx hby hlk hret (t := .boolean) (by simp) (z' := (0 : Int32)) (by decide) d7_36 (by decide) (by decide) ⟨by simp [own_g14, b2i, c22], e0, Fr.nil _⟩
    · refine s_icmpN X0 hx hby (n := 25) d7_22 (XT.ii_lt_f c22) rfl ?_
      refine s_iloadN X0 hx hby (n := 26) (x := (p1 ||| (32 : Int32))) d7_25 rfl rfl ?_
      refine s_bipush X0 hx hby (n := 28) (v := (122 : Int32)) d7_26 rfl rfl ?_
      by_cases c28 : (122 : Int32) < (p1 ||| (32 : Int32))
      · refine s_icmpY X0 hx hby (n := 35) d7_28 (XT.ii_gt_t c28) (by decide) (by decide) ?_
        refine s_iconst X0 hx hby (n := 36) (v := (0 : Int32)) d7_35 rfl rfl ?_
        exact s_retN X0 hx hby hlk hret (t := .boolean) (by simp) (z' := (0 : Int32)) (by decide) d7_36 (by decide) (by decide) ⟨by simp [own_g14, b2i, c22, c28], e0, Fr.nil _⟩
      · refine s_icmpN X0 hx hby (n := 31) d7_28 (XT.ii_gt_f c28) rfl ?_
        refine s_iconst X0 hx hby (n := 32) (v := (1 : Int32)) d7_31 rfl rfl ?_
        refine s_goto X0 hx hby (n := 36) d7_32 (by decide) (by decide) ?_
        exact s_retN X0 hx hby hlk hret (t := .boolean) (by simp) (z' := (1 : Int32)) (by decide) d7_36 (by decide) (by decide) ⟨by simp [own_g14, b2i, c22, c28], e0, Fr.nil _⟩
  refine s_iloadN X0 hx hby (n := 1) (x := p1) d7_0 rfl rfl ?_
  refine s_bipush X0 hx hby (n := 3) (v := (48 : Int32)) d7_1 rfl rfl ?_
  by_cases c3 : p1 < (48 : Int32)
  · refine s_icmpY X0 hx hby (n := 14) d7_3 (XT.ii_lt_t c3) (by decide) (by decide) ?_
    rw [show own_g p1 = own_g14 p1 from by simp [own_g, c3]]
    exact B14
  · refine s_icmpN X0 hx hby (n := 6) d7_3 (XT.ii_lt_f c3) rfl ?_
    refine s_iloadN X0 hx hby (n := 7) (x := p1) d7_6 rfl rfl ?_
    refine s_bipush X0 hx hby (n := 9) (v := (57 : Int32)) d7_7 rfl rfl ?_
    by_cases c9 : (57 : Int32) < p1
    · refine s_icmpY X0 hx hby (n := 14) d7_9 (XT.ii_gt_t c9) (by decide) (by decide) ?_
      rw [show own_g p1 = own_g14 p1 from by simp [own_g, c3, c9]]
      exact B14
    · refine s_icmpN X0 hx hby (n := 12) d7_9 (XT.ii_gt_f c9) rfl ?_
      refine s_iconst X0 hx hby (n := 13) (v := (1 : Int32)) d7_12 rfl rfl ?_
      exact s_retN X0 hx hby hlk hret (t := .boolean) (by simp) (z' := (1 : Int32)) (by decide) d7_13 (by decide) (by decide) ⟨by simp [own_g, b2i, c3, c9], e0, Fr.nil _⟩
def own_vs : List Value := [.int (48 : Int32), .int (49 : Int32), .int (50 : Int32), .int (51 : Int32), .int (52 : Int32), .int (53 : Int32), .int (54 : Int32), .int (55 : Int32), .int (56 : Int32), .int (57 : Int32), .int (65 : Int32), .int (66 : Int32), .int (67 : Int32), .int (68 : Int32), .int (69 : Int32), .int (70 : Int32), .int (71 : Int32), .int (72 : Int32), .int (73 : Int32), .int (74 : Int32), .int (75 : Int32), .int (76 : Int32), .int (77 : Int32), .int (78 : Int32), .int (79 : Int32), .int (80 : Int32), .int (81 : Int32), .int (82 : Int32), .int (83 : Int32), .int (84 : Int32), .int (85 : Int32), .int (86 : Int32), .int (87 : Int32), .int (88 : Int32), .int (89 : Int32), .int (90 : Int32), .int (97 : Int32), .int (98 : Int32), .int (99 : Int32), .int (100 : Int32), .int (101 : Int32), .int (102 : Int32), .int (103 : Int32), .int (104 : Int32), .int (105 : Int32), .int (106 : Int32), .int (107 : Int32), .int (108 : Int32), .int (109 : Int32), .int (110 : Int32), .int (111 : Int32), .int (112 : Int32), .int (113 : Int32), .int (114 : Int32), .int (115 : Int32), .int (116 : Int32), .int (117 : Int32), .int (118 : Int32), .int (119 : Int32), .int (120 : Int32), .int (121 : Int32), .int (122 : Int32)]
theorem own_nz {Z : State} {args : Array Value} {t : Term} {z : Int32} (ev : t.eval args Z none [] Z = some (.int z)) (h : (Jvm.Cond.not (.eq t (.int 0))).value args Z none Z [] = some true) : ¬ z = (0 : Int32) := by
  have q := not_v h
  intro e; subst e
  simp [Cond.value, ev, Term.int_eval] at q
def own_byte : Value → Int32 | .int x => x | _ => 0
theorem own_at : ∀ j : Fin 62, own_vs.getD j.1 (.int 0) = .int (own_byte (own_vs.getD j.1 (.int 0))) ∧ own_f_0 ((own_byte (own_vs.getD j.1 (.int 0))) &&& (255 : Int32)) = true := by decide +kernel
theorem own_idx (k : Int32) : ¬ ((k &&& (2147483647 : Int32)) % (62 : Int32)) < 0 ∧ ((k &&& (2147483647 : Int32)) % (62 : Int32)) < (62 : Int32) ∧ ((k &&& (2147483647 : Int32)) % (62 : Int32)).toNatClampNeg < 62 := by
  have h1 := c_mask k 2147483647 31 (by decide) (by decide)
  have h2 := (c_irem (k &&& 2147483647) 62 62 (by decide)).1 (by omega)
  have k0 : (0 : Int32).toInt = 0 := by decide
  have k1 : (62 : Int32).toInt = 62 := by decide
  rw [Int32.lt_iff_toInt_lt, Int32.lt_iff_toInt_lt, k0, k1, show ((k &&& (2147483647 : Int32)) % (62 : Int32)).toNatClampNeg = ((k &&& (2147483647 : Int32)) % (62 : Int32)).toInt.toNat from rfl]
  omega
set_option maxRecDepth 65536 in
set_option maxHeartbeats 40000000 in
theorem rm0 (l : Launch) (Z : State) (a0 : Array Value) (hw : ∀ d ∈ tables_1, d.before a0 Z = true) (p0 p1 : Int32) (z0 : Int32) (hz0 : ¬ z0 = (0 : Int32)) (Sz0 : Sta Z Z.heap "java/lang/String" "COMPACT_STRINGS" "Z" (.int z0)) (fm : Value) (hfm : fm.isRef = true) (Sfm : Sta Z Z.heap "jdk/internal/util/Preconditions" "SIOOBE_FORMATTER" "Ljava/util/function/BiFunction;" fm) (hcw : Jvm.Lit.compactW.before a0 Z = true) (hh : Jvm.Lit.constHeld Z "com/example/stackroom/stackroom/collection/MarcRecordIsTagCharacterPinLaw" 7) :
    OConW l Z x code maxLocals ret tables_1 room_1 #[(.int p0), (.int p1)] Z (fun v h L => v = some (.int 1) ∧ Fr Z.heap.size L) := by
  refine conW (plainFor_of_name pn0) ?_
  intro p e m below meth c s₁ hx hby hml hown0 hnm hret hlk X0 e0
  refine entryW (ef0 m p0 p1) ?_
  have X0' : Stand p l e room_1 (Z.setVm Z.vm) m #[(.int p0), (.int p1)] below meth c s₁ [] 0 0 := X0
  obtain ⟨sa, TL, hL, k1, ba, kb, XL, eL, Ex1, hS1, hk1, hZ, hown, Es, Fc, Fv, Kb, -, -, -, st1⟩ := ldcSV (Ts := []) X0' hx (State.Warmed39.refl Z) hown0 (hw _ (List.mem_of_getElem? (i := 0) rfl)) (XT.wks hw Bundle.stringAtoms) e0 (State.WarmedH.since (State.WarmedH.refl Z) Z.heap.size) (Nat.le_refl _) (Fr.nil _) (fun _ _ q => q) IB.start (by simp) hh hcw (vs := own_vs) (z := (62 : Int32)) ⟨by decide +kernel, by rfl⟩ (by decide) (by decide) (g := mkF m 0 #[.val (.int p0), .val (.int p1), .unset, .unset, .unset, .unset] []) rfl (hb hby at_0) (n := 248) (by decide +kernel) (by decide) (by decide) (by decide)
  obtain ⟨cb, Ab, -, Szb, -, Hb, -⟩ := Kb
  obtain ⟨q1, q2, q3⟩ := own_idx p1
  obtain ⟨hb1, hbb⟩ := own_at ⟨_, q3⟩
  obtain ⟨bb, hbe⟩ : ∃ bb, bb = own_byte (own_vs.getD (((p1 &&& (2147483647 : Int32)) % (62 : Int32))).toNatClampNeg (.int 0)) := ⟨_, rfl⟩
  rw [← hbe] at hb1 hbb
  have Bi : cb.slots[(((p1 &&& (2147483647 : Int32)) % (62 : Int32))).toNatClampNeg]? = some (.int bb) := by rw [Hb _ (by rw [Szb]; exact q3)]; exact congrArg some hb1
  have M0 := Fr.nil Z.heap.size
  obtain ⟨n0, hn0⟩ : ∃ n0, n0 = Z.heap.size := ⟨_, rfl⟩
  rw [← hn0] at M0
  refine OEndsW.pre (T' := TL) (g' := mkF m 2 #[.val (.int p0), .val (.int p1), .unset, .unset, .unset, .unset] [(.ref sa)]) ?_ st1
  refine OEnds.reb hS1 ?_
  rw [← hn0]
  refine s_astoreN XL hx hby (n := 3) (L' := #[.val (.int p0), .val (.int p1), .val (.ref sa), .unset, .unset, .unset]) at_2 rfl rfl rfl ?_
  refine s_iloadN XL hx hby (n := 4) (x := p1) at_3 rfl rfl ?_
  refine s_ldcI XL hx hby hZ (n := 6) hown (hw _ (List.mem_of_getElem? (i := 8) rfl)) at_4 rfl ?_
  refine s_iand XL hx hby (n := 7) at_6 rfl ?_
  refine s_bipush XL hx hby (n := 9) (v := (62 : Int32)) at_7 rfl rfl ?_
  refine s_irem XL hx hby (n := 10) at_9 (by decide) rfl ?_
  refine s_istoreN XL hx hby (n := 11) (L' := #[.val (.int p0), .val (.int p1), .val (.ref sa), .val (.int ((p1 &&& (2147483647 : Int32)) % (62 : Int32))), .unset, .unset]) at_10 rfl rfl ?_
  refine s_aloadN XL hx hby (n := 12) (x := (.ref sa)) at_11 rfl rfl rfl ?_
  refine s_iloadN XL hx hby (n := 13) (x := ((p1 &&& (2147483647 : Int32)) % (62 : Int32))) at_12 rfl rfl ?_
  refine s_callV XL hx hby hml hZ (n := 16) hown (hw _ (List.mem_of_getElem? (i := 9) rfl)) (hw _ (List.mem_of_getElem? (i := 10) rfl)) (notFace_of_selects (args := #[]) (mvT hZ (hw _ (List.mem_of_getElem? (i := 12) rfl)))) (hw _ (List.mem_of_getElem? (i := 12) rfl)) (hw _ (List.mem_of_getElem? (i := 11) rfl)) (hw _ (List.mem_of_getElem? (i := 1) rfl)) (hw _ (List.mem_of_getElem? (i := 13) rfl)) (by decide) (rmCh l Z a0 hw sa ba cb (62 : Int32) ((p1 &&& (2147483647 : Int32)) % (62 : Int32)) bb hL n0 z0 hz0 (Sz0.ext Ex1) fm hfm (Sfm.ext Ex1) Es Fc Fv Ab Szb (by decide) q1 q2 Bi) eL (by decide) 0 (by decide) (by decide) (by decide) pd_4 Es [(.int ((p1 &&& (2147483647 : Int32)) % (62 : Int32)))] [] rfl rfl rfl (Nat.le_of_eq rfl) rfl at_13 rfl ?_
  intro T1 L1 v1 X1 q1c
  obtain ⟨rfl, e1, N1⟩ := q1c
  show OEnds p e below (Z.setVm TL.vm) _ _ _ T1 (mkF m 16 #[.val (.int p0), .val (.int p1), .val (.ref sa), .val (.int ((p1 &&& (2147483647 : Int32)) % (62 : Int32))), .unset, .unset] [(.int (bb &&& (255 : Int32)))])
  have M1 := Fr.app M0 N1
  refine s_callS X1 hx hby hml hZ (n := 19) hown (hw _ (List.mem_of_getElem? (i := 34) rfl)) (hw _ (List.mem_of_getElem? (i := 35) rfl)) (hw _ (List.mem_of_getElem? (i := 36) rfl)) (hw _ (List.mem_of_getElem? (i := 37) rfl)) (by decide) (rmT l Z a0 hw (bb &&& (255 : Int32)) hL n0) e1 (by decide) 0 (by decide) (by decide) (by decide) pd_5 [(.int (bb &&& (255 : Int32)))] [] rfl rfl rfl (Nat.le_of_eq rfl) rfl at_16 rfl ?_
  intro T2 L2 v2 X2 q2c
  obtain ⟨rfl, e2, N2⟩ := q2c
  show OEnds p e below (Z.setVm TL.vm) _ _ _ T2 (mkF m 19 #[.val (.int p0), .val (.int p1), .val (.ref sa), .val (.int ((p1 &&& (2147483647 : Int32)) % (62 : Int32))), .unset, .unset] [(.int (b2i (own_f_0 (bb &&& (255 : Int32)))))])
  have M2 := Fr.app M1 N2
  refine s_istore X2 hx hby (n := 21) (L' := #[.val (.int p0), .val (.int p1), .val (.ref sa), .val (.int ((p1 &&& (2147483647 : Int32)) % (62 : Int32))), .val (.int (b2i (own_f_0 (bb &&& (255 : Int32))))), .unset]) at_19 rfl rfl ?_
  refine s_bipush X2 hx hby (n := 23) (v := (47 : Int32)) at_21 rfl rfl ?_
  refine s_iloadN X2 hx hby (n := 24) (x := p1) at_23 rfl rfl ?_
  refine s_ldcI X2 hx hby hZ (n := 26) hown (hw _ (List.mem_of_getElem? (i := 8) rfl)) at_24 rfl ?_
  refine s_iand X2 hx hby (n := 27) at_26 rfl ?_
  refine s_bipush X2 hx hby (n := 29) (v := (77 : Int32)) at_27 rfl rfl ?_
  refine s_irem X2 hx hby (n := 30) at_29 (by decide) rfl ?_
  refine s_iadd X2 hx hby (n := 31) at_30 rfl ?_
  refine s_istore X2 hx hby (n := 33) (L' := #[.val (.int p0), .val (.int p1), .val (.ref sa), .val (.int ((p1 &&& (2147483647 : Int32)) % (62 : Int32))), .val (.int (b2i (own_f_0 (bb &&& (255 : Int32))))), .val (.int ((47 : Int32) + ((p1 &&& (2147483647 : Int32)) % (77 : Int32))))]) at_31 rfl rfl ?_
  refine s_iload X2 hx hby (n := 35) (x := (b2i (own_f_0 (bb &&& (255 : Int32))))) at_33 rfl rfl ?_
  refine s_ifN X2 hx hby (n := 38) at_35 (ifb_eq_f hbb) rfl ?_
  refine s_iloadN X2 hx hby (n := 39) (x := p0) at_38 rfl rfl ?_
  refine s_callS X2 hx hby hml hZ (n := 42) hown (hw _ (List.mem_of_getElem? (i := 34) rfl)) (hw _ (List.mem_of_getElem? (i := 35) rfl)) (hw _ (List.mem_of_getElem? (i := 36) rfl)) (hw _ (List.mem_of_getElem? (i := 37) rfl)) (by decide) (rmT l Z a0 hw p0 hL n0) e2 (by decide) 0 (by decide) (by decide) (by decide) pd_5 [(.int p0)] [] rfl rfl rfl (Nat.le_of_eq rfl) rfl at_39 rfl ?_
  intro T3 L3 v3 X3 q3c
  obtain ⟨rfl, e3, N3⟩ := q3c
  show OEnds p e below (Z.setVm TL.vm) _ _ _ T3 (mkF m 42 #[.val (.int p0), .val (.int p1), .val (.ref sa), .val (.int ((p1 &&& (2147483647 : Int32)) % (62 : Int32))), .val (.int (b2i (own_f_0 (bb &&& (255 : Int32))))), .val (.int ((47 : Int32) + ((p1 &&& (2147483647 : Int32)) % (77 : Int32))))] [(.int (b2i (own_f_0 p0)))])
  have M3 := Fr.app M2 N3
  refine s_iloadN X3 hx hby (n := 43) (x := p0) at_42 rfl rfl ?_
  refine s_callS X3 hx hby hml hZ (n := 46) hown (hw _ (List.mem_of_getElem? (i := 38) rfl)) (hw _ (List.mem_of_getElem? (i := 39) rfl)) (hw _ (List.mem_of_getElem? (i := 40) rfl)) (hw _ (List.mem_of_getElem? (i := 41) rfl)) (by decide) (rmX l Z a0 hw p0 hL n0) e3 (by decide) 1 (by decide) (by decide) (by decide) pd_5 [(.int p0)] [(.int (b2i (own_f_0 p0)))] rfl rfl rfl (Nat.le_of_eq rfl) rfl at_43 rfl ?_
  intro T4 L4 v4 X4 q4c
  obtain ⟨rfl, e4, N4⟩ := q4c
  show OEnds p e below (Z.setVm TL.vm) _ _ _ T4 (mkF m 46 #[.val (.int p0), .val (.int p1), .val (.ref sa), .val (.int ((p1 &&& (2147483647 : Int32)) % (62 : Int32))), .val (.int (b2i (own_f_0 (bb &&& (255 : Int32))))), .val (.int ((47 : Int32) + ((p1 &&& (2147483647 : Int32)) % (77 : Int32))))] [(.int (b2i (own_g p0))), (.int (b2i (own_f_0 p0)))])
  have M4 := Fr.app M3 N4
  refine s_icmpN X4 hx hby (n := 49) at_46 (icb_ne_f (own_same _)) rfl ?_
  refine s_iload X4 hx hby (n := 51) (x := ((47 : Int32) + ((p1 &&& (2147483647 : Int32)) % (77 : Int32)))) at_49 rfl rfl ?_
  refine s_callS X4 hx hby hml hZ (n := 54) hown (hw _ (List.mem_of_getElem? (i := 34) rfl)) (hw _ (List.mem_of_getElem? (i := 35) rfl)) (hw _ (List.mem_of_getElem? (i := 36) rfl)) (hw _ (List.mem_of_getElem? (i := 37) rfl)) (by decide) (rmT l Z a0 hw ((47 : Int32) + ((p1 &&& (2147483647 : Int32)) % (77 : Int32))) hL n0) e4 (by decide) 0 (by decide) (by decide) (by decide) pd_5 [(.int ((47 : Int32) + ((p1 &&& (2147483647 : Int32)) % (77 : Int32))))] [] rfl rfl rfl (Nat.le_of_eq rfl) rfl at_51 rfl ?_
  intro T5 L5 v5 X5 q5c
  obtain ⟨rfl, e5, N5⟩ := q5c
  show OEnds p e below (Z.setVm TL.vm) _ _ _ T5 (mkF m 54 #[.val (.int p0), .val (.int p1), .val (.ref sa), .val (.int ((p1 &&& (2147483647 : Int32)) % (62 : Int32))), .val (.int (b2i (own_f_0 (bb &&& (255 : Int32))))), .val (.int ((47 : Int32) + ((p1 &&& (2147483647 : Int32)) % (77 : Int32))))] [(.int (b2i (own_f_0 ((47 : Int32) + ((p1 &&& (2147483647 : Int32)) % (77 : Int32))))))])
  have M5 := Fr.app M4 N5
  refine s_iload X5 hx hby (n := 56) (x := ((47 : Int32) + ((p1 &&& (2147483647 : Int32)) % (77 : Int32)))) at_54 rfl rfl ?_
  refine s_callS X5 hx hby hml hZ (n := 59) hown (hw _ (List.mem_of_getElem? (i := 38) rfl)) (hw _ (List.mem_of_getElem? (i := 39) rfl)) (hw _ (List.mem_of_getElem? (i := 40) rfl)) (hw _ (List.mem_of_getElem? (i := 41) rfl)) (by decide) (rmX l Z a0 hw ((47 : Int32) + ((p1 &&& (2147483647 : Int32)) % (77 : Int32))) hL n0) e5 (by decide) 1 (by decide) (by decide) (by decide) pd_5 [(.int ((47 : Int32) + ((p1 &&& (2147483647 : Int32)) % (77 : Int32))))] [(.int (b2i (own_f_0 ((47 : Int32) + ((p1 &&& (2147483647 : Int32)) % (77 : Int32))))))] rfl rfl rfl (Nat.le_of_eq rfl) rfl at_56 rfl ?_
  intro T6 L6 v6 X6 q6c
  obtain ⟨rfl, e6, N6⟩ := q6c
  show OEnds p e below (Z.setVm TL.vm) _ _ _ T6 (mkF m 59 #[.val (.int p0), .val (.int p1), .val (.ref sa), .val (.int ((p1 &&& (2147483647 : Int32)) % (62 : Int32))), .val (.int (b2i (own_f_0 (bb &&& (255 : Int32))))), .val (.int ((47 : Int32) + ((p1 &&& (2147483647 : Int32)) % (77 : Int32))))] [(.int (b2i (own_g ((47 : Int32) + ((p1 &&& (2147483647 : Int32)) % (77 : Int32)))))), (.int (b2i (own_f_0 ((47 : Int32) + ((p1 &&& (2147483647 : Int32)) % (77 : Int32))))))])
  have M6 := Fr.app M5 N6
  refine s_icmpN X6 hx hby (n := 62) at_59 (icb_ne_f (own_same _)) rfl ?_
  refine s_iconst X6 hx hby (n := 63) (v := (1 : Int32)) at_62 rfl rfl ?_
  refine s_goto X6 hx hby (n := 67) at_63 (by decide) (by decide) ?_
  exact s_retN X6 hx hby hlk hret (t := .boolean) (by simp) (z' := (1 : Int32)) (by decide) at_67 (by decide) (by decide) ⟨⟨rfl, M6⟩, by rw [e6]; exact hk1⟩
set_option maxRecDepth 65536 in
set_option maxHeartbeats 40000000 in
theorem comes_1 {Post : Tables → Env → Array Value → State → Outcome → State → Prop} (hpost : ∀ tb e args s v u, (limb_1_1.after args s (.returned v) u = true ∧ limb_1_2.after args s (.returned v) u = true ∧ True) → FrameEndW s (.returned v) u (Jvm.fieldLocs frame_1_writes args s ++ Jvm.arrayLocs frame_1_arrays args s ++ Jvm.staticLocs frame_1_statics s) room_1.cells room_1.slots → Post tb e args s (.returned v) u) :
    ArmFor flags0 classFile x code maxLocals ret World_1 tables_1 room_1 Calls_1 rest_1 Pre_1 Post := by
  intro l hfl _ _ p e ha hc hk s m args below hf hA hF happ hP
  obtain ⟨hcalls, hrest, hpre⟩ := hP
  obtain ⟨-, -, -, hnamed, -, -, -, hat⟩ := (Spec.applies_iff hf).mp happ
  obtain ⟨hg, hn⟩ := and_e (Cond.before_iff.mp (show (Jvm.Cond.and given_1 narrow_1).before args s = true from hpre))
  obtain ⟨hcount, g0⟩ := and_e hg
  obtain ⟨q0, g1⟩ := and_e g0
  obtain ⟨w0, w1, rfl⟩ : ∃ w0 w1 : Value, args = #[w0, w1] := by
    have hs : args.size = 2 := by simpa [Cond.value, given_1] using hcount
    obtain ⟨L⟩ := args
    match L, hs with
    | [w0, w1], _ => exact ⟨w0, w1, rfl⟩
  have hw := fun d (hd : d ∈ tables_1) => atoms_spec (ws := Jvm.Cond.code x code maxLocals ret :: tables_1) hat d (List.mem_cons_of_mem _ hd)
  have hfit : Fit s := fun {y c} hc i hi => by
    obtain ⟨ha, rfl⟩ := Array.getElem?_eq_some_iff.mp hc
    have q := List.all_eq_true.mp ((Array.all_eq_true_iff_forall_mem.mp hF) _ (Array.getElem_mem ha)) i (List.mem_range.mpr hi)
    simpa [Array.getElem?_eq_getElem hi] using q
  obtain ⟨i0, r0⟩ := is_v q0
  obtain rfl : w0 = (.int i0) := Option.some.inj r0
  obtain ⟨i1, r1⟩ := is_v g1
  obtain rfl : w1 = (.int i1) := Option.some.inj r1
  have hsets := (atoms_of jdkStatics_1 (show (jdkStatics_1.foldr Jvm.Cond.and restOwn_1).before _ s = true from hrest)).1
  obtain ⟨z0, ev0⟩ := is_v (Cond.before_iff.mp (hsets _ (List.mem_of_getElem? (i := 1) rfl)))
  have Sz0 := Sta.start ev0 (Or.inl (hsets _ (List.mem_of_getElem? (i := 0) rfl)))
  have hcw := hsets _ (List.mem_of_getElem? (i := 2) rfl)
  have hz0 : ¬ z0 = (0 : Int32) := own_nz ev0 (Cond.before_iff.mp hcw)
  obtain ⟨fm, evf, hfm⟩ := isR_v (Cond.before_iff.mp (hsets _ (List.mem_of_getElem? (i := 8) rfl)))
  have Sfm := Sta.start evf (Or.inl (hsets _ (List.mem_of_getElem? (i := 7) rfl)))
  have hh : Jvm.Lit.constHeld s "com/example/stackroom/stackroom/collection/MarcRecordIsTagCharacterPinLaw" 7 := hcalls.1 ("com/example/stackroom/stackroom/collection/MarcRecordIsTagCharacterPinLaw", 7) (List.mem_singleton.mpr rfl)
  obtain ⟨n, o, h1, h2, h3, _, L, rfl, ⟨rfl, N⟩, hq⟩ := rm0 l s _ hw i0 i1 z0 hz0 Sz0 fm hfm Sfm hcw hh p e ha hc hk s m _ below hf ((Spec.applies_iff_loose hf).mp happ).1 ⟨rfl, rfl⟩ trivial
  refine ⟨n, _, h1, h2, h3, hpost _ _ _ _ _ _ ⟨Cond.after_iff.mpr rfl, Cond.after_iff.mpr (eq_i res_at (Term.int_eval (1)) rfl), trivial⟩ ⟨hq.1, hq.2.1, hq.2.2.1, (hq.2.2.2.sift fun y hy => Or.inr (N y hy)).mono (by decide) (by decide)⟩⟩
theorem main_1_1 : Claimed_1_1 := comes_1 fun _ _ _ _ _ _ h hF => ⟨h.1, hF⟩
theorem main_1_2 : Claimed_1_2 := comes_1 fun _ _ _ _ _ _ h hF => ⟨h.2.1, hF⟩
end Jvm.Pilot.@@N@@
namespace Jvm.Pilot.@@N@@
open Jvm Jvm.ClassFile Sem Op Lib Jvm.Free Jvm.Stand Jvm.Pilot.@@N@@.Jvm.D
/-! MADE BY PROGRAM (witnessworld.py) out of the Statement's table words and the real class files: 18 classes; the members and pool entries that the words name. The judged class is class 1, her method 2. -/
namespace start1
open Jvm.ClassFile
def u (s : String) : CpInfo := .utf8 (stringToUtf16 s)
/-- a pool by its gaps: so many unusable entries, then the entry; so many at the end -/
def gap : Nat → List CpInfo → List CpInfo
  | 0, r => r
  | n + 1, r => .unusable :: gap n r
def poolList (es : List (Nat × CpInfo)) (last : Nat) : List CpInfo := es.foldr (fun e r => gap e.1 (e.2 :: r)) (gap last [])
def pool (es : List (Nat × CpInfo)) (last : Nat) : Array CpInfo := ⟨poolList es last⟩
def fileOf (pool : Array CpInfo) (this : Nat) (attrs : Array Attribute := #[]) (ms : Array MethodInfo := #[]) (fl : Nat := 33) (sup : Nat := 0) (ifs : Array Nat := #[]) (fds : Array FieldInfo := #[]) : ClassFile where
  minorVersion := 0
  majorVersion := 65
  constantPool := pool
  accessFlags := fl
  thisClass := this
  superClass := sup
  interfaces := ifs
  fields := fds
  methods := ms
  attributes := attrs
def plain (name : String) (sup : Option ClassId) : Class where
  name := name
  kind := .ordinary
  loader := none
  accessFlags := 33
  super := sup
  interfaces := #[]
  cf := none
  fields := #[]
  methods := #[]
  instanceTypes := #[]
  staticTypes := #[]
  resolved := #[]
  callSites := []
  init := .initialized
  statics := none
  mirror := none

def pool0 : Array CpInfo := pool [(5, u "<init>"), (0, u "()V"), (1, .class_ 10), (1, u "java/lang/Object")] 113

def k0m0 : Method := { name := "<init>", desc := "()V", sig := { parameters := [], returnType := none }, accessFlags := 1, code := none }
/-- java/lang/Object -/
def k0 : Class := { plain "java/lang/Object" none with
  accessFlags := 33
  interfaces := #[]
  cf := some (fileOf pool0 8 #[] #[{ accessFlags := 1, nameIndex := 5, descriptorIndex := 6, attributes := #[] }] 33 0 #[] #[])
  fields := #[]
  methods := #[k0m0]
  instanceTypes := #[]
  staticTypes := #[]
  resolved := Array.replicate 124 none
  statics := none }

def pool1 : Array CpInfo := pool [(2, .class_ 4), (1, u "java/lang/Object"), (0, u "<init>"), (0, u "()V"), (0, .string 8), (0, u "0123456789ABCDEFGHIJKLMNOPQRSTUVWXYZabcdefghijklmnopqrstuvwxyz"), (0, .integer 2147483647), (0, .methodref 11 12), (0, .class_ 13), (0, .nameAndType 14 15), (0, u "java/lang/String"), (0, u "charAt"), (0, u "(I)C"), (0, .methodref 17 18), (0, .class_ 19), (0, .nameAndType 20 21), (0, u "com/example/stackroom/stackroom/collection/MarcRecord"), (0, u "isTagCharacter"), (0, u "(I)Z"), (0, .methodref 23 24), (0, .class_ 25), (0, .nameAndType 26 21), (0, u "com/example/stackroom/stackroom/collection/MarcRecordIsTagCharacterPinLaw"), (0, u "expected"), (3, u "law"), (0, u "(II)Z")] 2

def k1m0 : Method := { name := "<init>", desc := "()V", sig := { parameters := [], returnType := none }, accessFlags := 1, code := none }
def k1c1 : Code := { maxStack := 2, maxLocals := 2, code := method_2_code, exceptionTable := #[], attributes := #[] }
def k1m1 : Method := { name := "expected", desc := "(I)Z", sig := { parameters := [.int], returnType := some .boolean }, accessFlags := 10, code := some k1c1 }
def k1c2 : Code := { maxStack := 3, maxLocals := 6, code := code, exceptionTable := #[], attributes := #[] }
def k1m2 : Method := { name := "law", desc := "(II)Z", sig := { parameters := [.int, .int], returnType := some .boolean }, accessFlags := 9, code := some k1c2 }
/-- com/example/stackroom/stackroom/collection/MarcRecordIsTagCharacterPinLaw -/
def k1 : Class := { plain "com/example/stackroom/stackroom/collection/MarcRecordIsTagCharacterPinLaw" (some 0) with
  accessFlags := 49
  interfaces := #[]
  cf := some (fileOf pool1 23 #[] #[{ accessFlags := 1, nameIndex := 5, descriptorIndex := 6, attributes := #[] }, { accessFlags := 10, nameIndex := 26, descriptorIndex := 21, attributes := #[] }, { accessFlags := 9, nameIndex := 30, descriptorIndex := 31, attributes := #[] }] 49 2 #[] #[])
  fields := #[]
  methods := #[k1m0, k1m1, k1m2]
  instanceTypes := #[]
  staticTypes := #[]
  resolved := Array.replicate 34 none
  statics := none }

def pool2 : Array CpInfo := pool [(1, .class_ 2), (0, u "java/io/Serializable"), (0, .class_ 4), (0, u "java/lang/Object")] 2

/-- java/io/Serializable -/
def k2 : Class := { plain "java/io/Serializable" (some 0) with
  accessFlags := 1537
  interfaces := #[]
  cf := some (fileOf pool2 1 #[] #[] 1537 3 #[] #[])
  fields := #[]
  methods := #[]
  instanceTypes := #[]
  staticTypes := #[]
  resolved := Array.replicate 7 none
  statics := none }

def pool3 : Array CpInfo := pool [(1, .class_ 2), (0, u "java/lang/Comparable"), (0, .class_ 4), (0, u "java/lang/Object")] 7

/-- java/lang/Comparable -/
def k3 : Class := { plain "java/lang/Comparable" (some 0) with
  accessFlags := 1537
  interfaces := #[]
  cf := some (fileOf pool3 1 #[] #[] 1537 3 #[] #[])
  fields := #[]
  methods := #[]
  instanceTypes := #[]
  staticTypes := #[]
  resolved := Array.replicate 12 none
  statics := none }

def pool4 : Array CpInfo := pool [(2, .class_ 4), (1, u "java/lang/CharSequence"), (42, .class_ 48), (0, u "java/lang/CharSequence$1CodePointIterator"), (10, .class_ 60), (0, u "java/lang/CharSequence$1CharIterator"), (5, .class_ 67), (0, u "java/lang/Object")] 63

/-- java/lang/CharSequence -/
def k4 : Class := { plain "java/lang/CharSequence" (some 0) with
  accessFlags := 1537
  interfaces := #[]
  cf := some (fileOf pool4 2 #[.nestMembers #[47, 59]] #[] 1537 66 #[] #[])
  fields := #[]
  methods := #[]
  instanceTypes := #[]
  staticTypes := #[]
  resolved := Array.replicate 131 none
  statics := none }

def pool5 : Array CpInfo := pool [(1, .class_ 2), (0, u "java/lang/constant/Constable"), (0, .class_ 4), (0, u "java/lang/Object")] 6

/-- java/lang/constant/Constable -/
def k5 : Class := { plain "java/lang/constant/Constable" (some 0) with
  accessFlags := 1537
  interfaces := #[]
  cf := some (fileOf pool5 1 #[] #[] 1537 3 #[] #[])
  fields := #[]
  methods := #[]
  instanceTypes := #[]
  staticTypes := #[]
  resolved := Array.replicate 11 none
  statics := none }

def pool6 : Array CpInfo := pool [(1, .class_ 2), (0, u "java/lang/constant/ConstantDesc"), (0, .class_ 4), (0, u "java/lang/Object")] 32

/-- java/lang/constant/ConstantDesc -/
def k6 : Class := { plain "java/lang/constant/ConstantDesc" (some 0) with
  accessFlags := 1537
  interfaces := #[]
  cf := some (fileOf pool6 1 #[] #[] 1537 3 #[] #[])
  fields := #[]
  methods := #[]
  instanceTypes := #[]
  staticTypes := #[]
  resolved := Array.replicate 37 none
  statics := none }

def pool7 : Array CpInfo := pool [(2, .class_ 4), (1, u "java/lang/Object"), (0, u "<init>"), (0, u "()V"), (2, .fieldref 10 11), (0, .class_ 12), (0, .nameAndType 13 14), (0, u "java/lang/String"), (0, u "value"), (0, u "[B"), (0, .fieldref 10 16), (0, .nameAndType 17 18), (0, u "coder"), (0, u "B"), (2, u "hash"), (0, u "I"), (2, u "hashIsZero"), (0, u "Z"), (11, .fieldref 10 39), (0, .nameAndType 40 26), (0, u "COMPACT_STRINGS"), (66, .class_ 109), (1, u "java/lang/StringLatin1"), (32, u "()Z"), (220, u "([BI)C"), (27, u "(II)V"), (35, u "(I)C"), (64, .methodref 10 493), (0, .nameAndType 494 142), (0, u "isLatin1"), (0, .methodref 107 496), (0, .nameAndType 497 363), (0, u "charAt"), (3, u "checkIndex"), (73, .class_ 576), (0, u "java/lang/CharSequence"), (22, u "CASE_INSENSITIVE_ORDER"), (0, u "Ljava/util/Comparator;"), (452, .fieldref 1054 1055), (0, .class_ 1056), (0, .nameAndType 1057 1058), (0, u "jdk/internal/util/Preconditions"), (0, u "SIOOBE_FORMATTER"), (0, u "Ljava/util/function/BiFunction;"), (0, .methodref 1054 1060), (0, .nameAndType 501 1061), (0, u "(IILjava/util/function/BiFunction;)I"), (39, u "serialPersistentFields"), (0, u "[Ljava/io/ObjectStreamField;"), (0, .class_ 1104), (0, u "java/lang/String$CaseInsensitiveComparator"), (1, .class_ 1107), (0, u "java/io/Serializable"), (0, .class_ 1109), (0, u "java/lang/Comparable"), (0, .class_ 1111), (0, u "java/lang/constant/Constable"), (0, .class_ 1113), (0, u "java/lang/constant/ConstantDesc"), (2, u "serialVersionUID"), (0, u "J"), (3, u "REPL"), (0, u "C"), (2, u "LATIN1"), (1, u "UTF16")] 323

def k7m0 : Method := { name := "<init>", desc := "()V", sig := { parameters := [], returnType := none }, accessFlags := 1, code := none }
def k7c1 : Code := { maxStack := 2, maxLocals := 2, code := jdk_42_method_56_code, exceptionTable := #[], attributes := #[] }
def k7m1 : Method := { name := "charAt", desc := "(I)C", sig := { parameters := [.int], returnType := some .char }, accessFlags := 1, code := some k7c1 }
def k7c2 : Code := { maxStack := 1, maxLocals := 1, code := jdk_42_method_154_code, exceptionTable := #[], attributes := #[] }
def k7m2 : Method := { name := "isLatin1", desc := "()Z", sig := { parameters := [], returnType := some .boolean }, accessFlags := 0, code := some k7c2 }
def k7c3 : Code := { maxStack := 3, maxLocals := 2, code := jdk_42_method_155_code, exceptionTable := #[], attributes := #[] }
def k7m3 : Method := { name := "checkIndex", desc := "(II)V", sig := { parameters := [.int, .int], returnType := none }, accessFlags := 8, code := some k7c3 }
/-- java/lang/String -/
def k7 : Class := { plain "java/lang/String" (some 0) with
  accessFlags := 49
  interfaces := #[2, 3, 4, 5, 6]
  cf := some (fileOf pool7 10 #[.nestMembers #[1103]] #[{ accessFlags := 1, nameIndex := 5, descriptorIndex := 6, attributes := #[] }, { accessFlags := 1, nameIndex := 497, descriptorIndex := 427, attributes := #[] }, { accessFlags := 0, nameIndex := 494, descriptorIndex := 142, attributes := #[] }, { accessFlags := 8, nameIndex := 501, descriptorIndex := 391, attributes := #[] }] 49 2 #[1106, 1108, 575, 1110, 1112] #[{ accessFlags := 18, nameIndex := 13, descriptorIndex := 14, attributes := #[] }, { accessFlags := 18, nameIndex := 17, descriptorIndex := 18, attributes := #[] }, { accessFlags := 2, nameIndex := 21, descriptorIndex := 22, attributes := #[] }, { accessFlags := 2, nameIndex := 25, descriptorIndex := 26, attributes := #[] }, { accessFlags := 26, nameIndex := 1116, descriptorIndex := 1117, attributes := #[] }, { accessFlags := 24, nameIndex := 40, descriptorIndex := 26, attributes := #[] }, { accessFlags := 26, nameIndex := 1101, descriptorIndex := 1102, attributes := #[] }, { accessFlags := 26, nameIndex := 1121, descriptorIndex := 1122, attributes := #[] }, { accessFlags := 25, nameIndex := 599, descriptorIndex := 600, attributes := #[] }, { accessFlags := 24, nameIndex := 1125, descriptorIndex := 18, attributes := #[] }, { accessFlags := 24, nameIndex := 1127, descriptorIndex := 18, attributes := #[] }])
  fields := #[{ name := "value", type := (.array .byte), accessFlags := 18, slot := 0, constantValue := 0 }, { name := "coder", type := .byte, accessFlags := 18, slot := 1, constantValue := 0 }, { name := "hash", type := .int, accessFlags := 2, slot := 2, constantValue := 0 }, { name := "hashIsZero", type := .boolean, accessFlags := 2, slot := 3, constantValue := 0 }, { name := "serialVersionUID", type := .long, accessFlags := 26, slot := 0, constantValue := 0 }, { name := "COMPACT_STRINGS", type := .boolean, accessFlags := 24, slot := 1, constantValue := 0 }, { name := "serialPersistentFields", type := (.array (.object "java/io/ObjectStreamField")), accessFlags := 26, slot := 2, constantValue := 0 }, { name := "REPL", type := .char, accessFlags := 26, slot := 3, constantValue := 0 }, { name := "CASE_INSENSITIVE_ORDER", type := (.object "java/util/Comparator"), accessFlags := 25, slot := 4, constantValue := 0 }, { name := "LATIN1", type := .byte, accessFlags := 24, slot := 5, constantValue := 0 }, { name := "UTF16", type := .byte, accessFlags := 24, slot := 6, constantValue := 0 }]
  methods := #[k7m0, k7m1, k7m2, k7m3]
  instanceTypes := #[(.array .byte), .byte, .int, .boolean]
  staticTypes := #[.long, .boolean, (.array (.object "java/io/ObjectStreamField")), .char, (.object "java/util/Comparator"), .byte, .byte]
  resolved := Array.replicate 1451 none
  statics := some 0 }

def pool8 : Array CpInfo := pool [(1, .class_ 2), (0, u "java/lang/String"), (1, .class_ 6), (1, u "java/lang/Object"), (0, u "<init>"), (0, u "()V"), (0, .methodref 1 10), (0, .nameAndType 11 12), (0, u "checkIndex"), (0, u "(II)V"), (1, .class_ 16), (1, u "java/lang/StringLatin1"), (36, u "([BI)C"), (67, u "$assertionsDisabled"), (0, u "Z"), (98, .class_ 223), (1, u "java/lang/StringLatin1$LinesSpliterator"), (28, u "charAt"), (137, .class_ 391), (0, u "java/lang/StringLatin1$CharsSpliterator")] 3

def k8m0 : Method := { name := "<init>", desc := "()V", sig := { parameters := [], returnType := none }, accessFlags := 0, code := none }
def k8c1 : Code := { maxStack := 2, maxLocals := 2, code := jdk_43_method_2_code, exceptionTable := #[], attributes := #[] }
def k8m1 : Method := { name := "charAt", desc := "([BI)C", sig := { parameters := [(.array .byte), .int], returnType := some .char }, accessFlags := 9, code := some k8c1 }
/-- java/lang/StringLatin1 -/
def k8 : Class := { plain "java/lang/StringLatin1" (some 0) with
  accessFlags := 48
  interfaces := #[]
  cf := some (fileOf pool8 14 #[.nestMembers #[390, 221]] #[{ accessFlags := 0, nameIndex := 7, descriptorIndex := 8, attributes := #[] }, { accessFlags := 9, nameIndex := 252, descriptorIndex := 53, attributes := #[] }] 48 4 #[] #[{ accessFlags := 4120, nameIndex := 121, descriptorIndex := 122, attributes := #[] }])
  fields := #[{ name := "$assertionsDisabled", type := .boolean, accessFlags := 4120, slot := 0, constantValue := 0 }]
  methods := #[k8m0, k8m1]
  instanceTypes := #[]
  staticTypes := #[.boolean]
  resolved := Array.replicate 395 none
  statics := none }

def pool9 : Array CpInfo := pool [(2, .class_ 4), (1, u "java/lang/Object"), (0, u "<init>"), (0, u "()V"), (17, .class_ 26), (1, u "jdk/internal/util/Preconditions"), (6, u "checkIndex"), (21, .class_ 56), (0, u "jdk/internal/util/Preconditions$4"), (57, .class_ 115), (0, u "jdk/internal/util/Preconditions$1"), (7, u "SIOOBE_FORMATTER"), (0, u "Ljava/util/function/BiFunction;"), (0, .class_ 126), (0, u "jdk/internal/util/Preconditions$2"), (3, u "AIOOBE_FORMATTER"), (0, .class_ 132), (0, u "jdk/internal/util/Preconditions$3"), (3, u "IOOBE_FORMATTER"), (41, u "(IILjava/util/function/BiFunction;)I")] 15

def k9m0 : Method := { name := "<init>", desc := "()V", sig := { parameters := [], returnType := none }, accessFlags := 1, code := none }
def k9c1 : Code := { maxStack := 3, maxLocals := 3, code := jdk_41_method_11_code, exceptionTable := #[], attributes := #[] }
def k9m1 : Method := { name := "checkIndex", desc := "(IILjava/util/function/BiFunction;)I", sig := { parameters := [.int, .int, (.object "java/util/function/BiFunction")], returnType := some .int }, accessFlags := 9, code := some k9c1 }
/-- jdk/internal/util/Preconditions -/
def k9 : Class := { plain "jdk/internal/util/Preconditions" (some 0) with
  accessFlags := 33
  interfaces := #[]
  cf := some (fileOf pool9 24 #[.nestMembers #[55, 131, 125, 114]] #[{ accessFlags := 1, nameIndex := 5, descriptorIndex := 6, attributes := #[] }, { accessFlags := 9, nameIndex := 33, descriptorIndex := 178, attributes := #[] }] 33 2 #[] #[{ accessFlags := 25, nameIndex := 123, descriptorIndex := 124, attributes := #[] }, { accessFlags := 25, nameIndex := 130, descriptorIndex := 124, attributes := #[] }, { accessFlags := 25, nameIndex := 136, descriptorIndex := 124, attributes := #[] }])
  fields := #[{ name := "SIOOBE_FORMATTER", type := (.object "java/util/function/BiFunction"), accessFlags := 25, slot := 0, constantValue := 0 }, { name := "AIOOBE_FORMATTER", type := (.object "java/util/function/BiFunction"), accessFlags := 25, slot := 1, constantValue := 0 }, { name := "IOOBE_FORMATTER", type := (.object "java/util/function/BiFunction"), accessFlags := 25, slot := 2, constantValue := 0 }]
  methods := #[k9m0, k9m1]
  instanceTypes := #[]
  staticTypes := #[(.object "java/util/function/BiFunction"), (.object "java/util/function/BiFunction"), (.object "java/util/function/BiFunction")]
  resolved := Array.replicate 194 none
  statics := some 1 }

def pool10 : Array CpInfo := pool [(2, .class_ 4), (1, u "java/lang/Object"), (0, u "<init>"), (0, u "()V"), (0, .class_ 8), (0, u "java/lang/Record")] 13

def k10m0 : Method := { name := "<init>", desc := "()V", sig := { parameters := [], returnType := none }, accessFlags := 4, code := none }
/-- java/lang/Record -/
def k10 : Class := { plain "java/lang/Record" (some 0) with
  accessFlags := 1057
  interfaces := #[]
  cf := some (fileOf pool10 7 #[] #[{ accessFlags := 4, nameIndex := 5, descriptorIndex := 6, attributes := #[] }] 1057 2 #[] #[])
  fields := #[]
  methods := #[k10m0]
  instanceTypes := #[]
  staticTypes := #[]
  resolved := Array.replicate 22 none
  statics := none }

def pool11 : Array CpInfo := pool [(1, .class_ 2), (0, u "com/example/stackroom/stackroom/collection/MarcRecord"), (1, .class_ 6), (1, u "java/lang/Record"), (10, u "leader"), (0, u "Ljava/lang/String;"), (2, u "fields"), (0, u "Ljava/util/List;"), (25, .class_ 49), (0, u "com/example/stackroom/stackroom/collection/MarcRecord$Field"), (0, .class_ 51), (0, u "com/example/stackroom/stackroom/collection/MarcRecord$DataField"), (11, .class_ 64), (0, u "com/example/stackroom/stackroom/collection/MarcRecord$ControlField"), (15, .class_ 81), (0, u "com/example/stackroom/stackroom/collection/MarcRecord$Subfield"), (63, .class_ 146), (0, u "com/example/stackroom/stackroom/collection/MarcRecord$Malformed"), (11, u "(I)Z"), (60, u "isTagCharacter"), (73, .class_ 294), (0, u "com/example/stackroom/stackroom/collection/MarcRecord$XmlRecord"), (21, u "NAMESPACE"), (1, u "SCHEMA"), (2, u "LEADER_LENGTH"), (0, u "I"), (1, u "CODING_SCHEME"), (1, u "UNICODE"), (0, u "C"), (1, u "TAG_LENGTH"), (1, u "RECORD_TERMINATOR"), (0, u "B"), (1, u "FIELD_TERMINATOR"), (1, u "SUBFIELD_DELIMITER"), (1, u "LENGTH_DIGITS"), (1, u "BASE_ADDRESS"), (1, u "FIELD_LENGTH_DIGITS"), (1, u "FIELD_START_DIGITS"), (0, u "ENTRY_LENGTH"), (0, u "MAX_RECORD"), (0, u "MAX_FIELD")] 75

def k11c0 : Code := { maxStack := 2, maxLocals := 1, code := prog_46_method_3_code, exceptionTable := #[], attributes := #[] }
def k11m0 : Method := { name := "isTagCharacter", desc := "(I)Z", sig := { parameters := [.int], returnType := some .boolean }, accessFlags := 9, code := some k11c0 }
/-- com/example/stackroom/stackroom/collection/MarcRecord -/
def k11 : Class := { plain "com/example/stackroom/stackroom/collection/MarcRecord" (some 10) with
  accessFlags := 49
  interfaces := #[]
  cf := some (fileOf pool11 1 #[.nestMembers #[293, 145, 80, 50, 63, 48]] #[{ accessFlags := 9, nameIndex := 219, descriptorIndex := 158, attributes := #[] }] 49 4 #[] #[{ accessFlags := 18, nameIndex := 17, descriptorIndex := 18, attributes := #[] }, { accessFlags := 18, nameIndex := 21, descriptorIndex := 22, attributes := #[] }, { accessFlags := 25, nameIndex := 316, descriptorIndex := 18, attributes := #[] }, { accessFlags := 25, nameIndex := 318, descriptorIndex := 18, attributes := #[] }, { accessFlags := 25, nameIndex := 321, descriptorIndex := 322, attributes := #[] }, { accessFlags := 25, nameIndex := 324, descriptorIndex := 322, attributes := #[] }, { accessFlags := 25, nameIndex := 326, descriptorIndex := 327, attributes := #[] }, { accessFlags := 25, nameIndex := 329, descriptorIndex := 322, attributes := #[] }, { accessFlags := 25, nameIndex := 331, descriptorIndex := 332, attributes := #[] }, { accessFlags := 25, nameIndex := 334, descriptorIndex := 332, attributes := #[] }, { accessFlags := 25, nameIndex := 336, descriptorIndex := 332, attributes := #[] }, { accessFlags := 25, nameIndex := 338, descriptorIndex := 322, attributes := #[] }, { accessFlags := 25, nameIndex := 340, descriptorIndex := 322, attributes := #[] }, { accessFlags := 25, nameIndex := 342, descriptorIndex := 322, attributes := #[] }, { accessFlags := 25, nameIndex := 344, descriptorIndex := 322, attributes := #[] }, { accessFlags := 25, nameIndex := 345, descriptorIndex := 322, attributes := #[] }, { accessFlags := 26, nameIndex := 346, descriptorIndex := 322, attributes := #[] }, { accessFlags := 26, nameIndex := 347, descriptorIndex := 322, attributes := #[] }])
  fields := #[{ name := "leader", type := (.object "java/lang/String"), accessFlags := 18, slot := 0, constantValue := 0 }, { name := "fields", type := (.object "java/util/List"), accessFlags := 18, slot := 1, constantValue := 0 }, { name := "NAMESPACE", type := (.object "java/lang/String"), accessFlags := 25, slot := 0, constantValue := 0 }, { name := "SCHEMA", type := (.object "java/lang/String"), accessFlags := 25, slot := 1, constantValue := 0 }, { name := "LEADER_LENGTH", type := .int, accessFlags := 25, slot := 2, constantValue := 0 }, { name := "CODING_SCHEME", type := .int, accessFlags := 25, slot := 3, constantValue := 0 }, { name := "UNICODE", type := .char, accessFlags := 25, slot := 4, constantValue := 0 }, { name := "TAG_LENGTH", type := .int, accessFlags := 25, slot := 5, constantValue := 0 }, { name := "RECORD_TERMINATOR", type := .byte, accessFlags := 25, slot := 6, constantValue := 0 }, { name := "FIELD_TERMINATOR", type := .byte, accessFlags := 25, slot := 7, constantValue := 0 }, { name := "SUBFIELD_DELIMITER", type := .byte, accessFlags := 25, slot := 8, constantValue := 0 }, { name := "LENGTH_DIGITS", type := .int, accessFlags := 25, slot := 9, constantValue := 0 }, { name := "BASE_ADDRESS", type := .int, accessFlags := 25, slot := 10, constantValue := 0 }, { name := "FIELD_LENGTH_DIGITS", type := .int, accessFlags := 25, slot := 11, constantValue := 0 }, { name := "FIELD_START_DIGITS", type := .int, accessFlags := 25, slot := 12, constantValue := 0 }, { name := "ENTRY_LENGTH", type := .int, accessFlags := 25, slot := 13, constantValue := 0 }, { name := "MAX_RECORD", type := .int, accessFlags := 26, slot := 14, constantValue := 0 }, { name := "MAX_FIELD", type := .int, accessFlags := 26, slot := 15, constantValue := 0 }]
  methods := #[k11m0]
  instanceTypes := #[(.object "java/lang/String"), (.object "java/util/List")]
  staticTypes := #[(.object "java/lang/String"), (.object "java/lang/String"), .int, .int, .char, .int, .byte, .byte, .byte, .int, .int, .int, .int, .int, .int, .int]
  resolved := Array.replicate 423 none
  statics := none }

def pool12 : Array CpInfo := pool [(9, u "<init>"), (6, .class_ 18), (1, u "java/lang/Object"), (0, u "()V"), (1, .class_ 23), (1, u "jdk/internal/util/ArraysSupport"), (0, u "LOG2_ARRAY_LONG_INDEX_SCALE"), (0, u "I"), (2, u "U"), (0, u "Ljdk/internal/misc/Unsafe;"), (8, u "BIG_ENDIAN"), (0, u "Z"), (8, u "LOG2_BYTE_BIT_SIZE"), (4, u "LOG2_ARRAY_INT_INDEX_SCALE"), (54, u "JLA"), (0, u "Ljdk/internal/access/JavaLangAccess;"), (11, u "LOG2_ARRAY_BOOLEAN_INDEX_SCALE"), (9, u "LOG2_ARRAY_BYTE_INDEX_SCALE"), (5, u "LOG2_ARRAY_CHAR_INDEX_SCALE"), (5, u "LOG2_ARRAY_SHORT_INDEX_SCALE"), (18, u "LOG2_ARRAY_FLOAT_INDEX_SCALE"), (24, u "LOG2_ARRAY_DOUBLE_INDEX_SCALE"), (89, u "T_BOOLEAN"), (2, u "T_CHAR"), (1, u "T_FLOAT"), (1, u "T_DOUBLE"), (1, u "T_BYTE"), (1, u "T_SHORT"), (1, u "T_INT"), (1, u "T_LONG"), (1, u "SOFT_MAX_ARRAY_LENGTH")] 83

def k12m0 : Method := { name := "<init>", desc := "()V", sig := { parameters := [], returnType := none }, accessFlags := 2, code := none }
/-- jdk/internal/util/ArraysSupport -/
def k12 : Class := { plain "jdk/internal/util/ArraysSupport" (some 0) with
  accessFlags := 33
  interfaces := #[]
  cf := some (fileOf pool12 21 #[] #[{ accessFlags := 2, nameIndex := 9, descriptorIndex := 19, attributes := #[] }] 33 16 #[] #[{ accessFlags := 24, nameIndex := 28, descriptorIndex := 29, attributes := #[] }, { accessFlags := 26, nameIndex := 38, descriptorIndex := 39, attributes := #[] }, { accessFlags := 25, nameIndex := 121, descriptorIndex := 25, attributes := #[] }, { accessFlags := 25, nameIndex := 131, descriptorIndex := 25, attributes := #[] }, { accessFlags := 25, nameIndex := 137, descriptorIndex := 25, attributes := #[] }, { accessFlags := 25, nameIndex := 143, descriptorIndex := 25, attributes := #[] }, { accessFlags := 25, nameIndex := 53, descriptorIndex := 25, attributes := #[] }, { accessFlags := 25, nameIndex := 24, descriptorIndex := 25, attributes := #[] }, { accessFlags := 25, nameIndex := 162, descriptorIndex := 25, attributes := #[] }, { accessFlags := 25, nameIndex := 187, descriptorIndex := 25, attributes := #[] }, { accessFlags := 26, nameIndex := 48, descriptorIndex := 25, attributes := #[] }, { accessFlags := 25, nameIndex := 277, descriptorIndex := 25, attributes := #[] }, { accessFlags := 25, nameIndex := 280, descriptorIndex := 25, attributes := #[] }, { accessFlags := 25, nameIndex := 282, descriptorIndex := 25, attributes := #[] }, { accessFlags := 25, nameIndex := 284, descriptorIndex := 25, attributes := #[] }, { accessFlags := 25, nameIndex := 286, descriptorIndex := 25, attributes := #[] }, { accessFlags := 25, nameIndex := 288, descriptorIndex := 25, attributes := #[] }, { accessFlags := 25, nameIndex := 290, descriptorIndex := 25, attributes := #[] }, { accessFlags := 25, nameIndex := 292, descriptorIndex := 25, attributes := #[] }, { accessFlags := 26, nameIndex := 108, descriptorIndex := 109, attributes := #[] }, { accessFlags := 25, nameIndex := 294, descriptorIndex := 25, attributes := #[] }])
  fields := #[{ name := "U", type := (.object "jdk/internal/misc/Unsafe"), accessFlags := 24, slot := 0, constantValue := 0 }, { name := "BIG_ENDIAN", type := .boolean, accessFlags := 26, slot := 1, constantValue := 0 }, { name := "LOG2_ARRAY_BOOLEAN_INDEX_SCALE", type := .int, accessFlags := 25, slot := 2, constantValue := 0 }, { name := "LOG2_ARRAY_BYTE_INDEX_SCALE", type := .int, accessFlags := 25, slot := 3, constantValue := 0 }, { name := "LOG2_ARRAY_CHAR_INDEX_SCALE", type := .int, accessFlags := 25, slot := 4, constantValue := 0 }, { name := "LOG2_ARRAY_SHORT_INDEX_SCALE", type := .int, accessFlags := 25, slot := 5, constantValue := 0 }, { name := "LOG2_ARRAY_INT_INDEX_SCALE", type := .int, accessFlags := 25, slot := 6, constantValue := 0 }, { name := "LOG2_ARRAY_LONG_INDEX_SCALE", type := .int, accessFlags := 25, slot := 7, constantValue := 0 }, { name := "LOG2_ARRAY_FLOAT_INDEX_SCALE", type := .int, accessFlags := 25, slot := 8, constantValue := 0 }, { name := "LOG2_ARRAY_DOUBLE_INDEX_SCALE", type := .int, accessFlags := 25, slot := 9, constantValue := 0 }, { name := "LOG2_BYTE_BIT_SIZE", type := .int, accessFlags := 26, slot := 10, constantValue := 0 }, { name := "T_BOOLEAN", type := .int, accessFlags := 25, slot := 11, constantValue := 0 }, { name := "T_CHAR", type := .int, accessFlags := 25, slot := 12, constantValue := 0 }, { name := "T_FLOAT", type := .int, accessFlags := 25, slot := 13, constantValue := 0 }, { name := "T_DOUBLE", type := .int, accessFlags := 25, slot := 14, constantValue := 0 }, { name := "T_BYTE", type := .int, accessFlags := 25, slot := 15, constantValue := 0 }, { name := "T_SHORT", type := .int, accessFlags := 25, slot := 16, constantValue := 0 }, { name := "T_INT", type := .int, accessFlags := 25, slot := 17, constantValue := 0 }, { name := "T_LONG", type := .int, accessFlags := 25, slot := 18, constantValue := 0 }, { name := "JLA", type := (.object "jdk/internal/access/JavaLangAccess"), accessFlags := 26, slot := 19, constantValue := 0 }, { name := "SOFT_MAX_ARRAY_LENGTH", type := .int, accessFlags := 25, slot := 20, constantValue := 0 }]
  methods := #[k12m0]
  instanceTypes := #[]
  staticTypes := #[(.object "jdk/internal/misc/Unsafe"), .boolean, .int, .int, .int, .int, .int, .int, .int, .int, .int, .int, .int, .int, .int, .int, .int, .int, .int, (.object "jdk/internal/access/JavaLangAccess"), .int]
  resolved := Array.replicate 378 none
  statics := none }

def pool13 : Array CpInfo := pool [(1, u "java/lang/Cloneable"), (0, .class_ 1), (0, u "java/lang/Object"), (0, .class_ 3)] 3

/-- java/lang/Cloneable -/
def k13 : Class := { plain "java/lang/Cloneable" (some 0) with
  accessFlags := 1537
  interfaces := #[]
  cf := some (fileOf pool13 2 #[] #[] 1537 4 #[] #[])
  fields := #[]
  methods := #[]
  instanceTypes := #[]
  staticTypes := #[]
  resolved := Array.replicate 8 none
  statics := none }

/-- the primitive byte -/
def k14 : Class := { plain "byte" none with kind := .primitive 'B', accessFlags := 0x411 }
/-- [B -/
def k15 : Class := { plain "[B" (some 0) with kind := .array 14 .byte, interfaces := #[13, 2], accessFlags := 1041 }

/-- the primitive int -/
def k16 : Class := { plain "int" none with kind := .primitive 'I', accessFlags := 0x411 }
/-- [I -/
def k17 : Class := { plain "[I" (some 0) with kind := .array 16 .int, interfaces := #[13, 2], accessFlags := 1041 }

def heap : Heap := #[{ cls := 7, slots := #[.long 0, .int 1, .null, .int 0, .null, .int 0, .int 0], vm := .statics 7 },
  { cls := 9, slots := #[.null, .null, .null], vm := .statics 9 }]
def classes : Array Class := #[k0, k1, k2, k3, k4, k5, k6, k7, k8, k9, k10, k11, k12, k13, k14, k15, k16, k17]
def interned : List (Array UInt16 × Addr) := []
def slotsUsed : Nat := 10
def theMethod : MethodId := ⟨1, 2⟩
def args0 : Array Value := #[.int 5, .int 6]
def aboutOver (below : List Frame) : State where
  vm := { classes := classes, interned := interned.toArray }
  heap := heap
  slotsUsed := slotsUsed
  threads := #[{ frames := .invoking theMethod args0 :: below }]
def below0 : List Frame := [.native { method := ⟨0, 0⟩, args := #[] }]
def about1 : State := aboutOver below0
def p0 : Program := .bare "" "" ""
def e0 : Env := launch0.env 0 0 0
theorem w_frames : about1.frames = Frame.invoking theMethod args0 :: below0 := rfl
set_option maxRecDepth 65536 in
theorem w_args : argsFit about1.vm theMethod args0 = true := by decide +kernel
set_option maxRecDepth 65536 in
theorem w_heap : heapFits about1 = true := by decide +kernel
set_option maxRecDepth 65536 in
theorem w_runnable : about1.curStatus? = some .runnable := by decide +kernel
set_option maxRecDepth 65536 in
theorem w_alone : about1.alone = true := by decide +kernel
set_option maxRecDepth 65536 in
theorem w_named : about1.methodNamed? x = some theMethod := by decide +kernel
set_option maxRecDepth 65536 in
theorem w_hears : about1.hears theMethod below0 = true := by decide +kernel
set_option maxRecDepth 65536 in
theorem w_ripe : about1.ripe theMethod args0 below0 = true := by decide +kernel
theorem w_running : about1.status = .running := rfl
set_option maxRecDepth 65536 in
theorem w_room : about1.hasRoom e0.platform room_1 = true :=
  launch0.hasRoom_least _ room_1 (by decide +kernel) (by decide +kernel) (by decide +kernel) (by decide +kernel) (by decide +kernel) (by decide +kernel)
theorem allAtoms_all (ts : List Jvm.Cond) (a : Array Jvm.Value) (st : Jvm.State) : (allAtoms ts).before a st = ts.all (fun c => c.before a st) := by
  induction ts with
  | nil => rfl
  | cons c t ih =>
    show (Jvm.Cond.and c (allAtoms t)).before a st = _
    rw [Jvm.Cond.before_and, ih, List.all_cons]
def words1 : List Jvm.Cond := Jvm.Cond.code x code maxLocals ret :: tables_1
/-- a 'code' word, met by the world's own term for the bytes: nothing is compared byte by byte -/
theorem code_word {y : MethodName} {bytes : ByteArray} {mx : Nat} {rt : Option FieldType} {a : Array Value} {s : State} {m : MethodId} {meth : Method} {c : Code} (h1 : s.methodNamed? y = some m) (h2 : s.vm.method? m = some meth) (h3 : meth.code = some c) (h4 : c.code = bytes)
    (h5 : (c.maxLocals == mx && c.exceptionTable.isEmpty && decide (c.maxStack ≤ mostOperands) && decide (meth.sig.returnType = rt) && !meth.locks && decide (parseMethodDescriptor y.desc = some meth.sig)) = true) : (Jvm.Cond.code y bytes mx rt).before a s = true := by
  simp only [Bool.and_eq_true, beq_iff_eq, Bool.not_eq_true', decide_eq_true_eq] at h5
  obtain ⟨⟨⟨⟨⟨g1, g2⟩, g3⟩, g4⟩, g5⟩, g6⟩ := h5
  simp [Cond.before, Cond.holds, Cond.value, h1, h2, h3, h4, g1, g2, g3, g4, g5, g6]
def isCode : Jvm.Cond → Bool
  | .code _ _ _ _ => true
  | _ => false
theorem all_split {L : List Jvm.Cond} {P : Jvm.Cond → Bool} (h1 : L.all (fun c => isCode c || P c) = true) (h2 : ∀ c ∈ L.filter isCode, P c = true) : L.all P = true := by
  refine List.all_eq_true.mpr fun c hc => ?_
  have h := List.all_eq_true.mp h1 c hc
  rcases Bool.eq_false_or_eq_true (isCode c) with hi | hi
  · exact h2 c (List.mem_filter.mpr ⟨hc, hi⟩)
  · simpa [hi] using h
set_option maxRecDepth 65536 in
theorem w_c0 : (Jvm.Cond.code x code maxLocals ret).before args0 about1 = true := code_word (m := ⟨1, 2⟩) (meth := k1m2) (c := k1c2) (by decide +kernel) rfl rfl rfl (by decide +kernel)
set_option maxRecDepth 65536 in
theorem w_c1 : (Jvm.Cond.code ({ cls := "java/lang/String", name := "charAt", desc := "(I)C" } : Jvm.MethodName) jdk_42_method_56_code (2 : Nat) (Option.some Jvm.ClassFile.FieldType.char)).before args0 about1 = true := code_word (m := ⟨7, 1⟩) (meth := k7m1) (c := k7c1) (by decide +kernel) rfl rfl rfl (by decide +kernel)
set_option maxRecDepth 65536 in
theorem w_c2 : (Jvm.Cond.code ({ cls := "java/lang/String", name := "isLatin1", desc := "()Z" } : Jvm.MethodName) jdk_42_method_154_code (1 : Nat) (Option.some Jvm.ClassFile.FieldType.boolean)).before args0 about1 = true := code_word (m := ⟨7, 2⟩) (meth := k7m2) (c := k7c2) (by decide +kernel) rfl rfl rfl (by decide +kernel)
set_option maxRecDepth 65536 in
theorem w_c3 : (Jvm.Cond.code ({ cls := "java/lang/StringLatin1", name := "charAt", desc := "([BI)C" } : Jvm.MethodName) jdk_43_method_2_code (2 : Nat) (Option.some Jvm.ClassFile.FieldType.char)).before args0 about1 = true := code_word (m := ⟨8, 1⟩) (meth := k8m1) (c := k8c1) (by decide +kernel) rfl rfl rfl (by decide +kernel)
set_option maxRecDepth 65536 in
theorem w_c4 : (Jvm.Cond.code ({ cls := "java/lang/String", name := "checkIndex", desc := "(II)V" } : Jvm.MethodName) jdk_42_method_155_code (2 : Nat) (Option.none : Option Jvm.ClassFile.FieldType)).before args0 about1 = true := code_word (m := ⟨7, 3⟩) (meth := k7m3) (c := k7c3) (by decide +kernel) rfl rfl rfl (by decide +kernel)
set_option maxRecDepth 65536 in
theorem w_c5 : (Jvm.Cond.code ({ cls := "jdk/internal/util/Preconditions", name := "checkIndex", desc := "(IILjava/util/function/BiFunction;)I" } : Jvm.MethodName) jdk_41_method_11_code (3 : Nat) (Option.some Jvm.ClassFile.FieldType.int)).before args0 about1 = true := code_word (m := ⟨9, 1⟩) (meth := k9m1) (c := k9c1) (by decide +kernel) rfl rfl rfl (by decide +kernel)
set_option maxRecDepth 65536 in
theorem w_c6 : (Jvm.Cond.code ({ cls := "com/example/stackroom/stackroom/collection/MarcRecord", name := "isTagCharacter", desc := "(I)Z" } : Jvm.MethodName) prog_46_method_3_code (1 : Nat) (Option.some Jvm.ClassFile.FieldType.boolean)).before args0 about1 = true := code_word (m := ⟨11, 0⟩) (meth := k11m0) (c := k11c0) (by decide +kernel) rfl rfl rfl (by decide +kernel)
set_option maxRecDepth 65536 in
theorem w_c7 : (Jvm.Cond.code ({ cls := "com/example/stackroom/stackroom/collection/MarcRecordIsTagCharacterPinLaw", name := "expected", desc := "(I)Z" } : Jvm.MethodName) method_2_code (2 : Nat) (Option.some Jvm.ClassFile.FieldType.boolean)).before args0 about1 = true := code_word (m := ⟨1, 1⟩) (meth := k1m1) (c := k1c1) (by decide +kernel) rfl rfl rfl (by decide +kernel)
def codes1 : List Jvm.Cond := [Jvm.Cond.code x code maxLocals ret, Jvm.Cond.code ({ cls := "java/lang/String", name := "charAt", desc := "(I)C" } : Jvm.MethodName) jdk_42_method_56_code (2 : Nat) (Option.some Jvm.ClassFile.FieldType.char), Jvm.Cond.code ({ cls := "java/lang/String", name := "isLatin1", desc := "()Z" } : Jvm.MethodName) jdk_42_method_154_code (1 : Nat) (Option.some Jvm.ClassFile.FieldType.boolean), Jvm.Cond.code ({ cls := "java/lang/StringLatin1", name := "charAt", desc := "([BI)C" } : Jvm.MethodName) jdk_43_method_2_code (2 : Nat) (Option.some Jvm.ClassFile.FieldType.char), Jvm.Cond.code ({ cls := "java/lang/String", name := "checkIndex", desc := "(II)V" } : Jvm.MethodName) jdk_42_method_155_code (2 : Nat) (Option.none : Option Jvm.ClassFile.FieldType), Jvm.Cond.code ({ cls := "jdk/internal/util/Preconditions", name := "checkIndex", desc := "(IILjava/util/function/BiFunction;)I" } : Jvm.MethodName) jdk_41_method_11_code (3 : Nat) (Option.some Jvm.ClassFile.FieldType.int), Jvm.Cond.code ({ cls := "com/example/stackroom/stackroom/collection/MarcRecord", name := "isTagCharacter", desc := "(I)Z" } : Jvm.MethodName) prog_46_method_3_code (1 : Nat) (Option.some Jvm.ClassFile.FieldType.boolean), Jvm.Cond.code ({ cls := "com/example/stackroom/stackroom/collection/MarcRecordIsTagCharacterPinLaw", name := "expected", desc := "(I)Z" } : Jvm.MethodName) method_2_code (2 : Nat) (Option.some Jvm.ClassFile.FieldType.boolean)]
set_option maxRecDepth 65536 in
theorem codes_eq : words1.filter isCode = codes1 := rfl
theorem w_codes : ∀ c ∈ words1.filter isCode, c.before args0 about1 = true := by
  rw [codes_eq]
  intro c hc
  simp only [codes1, List.mem_cons, List.not_mem_nil, or_false] at hc
  rcases hc with rfl | rfl | rfl | rfl | rfl | rfl | rfl | rfl
  · exact w_c0
  · exact w_c1
  · exact w_c2
  · exact w_c3
  · exact w_c4
  · exact w_c5
  · exact w_c6
  · exact w_c7
set_option maxRecDepth 65536 in
theorem w_t1 : (words1.take 24).all (fun c => isCode c || c.before args0 about1) = true := by decide +kernel
set_option maxRecDepth 65536 in
theorem w_t2 : (words1.drop 24).all (fun c => isCode c || c.before args0 about1) = true := by decide +kernel
theorem w_tables : (allAtoms (Jvm.Cond.code x code maxLocals ret :: tables_1)).before args0 about1 = true := by
  rw [allAtoms_all]
  show words1.all (fun c => c.before args0 about1) = true
  refine all_split ?_ w_codes
  rw [← List.take_append_drop 24 words1, List.all_append, w_t1, w_t2]
  rfl
set_option maxRecDepth 65536 in
theorem w_rest : rest_1_c.before args0 about1 = true := by decide +kernel
set_option maxRecDepth 65536 in
theorem w_case : (Jvm.Cond.and given_1 narrow_1).before args0 about1 = true := by decide +kernel
set_option maxRecDepth 65536 in
theorem w_consts : constsHeld consts_1 about1 := Jvm.Lit.constsHeldB_iff.mp (by decide +kernel)
theorem w_applies : (headSpec (Jvm.Cond.code x code maxLocals ret :: tables_1) room_1).applies x e0.platform about1 = true :=
  (Spec.applies_iff w_frames).mpr ⟨w_running, w_runnable, w_alone, w_named, w_hears, w_ripe, w_room, w_tables⟩
theorem atStart : AtStart classFile x code maxLocals ret World_1 tables_1 room_1 Calls_1 rest_1 Pre_1 launch0 p0 e0 about1 theMethod args0 below0 :=
  ⟨lists_1, trivial, launch0.admits_env _ _ _, launch0.least_env, fairChoices_fair.cas, fairChoices_fair.clock, w_frames, w_args, w_heap, w_applies, ⟨w_consts, trivial⟩, w_rest, w_case⟩
end start1
theorem witness_1 : WitnessClaimed_1 := ⟨start1.p0, start1.e0, start1.about1, start1.theMethod, start1.args0, start1.below0, start1.atStart⟩
end Jvm.Pilot.@@N@@
