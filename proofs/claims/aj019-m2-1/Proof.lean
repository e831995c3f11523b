import JvmDerived
import JvmDerived.Pilot.@@N@@Statement
import JvmDerived.Pilot.@@N@@Code
set_option linter.unusedVariables false
set_option linter.unusedSimpArgs false
namespace Jvm.Own
open Sem ClassFile Op Lib Jvm.Stand Jvm.Free Jvm.LawKit Jvm.RoadKit
/-- the walk that stands in T at the frame g runs to the method's return, and Q is said of what it leaves -/
def OEnds (p : Program) (e : Env) (below : List Frame) (s : State) (C S : Nat) (Q : Option Value → Heap → List Loc → Prop) (T : State) (g : JFrame) : Prop :=
  ∃ (t : State) (v : Option Value) (L : List Loc), Steps p.tables e below (T.setTop g) t ∧ t.status = .running ∧ Ended t below (.returned v) ∧ Q v t.heap L ∧ FrameEnd s (.returned v) t L C S
/-- a callee's contract, at one array of arguments and one heap -/
def OCon (l : Launch) (Z : State) (y : MethodName) (bytes : ByteArray) (maxL : Nat) (ret : Option FieldType) (ws : List Jvm.Cond) (rm : Room) (as' : Array Value) (h : Heap) (Q : Option Value → Heap → List Loc → Prop) : Prop :=
  MetFree l y (head1 (Jvm.Cond.code y bytes maxL ret :: ws) rm) (fun a U => a = as' ∧ Z.Warmed39 U.vm ∧ U.heap = h) (fun _ _ _ _ _ => True) (fun _ U o U' => ∃ v L, o = .returned v ∧ Q v U'.heap L ∧ FrameEnd U o U' L rm.cells rm.slots)
section Walk
variable {p : Program} {l : Launch} {e : Env} {R : Room} {s : State} {m : MethodId} {args : Array Value} {below : List Frame} {meth : Method} {c : Code} {T : State} {locs : List Loc} {cells slots : Nat} {C S : Nat} {Q : Option Value → Heap → List Loc → Prop} {bytes : ByteArray} {pc n : Nat} {L : Array Slot} {st : List Value} {Z : State} {a0 : Array Value} {h : Heap}
theorem OEnds.pre {T' : State} {g g' : JFrame} (k : OEnds p e below s C S Q T' g') (f : ∀ t, Steps p.tables e below (T'.setTop g') t → Steps p.tables e below (T.setTop g) t) : OEnds p e below s C S Q T g := by
  obtain ⟨t, v, L, h1, h2⟩ := k
  exact ⟨t, v, L, f _ h1, h2⟩
theorem OEnds.weaken {Q' : Option Value → Heap → List Loc → Prop} {g : JFrame} (k : OEnds p e below s C S Q T g) (f : ∀ v h L, Q v h L → Q' v h L) : OEnds p e below s C S Q' T g := by
  obtain ⟨t, v, L, h1, h2, h3, h4, h5⟩ := k
  exact ⟨t, v, L, h1, h2, h3, f _ _ _ h4, h5⟩
theorem OCon.weaken {y : MethodName} {maxL : Nat} {ret : Option FieldType} {ws : List Jvm.Cond} {rm : Room} {as' : Array Value} {Q' : Option Value → Heap → List Loc → Prop} (k : OCon l Z y bytes maxL ret ws rm as' h Q) (f : ∀ v h L, Q v h L → Q' v h L) : OCon l Z y bytes maxL ret ws rm as' h Q' := by
  intro p e ha hc hk s m args below hf happ hP hK
  obtain ⟨n, o, h1, h2, h3, v, L, h4, h5, h6⟩ := k p e ha hc hk s m args below hf happ hP hK
  exact ⟨n, o, h1, h2, h3, v, L, h4, f _ _ _ h5, h6⟩
/-- a contract by a walk -/
theorem con {y : MethodName} {maxL : Nat} {ret : Option FieldType} {ws : List Jvm.Cond} {rm : Room} {as' : Array Value} (hp : plainFor y = true)
    (body : ∀ (p : Program) (e : Env) (s : State) (m : MethodId) (below : List Frame) (meth : Method) (c : Code) (s₁ : State), p.tables.exec = Jvm.exec → c.code = bytes → c.maxLocals = maxL → Z.Warmed39 s.vm → s.vm.findClass y.cls = some m.cls → meth.name = y.name → meth.sig.returnType = ret → meth.locks = false →
      Stand p l e rm s m as' below meth c s₁ [] 0 0 → s₁.heap = h → OEnds p e below s rm.cells rm.slots Q s₁ (entryFrame m as' maxL)) : OCon l Z y bytes maxL ret ws rm as' h Q := by
  refine MetFree.of_bodySF hp hisR ?_
  intro p e s m args below meth c s₁ Bd hml hP hK
  obtain ⟨rfl, hZ, hh⟩ := hP
  obtain ⟨t, v, L, h1, h2, h3, h4, h5⟩ := body p e s m below meth c s₁ Bd.exec Bd.bytes hml hZ (findClass_of_methodNamed Bd.named) (name_of_methodNamed Bd.named Bd.method).1 Bd.returns Bd.notSynchronized (Stand.of_body Bd) (by rw [← hh, Bd.state]; rfl)
  exact ⟨t, _, h1, h2, h3, v, L, rfl, h4, h5⟩
theorem entry {mm : MethodId} {as' : Array Value} {maxL : Nat} {g : JFrame} (q : entryFrame mm as' maxL = g) (k : OEnds p e below s C S Q T g) : OEnds p e below s C S Q T (entryFrame mm as' maxL) := q ▸ k
theorem s_iloadN (X : Stand p l e R s m args below meth c T locs cells slots) (hx : p.tables.exec = Jvm.exec) (hby : c.code = bytes) {i : Fin 4} {x : Int32} (hd : decode bytes pc = .ok (.iload_n i, 1)) (hl : L[i.val]? = some (.val (.int x))) (hn : pc + 1 = n) (k : OEnds p e below s C S Q T (mkF m n L (.int x :: st))) : OEnds p e below s C S Q T (mkF m pc L (st)) := by
  subst hn
  exact k.pre fun t r => XS.iloadN X.here hx rfl (hb hby hd) hl r
theorem s_iload (X : Stand p l e R s m args below meth c T locs cells slots) (hx : p.tables.exec = Jvm.exec) (hby : c.code = bytes) {i : Nat} {x : Int32} (hd : decode bytes pc = .ok (.iload i, 2)) (hl : L[i]? = some (.val (.int x))) (hn : pc + 2 = n) (k : OEnds p e below s C S Q T (mkF m n L (.int x :: st))) : OEnds p e below s C S Q T (mkF m pc L (st)) := by
  subst hn
  exact k.pre fun t r => XS.iload X.here hx rfl (hb hby hd) hl r
theorem s_lloadN (X : Stand p l e R s m args below meth c T locs cells slots) (hx : p.tables.exec = Jvm.exec) (hby : c.code = bytes) {i : Fin 4} {x : Int64} (hd : decode bytes pc = .ok (.lload_n i, 1)) (hl : L[i.val]? = some (.val (.long x))) (hn : pc + 1 = n) (k : OEnds p e below s C S Q T (mkF m n L (.long x :: st))) : OEnds p e below s C S Q T (mkF m pc L (st)) := by
  subst hn
  exact k.pre fun t r => XT.lloadN X.here hx rfl (hb hby hd) hl r
theorem s_lload (X : Stand p l e R s m args below meth c T locs cells slots) (hx : p.tables.exec = Jvm.exec) (hby : c.code = bytes) {i : Nat} {x : Int64} (hd : decode bytes pc = .ok (.lload i, 2)) (hl : L[i]? = some (.val (.long x))) (hn : pc + 2 = n) (k : OEnds p e below s C S Q T (mkF m n L (.long x :: st))) : OEnds p e below s C S Q T (mkF m pc L (st)) := by
  subst hn
  exact k.pre fun t r => XT.lload X.here hx rfl (hb hby hd) hl r
theorem s_aloadN (X : Stand p l e R s m args below meth c T locs cells slots) (hx : p.tables.exec = Jvm.exec) (hby : c.code = bytes) {i : Fin 4} {x : Value} (hd : decode bytes pc = .ok (.aload_n i, 1)) (hl : L[i.val]? = some (.val x)) (hv : x.isRef = true) (hn : pc + 1 = n) (k : OEnds p e below s C S Q T (mkF m n L (x :: st))) : OEnds p e below s C S Q T (mkF m pc L (st)) := by
  subst hn
  exact k.pre fun t r => XS.aloadN X.here hx rfl (hb hby hd) hl hv r
theorem s_aload (X : Stand p l e R s m args below meth c T locs cells slots) (hx : p.tables.exec = Jvm.exec) (hby : c.code = bytes) {i : Nat} {x : Value} (hd : decode bytes pc = .ok (.aload i, 2)) (hl : L[i]? = some (.val x)) (hv : x.isRef = true) (hn : pc + 2 = n) (k : OEnds p e below s C S Q T (mkF m n L (x :: st))) : OEnds p e below s C S Q T (mkF m pc L (st)) := by
  subst hn
  exact k.pre fun t r => XS.aload X.here hx rfl (hb hby hd) hl hv r
theorem s_istoreN (X : Stand p l e R s m args below meth c T locs cells slots) (hx : p.tables.exec = Jvm.exec) (hby : c.code = bytes) {i : Fin 4} {x : Int32} {L' : Array Slot} (hd : decode bytes pc = .ok (.istore_n i, 1)) (hl : storeLocals L i.val (.int x) = some L') (hn : pc + 1 = n) (k : OEnds p e below s C S Q T (mkF m n L' (st))) : OEnds p e below s C S Q T (mkF m pc L (.int x :: st)) := by
  subst hn
  exact k.pre fun t r => XS.istoreN X.here hx rfl (hb hby hd) rfl hl r
theorem s_istore (X : Stand p l e R s m args below meth c T locs cells slots) (hx : p.tables.exec = Jvm.exec) (hby : c.code = bytes) {i : Nat} {x : Int32} {L' : Array Slot} (hd : decode bytes pc = .ok (.istore i, 2)) (hl : storeLocals L i (.int x) = some L') (hn : pc + 2 = n) (k : OEnds p e below s C S Q T (mkF m n L' (st))) : OEnds p e below s C S Q T (mkF m pc L (.int x :: st)) := by
  subst hn
  exact k.pre fun t r => XS.istore X.here hx rfl (hb hby hd) rfl hl r
theorem s_lstoreN (X : Stand p l e R s m args below meth c T locs cells slots) (hx : p.tables.exec = Jvm.exec) (hby : c.code = bytes) {i : Fin 4} {x : Int64} {L' : Array Slot} (hd : decode bytes pc = .ok (.lstore_n i, 1)) (hl : storeLocals L i.val (.long x) = some L') (hn : pc + 1 = n) (k : OEnds p e below s C S Q T (mkF m n L' (st))) : OEnds p e below s C S Q T (mkF m pc L (.long x :: st)) := by
  subst hn
  exact k.pre fun t r => XT.lstoreN X.here hx rfl (hb hby hd) rfl hl r
theorem s_lstore (X : Stand p l e R s m args below meth c T locs cells slots) (hx : p.tables.exec = Jvm.exec) (hby : c.code = bytes) {i : Nat} {x : Int64} {L' : Array Slot} (hd : decode bytes pc = .ok (.lstore i, 2)) (hl : storeLocals L i (.long x) = some L') (hn : pc + 2 = n) (k : OEnds p e below s C S Q T (mkF m n L' (st))) : OEnds p e below s C S Q T (mkF m pc L (.long x :: st)) := by
  subst hn
  exact k.pre fun t r => XT.lstore X.here hx rfl (hb hby hd) rfl hl r
theorem s_astoreN (X : Stand p l e R s m args below meth c T locs cells slots) (hx : p.tables.exec = Jvm.exec) (hby : c.code = bytes) {i : Fin 4} {x : Value} {L' : Array Slot} (hd : decode bytes pc = .ok (.astore_n i, 1)) (hv : x.isRef = true) (hl : storeLocals L i.val x = some L') (hn : pc + 1 = n) (k : OEnds p e below s C S Q T (mkF m n L' (st))) : OEnds p e below s C S Q T (mkF m pc L (x :: st)) := by
  subst hn
  exact k.pre fun t r => XS.astoreN X.here hx rfl (hb hby hd) rfl hv hl r
theorem s_astore (X : Stand p l e R s m args below meth c T locs cells slots) (hx : p.tables.exec = Jvm.exec) (hby : c.code = bytes) {i : Nat} {x : Value} {L' : Array Slot} (hd : decode bytes pc = .ok (.astore i, 2)) (hv : x.isRef = true) (hl : storeLocals L i x = some L') (hn : pc + 2 = n) (k : OEnds p e below s C S Q T (mkF m n L' (st))) : OEnds p e below s C S Q T (mkF m pc L (x :: st)) := by
  subst hn
  exact k.pre fun t r => XS.astore X.here hx rfl (hb hby hd) rfl hv hl r
theorem s_iinc (X : Stand p l e R s m args below meth c T locs cells slots) (hx : p.tables.exec = Jvm.exec) (hby : c.code = bytes) {i : Nat} {cst : Int} {x v : Int32} {L' : Array Slot} (hd : decode bytes pc = .ok (.iinc i cst, 3)) (hv : Int32.ofInt cst = v) (hi : L[i]? = some (.val (.int x))) (hl : storeLocals L i (.int (x + v)) = some L') (hn : pc + 3 = n) (k : OEnds p e below s C S Q T (mkF m n L' (st))) : OEnds p e below s C S Q T (mkF m pc L (st)) := by
  subst hn
  exact k.pre fun t r => XT.iincV X.here hx rfl _ (hb hby hd) hv hi hl r
theorem s_iconst (X : Stand p l e R s m args below meth c T locs cells slots) (hx : p.tables.exec = Jvm.exec) (hby : c.code = bytes) {i : Int} {v : Int32} (hd : decode bytes pc = .ok (.iconst i, 1)) (hv : Int32.ofInt i = v) (hn : pc + 1 = n) (k : OEnds p e below s C S Q T (mkF m n L (.int v :: st))) : OEnds p e below s C S Q T (mkF m pc L (st)) := by
  subst hn
  exact k.pre fun t r => XT.iconstV X.here hx rfl _ (hb hby hd) hv r
theorem s_bipush (X : Stand p l e R s m args below meth c T locs cells slots) (hx : p.tables.exec = Jvm.exec) (hby : c.code = bytes) {i : Int} {v : Int32} (hd : decode bytes pc = .ok (.bipush i, 2)) (hv : (Int8.ofInt i).toInt32 = v) (hn : pc + 2 = n) (k : OEnds p e below s C S Q T (mkF m n L (.int v :: st))) : OEnds p e below s C S Q T (mkF m pc L (st)) := by
  subst hn
  exact k.pre fun t r => XT.bipushV X.here hx rfl _ (hb hby hd) hv r
theorem s_sipush (X : Stand p l e R s m args below meth c T locs cells slots) (hx : p.tables.exec = Jvm.exec) (hby : c.code = bytes) {i : Int} {v : Int32} (hd : decode bytes pc = .ok (.sipush i, 3)) (hv : (Int16.ofInt i).toInt32 = v) (hn : pc + 3 = n) (k : OEnds p e below s C S Q T (mkF m n L (.int v :: st))) : OEnds p e below s C S Q T (mkF m pc L (st)) := by
  subst hn
  exact k.pre fun t r => XT.sipushV X.here hx rfl _ (hb hby hd) hv r
theorem s_lconst (X : Stand p l e R s m args below meth c T locs cells slots) (hx : p.tables.exec = Jvm.exec) (hby : c.code = bytes) {i : Fin 2} {v : Int64} (hd : decode bytes pc = .ok (.lconst i, 1)) (hv : Int64.ofNat i = v) (hn : pc + 1 = n) (k : OEnds p e below s C S Q T (mkF m n L (.long v :: st))) : OEnds p e below s C S Q T (mkF m pc L (st)) := by
  subst hn
  exact k.pre fun t r => XT.lconstV X.here hx rfl _ (hb hby hd) hv r
theorem s_aconstNull (X : Stand p l e R s m args below meth c T locs cells slots) (hx : p.tables.exec = Jvm.exec) (hby : c.code = bytes)  (hd : decode bytes pc = .ok (.aconst_null, 1)) (hn : pc + 1 = n) (k : OEnds p e below s C S Q T (mkF m n L (.null :: st))) : OEnds p e below s C S Q T (mkF m pc L (st)) := by
  subst hn
  exact k.pre fun t r => XS.aconstNull X.here hx rfl (hb hby hd)  r
theorem s_iadd (X : Stand p l e R s m args below meth c T locs cells slots) (hx : p.tables.exec = Jvm.exec) (hby : c.code = bytes) {x y : Int32} (hd : decode bytes pc = .ok (.iadd, 1)) (hn : pc + 1 = n) (k : OEnds p e below s C S Q T (mkF m n L (.int (x + y) :: st))) : OEnds p e below s C S Q T (mkF m pc L (.int y :: .int x :: st)) := by
  subst hn
  exact k.pre fun t r => XS.iadd X.here hx rfl (hb hby hd) rfl r
theorem s_isub (X : Stand p l e R s m args below meth c T locs cells slots) (hx : p.tables.exec = Jvm.exec) (hby : c.code = bytes) {x y : Int32} (hd : decode bytes pc = .ok (.isub, 1)) (hn : pc + 1 = n) (k : OEnds p e below s C S Q T (mkF m n L (.int (x - y) :: st))) : OEnds p e below s C S Q T (mkF m pc L (.int y :: .int x :: st)) := by
  subst hn
  exact k.pre fun t r => XS.isub X.here hx rfl (hb hby hd) rfl r
theorem s_iand (X : Stand p l e R s m args below meth c T locs cells slots) (hx : p.tables.exec = Jvm.exec) (hby : c.code = bytes) {x y : Int32} (hd : decode bytes pc = .ok (.iand, 1)) (hn : pc + 1 = n) (k : OEnds p e below s C S Q T (mkF m n L (.int (x &&& y) :: st))) : OEnds p e below s C S Q T (mkF m pc L (.int y :: .int x :: st)) := by
  subst hn
  exact k.pre fun t r => XS.iand X.here hx rfl (hb hby hd) rfl r
theorem s_imul (X : Stand p l e R s m args below meth c T locs cells slots) (hx : p.tables.exec = Jvm.exec) (hby : c.code = bytes) {x y : Int32} (hd : decode bytes pc = .ok (.imul, 1)) (hn : pc + 1 = n) (k : OEnds p e below s C S Q T (mkF m n L (.int (x * y) :: st))) : OEnds p e below s C S Q T (mkF m pc L (.int y :: .int x :: st)) := by
  subst hn
  exact k.pre fun t r => XS.imul X.here hx rfl (hb hby hd) rfl r
theorem s_ixor (X : Stand p l e R s m args below meth c T locs cells slots) (hx : p.tables.exec = Jvm.exec) (hby : c.code = bytes) {x y : Int32} (hd : decode bytes pc = .ok (.ixor, 1)) (hn : pc + 1 = n) (k : OEnds p e below s C S Q T (mkF m n L (.int (x ^^^ y) :: st))) : OEnds p e below s C S Q T (mkF m pc L (.int y :: .int x :: st)) := by
  subst hn
  exact k.pre fun t r => XT.ixor X.here hx rfl (hb hby hd) rfl r
theorem s_ior (X : Stand p l e R s m args below meth c T locs cells slots) (hx : p.tables.exec = Jvm.exec) (hby : c.code = bytes) {x y : Int32} (hd : decode bytes pc = .ok (.ior, 1)) (hn : pc + 1 = n) (k : OEnds p e below s C S Q T (mkF m n L (.int (x ||| y) :: st))) : OEnds p e below s C S Q T (mkF m pc L (.int y :: .int x :: st)) := by
  subst hn
  exact k.pre fun t r => XT.ior X.here hx rfl (hb hby hd) rfl r
theorem s_ishl (X : Stand p l e R s m args below meth c T locs cells slots) (hx : p.tables.exec = Jvm.exec) (hby : c.code = bytes) {x y : Int32} (hd : decode bytes pc = .ok (.ishl, 1)) (hn : pc + 1 = n) (k : OEnds p e below s C S Q T (mkF m n L (.int (x <<< (y &&& 31)) :: st))) : OEnds p e below s C S Q T (mkF m pc L (.int y :: .int x :: st)) := by
  subst hn
  exact k.pre fun t r => XT.ishl X.here hx rfl (hb hby hd) rfl r
theorem s_ishr (X : Stand p l e R s m args below meth c T locs cells slots) (hx : p.tables.exec = Jvm.exec) (hby : c.code = bytes) {x y : Int32} (hd : decode bytes pc = .ok (.ishr, 1)) (hn : pc + 1 = n) (k : OEnds p e below s C S Q T (mkF m n L (.int (x >>> (y &&& 31)) :: st))) : OEnds p e below s C S Q T (mkF m pc L (.int y :: .int x :: st)) := by
  subst hn
  exact k.pre fun t r => XT.ishr X.here hx rfl (hb hby hd) rfl r
theorem s_iushr (X : Stand p l e R s m args below meth c T locs cells slots) (hx : p.tables.exec = Jvm.exec) (hby : c.code = bytes) {x y : Int32} (hd : decode bytes pc = .ok (.iushr, 1)) (hn : pc + 1 = n) (k : OEnds p e below s C S Q T (mkF m n L (.int (XT.ushr x y) :: st))) : OEnds p e below s C S Q T (mkF m pc L (.int y :: .int x :: st)) := by
  subst hn
  exact k.pre fun t r => XT.iushr X.here hx rfl (hb hby hd) rfl r
theorem s_ladd (X : Stand p l e R s m args below meth c T locs cells slots) (hx : p.tables.exec = Jvm.exec) (hby : c.code = bytes) {x y : Int64} (hd : decode bytes pc = .ok (.ladd, 1)) (hn : pc + 1 = n) (k : OEnds p e below s C S Q T (mkF m n L (.long (x + y) :: st))) : OEnds p e below s C S Q T (mkF m pc L (.long y :: .long x :: st)) := by
  subst hn
  exact k.pre fun t r => XT.ladd X.here hx rfl (hb hby hd) rfl r
theorem s_lsub (X : Stand p l e R s m args below meth c T locs cells slots) (hx : p.tables.exec = Jvm.exec) (hby : c.code = bytes) {x y : Int64} (hd : decode bytes pc = .ok (.lsub, 1)) (hn : pc + 1 = n) (k : OEnds p e below s C S Q T (mkF m n L (.long (x - y) :: st))) : OEnds p e below s C S Q T (mkF m pc L (.long y :: .long x :: st)) := by
  subst hn
  exact k.pre fun t r => XT.lsub X.here hx rfl (hb hby hd) rfl r
theorem s_lmul (X : Stand p l e R s m args below meth c T locs cells slots) (hx : p.tables.exec = Jvm.exec) (hby : c.code = bytes) {x y : Int64} (hd : decode bytes pc = .ok (.lmul, 1)) (hn : pc + 1 = n) (k : OEnds p e below s C S Q T (mkF m n L (.long (x * y) :: st))) : OEnds p e below s C S Q T (mkF m pc L (.long y :: .long x :: st)) := by
  subst hn
  exact k.pre fun t r => XT.lmul X.here hx rfl (hb hby hd) rfl r
theorem s_land (X : Stand p l e R s m args below meth c T locs cells slots) (hx : p.tables.exec = Jvm.exec) (hby : c.code = bytes) {x y : Int64} (hd : decode bytes pc = .ok (.land, 1)) (hn : pc + 1 = n) (k : OEnds p e below s C S Q T (mkF m n L (.long (x &&& y) :: st))) : OEnds p e below s C S Q T (mkF m pc L (.long y :: .long x :: st)) := by
  subst hn
  exact k.pre fun t r => XT.land X.here hx rfl (hb hby hd) rfl r
theorem s_lor (X : Stand p l e R s m args below meth c T locs cells slots) (hx : p.tables.exec = Jvm.exec) (hby : c.code = bytes) {x y : Int64} (hd : decode bytes pc = .ok (.lor, 1)) (hn : pc + 1 = n) (k : OEnds p e below s C S Q T (mkF m n L (.long (x ||| y) :: st))) : OEnds p e below s C S Q T (mkF m pc L (.long y :: .long x :: st)) := by
  subst hn
  exact k.pre fun t r => XT.lor X.here hx rfl (hb hby hd) rfl r
theorem s_lxor (X : Stand p l e R s m args below meth c T locs cells slots) (hx : p.tables.exec = Jvm.exec) (hby : c.code = bytes) {x y : Int64} (hd : decode bytes pc = .ok (.lxor, 1)) (hn : pc + 1 = n) (k : OEnds p e below s C S Q T (mkF m n L (.long (x ^^^ y) :: st))) : OEnds p e below s C S Q T (mkF m pc L (.long y :: .long x :: st)) := by
  subst hn
  exact k.pre fun t r => XT.lxor X.here hx rfl (hb hby hd) rfl r
theorem s_lshl (X : Stand p l e R s m args below meth c T locs cells slots) (hx : p.tables.exec = Jvm.exec) (hby : c.code = bytes) {x : Int64} {y : Int32} (hd : decode bytes pc = .ok (.lshl, 1)) (hn : pc + 1 = n) (k : OEnds p e below s C S Q T (mkF m n L (.long (x <<< (y.toInt64 &&& 63)) :: st))) : OEnds p e below s C S Q T (mkF m pc L (.int y :: .long x :: st)) := by
  subst hn
  exact k.pre fun t r => XT.lshl X.here hx rfl (hb hby hd) rfl r
theorem s_lshr (X : Stand p l e R s m args below meth c T locs cells slots) (hx : p.tables.exec = Jvm.exec) (hby : c.code = bytes) {x : Int64} {y : Int32} (hd : decode bytes pc = .ok (.lshr, 1)) (hn : pc + 1 = n) (k : OEnds p e below s C S Q T (mkF m n L (.long (x >>> (y.toInt64 &&& 63)) :: st))) : OEnds p e below s C S Q T (mkF m pc L (.int y :: .long x :: st)) := by
  subst hn
  exact k.pre fun t r => XT.lshr X.here hx rfl (hb hby hd) rfl r
theorem s_lushr (X : Stand p l e R s m args below meth c T locs cells slots) (hx : p.tables.exec = Jvm.exec) (hby : c.code = bytes) {x : Int64} {y : Int32} (hd : decode bytes pc = .ok (.lushr, 1)) (hn : pc + 1 = n) (k : OEnds p e below s C S Q T (mkF m n L (.long (XT.ushrL x y) :: st))) : OEnds p e below s C S Q T (mkF m pc L (.int y :: .long x :: st)) := by
  subst hn
  exact k.pre fun t r => XT.lushr X.here hx rfl (hb hby hd) rfl r
theorem s_idiv (X : Stand p l e R s m args below meth c T locs cells slots) (hx : p.tables.exec = Jvm.exec) (hby : c.code = bytes) {x y : Int32} (hd : decode bytes pc = .ok (.idiv, 1)) (hy : y ≠ 0) (hn : pc + 1 = n) (k : OEnds p e below s C S Q T (mkF m n L (.int (x / y) :: st))) : OEnds p e below s C S Q T (mkF m pc L (.int y :: .int x :: st)) := by
  subst hn
  exact k.pre fun t r => XS.idiv X.here hx rfl (hb hby hd) rfl hy r
theorem s_ldiv (X : Stand p l e R s m args below meth c T locs cells slots) (hx : p.tables.exec = Jvm.exec) (hby : c.code = bytes) {x y : Int64} (hd : decode bytes pc = .ok (.ldiv, 1)) (hy : y ≠ 0) (hn : pc + 1 = n) (k : OEnds p e below s C S Q T (mkF m n L (.long (x / y) :: st))) : OEnds p e below s C S Q T (mkF m pc L (.long y :: .long x :: st)) := by
  subst hn
  exact k.pre fun t r => XT.ldiv X.here hx rfl (hb hby hd) rfl hy r
theorem s_irem (X : Stand p l e R s m args below meth c T locs cells slots) (hx : p.tables.exec = Jvm.exec) (hby : c.code = bytes) {x y : Int32} (hd : decode bytes pc = .ok (.irem, 1)) (hy : y ≠ 0) (hn : pc + 1 = n) (k : OEnds p e below s C S Q T (mkF m n L (.int (x % y) :: st))) : OEnds p e below s C S Q T (mkF m pc L (.int y :: .int x :: st)) := by
  subst hn
  exact k.pre fun t r => iremM X hx rfl (hb hby hd) rfl hy r
theorem s_lrem (X : Stand p l e R s m args below meth c T locs cells slots) (hx : p.tables.exec = Jvm.exec) (hby : c.code = bytes) {x y : Int64} (hd : decode bytes pc = .ok (.lrem, 1)) (hy : y ≠ 0) (hn : pc + 1 = n) (k : OEnds p e below s C S Q T (mkF m n L (.long (x % y) :: st))) : OEnds p e below s C S Q T (mkF m pc L (.long y :: .long x :: st)) := by
  subst hn
  rw [← lrem_mod] at k
  exact k.pre fun t r => XT.lrem X.here hx rfl (hb hby hd) rfl hy r
theorem s_ineg (X : Stand p l e R s m args below meth c T locs cells slots) (hx : p.tables.exec = Jvm.exec) (hby : c.code = bytes) {x : Int32} (hd : decode bytes pc = .ok (.ineg, 1)) (hn : pc + 1 = n) (k : OEnds p e below s C S Q T (mkF m n L (.int (-x) :: st))) : OEnds p e below s C S Q T (mkF m pc L (.int x :: st)) := by
  subst hn
  exact k.pre fun t r => XS.ineg X.here hx rfl (hb hby hd) rfl r
theorem s_lneg (X : Stand p l e R s m args below meth c T locs cells slots) (hx : p.tables.exec = Jvm.exec) (hby : c.code = bytes) {x : Int64} (hd : decode bytes pc = .ok (.lneg, 1)) (hn : pc + 1 = n) (k : OEnds p e below s C S Q T (mkF m n L (.long (-x) :: st))) : OEnds p e below s C S Q T (mkF m pc L (.long x :: st)) := by
  subst hn
  exact k.pre fun t r => XT.lneg X.here hx rfl (hb hby hd) rfl r
theorem s_i2l (X : Stand p l e R s m args below meth c T locs cells slots) (hx : p.tables.exec = Jvm.exec) (hby : c.code = bytes) {x : Int32} (hd : decode bytes pc = .ok (.i2l, 1)) (hn : pc + 1 = n) (k : OEnds p e below s C S Q T (mkF m n L (.long x.toInt64 :: st))) : OEnds p e below s C S Q T (mkF m pc L (.int x :: st)) := by
  subst hn
  exact k.pre fun t r => XT.i2l X.here hx rfl (hb hby hd) rfl r
theorem s_l2i (X : Stand p l e R s m args below meth c T locs cells slots) (hx : p.tables.exec = Jvm.exec) (hby : c.code = bytes) {x : Int64} (hd : decode bytes pc = .ok (.l2i, 1)) (hn : pc + 1 = n) (k : OEnds p e below s C S Q T (mkF m n L (.int x.toInt32 :: st))) : OEnds p e below s C S Q T (mkF m pc L (.long x :: st)) := by
  subst hn
  exact k.pre fun t r => XT.l2i X.here hx rfl (hb hby hd) rfl r
theorem s_i2b (X : Stand p l e R s m args below meth c T locs cells slots) (hx : p.tables.exec = Jvm.exec) (hby : c.code = bytes) {x : Int32} (hd : decode bytes pc = .ok (.i2b, 1)) (hn : pc + 1 = n) (k : OEnds p e below s C S Q T (mkF m n L (.int x.toInt8.toInt32 :: st))) : OEnds p e below s C S Q T (mkF m pc L (.int x :: st)) := by
  subst hn
  exact k.pre fun t r => XT.i2b X.here hx rfl (hb hby hd) rfl r
theorem s_i2c (X : Stand p l e R s m args below meth c T locs cells slots) (hx : p.tables.exec = Jvm.exec) (hby : c.code = bytes) {x : Int32} (hd : decode bytes pc = .ok (.i2c, 1)) (hn : pc + 1 = n) (k : OEnds p e below s C S Q T (mkF m n L (.int x.toUInt32.toUInt16.toUInt32.toInt32 :: st))) : OEnds p e below s C S Q T (mkF m pc L (.int x :: st)) := by
  subst hn
  exact k.pre fun t r => XT.i2c X.here hx rfl (hb hby hd) rfl r
theorem s_i2s (X : Stand p l e R s m args below meth c T locs cells slots) (hx : p.tables.exec = Jvm.exec) (hby : c.code = bytes) {x : Int32} (hd : decode bytes pc = .ok (.i2s, 1)) (hn : pc + 1 = n) (k : OEnds p e below s C S Q T (mkF m n L (.int x.toInt16.toInt32 :: st))) : OEnds p e below s C S Q T (mkF m pc L (.int x :: st)) := by
  subst hn
  exact k.pre fun t r => XT.i2s X.here hx rfl (hb hby hd) rfl r
theorem s_lcmp (X : Stand p l e R s m args below meth c T locs cells slots) (hx : p.tables.exec = Jvm.exec) (hby : c.code = bytes) {x y : Int64} (hd : decode bytes pc = .ok (.lcmp, 1)) (hn : pc + 1 = n) (k : OEnds p e below s C S Q T (mkF m n L (.int (XT.cmpL x y) :: st))) : OEnds p e below s C S Q T (mkF m pc L (.long y :: .long x :: st)) := by
  subst hn
  exact k.pre fun t r => XT.lcmp X.here hx rfl (hb hby hd) rfl r
theorem s_dup (X : Stand p l e R s m args below meth c T locs cells slots) (hx : p.tables.exec = Jvm.exec) (hby : c.code = bytes) {x : Value} (hd : decode bytes pc = .ok (.dup, 1)) (hc : x.category = 1) (hn : pc + 1 = n) (k : OEnds p e below s C S Q T (mkF m n L (x :: x :: st))) : OEnds p e below s C S Q T (mkF m pc L (x :: st)) := by
  subst hn
  exact k.pre fun t r => XS.dup X.here hx rfl (hb hby hd) rfl hc r
theorem s_pop (X : Stand p l e R s m args below meth c T locs cells slots) (hx : p.tables.exec = Jvm.exec) (hby : c.code = bytes) {x : Value} (hd : decode bytes pc = .ok (.pop, 1)) (hc : x.category = 1) (hn : pc + 1 = n) (k : OEnds p e below s C S Q T (mkF m n L (st))) : OEnds p e below s C S Q T (mkF m pc L (x :: st)) := by
  subst hn
  exact k.pre fun t r => XT.pop X.here hx rfl (hb hby hd) rfl hc r
theorem s_dupX1 (X : Stand p l e R s m args below meth c T locs cells slots) (hx : p.tables.exec = Jvm.exec) (hby : c.code = bytes) {x y : Value} (hd : decode bytes pc = .ok (.dup_x1, 1)) (hc : x.category = 1) (hc' : y.category = 1) (hn : pc + 1 = n) (k : OEnds p e below s C S Q T (mkF m n L (x :: y :: x :: st))) : OEnds p e below s C S Q T (mkF m pc L (x :: y :: st)) := by
  subst hn
  exact k.pre fun t r => XT.dupX1 X.here hx rfl (hb hby hd) rfl hc hc' r
theorem s_dup2 (X : Stand p l e R s m args below meth c T locs cells slots) (hx : p.tables.exec = Jvm.exec) (hby : c.code = bytes) {x y : Value} (hd : decode bytes pc = .ok (.dup2, 1)) (hc : x.category = 1) (hc' : y.category = 1) (hn : pc + 1 = n) (k : OEnds p e below s C S Q T (mkF m n L (x :: y :: x :: y :: st))) : OEnds p e below s C S Q T (mkF m pc L (x :: y :: st)) := by
  subst hn
  exact k.pre fun t r => XT.dup2 X.here hx rfl (hb hby hd) rfl hc hc' r
theorem s_dup2L (X : Stand p l e R s m args below meth c T locs cells slots) (hx : p.tables.exec = Jvm.exec) (hby : c.code = bytes) {x : Int64} (hd : decode bytes pc = .ok (.dup2, 1)) (hn : pc + 1 = n) (k : OEnds p e below s C S Q T (mkF m n L (.long x :: .long x :: st))) : OEnds p e below s C S Q T (mkF m pc L (.long x :: st)) := by
  subst hn
  exact k.pre fun t r => XT.dup2L X.here hx rfl (hb hby hd) rfl r
theorem s_goto (X : Stand p l e R s m args below meth c T locs cells slots) (hx : p.tables.exec = Jvm.exec) (hby : c.code = bytes) {o : Int}  (hd : decode bytes pc = .ok (.goto o, 3)) (ho : 0 ≤ (pc : Int) + o) (hn : ((pc : Int) + o).toNat = n) (k : OEnds p e below s C S Q T (mkF m n L st)) : OEnds p e below s C S Q T (mkF m pc L (st)) :=
  k.pre fun t r => XS.goto X.here hx rfl rfl (hb hby hd)  ho hn r
theorem s_ifY (X : Stand p l e R s m args below meth c T locs cells slots) (hx : p.tables.exec = Jvm.exec) (hby : c.code = bytes) {o : Int} {cd : ClassFile.Cond} {x : Int32} (hd : decode bytes pc = .ok (.ifCond cd o, 3)) (hc : ifCond.holds cd x = true) (ho : 0 ≤ (pc : Int) + o) (hn : ((pc : Int) + o).toNat = n) (k : OEnds p e below s C S Q T (mkF m n L st)) : OEnds p e below s C S Q T (mkF m pc L (.int x :: st)) :=
  k.pre fun t r => XS.ifYes X.here hx rfl rfl (hb hby hd) rfl hc ho hn r
theorem s_ifN (X : Stand p l e R s m args below meth c T locs cells slots) (hx : p.tables.exec = Jvm.exec) (hby : c.code = bytes) {o : Int} {cd : ClassFile.Cond} {x : Int32} (hd : decode bytes pc = .ok (.ifCond cd o, 3)) (hc : ifCond.holds cd x = false) (hn : pc + 3 = n) (k : OEnds p e below s C S Q T (mkF m n L st)) : OEnds p e below s C S Q T (mkF m pc L (.int x :: st)) := by
  subst hn
  exact k.pre fun t r => XS.ifNo X.here hx rfl (hb hby hd) rfl hc r
theorem s_icmpY (X : Stand p l e R s m args below meth c T locs cells slots) (hx : p.tables.exec = Jvm.exec) (hby : c.code = bytes) {o : Int} {cd : ClassFile.Cond} {x y : Int32} (hd : decode bytes pc = .ok (.if_icmp cd o, 3)) (hc : if_icmp.holds cd x y = true) (ho : 0 ≤ (pc : Int) + o) (hn : ((pc : Int) + o).toNat = n) (k : OEnds p e below s C S Q T (mkF m n L st)) : OEnds p e below s C S Q T (mkF m pc L (.int y :: .int x :: st)) :=
  k.pre fun t r => XS.icmpYes X.here hx rfl rfl (hb hby hd) rfl hc ho hn r
theorem s_icmpN (X : Stand p l e R s m args below meth c T locs cells slots) (hx : p.tables.exec = Jvm.exec) (hby : c.code = bytes) {o : Int} {cd : ClassFile.Cond} {x y : Int32} (hd : decode bytes pc = .ok (.if_icmp cd o, 3)) (hc : if_icmp.holds cd x y = false) (hn : pc + 3 = n) (k : OEnds p e below s C S Q T (mkF m n L st)) : OEnds p e below s C S Q T (mkF m pc L (.int y :: .int x :: st)) := by
  subst hn
  exact k.pre fun t r => XS.icmpNo X.here hx rfl (hb hby hd) rfl hc r
theorem s_acmpY (X : Stand p l e R s m args below meth c T locs cells slots) (hx : p.tables.exec = Jvm.exec) (hby : c.code = bytes) {o : Int} {cd : ClassFile.ACond} {x y : Value} (hd : decode bytes pc = .ok (.if_acmp cd o, 3)) (h1 : x.isRef = true) (h2 : y.isRef = true) (hc : XT.acmp cd x y = true) (ho : 0 ≤ (pc : Int) + o) (hn : ((pc : Int) + o).toNat = n) (k : OEnds p e below s C S Q T (mkF m n L st)) : OEnds p e below s C S Q T (mkF m pc L (y :: x :: st)) :=
  k.pre fun t r => XT.acmpYes X.here hx rfl rfl (hb hby hd) rfl h1 h2 hc ho hn r
theorem s_acmpN (X : Stand p l e R s m args below meth c T locs cells slots) (hx : p.tables.exec = Jvm.exec) (hby : c.code = bytes) {o : Int} {cd : ClassFile.ACond} {x y : Value} (hd : decode bytes pc = .ok (.if_acmp cd o, 3)) (h1 : x.isRef = true) (h2 : y.isRef = true) (hc : XT.acmp cd x y = false) (hn : pc + 3 = n) (k : OEnds p e below s C S Q T (mkF m n L st)) : OEnds p e below s C S Q T (mkF m pc L (y :: x :: st)) := by
  subst hn
  exact k.pre fun t r => XT.acmpNo X.here hx rfl (hb hby hd) rfl h1 h2 hc r
theorem s_nullY (X : Stand p l e R s m args below meth c T locs cells slots) (hx : p.tables.exec = Jvm.exec) (hby : c.code = bytes) {o : Int} {x : Value} (hd : decode bytes pc = .ok (.ifnull o, 3)) (hv : x = .null) (ho : 0 ≤ (pc : Int) + o) (hn : ((pc : Int) + o).toNat = n) (k : OEnds p e below s C S Q T (mkF m n L st)) : OEnds p e below s C S Q T (mkF m pc L (x :: st)) :=
  k.pre fun t r => XT.nullYes X.here hx rfl rfl (hb hby hd) rfl hv ho hn r
theorem s_nullN (X : Stand p l e R s m args below meth c T locs cells slots) (hx : p.tables.exec = Jvm.exec) (hby : c.code = bytes) {o : Int} {x : Value} (hd : decode bytes pc = .ok (.ifnull o, 3)) (h1 : x.isRef = true) (hv : ¬ x = .null) (hn : pc + 3 = n) (k : OEnds p e below s C S Q T (mkF m n L st)) : OEnds p e below s C S Q T (mkF m pc L (x :: st)) := by
  subst hn
  exact k.pre fun t r => XT.nullNo X.here hx rfl (hb hby hd) rfl h1 hv r
theorem s_nonnullY (X : Stand p l e R s m args below meth c T locs cells slots) (hx : p.tables.exec = Jvm.exec) (hby : c.code = bytes) {o : Int} {x : Value} (hd : decode bytes pc = .ok (.ifnonnull o, 3)) (h1 : x.isRef = true) (hv : ¬ x = .null) (ho : 0 ≤ (pc : Int) + o) (hn : ((pc : Int) + o).toNat = n) (k : OEnds p e below s C S Q T (mkF m n L st)) : OEnds p e below s C S Q T (mkF m pc L (x :: st)) :=
  k.pre fun t r => XT.nonnullYes X.here hx rfl rfl (hb hby hd) rfl h1 hv ho hn r
theorem s_nonnullN (X : Stand p l e R s m args below meth c T locs cells slots) (hx : p.tables.exec = Jvm.exec) (hby : c.code = bytes) {o : Int} {x : Value} (hd : decode bytes pc = .ok (.ifnonnull o, 3)) (hv : x = .null) (hn : pc + 3 = n) (k : OEnds p e below s C S Q T (mkF m n L st)) : OEnds p e below s C S Q T (mkF m pc L (x :: st)) := by
  subst hn
  exact k.pre fun t r => XT.nonnullNo X.here hx rfl (hb hby hd) rfl hv r
theorem s_iincC (X : Stand p l e R s m args below meth c T locs cells slots) (hx : p.tables.exec = Jvm.exec) (hby : c.code = bytes) {i : Nat} {cst : Int} {x v z : Int32} {L' : Array Slot} (hd : decode bytes pc = .ok (.iinc i cst, 3)) (hv : Int32.ofInt cst = v) (hi : L[i]? = some (.val (.int x))) (hz : x + v = z) (hl : storeLocals L i (.int z) = some L') (hn : pc + 3 = n) (k : OEnds p e below s C S Q T (mkF m n L' (st))) : OEnds p e below s C S Q T (mkF m pc L (st)) := by
  subst hn
  exact k.pre fun t r => XT.iincV X.here hx rfl _ (hb hby hd) hv hi (hz ▸ hl) r

theorem s_fold {x z : Int32} (hz : x = z) (k : OEnds p e below s C S Q T (mkF m pc L (.int z :: st))) : OEnds p e below s C S Q T (mkF m pc L (.int x :: st)) := hz ▸ k
theorem s_foldJ {x z : Int64} (hz : x = z) (k : OEnds p e below s C S Q T (mkF m pc L (.long z :: st))) : OEnds p e below s C S Q T (mkF m pc L (.long x :: st)) := hz ▸ k
/-- the constants of the pool -/
theorem s_ldcI (X : Stand p l e R s m args below meth c T locs cells slots) (hx : p.tables.exec = Jvm.exec) (hby : c.code = bytes) (hZ : Z.Warmed39 s.vm) {own : String} {index : Nat} {v : Int32} (hown : s.vm.findClass own = some m.cls) (w : (Jvm.Cond.constant own index v).before a0 Z = true) (hd : decode bytes pc = .ok (.ldc index, 2)) (hn : pc + 2 = n) (k : OEnds p e below s C S Q T (mkF m n L (.int v :: st))) : OEnds p e below s C S Q T (mkF m pc L st) := by
  subst hn
  exact k.pre fun t r => X.ldcI hx hown (mvT hZ w) rfl (hb hby hd) r
theorem s_ldcWI (X : Stand p l e R s m args below meth c T locs cells slots) (hx : p.tables.exec = Jvm.exec) (hby : c.code = bytes) (hZ : Z.Warmed39 s.vm) {own : String} {index : Nat} {v : Int32} (hown : s.vm.findClass own = some m.cls) (w : (Jvm.Cond.constant own index v).before a0 Z = true) (hd : decode bytes pc = .ok (.ldc_w index, 3)) (hn : pc + 3 = n) (k : OEnds p e below s C S Q T (mkF m n L (.int v :: st))) : OEnds p e below s C S Q T (mkF m pc L st) := by
  subst hn
  exact k.pre fun t r => X.ldcWI hx hown (mvT hZ w) rfl (hb hby hd) r
theorem s_ldc2J (X : Stand p l e R s m args below meth c T locs cells slots) (hx : p.tables.exec = Jvm.exec) (hby : c.code = bytes) (hZ : Z.Warmed39 s.vm) {own : String} {index : Nat} {v : Int64} (hown : s.vm.findClass own = some m.cls) (w : (Jvm.Cond.constantLong own index v).before a0 Z = true) (hd : decode bytes pc = .ok (.ldc2_w index, 3)) (hn : pc + 3 = n) (k : OEnds p e below s C S Q T (mkF m n L (.long v :: st))) : OEnds p e below s C S Q T (mkF m pc L st) := by
  subst hn
  exact k.pre fun t r => X.ldc2J hx hown (mvT hZ w) rfl (hb hby hd) r
/-- the returns -/
theorem s_retV (X : Stand p l e R s m args below meth c T locs cells slots) (hx : p.tables.exec = Jvm.exec) (hby : c.code = bytes) (hlk : meth.locks = false) {t : FieldType} (hret : meth.sig.returnType = some t) {w : Value} {i : Instr} (hi : (i = .ireturn ∧ (t = .int ∨ t = .boolean ∨ t = .byte ∨ t = .char ∨ t = .short) ∧ ∃ z, w = .int z) ∨ (i = .lreturn ∧ t = .long ∧ ∃ z, w = .long z) ∨ (i = .dreturn ∧ t = .double ∧ ∃ z, w = .double z) ∨ (i = .freturn ∧ t = .float ∧ ∃ z, w = .float z) ∨ (i = .areturn ∧ t.isReference = true ∧ w.isRef = true))
    (hnw : narrow t w = w) (hd : decode bytes pc = .ok (i, 1)) (hc : cells ≤ C) (hs : slots ≤ S) (q : Q (some w) T.heap locs) : OEnds p e below s C S Q T (mkF m pc L (w :: st)) := by
  obtain ⟨fs, hr, hrun, hended, hW, hsame⟩ := X.leave (v := some w) (fun h => by rw [hret] at h; cases h) hlk
  exact ⟨_, _, _, retOut X hx hret hnw hi (hb hby hd) hr, hrun, hended, q, ⟨_, rfl⟩, hW, hsame.mono hc hs⟩
theorem s_retI (X : Stand p l e R s m args below meth c T locs cells slots) (hx : p.tables.exec = Jvm.exec) (hby : c.code = bytes) (hlk : meth.locks = false) (hret : meth.sig.returnType = some .int) {z : Int32} (hd : decode bytes pc = .ok (.ireturn, 1)) (hc : cells ≤ C) (hs : slots ≤ S) (q : Q (some (.int z)) T.heap locs) : OEnds p e below s C S Q T (mkF m pc L (.int z :: st)) :=
  s_retV X hx hby hlk hret (Or.inl ⟨rfl, Or.inl rfl, _, rfl⟩) rfl hd hc hs q
theorem s_retJ (X : Stand p l e R s m args below meth c T locs cells slots) (hx : p.tables.exec = Jvm.exec) (hby : c.code = bytes) (hlk : meth.locks = false) (hret : meth.sig.returnType = some .long) {z : Int64} (hd : decode bytes pc = .ok (.lreturn, 1)) (hc : cells ≤ C) (hs : slots ≤ S) (q : Q (some (.long z)) T.heap locs) : OEnds p e below s C S Q T (mkF m pc L (.long z :: st)) :=
  s_retV X hx hby hlk hret (Or.inr (Or.inl ⟨rfl, rfl, _, rfl⟩)) rfl hd hc hs q
theorem s_retA (X : Stand p l e R s m args below meth c T locs cells slots) (hx : p.tables.exec = Jvm.exec) (hby : c.code = bytes) (hlk : meth.locks = false) {t : FieldType} (hret : meth.sig.returnType = some t) (ht : t.isReference = true) {w : Value} (hw : w.isRef = true) (hd : decode bytes pc = .ok (.areturn, 1)) (hc : cells ≤ C) (hs : slots ≤ S) (q : Q (some w) T.heap locs) : OEnds p e below s C S Q T (mkF m pc L (w :: st)) :=
  s_retV X hx hby hlk hret (Or.inr (Or.inr (Or.inr (Or.inr ⟨rfl, ht, hw⟩)))) (by cases w <;> cases t <;> simp_all [Value.isRef, FieldType.isReference, narrow]) hd hc hs q
theorem s_retN (X : Stand p l e R s m args below meth c T locs cells slots) (hx : p.tables.exec = Jvm.exec) (hby : c.code = bytes) (hlk : meth.locks = false) {t : FieldType} (hret : meth.sig.returnType = some t) (ht : t = .boolean ∨ t = .byte ∨ t = .char ∨ t = .short) {z z' : Int32} (hz : nar t z = z') (hd : decode bytes pc = .ok (.ireturn, 1)) (hc : cells ≤ C) (hs : slots ≤ S) (q : Q (some (.int z')) T.heap locs) : OEnds p e below s C S Q T (mkF m pc L (.int z :: st)) := by
  subst hz
  obtain ⟨fs, hr, hrun, hended, hW, hsame⟩ := X.leave (v := some (.int (nar t z))) (fun h => by rw [hret] at h; cases h) hlk
  exact ⟨_, _, _, retN X hx hret ht (hb hby hd) hr, hrun, hended, q, ⟨_, rfl⟩, hW, hsame.mono hc hs⟩
theorem s_ret (X : Stand p l e R s m args below meth c T locs cells slots) (hx : p.tables.exec = Jvm.exec) (hby : c.code = bytes) (hlk : meth.locks = false) (hret : meth.sig.returnType = none) (hd : decode bytes pc = .ok (.return_, 1)) (hc : cells ≤ C) (hs : slots ≤ S) (q : Q none T.heap locs) : OEnds p e below s C S Q T (mkF m pc L []) := by
  obtain ⟨fs, hr, hrun, hended, hW, hsame⟩ := X.leave (v := none) (fun _ => rfl) hlk
  exact ⟨_, _, _, X.returnOut hx hret (hb hby hd) hr, hrun, hended, q, ⟨_, rfl⟩, hW, hsame.mono hc hs⟩
/-- the heap: fields -/
theorem s_getF (X : Stand p l e R s m args below meth c T locs cells slots) (hx : p.tables.exec = Jvm.exec) (hby : c.code = bytes) (hZ : Z.Warmed39 s.vm) {own O f d : String} {index : Nat} (hown : s.vm.findClass own = some m.cls) (w : (Jvm.Cond.fieldLink own index O f d).before a0 Z = true) (eT : T.heap = h) {a : Addr} {v : Value} (F : Fld Z h a O f d v) (hd : decode bytes pc = .ok (.getfield index, 3)) (hn : pc + 3 = n)
    (k : ∀ T', Stand p l e R s m args below meth c T' locs cells slots → T'.heap = h → OEnds p e below s C S Q T' (mkF m n L (v :: st))) : OEnds p e below s C S Q T (mkF m pc L (.ref a :: st)) := by
  subst hn
  obtain ⟨T', X', e', f'⟩ := getF X hx hZ hown (host := "") (Or.inl w) Via.refl eT F (g := mkF m pc L (.ref a :: st)) rfl rfl (hb hby hd)
  exact (k T' X' e').pre f'
theorem s_putF (X : Stand p l e R s m args below meth c T locs cells slots) (hx : p.tables.exec = Jvm.exec) (hby : c.code = bytes) (hZ : Z.Warmed39 s.vm) {own O f d K : String} {index kk : Nat} {ty : FieldType} (hown : s.vm.findClass own = some m.cls) (w : (Jvm.Cond.fieldLink own index O f d).before a0 Z = true) (eT : T.heap = h) {a : Addr} {v old : Value} (F : Fld Z h a O f d old) (E : Exa Z h a K)
    (Lw : (Jvm.Cond.lays K O f d).before a0 Z = true ∨ ((Jvm.Cond.laysFinal K O f d).before a0 Z = true ∧ own = O ∧ meth.name = "<init>")) (wi : (Jvm.Cond.instantiable K kk).before a0 Z = true) (hty : parseFieldDescriptor d = some ty) (hnw : narrow ty v = v) (hf : fits ty v = true) (hd : decode bytes pc = .ok (.putfield index, 3)) (hn : pc + 3 = n)
    (k : ∀ T' h', Stand p l e R s m args below meth c T' (locs ++ [⟨a, RoadKit.slotOf Z O f d⟩]) cells slots → T'.heap = h' → Wr h h' a (RoadKit.slotOf Z O f d) v → OEnds p e below s C S Q T' (mkF m n L st)) : OEnds p e below s C S Q T (mkF m pc L (v :: .ref a :: st)) := by
  subst hn
  obtain ⟨T', h', X', e', W', f'⟩ := putF X hx hZ hown (host := "") (Or.inl w) Via.refl eT F E Lw wi hty hnw hf (g := mkF m pc L (v :: .ref a :: st)) rfl rfl (hb hby hd)
  exact (k T' h' X' e' W').pre f'
theorem s_getS (X : Stand p l e R s m args below meth c T locs cells slots) (hx : p.tables.exec = Jvm.exec) (hby : c.code = bytes) (hZ : Z.Warmed39 s.vm) {own O f d : String} {index : Nat} (hown : s.vm.findClass own = some m.cls) (w : (Jvm.Cond.fieldLink own index O f d).before a0 Z = true) (eT : T.heap = h) {v : Value} (F : Sta Z h O f d v) (hd : decode bytes pc = .ok (.getstatic index, 3)) (hn : pc + 3 = n)
    (k : ∀ T', Stand p l e R s m args below meth c T' locs cells slots → T'.heap = h → OEnds p e below s C S Q T' (mkF m n L (v :: st))) : OEnds p e below s C S Q T (mkF m pc L st) := by
  subst hn
  obtain ⟨T', X', e', f'⟩ := getS X hx hZ hown (host := "") w Via.refl eT F (g := mkF m pc L st) rfl (hb hby hd)
  exact (k T' X' e').pre f'
theorem s_newO (X : Stand p l e R s m args below meth c T locs cells slots) (hx : p.tables.exec = Jvm.exec) (hby : c.code = bytes) (hZ : Z.Warmed39 s.vm) {own K : String} {index num : Nat} (hown : s.vm.findClass own = some m.cls) (w : (Jvm.Cond.classLink own index K).before a0 Z = true) (wi : (Jvm.Cond.instantiable K num).before a0 Z = true) (wz : (Jvm.Cond.initialized K).before a0 Z = true) (eT : T.heap = h) (hc : cells + 1 ≤ R.cells) (hl : slots + num ≤ R.slots) (hd : decode bytes pc = .ok (.new index, 3)) (hn : pc + 3 = n)
    (k : ∀ T' h' a, a = h.size → Stand p l e R s m args below meth c T' locs (cells + 1) (slots + num) → T'.heap = h' → Ext h h' → Exa Z h' a K → (∀ {O nm d : String} {ty : FieldType}, Laid Z a0 K O nm d → parseFieldDescriptor d = some ty → Fld Z h' a O nm d (defaultValue ty)) → OEnds p e below s C S Q T' (mkF m n L (.ref a :: st))) : OEnds p e below s C S Q T (mkF m pc L st) := by
  subst hn
  obtain ⟨T', h', X', e', E', A', D', -, f'⟩ := newO X hx hZ hown w wi wz eT (g := mkF m pc L st) rfl (hb hby hd) hc hl
  exact (k T' h' _ rfl X' e' E' A' D').pre f'
theorem s_initO (X : Stand p l e R s m args below meth c T locs cells slots) (hx : p.tables.exec = Jvm.exec) (hby : c.code = bytes) {ml : Nat} (hml : c.maxLocals = ml) (hZ : Z.Warmed39 s.vm) {own : String} {index : Nat} (hown : s.vm.findClass own = some m.cls) (w1 : (Jvm.Cond.methodLink own index Lib.objectInit).before a0 Z = true) (w2 : (Jvm.Cond.instanceMethod Lib.objectInit).before a0 Z = true) (w3 : (Jvm.Cond.code Lib.objectInit ⟨#[0xb1]⟩ 1 none).before a0 Z = true) (eT : T.heap = h) {a : Addr} (hf : 1 ≤ R.frames) (W : Nat) (hW : (st.map fun v => v.category).sum ≤ W) (hl : W + 12 ≤ R.locals) (hsz : L.size = ml) (hd : decode bytes pc = .ok (.invokespecial index, 3)) (hn : pc + 3 = n)
    (k : ∀ T', Stand p l e R s m args below meth c T' locs cells slots → T'.heap = h → OEnds p e below s C S Q T' (mkF m n L st)) : OEnds p e below s C S Q T (mkF m pc L (.ref a :: st)) := by
  subst hn
  obtain ⟨T', X', e', f'⟩ := initO X hx hZ hown w1 w2 w3 eT (g := mkF m pc L (.ref a :: st)) rfl (by rw [hml]; exact hsz) rfl (hb hby hd) hf (W := W) (by show 2 * 0 + _ ≤ _; rw [Nat.mul_zero, Nat.zero_add]; exact hW) hl
  exact (k T' X' e').pre f'
/-- the calls by a contract -/
theorem s_callS (X : Stand p l e R s m args below meth c T locs cells slots) (hx : p.tables.exec = Jvm.exec) (hby : c.code = bytes) {ml : Nat} (hml : c.maxLocals = ml) (hZ : Z.Warmed39 s.vm) {own : String} {index : Nat} {y : MethodName} {yb : ByteArray} {maxL : Nat} {ret : Option FieldType} (hown : s.vm.findClass own = some m.cls) (w1 : (Jvm.Cond.methodLink own index y).before a0 Z = true) (w2 : (Jvm.Cond.static y).before a0 Z = true) (w3 : (Jvm.Cond.initialized y.cls).before a0 Z = true) (w4 : (Jvm.Cond.code y yb maxL ret).before a0 Z = true) (hy : y.cls ≠ "java/lang/invoke/MethodHandle" ∧ y.cls ≠ "java/lang/invoke/VarHandle")
    {rm : Room} {as' : Array Value} {Q' : Option Value → Heap → List Loc → Prop} (K : OCon l Z y yb maxL ret [] rm as' h Q') (eT : T.heap = h) (hf : rm.frames + 1 ≤ R.frames) (W : Nat) (hl : W + (maxL + 11) + rm.locals ≤ R.locals) (hc : cells + rm.cells ≤ R.cells) (hs : slots + rm.slots ≤ R.slots) {ps : List FieldType} {rt : Option FieldType} (pd : parseMethodDescriptor y.desc = some ⟨ps, rt⟩) (argsL rest : List Value) (hlen : argsL.length = ps.length) (has : argsL.toArray = as') (hst : st = argsL.reverse ++ rest) (hW : (rest.map fun v => v.category).sum ≤ W) (hsz : L.size = ml) (hd : decode bytes pc = .ok (.invokestatic index, 3)) (hn : pc + 3 = n)
    (k : ∀ T' L' v, Stand p l e R s m args below meth c T' (locs ++ L') (cells + rm.cells) (slots + rm.slots) → Q' v T'.heap L' → OEnds p e below s C S Q T' (mkF m n L (v.toList ++ rest))) : OEnds p e below s C S Q T (mkF m pc L st) := by
  subst hn has
  obtain ⟨v, _, ⟨T', L', k', n'⟩, -, X', ⟨Lc, hQ, l', y', z'⟩, f'⟩ := Jvm.LawKit.callS X hx (y := y) hown (mvT hZ w1) (mvT hZ w2) (mvT hZ w3) (mvT hZ w4) hy (backOf (W := W) K hZ w4 w3 hf hl) (g := mkF m pc L st) rfl (by rw [hml]; exact hsz) (argsL := argsL) (rest := rest) (lenOf pd hlen) hst (by show 2 * 0 + _ ≤ _; rw [Nat.mul_zero, Nat.zero_add]; exact hW) (hb hby hd) (fun _ _ => ⟨rfl, eT, hc, hs⟩)
  dsimp only [Pt.U, Pt.locs, Pt.cells, Pt.slots] at X' l' y' z' f' hQ
  subst l' y' z'
  exact (k T' Lc v X' hQ).pre f'
theorem s_callI (X : Stand p l e R s m args below meth c T locs cells slots) (hx : p.tables.exec = Jvm.exec) (hby : c.code = bytes) {ml : Nat} (hml : c.maxLocals = ml) (hZ : Z.Warmed39 s.vm) {own : String} {index : Nat} {y : MethodName} {yb : ByteArray} {maxL : Nat} (hy1 : y.name = "<init>") (hown : s.vm.findClass own = some m.cls) (w1 : (Jvm.Cond.methodLink own index y).before a0 Z = true) (w2 : (Jvm.Cond.instanceMethod y).before a0 Z = true) (w3 : (Jvm.Cond.initialized y.cls).before a0 Z = true) (w4 : (Jvm.Cond.code y yb maxL none).before a0 Z = true) (hy : y.cls ≠ "java/lang/invoke/MethodHandle" ∧ y.cls ≠ "java/lang/invoke/VarHandle")
    {rm : Room} {as' : Array Value} {Q' : Option Value → Heap → List Loc → Prop} (K : OCon l Z y yb maxL none [] rm as' h Q') (eT : T.heap = h) (hf : rm.frames + 1 ≤ R.frames) (W : Nat) (hl : W + (maxL + 11) + rm.locals ≤ R.locals) (hc : cells + rm.cells ≤ R.cells) (hs : slots + rm.slots ≤ R.slots) {ps : List FieldType} {rt : Option FieldType} (pd : parseMethodDescriptor y.desc = some ⟨ps, rt⟩) (a : Addr) (argsL rest : List Value) (hlen : argsL.length = ps.length) (has : (Value.ref a :: argsL).toArray = as') (hst : st = argsL.reverse ++ .ref a :: rest) (hW : (rest.map fun v => v.category).sum ≤ W) (hsz : L.size = ml) (hd : decode bytes pc = .ok (.invokespecial index, 3)) (hn : pc + 3 = n)
    (k : ∀ T' L' v, Stand p l e R s m args below meth c T' (locs ++ L') (cells + rm.cells) (slots + rm.slots) → Q' v T'.heap L' → OEnds p e below s C S Q T' (mkF m n L (v.toList ++ rest))) : OEnds p e below s C S Q T (mkF m pc L st) := by
  subst hn has
  obtain ⟨v, _, ⟨T', L', k', n'⟩, -, X', ⟨Lc, hQ, l', y', z'⟩, f'⟩ := X.specialBack hx (y := y) hy1 hown (mvT hZ w1) (mvT hZ w2) (mvT hZ w4) hy (backOf (W := W) K hZ w4 w3 hf hl) (g := mkF m pc L st) rfl (by rw [hml]; exact hsz) (Steps.refl _) (a := a) (argsL := argsL) (rest := rest) (lenOf pd hlen) hst (by show 2 * 0 + _ ≤ _; rw [Nat.mul_zero, Nat.zero_add]; exact hW) (hb hby hd) (fun _ _ => ⟨rfl, eT, hc, hs⟩)
  dsimp only [Pt.U, Pt.locs, Pt.cells, Pt.slots] at X' l' y' z' f' hQ
  subst l' y' z'
  exact (k T' Lc v X' hQ).pre fun t r => f'.trans r
theorem s_callV (X : Stand p l e R s m args below meth c T locs cells slots) (hx : p.tables.exec = Jvm.exec) (hby : c.code = bytes) {ml : Nat} (hml : c.maxLocals = ml) (hZ : Z.Warmed39 s.vm) {own K0 : String} {index : Nat} {y z : MethodName} {yb : ByteArray} {maxL : Nat} {ret : Option FieldType} (hown : s.vm.findClass own = some m.cls) (w1 : (Jvm.Cond.methodLink own index y).before a0 Z = true) (w2 : (Jvm.Cond.declares y).before a0 Z = true) (w5 : NotFace s y) (w6 : (Jvm.Cond.selects K0 y z).before a0 Z = true) (w7 : (Jvm.Cond.instanceMethod z).before a0 Z = true) (w3 : (Jvm.Cond.initialized z.cls).before a0 Z = true) (w4 : (Jvm.Cond.code z yb maxL ret).before a0 Z = true) (hy : y.cls ≠ "java/lang/invoke/MethodHandle" ∧ y.cls ≠ "java/lang/invoke/VarHandle")
    {rm : Room} {as' : Array Value} {Q' : Option Value → Heap → List Loc → Prop} (K : OCon l Z z yb maxL ret [] rm as' h Q') (eT : T.heap = h) (hf : rm.frames + 1 ≤ R.frames) (W : Nat) (hl : W + (maxL + 11) + rm.locals ≤ R.locals) (hc : cells + rm.cells ≤ R.cells) (hs : slots + rm.slots ≤ R.slots) {ps : List FieldType} {rt : Option FieldType} (pd : parseMethodDescriptor y.desc = some ⟨ps, rt⟩) {a : Addr} (E : Exa Z h a K0) (argsL rest : List Value) (hlen : argsL.length = ps.length) (has : (Value.ref a :: argsL).toArray = as') (hst : st = argsL.reverse ++ .ref a :: rest) (hW : (rest.map fun v => v.category).sum ≤ W) (hsz : L.size = ml) (hd : decode bytes pc = .ok (.invokevirtual index, 3)) (hn : pc + 3 = n)
    (k : ∀ T' L' v, Stand p l e R s m args below meth c T' (locs ++ L') (cells + rm.cells) (slots + rm.slots) → Q' v T'.heap L' → OEnds p e below s C S Q T' (mkF m n L (v.toList ++ rest))) : OEnds p e below s C S Q T (mkF m pc L st) := by
  subst hn has
  obtain ⟨cq, kq, qa, qb, qc⟩ := isOf hZ eT E
  obtain ⟨v, _, ⟨T', L', k', n'⟩, -, X', ⟨Lc, hQ, l', y', z'⟩, f'⟩ := X.virtualBack hx (y := y) (z := z) hown (mvT hZ w1) (mvT hZ w2) w5 (mvT hZ w6) (mvT hZ w7) hy (backOf (W := W) K hZ w4 w3 hf hl) qa qc (g := mkF m pc L st) rfl (by rw [hml]; exact hsz) (Steps.refl _) (argsL := argsL) (rest := rest) (lenOf pd hlen) hst (by show 2 * 0 + _ ≤ _; rw [Nat.mul_zero, Nat.zero_add]; exact hW) (hb hby hd) (fun _ _ => ⟨rfl, eT, hc, hs⟩)
  dsimp only [Pt.U, Pt.locs, Pt.cells, Pt.slots] at X' l' y' z' f' hQ
  subst l' y' z'
  exact (k T' Lc v X' hQ).pre fun t r => f'.trans r
/-- arrays -/
theorem s_newP (X : Stand p l e R s m args below meth c T locs cells slots) (hx : p.tables.exec = Jvm.exec) (hby : c.code = bytes) (hZ : Z.Warmed39 s.vm) {aty : ArrayType} (w : (Jvm.Cond.arrayClass (newarray.typeOf aty)).before a0 Z = true) {ty : FieldType} (hty : newarray.typeOf aty = ty) (eT : T.heap = h) {num : Int32} (hnn : ¬ num < 0) (cap : Nat) (hcap : num.toNatClampNeg ≤ cap) (hb8 : cap * 8 ≤ 536870912) (hc : cells + 1 ≤ R.cells) (hl : slots + cap ≤ R.slots) (hd : decode bytes pc = .ok (.newarray aty, 2)) (hn : pc + 2 = n)
    (k : ∀ T' h' cA a, a = h.size → Stand p l e R s m args below meth c T' locs (cells + 1) (slots + cap) → T'.heap = h' → Ext h h' → Arr Z h' a (newA cA ty num) ty → OEnds p e below s C S Q T' (mkF m n L (.ref a :: st))) : OEnds p e below s C S Q T (mkF m pc L (.int num :: st)) := by
  subst hn hty
  obtain ⟨T', h', cA, X', e', E', A', f'⟩ := newP X hx hZ w eT (g := mkF m pc L (.int num :: st)) rfl (hb hby hd) rfl hnn hcap hb8 hc hl
  exact (k T' h' cA _ rfl X' e' E' A').pre f'
theorem s_arraylength (X : Stand p l e R s m args below meth c T locs cells slots) (hx : p.tables.exec = Jvm.exec) (hby : c.code = bytes) (hZ : Z.Warmed39 s.vm) (eT : T.heap = h) {a : Addr} {cl : Cell} {ty : FieldType} (A : Arr Z h a cl ty) {z : Int32} (hsz : cl.slots.size = z.toNatClampNeg) (hz : ¬ z < 0) (hd : decode bytes pc = .ok (.arraylength, 1)) (hn : pc + 1 = n)
    (k : OEnds p e below s C S Q T (mkF m n L (.int z :: st))) : OEnds p e below s C S Q T (mkF m pc L (.ref a :: st)) := by
  subst hn
  rw [← len_of hsz hz] at k
  exact k.pre fun t r => X.arraylength hx (by rw [eT]; exact A.1) (State.isArrayOf_alike hZ.alike A.2.1) (g := mkF m pc L (.ref a :: st)) rfl rfl (hb hby hd) _ r
theorem s_iaload (X : Stand p l e R s m args below meth c T locs cells slots) (hx : p.tables.exec = Jvm.exec) (hby : c.code = bytes) (hZ : Z.Warmed39 s.vm) (eT : T.heap = h) {a : Addr} {cl : Cell} (A : Arr Z h a cl .int) {j : Int32} (hj : ¬ (j < 0 ∨ cl.slots.size ≤ j.toNatClampNeg)) {v : Value} (hv : cl.slots[j.toNatClampNeg]? = some v) (hd : decode bytes pc = .ok (.iaload, 1)) (hn : pc + 1 = n)
    (k : OEnds p e below s C S Q T (mkF m n L (v :: st))) : OEnds p e below s C S Q T (mkF m pc L (.int j :: .ref a :: st)) := by
  subst hn
  exact k.pre fun t r => X.iaload hx (by rw [eT]; exact A.1) (State.isArrayOf_alike hZ.alike A.2.1) A.2.2 hj hv (g := mkF m pc L (.int j :: .ref a :: st)) rfl rfl (hb hby hd) _ r
theorem s_baload (X : Stand p l e R s m args below meth c T locs cells slots) (hx : p.tables.exec = Jvm.exec) (hby : c.code = bytes) (hZ : Z.Warmed39 s.vm) (eT : T.heap = h) {a : Addr} {cl : Cell} (A : Arr Z h a cl .byte) {j : Int32} (hj : ¬ (j < 0 ∨ cl.slots.size ≤ j.toNatClampNeg)) {v : Value} (hv : cl.slots[j.toNatClampNeg]? = some v) (hd : decode bytes pc = .ok (.baload, 1)) (hn : pc + 1 = n)
    (k : OEnds p e below s C S Q T (mkF m n L (v :: st))) : OEnds p e below s C S Q T (mkF m pc L (.int j :: .ref a :: st)) := by
  subst hn
  exact k.pre fun t r => X.baloadBytes hx (by rw [eT]; exact A.1) (State.isArrayOf_alike hZ.alike A.2.1) A.2.2 hj hv (g := mkF m pc L (.int j :: .ref a :: st)) rfl rfl (hb hby hd) _ r
theorem s_caload (X : Stand p l e R s m args below meth c T locs cells slots) (hx : p.tables.exec = Jvm.exec) (hby : c.code = bytes) (hZ : Z.Warmed39 s.vm) (eT : T.heap = h) {a : Addr} {cl : Cell} (A : Arr Z h a cl .char) {j : Int32} (hj : ¬ (j < 0 ∨ cl.slots.size ≤ j.toNatClampNeg)) {v : Value} (hv : cl.slots[j.toNatClampNeg]? = some v) (hd : decode bytes pc = .ok (.caload, 1)) (hn : pc + 1 = n)
    (k : OEnds p e below s C S Q T (mkF m n L (v :: st))) : OEnds p e below s C S Q T (mkF m pc L (.int j :: .ref a :: st)) := by
  subst hn
  exact k.pre fun t r => X.caload hx (by rw [eT]; exact A.1) (State.isArrayOf_alike hZ.alike A.2.1) A.2.2 hj hv (g := mkF m pc L (.int j :: .ref a :: st)) rfl rfl (hb hby hd) _ r
theorem s_iastore (X : Stand p l e R s m args below meth c T locs cells slots) (hx : p.tables.exec = Jvm.exec) (hby : c.code = bytes) (hZ : Z.Warmed39 s.vm) (eT : T.heap = h) {a : Addr} {cl : Cell} (A : Arr Z h a cl .int) {j x : Int32} (hj : ¬ (j < 0 ∨ cl.slots.size ≤ j.toNatClampNeg)) (hd : decode bytes pc = .ok (.iastore, 1)) (hn : pc + 1 = n)
    (k : ∀ T' h', Stand p l e R s m args below meth c T' (locs ++ [⟨a, j.toNatClampNeg⟩]) cells slots → T'.heap = h' → Wr h h' a j.toNatClampNeg (.int x) → OEnds p e below s C S Q T' (mkF m n L st)) : OEnds p e below s C S Q T (mkF m pc L (.int x :: .int j :: .ref a :: st)) := by
  subst hn
  obtain ⟨T', h', X', e', W', f'⟩ := stI X hx hZ eT A hj (g := mkF m pc L (.int x :: .int j :: .ref a :: st)) rfl rfl (hb hby hd)
  exact (k T' h' X' e' W').pre f'
theorem s_bastore (X : Stand p l e R s m args below meth c T locs cells slots) (hx : p.tables.exec = Jvm.exec) (hby : c.code = bytes) (hZ : Z.Warmed39 s.vm) (eT : T.heap = h) {a : Addr} {cl : Cell} (A : Arr Z h a cl .byte) {j x : Int32} (hj : ¬ (j < 0 ∨ cl.slots.size ≤ j.toNatClampNeg)) (hd : decode bytes pc = .ok (.bastore, 1)) (hn : pc + 1 = n)
    (k : ∀ T' h', Stand p l e R s m args below meth c T' (locs ++ [⟨a, j.toNatClampNeg⟩]) cells slots → T'.heap = h' → Wr h h' a j.toNatClampNeg (.int (nar .byte x)) → OEnds p e below s C S Q T' (mkF m n L st)) : OEnds p e below s C S Q T (mkF m pc L (.int x :: .int j :: .ref a :: st)) := by
  subst hn
  obtain ⟨T', h', X', e', W', f'⟩ := stB X hx hZ eT A hj (g := mkF m pc L (.int x :: .int j :: .ref a :: st)) rfl rfl (hb hby hd)
  exact (k T' h' X' e' W').pre f'
theorem s_castore (X : Stand p l e R s m args below meth c T locs cells slots) (hx : p.tables.exec = Jvm.exec) (hby : c.code = bytes) (hZ : Z.Warmed39 s.vm) (eT : T.heap = h) {a : Addr} {cl : Cell} (A : Arr Z h a cl .char) {j x : Int32} (hj : ¬ (j < 0 ∨ cl.slots.size ≤ j.toNatClampNeg)) (hd : decode bytes pc = .ok (.castore, 1)) (hn : pc + 1 = n)
    (k : ∀ T' h', Stand p l e R s m args below meth c T' (locs ++ [⟨a, j.toNatClampNeg⟩]) cells slots → T'.heap = h' → Wr h h' a j.toNatClampNeg (.int (nar .char x)) → OEnds p e below s C S Q T' (mkF m n L st)) : OEnds p e below s C S Q T (mkF m pc L (.int x :: .int j :: .ref a :: st)) := by
  subst hn
  obtain ⟨T', h', X', e', W', f'⟩ := stC X hx hZ eT A hj (g := mkF m pc L (.int x :: .int j :: .ref a :: st)) rfl rfl (hb hby hd)
  exact (k T' h' X' e' W').pre f'
theorem s_bastoreC (X : Stand p l e R s m args below meth c T locs cells slots) (hx : p.tables.exec = Jvm.exec) (hby : c.code = bytes) (hZ : Z.Warmed39 s.vm) (eT : T.heap = h) {a : Addr} {cl : Cell} (A : Arr Z h a cl .byte) {j x : Int32} (i : Nat) (hj : ¬ j < 0) (hi : j.toNatClampNeg = i) (hs : i < cl.slots.size) (hd : decode bytes pc = .ok (.bastore, 1)) (hn : pc + 1 = n)
    (k : ∀ T' h', Stand p l e R s m args below meth c T' (locs ++ [⟨a, i⟩]) cells slots → T'.heap = h' → Wr h h' a i (.int (nar .byte x)) → OEnds p e below s C S Q T' (mkF m n L st)) : OEnds p e below s C S Q T (mkF m pc L (.int x :: .int j :: .ref a :: st)) := by
  subst hi
  exact s_bastore X hx hby hZ eT A (fun q => q.elim hj (Nat.not_le.mpr hs)) hd hn k
theorem s_iastoreC (X : Stand p l e R s m args below meth c T locs cells slots) (hx : p.tables.exec = Jvm.exec) (hby : c.code = bytes) (hZ : Z.Warmed39 s.vm) (eT : T.heap = h) {a : Addr} {cl : Cell} (A : Arr Z h a cl .int) {j x : Int32} (i : Nat) (hj : ¬ j < 0) (hi : j.toNatClampNeg = i) (hs : i < cl.slots.size) (hd : decode bytes pc = .ok (.iastore, 1)) (hn : pc + 1 = n)
    (k : ∀ T' h', Stand p l e R s m args below meth c T' (locs ++ [⟨a, i⟩]) cells slots → T'.heap = h' → Wr h h' a i (.int x) → OEnds p e below s C S Q T' (mkF m n L st)) : OEnds p e below s C S Q T (mkF m pc L (.int x :: .int j :: .ref a :: st)) := by
  subst hi
  exact s_iastore X hx hby hZ eT A (fun q => q.elim hj (Nat.not_le.mpr hs)) hd hn k
theorem s_castoreC (X : Stand p l e R s m args below meth c T locs cells slots) (hx : p.tables.exec = Jvm.exec) (hby : c.code = bytes) (hZ : Z.Warmed39 s.vm) (eT : T.heap = h) {a : Addr} {cl : Cell} (A : Arr Z h a cl .char) {j x : Int32} (i : Nat) (hj : ¬ j < 0) (hi : j.toNatClampNeg = i) (hs : i < cl.slots.size) (hd : decode bytes pc = .ok (.castore, 1)) (hn : pc + 1 = n)
    (k : ∀ T' h', Stand p l e R s m args below meth c T' (locs ++ [⟨a, i⟩]) cells slots → T'.heap = h' → Wr h h' a i (.int (nar .char x)) → OEnds p e below s C S Q T' (mkF m n L st)) : OEnds p e below s C S Q T (mkF m pc L (.int x :: .int j :: .ref a :: st)) := by
  subst hi
  exact s_castore X hx hby hZ eT A (fun q => q.elim hj (Nat.not_le.mpr hs)) hd hn k
theorem s_baloadC (X : Stand p l e R s m args below meth c T locs cells slots) (hx : p.tables.exec = Jvm.exec) (hby : c.code = bytes) (hZ : Z.Warmed39 s.vm) (eT : T.heap = h) {a : Addr} {cl : Cell} (A : Arr Z h a cl .byte) {j : Int32} (i : Nat) (hj : ¬ j < 0) (hi : j.toNatClampNeg = i) (hs : i < cl.slots.size) {v : Value} (hv : cl.slots[i]? = some v) (hd : decode bytes pc = .ok (.baload, 1)) (hn : pc + 1 = n)
    (k : OEnds p e below s C S Q T (mkF m n L (v :: st))) : OEnds p e below s C S Q T (mkF m pc L (.int j :: .ref a :: st)) := by
  subst hi
  exact s_baload X hx hby hZ eT A (fun q => q.elim hj (Nat.not_le.mpr hs)) hv hd hn k
theorem s_caloadC (X : Stand p l e R s m args below meth c T locs cells slots) (hx : p.tables.exec = Jvm.exec) (hby : c.code = bytes) (hZ : Z.Warmed39 s.vm) (eT : T.heap = h) {a : Addr} {cl : Cell} (A : Arr Z h a cl .char) {j : Int32} (i : Nat) (hj : ¬ j < 0) (hi : j.toNatClampNeg = i) (hs : i < cl.slots.size) {v : Value} (hv : cl.slots[i]? = some v) (hd : decode bytes pc = .ok (.caload, 1)) (hn : pc + 1 = n)
    (k : OEnds p e below s C S Q T (mkF m n L (v :: st))) : OEnds p e below s C S Q T (mkF m pc L (.int j :: .ref a :: st)) := by
  subst hi
  exact s_caload X hx hby hZ eT A (fun q => q.elim hj (Nat.not_le.mpr hs)) hv hd hn k
theorem s_ialoadC (X : Stand p l e R s m args below meth c T locs cells slots) (hx : p.tables.exec = Jvm.exec) (hby : c.code = bytes) (hZ : Z.Warmed39 s.vm) (eT : T.heap = h) {a : Addr} {cl : Cell} (A : Arr Z h a cl .int) {j : Int32} (i : Nat) (hj : ¬ j < 0) (hi : j.toNatClampNeg = i) (hs : i < cl.slots.size) {v : Value} (hv : cl.slots[i]? = some v) (hd : decode bytes pc = .ok (.iaload, 1)) (hn : pc + 1 = n)
    (k : OEnds p e below s C S Q T (mkF m n L (v :: st))) : OEnds p e below s C S Q T (mkF m pc L (.int j :: .ref a :: st)) := by
  subst hi
  exact s_iaload X hx hby hZ eT A (fun q => q.elim hj (Nat.not_le.mpr hs)) hv hd hn k
theorem set_hit {cl : Cell} {i : Nat} {v : Value} (hs : i < cl.slots.size) : (cl.setSlot i v).slots[i]? = some v := by simp [Cell.setSlot, hs]
theorem set_mis {cl : Cell} {i j : Nat} {v : Value} {w : Option Value} (hv : cl.slots[j]? = w) (q : i ≠ j) : (cl.setSlot i v).slots[j]? = w := by
  rw [← hv]; exact Array.getElem?_setIfInBounds_ne q
theorem new_at (cA : ClassId) (ty : FieldType) {z : Int32} {i : Nat} (q : i < z.toNatClampNeg) : (newA cA ty z).slots[i]? = some (defaultValue ty) := by simp [newA, q]
/-- instanceof, checkcast, aaload -/
theorem s_instY (X : Stand p l e R s m args below meth c T locs cells slots) (hx : p.tables.exec = Jvm.exec) (hby : c.code = bytes) (hZ : Z.Warmed39 s.vm) {own K : String} {index : Nat} (hown : s.vm.findClass own = some m.cls) (w : (Jvm.Cond.classLink own index K).before a0 Z = true) (eT : T.heap = h) {a : Addr} (F : Ins Z h a K true) (hd : decode bytes pc = .ok (.instanceof index, 3)) (hn : pc + 3 = n)
    (k : ∀ T', Stand p l e R s m args below meth c T' locs cells slots → T'.heap = h → OEnds p e below s C S Q T' (mkF m n L (.int 1 :: st))) : OEnds p e below s C S Q T (mkF m pc L (.ref a :: st)) := by
  subst hn
  obtain ⟨T', X', e', f'⟩ := instY X hx hZ hown w eT F (g := mkF m pc L (.ref a :: st)) rfl rfl (hb hby hd)
  exact (k T' X' e').pre f'
theorem s_instNo (X : Stand p l e R s m args below meth c T locs cells slots) (hx : p.tables.exec = Jvm.exec) (hby : c.code = bytes) (hZ : Z.Warmed39 s.vm) {own K C0 : String} {index : Nat} (hown : s.vm.findClass own = some m.cls) (w : (Jvm.Cond.classLink own index K).before a0 Z = true) (eT : T.heap = h) {a : Addr} (E : Exa Z h a C0) (F : ∃ c t, Z.vm.findClass C0 = some c ∧ Z.vm.findClass K = some t ∧ Z.vm.assignable c t = false) (hd : decode bytes pc = .ok (.instanceof index, 3)) (hn : pc + 3 = n)
    (k : ∀ T', Stand p l e R s m args below meth c T' locs cells slots → T'.heap = h → OEnds p e below s C S Q T' (mkF m n L (.int 0 :: st))) : OEnds p e below s C S Q T (mkF m pc L (.ref a :: st)) := by
  subst hn
  obtain ⟨T', X', e', f'⟩ := instNo X hx hZ hown w eT E F (g := mkF m pc L (.ref a :: st)) rfl rfl (hb hby hd)
  exact (k T' X' e').pre f'
theorem s_instNull (X : Stand p l e R s m args below meth c T locs cells slots) (hx : p.tables.exec = Jvm.exec) (hby : c.code = bytes) {index : Nat} (hd : decode bytes pc = .ok (.instanceof index, 3)) (hn : pc + 3 = n)
    (k : OEnds p e below s C S Q T (mkF m n L (.int 0 :: st))) : OEnds p e below s C S Q T (mkF m pc L (.null :: st)) := by
  subst hn
  exact k.pre fun t r => Stand.instanceofNull X hx (g := mkF m pc L (.null :: st)) rfl rfl (hb hby hd) t r
theorem s_castY (X : Stand p l e R s m args below meth c T locs cells slots) (hx : p.tables.exec = Jvm.exec) (hby : c.code = bytes) (hZ : Z.Warmed39 s.vm) {own K : String} {index : Nat} (hown : s.vm.findClass own = some m.cls) (w : (Jvm.Cond.classLink own index K).before a0 Z = true) (eT : T.heap = h) {a : Addr} (F : Ins Z h a K true) (hd : decode bytes pc = .ok (.checkcast index, 3)) (hn : pc + 3 = n)
    (k : ∀ T', Stand p l e R s m args below meth c T' locs cells slots → T'.heap = h → OEnds p e below s C S Q T' (mkF m n L (.ref a :: st))) : OEnds p e below s C S Q T (mkF m pc L (.ref a :: st)) := by
  subst hn
  obtain ⟨T', X', e', f'⟩ := castY X hx hZ hown w eT F (g := mkF m pc L (.ref a :: st)) rfl rfl (hb hby hd)
  exact (k T' X' e').pre f'
theorem s_aaload (X : Stand p l e R s m args below meth c T locs cells slots) (hx : p.tables.exec = Jvm.exec) (hby : c.code = bytes) (hZ : Z.Warmed39 s.vm) (eT : T.heap = h) {a : Addr} {cl : Cell} {ty : FieldType} (A : Arr Z h a cl ty) (hty : ty.isReference = true) {j : Int32} (hj : ¬ (j < 0 ∨ cl.slots.size ≤ j.toNatClampNeg)) {v : Value} (hv : cl.slots[j.toNatClampNeg]? = some v) (hd : decode bytes pc = .ok (.aaload, 1)) (hn : pc + 1 = n)
    (k : OEnds p e below s C S Q T (mkF m n L (v :: st))) : OEnds p e below s C S Q T (mkF m pc L (.int j :: .ref a :: st)) := by
  subst hn
  exact k.pre fun t r => X.aaload hx (by rw [eT]; exact A.1) (State.isArrayOf_alike hZ.alike A.2.1) hty A.2.2 hj hv (g := mkF m pc L (.int j :: .ref a :: st)) rfl rfl (hb hby hd) _ r
theorem ns_root {O K : String} {num : Nat} (w : (Jvm.Cond.noSuperclass O).before a0 Z = true) (wi : (Jvm.Cond.instantiable K num).before a0 Z = true) (hn : O ≠ K) : NS Z O K := by
  obtain ⟨c, k, h1, h2, h3, -, -⟩ := Cond.noSuperclass_spec w
  obtain ⟨t, kt, g1, -⟩ := Cond.instantiable_spec wi
  have ne := ids_ne h1 g1 hn
  refine ⟨c, t, h1, g1, fun fuel => ?_⟩
  match fuel with
  | 0 => rfl
  | f + 1 => simp [Vm.isSubclassAux, ne, h2, h3]
theorem ns_no {C0 S0 K : String} {num : Nat} (w : (Jvm.Cond.superclass C0 S0).before a0 Z = true) (wi : (Jvm.Cond.instantiable K num).before a0 Z = true) (nn : NS Z C0 K) (hn : C0 ≠ K) : ∃ c t, Z.vm.findClass C0 = some c ∧ Z.vm.findClass K = some t ∧ Z.vm.assignable c t = false := by
  obtain ⟨c, t, q0, g0, n3⟩ := nn
  obtain ⟨p, k, kp, h1, h2, h3, h4, h5, -, h7⟩ := Cond.superclass_spec q0 w
  obtain ⟨t', kt, g1, g2, g3, g4, -⟩ := Cond.instantiable_spec wi
  cases g0.symm.trans g1
  have ne := ids_ne q0 g0 hn
  have g7 : kt.isInterface = false := by simp only [Bool.or_eq_false_iff] at g4; exact g4.1
  refine ⟨c, t, q0, g0, ?_⟩
  show Z.vm.assignableAux (255 + 1) c t = false
  simp [Vm.assignableAux, ne, h2, g2, h5, g3, g7, Vm.isSubclass, n3]
/-- the wide frame: a walk that may have interned -/
def FrameEndW (s : State) (o : Outcome) (t : State) (L : List Loc) (k n : Nat) : Prop :=
  (∃ v : Option Value, o = Outcome.returned v) ∧ s.Warmed39 t.vm ∧ (∀ (j : Nat) (p : Array UInt16 × Addr), s.vm.interned.size ≤ j → t.vm.interned[j]? = some p → s.heap.size ≤ p.2 ∧ p.2 < t.heap.size) ∧ s.sameButNew { t with vm := s.vm } L k n
def OEndsW (p : Program) (e : Env) (below : List Frame) (s : State) (C S : Nat) (Q : Option Value → Heap → List Loc → Prop) (T : State) (g : JFrame) : Prop :=
  ∃ (t : State) (v : Option Value) (L : List Loc), Steps p.tables e below (T.setTop g) t ∧ t.status = .running ∧ Ended t below (.returned v) ∧ Q v t.heap L ∧ FrameEndW s (.returned v) t L C S
def OConW (l : Launch) (Z : State) (y : MethodName) (bytes : ByteArray) (maxL : Nat) (ret : Option FieldType) (ws : List Jvm.Cond) (rm : Room) (as' : Array Value) (s₀ : State) (Q : Option Value → Heap → List Loc → Prop) : Prop :=
  MetFree l y (head1 (Jvm.Cond.code y bytes maxL ret :: ws) rm) (fun a U => a = as' ∧ U = s₀) (fun _ _ _ _ _ => True) (fun _ U o U' => ∃ v L, o = .returned v ∧ Q v U'.heap L ∧ FrameEndW U o U' L rm.cells rm.slots)
theorem OEnds.wide {g : JFrame} (k : OEnds p e below s C S Q T g) : OEndsW p e below s C S Q T g := by
  obtain ⟨t, v, L, h1, h2, h3, h4, h5⟩ := k
  exact ⟨t, v, L, h1, h2, h3, h4, RoadKit.wide h5⟩
theorem OEndsW.pre {T' : State} {g g' : JFrame} (k : OEndsW p e below s C S Q T' g') (f : ∀ t, Steps p.tables e below (T'.setTop g') t → Steps p.tables e below (T.setTop g) t) : OEndsW p e below s C S Q T g := by
  obtain ⟨t, v, L, h1, h2⟩ := k
  exact ⟨t, v, L, f _ h1, h2⟩
theorem OEnds.reb {vm1 : Vm} {k1 : Nat} (hS : s.Since vm1 k1) {g : JFrame} (k : OEnds p e below (s.setVm vm1) C S (fun v h L => Q v h L ∧ k1 ≤ h.size) T g) : OEndsW p e below s C S Q T g := by
  obtain ⟨t, v, L, h1, h2, h3, ⟨h4, h4'⟩, h5, h6, h7⟩ := k
  obtain ⟨q1, q2, q3⟩ := hS.ended h6 h4' h7
  exact ⟨t, v, L, h1, h2, h3, h4, h5, q1, q2, q3⟩
theorem conW {y : MethodName} {maxL : Nat} {ret : Option FieldType} {ws : List Jvm.Cond} {rm : Room} {as' : Array Value} {s₀ : State} (hp : plainFor y = true)
    (body : ∀ (p : Program) (e : Env) (m : MethodId) (below : List Frame) (meth : Method) (c : Code) (s₁ : State), p.tables.exec = Jvm.exec → c.code = bytes → c.maxLocals = maxL → s₀.vm.findClass y.cls = some m.cls → meth.name = y.name → meth.sig.returnType = ret → meth.locks = false →
      Stand p l e rm s₀ m as' below meth c s₁ [] 0 0 → s₁.heap = s₀.heap → OEndsW p e below s₀ rm.cells rm.slots Q s₁ (entryFrame m as' maxL)) : OConW l Z y bytes maxL ret ws rm as' s₀ Q := by
  refine MetFree.of_bodySF hp hisR ?_
  intro p e s m args below meth c s₁ Bd hml hP hK
  obtain ⟨rfl, rfl⟩ := hP
  obtain ⟨t, v, L, h1, h2, h3, h4, h5⟩ := body p e m below meth c s₁ Bd.exec Bd.bytes hml (findClass_of_methodNamed Bd.named) (name_of_methodNamed Bd.named Bd.method).1 Bd.returns Bd.notSynchronized (Stand.of_body Bd) (by rw [Bd.state]; rfl)
  exact ⟨t, _, h1, h2, h3, v, L, rfl, h4, h5⟩
theorem entryW {mm : MethodId} {as' : Array Value} {maxL : Nat} {g : JFrame} (q : entryFrame mm as' maxL = g) (k : OEndsW p e below s C S Q T g) : OEndsW p e below s C S Q T (entryFrame mm as' maxL) := q ▸ k
end Walk
/-- a boolean as an int -/
def b2i (b : Bool) : Int32 := if b = true then 1 else 0
theorem b2i_t : b2i true = 1 := rfl
theorem b2i_f : b2i false = 0 := rfl
theorem nar_b2i (b : Bool) : nar .boolean (b2i b) = b2i b := by cases b <;> decide
theorem ifb_eq_t {b : Bool} (q : b = false) : ifCond.holds .eq (b2i b) = true := by subst q; decide
theorem ifb_eq_f {b : Bool} (q : b = true) : ifCond.holds .eq (b2i b) = false := by subst q; decide
theorem ifb_ne_t {b : Bool} (q : b = true) : ifCond.holds .ne (b2i b) = true := by subst q; decide
theorem ifb_ne_f {b : Bool} (q : b = false) : ifCond.holds .ne (b2i b) = false := by subst q; decide
theorem icb_eq_t {a b : Bool} (q : a = b) : if_icmp.holds .eq (b2i a) (b2i b) = true := by subst q; cases a <;> decide
theorem icb_eq_f {a b : Bool} (q : ¬ a = b) : if_icmp.holds .eq (b2i a) (b2i b) = false := by cases a <;> cases b <;> first | exact absurd rfl q | decide
theorem icb_ne_t {a b : Bool} (q : ¬ a = b) : if_icmp.holds .ne (b2i a) (b2i b) = true := by cases a <;> cases b <;> first | exact absurd rfl q | decide
theorem icb_ne_f {a b : Bool} (q : a = b) : if_icmp.holds .ne (b2i a) (b2i b) = false := by subst q; cases a <;> decide
end Jvm.Own
namespace Jvm.Pilot.@@N@@
open Jvm Jvm.ClassFile Sem Op Lib Jvm.Free Jvm.Stand Jvm.LawKit Jvm.RoadKit Bundle Jvm.Own Jvm.Pilot.@@N@@.Jvm.D
theorem d1_0 : decode prog_87_method_4_code 0 = .ok (.iload_n 0, 1) := by decide +kernel
theorem d1_1 : decode prog_87_method_4_code 1 = .ok (.bipush 97, 2) := by decide +kernel
theorem d1_3 : decode prog_87_method_4_code 3 = .ok (.if_icmp .lt 9, 3) := by decide +kernel
theorem d1_6 : decode prog_87_method_4_code 6 = .ok (.iload_n 0, 1) := by decide +kernel
theorem d1_7 : decode prog_87_method_4_code 7 = .ok (.bipush 122, 2) := by decide +kernel
theorem d1_9 : decode prog_87_method_4_code 9 = .ok (.if_icmp .le 176, 3) := by decide +kernel
theorem d1_12 : decode prog_87_method_4_code 12 = .ok (.iload_n 0, 1) := by decide +kernel
theorem d1_13 : decode prog_87_method_4_code 13 = .ok (.bipush 65, 2) := by decide +kernel
theorem d1_15 : decode prog_87_method_4_code 15 = .ok (.if_icmp .lt 9, 3) := by decide +kernel
theorem d1_18 : decode prog_87_method_4_code 18 = .ok (.iload_n 0, 1) := by decide +kernel
theorem d1_19 : decode prog_87_method_4_code 19 = .ok (.bipush 90, 2) := by decide +kernel
theorem d1_21 : decode prog_87_method_4_code 21 = .ok (.if_icmp .le 164, 3) := by decide +kernel
theorem d1_24 : decode prog_87_method_4_code 24 = .ok (.iload_n 0, 1) := by decide +kernel
theorem d1_25 : decode prog_87_method_4_code 25 = .ok (.sipush 192, 3) := by decide +kernel
theorem d1_28 : decode prog_87_method_4_code 28 = .ok (.if_icmp .lt 10, 3) := by decide +kernel
theorem d1_31 : decode prog_87_method_4_code 31 = .ok (.iload_n 0, 1) := by decide +kernel
theorem d1_32 : decode prog_87_method_4_code 32 = .ok (.sipush 214, 3) := by decide +kernel
theorem d1_35 : decode prog_87_method_4_code 35 = .ok (.if_icmp .le 150, 3) := by decide +kernel
theorem d1_38 : decode prog_87_method_4_code 38 = .ok (.iload_n 0, 1) := by decide +kernel
theorem d1_39 : decode prog_87_method_4_code 39 = .ok (.sipush 216, 3) := by decide +kernel
theorem d1_42 : decode prog_87_method_4_code 42 = .ok (.if_icmp .lt 10, 3) := by decide +kernel
theorem d1_45 : decode prog_87_method_4_code 45 = .ok (.iload_n 0, 1) := by decide +kernel
theorem d1_46 : decode prog_87_method_4_code 46 = .ok (.sipush 246, 3) := by decide +kernel
theorem d1_49 : decode prog_87_method_4_code 49 = .ok (.if_icmp .le 136, 3) := by decide +kernel
theorem d1_52 : decode prog_87_method_4_code 52 = .ok (.iload_n 0, 1) := by decide +kernel
theorem d1_53 : decode prog_87_method_4_code 53 = .ok (.sipush 248, 3) := by decide +kernel
theorem d1_56 : decode prog_87_method_4_code 56 = .ok (.if_icmp .lt 10, 3) := by decide +kernel
theorem d1_59 : decode prog_87_method_4_code 59 = .ok (.iload_n 0, 1) := by decide +kernel
theorem d1_60 : decode prog_87_method_4_code 60 = .ok (.sipush 767, 3) := by decide +kernel
theorem d1_63 : decode prog_87_method_4_code 63 = .ok (.if_icmp .le 122, 3) := by decide +kernel
theorem d1_66 : decode prog_87_method_4_code 66 = .ok (.iload_n 0, 1) := by decide +kernel
theorem d1_67 : decode prog_87_method_4_code 67 = .ok (.sipush 880, 3) := by decide +kernel
theorem d1_70 : decode prog_87_method_4_code 70 = .ok (.if_icmp .lt 10, 3) := by decide +kernel
theorem d1_73 : decode prog_87_method_4_code 73 = .ok (.iload_n 0, 1) := by decide +kernel
theorem d1_74 : decode prog_87_method_4_code 74 = .ok (.sipush 893, 3) := by decide +kernel
theorem d1_77 : decode prog_87_method_4_code 77 = .ok (.if_icmp .le 108, 3) := by decide +kernel
theorem d1_80 : decode prog_87_method_4_code 80 = .ok (.iload_n 0, 1) := by decide +kernel
theorem d1_81 : decode prog_87_method_4_code 81 = .ok (.sipush 895, 3) := by decide +kernel
theorem d1_84 : decode prog_87_method_4_code 84 = .ok (.if_icmp .lt 10, 3) := by decide +kernel
theorem d1_87 : decode prog_87_method_4_code 87 = .ok (.iload_n 0, 1) := by decide +kernel
theorem d1_88 : decode prog_87_method_4_code 88 = .ok (.sipush 8191, 3) := by decide +kernel
theorem d1_91 : decode prog_87_method_4_code 91 = .ok (.if_icmp .le 94, 3) := by decide +kernel
theorem d1_94 : decode prog_87_method_4_code 94 = .ok (.iload_n 0, 1) := by decide +kernel
theorem d1_95 : decode prog_87_method_4_code 95 = .ok (.sipush 8204, 3) := by decide +kernel
theorem d1_98 : decode prog_87_method_4_code 98 = .ok (.if_icmp .eq 87, 3) := by decide +kernel
theorem d1_101 : decode prog_87_method_4_code 101 = .ok (.iload_n 0, 1) := by decide +kernel
theorem d1_102 : decode prog_87_method_4_code 102 = .ok (.sipush 8205, 3) := by decide +kernel
theorem d1_105 : decode prog_87_method_4_code 105 = .ok (.if_icmp .eq 80, 3) := by decide +kernel
theorem d1_108 : decode prog_87_method_4_code 108 = .ok (.iload_n 0, 1) := by decide +kernel
theorem d1_109 : decode prog_87_method_4_code 109 = .ok (.sipush 8304, 3) := by decide +kernel
theorem d1_112 : decode prog_87_method_4_code 112 = .ok (.if_icmp .lt 10, 3) := by decide +kernel
theorem d1_115 : decode prog_87_method_4_code 115 = .ok (.iload_n 0, 1) := by decide +kernel
theorem d1_116 : decode prog_87_method_4_code 116 = .ok (.sipush 8591, 3) := by decide +kernel
theorem d1_119 : decode prog_87_method_4_code 119 = .ok (.if_icmp .le 66, 3) := by decide +kernel
theorem d1_122 : decode prog_87_method_4_code 122 = .ok (.iload_n 0, 1) := by decide +kernel
theorem d1_123 : decode prog_87_method_4_code 123 = .ok (.sipush 11264, 3) := by decide +kernel
theorem d1_126 : decode prog_87_method_4_code 126 = .ok (.if_icmp .lt 10, 3) := by decide +kernel
theorem d1_129 : decode prog_87_method_4_code 129 = .ok (.iload_n 0, 1) := by decide +kernel
theorem d1_130 : decode prog_87_method_4_code 130 = .ok (.sipush 12271, 3) := by decide +kernel
theorem d1_133 : decode prog_87_method_4_code 133 = .ok (.if_icmp .le 52, 3) := by decide +kernel
theorem d1_136 : decode prog_87_method_4_code 136 = .ok (.iload_n 0, 1) := by decide +kernel
theorem d1_137 : decode prog_87_method_4_code 137 = .ok (.sipush 12289, 3) := by decide +kernel
theorem d1_140 : decode prog_87_method_4_code 140 = .ok (.if_icmp .lt 9, 3) := by decide +kernel
theorem d1_143 : decode prog_87_method_4_code 143 = .ok (.iload_n 0, 1) := by decide +kernel
theorem d1_144 : decode prog_87_method_4_code 144 = .ok (.ldc 56, 2) := by decide +kernel
theorem d1_146 : decode prog_87_method_4_code 146 = .ok (.if_icmp .le 39, 3) := by decide +kernel
theorem d1_149 : decode prog_87_method_4_code 149 = .ok (.iload_n 0, 1) := by decide +kernel
theorem d1_150 : decode prog_87_method_4_code 150 = .ok (.ldc 57, 2) := by decide +kernel
theorem d1_152 : decode prog_87_method_4_code 152 = .ok (.if_icmp .lt 9, 3) := by decide +kernel
theorem d1_155 : decode prog_87_method_4_code 155 = .ok (.iload_n 0, 1) := by decide +kernel
theorem d1_156 : decode prog_87_method_4_code 156 = .ok (.ldc 58, 2) := by decide +kernel
theorem d1_158 : decode prog_87_method_4_code 158 = .ok (.if_icmp .le 27, 3) := by decide +kernel
theorem d1_161 : decode prog_87_method_4_code 161 = .ok (.iload_n 0, 1) := by decide +kernel
theorem d1_162 : decode prog_87_method_4_code 162 = .ok (.ldc 59, 2) := by decide +kernel
theorem d1_164 : decode prog_87_method_4_code 164 = .ok (.if_icmp .lt 9, 3) := by decide +kernel
theorem d1_167 : decode prog_87_method_4_code 167 = .ok (.iload_n 0, 1) := by decide +kernel
theorem d1_168 : decode prog_87_method_4_code 168 = .ok (.ldc 60, 2) := by decide +kernel
theorem d1_170 : decode prog_87_method_4_code 170 = .ok (.if_icmp .le 15, 3) := by decide +kernel
theorem d1_173 : decode prog_87_method_4_code 173 = .ok (.iload_n 0, 1) := by decide +kernel
theorem d1_174 : decode prog_87_method_4_code 174 = .ok (.ldc 61, 2) := by decide +kernel
theorem d1_176 : decode prog_87_method_4_code 176 = .ok (.if_icmp .lt 13, 3) := by decide +kernel
theorem d1_179 : decode prog_87_method_4_code 179 = .ok (.iload_n 0, 1) := by decide +kernel
theorem d1_180 : decode prog_87_method_4_code 180 = .ok (.ldc 62, 2) := by decide +kernel
theorem d1_182 : decode prog_87_method_4_code 182 = .ok (.if_icmp .gt 7, 3) := by decide +kernel
theorem d1_185 : decode prog_87_method_4_code 185 = .ok (.iconst 1, 1) := by decide +kernel
theorem d1_186 : decode prog_87_method_4_code 186 = .ok (.goto 4, 3) := by decide +kernel
theorem d1_189 : decode prog_87_method_4_code 189 = .ok (.iconst 0, 1) := by decide +kernel
theorem d1_190 : decode prog_87_method_4_code 190 = .ok (.ireturn, 1) := by decide +kernel
theorem d2_0 : decode method_2_code 0 = .ok (.iload_n 0, 1) := by decide +kernel
theorem d2_1 : decode method_2_code 1 = .ok (.bipush 65, 2) := by decide +kernel
theorem d2_3 : decode method_2_code 3 = .ok (.if_icmp .lt 9, 3) := by decide +kernel
theorem d2_6 : decode method_2_code 6 = .ok (.iload_n 0, 1) := by decide +kernel
theorem d2_7 : decode method_2_code 7 = .ok (.ldc 7, 2) := by decide +kernel
theorem d2_9 : decode method_2_code 9 = .ok (.if_icmp .le 5, 3) := by decide +kernel
theorem d2_12 : decode method_2_code 12 = .ok (.iconst 0, 1) := by decide +kernel
theorem d2_13 : decode method_2_code 13 = .ok (.ireturn, 1) := by decide +kernel
theorem d2_14 : decode method_2_code 14 = .ok (.iload_n 0, 1) := by decide +kernel
theorem d2_15 : decode method_2_code 15 = .ok (.bipush 91, 2) := by decide +kernel
theorem d2_17 : decode method_2_code 17 = .ok (.if_icmp .lt 11, 3) := by decide +kernel
theorem d2_20 : decode method_2_code 20 = .ok (.iload_n 0, 1) := by decide +kernel
theorem d2_21 : decode method_2_code 21 = .ok (.bipush 96, 2) := by decide +kernel
theorem d2_23 : decode method_2_code 23 = .ok (.if_icmp .gt 5, 3) := by decide +kernel
theorem d2_26 : decode method_2_code 26 = .ok (.iconst 0, 1) := by decide +kernel
theorem d2_27 : decode method_2_code 27 = .ok (.ireturn, 1) := by decide +kernel
theorem d2_28 : decode method_2_code 28 = .ok (.iload_n 0, 1) := by decide +kernel
theorem d2_29 : decode method_2_code 29 = .ok (.bipush 123, 2) := by decide +kernel
theorem d2_31 : decode method_2_code 31 = .ok (.if_icmp .lt 12, 3) := by decide +kernel
theorem d2_34 : decode method_2_code 34 = .ok (.iload_n 0, 1) := by decide +kernel
theorem d2_35 : decode method_2_code 35 = .ok (.sipush 191, 3) := by decide +kernel
theorem d2_38 : decode method_2_code 38 = .ok (.if_icmp .gt 5, 3) := by decide +kernel
theorem d2_41 : decode method_2_code 41 = .ok (.iconst 0, 1) := by decide +kernel
theorem d2_42 : decode method_2_code 42 = .ok (.ireturn, 1) := by decide +kernel
theorem d2_43 : decode method_2_code 43 = .ok (.iload_n 0, 1) := by decide +kernel
theorem d2_44 : decode method_2_code 44 = .ok (.sipush 215, 3) := by decide +kernel
theorem d2_47 : decode method_2_code 47 = .ok (.if_icmp .eq 10, 3) := by decide +kernel
theorem d2_50 : decode method_2_code 50 = .ok (.iload_n 0, 1) := by decide +kernel
theorem d2_51 : decode method_2_code 51 = .ok (.sipush 247, 3) := by decide +kernel
theorem d2_54 : decode method_2_code 54 = .ok (.if_icmp .ne 5, 3) := by decide +kernel
theorem d2_57 : decode method_2_code 57 = .ok (.iconst 0, 1) := by decide +kernel
theorem d2_58 : decode method_2_code 58 = .ok (.ireturn, 1) := by decide +kernel
theorem d2_59 : decode method_2_code 59 = .ok (.iload_n 0, 1) := by decide +kernel
theorem d2_60 : decode method_2_code 60 = .ok (.sipush 768, 3) := by decide +kernel
theorem d2_63 : decode method_2_code 63 = .ok (.if_icmp .lt 12, 3) := by decide +kernel
theorem d2_66 : decode method_2_code 66 = .ok (.iload_n 0, 1) := by decide +kernel
theorem d2_67 : decode method_2_code 67 = .ok (.sipush 879, 3) := by decide +kernel
theorem d2_70 : decode method_2_code 70 = .ok (.if_icmp .gt 5, 3) := by decide +kernel
theorem d2_73 : decode method_2_code 73 = .ok (.iconst 0, 1) := by decide +kernel
theorem d2_74 : decode method_2_code 74 = .ok (.ireturn, 1) := by decide +kernel
theorem d2_75 : decode method_2_code 75 = .ok (.iload_n 0, 1) := by decide +kernel
theorem d2_76 : decode method_2_code 76 = .ok (.sipush 894, 3) := by decide +kernel
theorem d2_79 : decode method_2_code 79 = .ok (.if_icmp .ne 5, 3) := by decide +kernel
theorem d2_82 : decode method_2_code 82 = .ok (.iconst 0, 1) := by decide +kernel
theorem d2_83 : decode method_2_code 83 = .ok (.ireturn, 1) := by decide +kernel
theorem d2_84 : decode method_2_code 84 = .ok (.iload_n 0, 1) := by decide +kernel
theorem d2_85 : decode method_2_code 85 = .ok (.sipush 8192, 3) := by decide +kernel
theorem d2_88 : decode method_2_code 88 = .ok (.if_icmp .lt 12, 3) := by decide +kernel
theorem d2_91 : decode method_2_code 91 = .ok (.iload_n 0, 1) := by decide +kernel
theorem d2_92 : decode method_2_code 92 = .ok (.sipush 8203, 3) := by decide +kernel
theorem d2_95 : decode method_2_code 95 = .ok (.if_icmp .gt 5, 3) := by decide +kernel
theorem d2_98 : decode method_2_code 98 = .ok (.iconst 0, 1) := by decide +kernel
theorem d2_99 : decode method_2_code 99 = .ok (.ireturn, 1) := by decide +kernel
theorem d2_100 : decode method_2_code 100 = .ok (.iload_n 0, 1) := by decide +kernel
theorem d2_101 : decode method_2_code 101 = .ok (.sipush 8206, 3) := by decide +kernel
theorem d2_104 : decode method_2_code 104 = .ok (.if_icmp .lt 12, 3) := by decide +kernel
theorem d2_107 : decode method_2_code 107 = .ok (.iload_n 0, 1) := by decide +kernel
theorem d2_108 : decode method_2_code 108 = .ok (.sipush 8303, 3) := by decide +kernel
theorem d2_111 : decode method_2_code 111 = .ok (.if_icmp .gt 5, 3) := by decide +kernel
theorem d2_114 : decode method_2_code 114 = .ok (.iconst 0, 1) := by decide +kernel
theorem d2_115 : decode method_2_code 115 = .ok (.ireturn, 1) := by decide +kernel
theorem d2_116 : decode method_2_code 116 = .ok (.iload_n 0, 1) := by decide +kernel
theorem d2_117 : decode method_2_code 117 = .ok (.sipush 8592, 3) := by decide +kernel
theorem d2_120 : decode method_2_code 120 = .ok (.if_icmp .lt 12, 3) := by decide +kernel
theorem d2_123 : decode method_2_code 123 = .ok (.iload_n 0, 1) := by decide +kernel
theorem d2_124 : decode method_2_code 124 = .ok (.sipush 11263, 3) := by decide +kernel
theorem d2_127 : decode method_2_code 127 = .ok (.if_icmp .gt 5, 3) := by decide +kernel
theorem d2_130 : decode method_2_code 130 = .ok (.iconst 0, 1) := by decide +kernel
theorem d2_131 : decode method_2_code 131 = .ok (.ireturn, 1) := by decide +kernel
theorem d2_132 : decode method_2_code 132 = .ok (.iload_n 0, 1) := by decide +kernel
theorem d2_133 : decode method_2_code 133 = .ok (.sipush 12272, 3) := by decide +kernel
theorem d2_136 : decode method_2_code 136 = .ok (.if_icmp .lt 12, 3) := by decide +kernel
theorem d2_139 : decode method_2_code 139 = .ok (.iload_n 0, 1) := by decide +kernel
theorem d2_140 : decode method_2_code 140 = .ok (.sipush 12288, 3) := by decide +kernel
theorem d2_143 : decode method_2_code 143 = .ok (.if_icmp .gt 5, 3) := by decide +kernel
theorem d2_146 : decode method_2_code 146 = .ok (.iconst 0, 1) := by decide +kernel
theorem d2_147 : decode method_2_code 147 = .ok (.ireturn, 1) := by decide +kernel
theorem d2_148 : decode method_2_code 148 = .ok (.iload_n 0, 1) := by decide +kernel
theorem d2_149 : decode method_2_code 149 = .ok (.ldc 8, 2) := by decide +kernel
theorem d2_151 : decode method_2_code 151 = .ok (.if_icmp .lt 11, 3) := by decide +kernel
theorem d2_154 : decode method_2_code 154 = .ok (.iload_n 0, 1) := by decide +kernel
theorem d2_155 : decode method_2_code 155 = .ok (.ldc 9, 2) := by decide +kernel
theorem d2_157 : decode method_2_code 157 = .ok (.if_icmp .gt 5, 3) := by decide +kernel
theorem d2_160 : decode method_2_code 160 = .ok (.iconst 0, 1) := by decide +kernel
theorem d2_161 : decode method_2_code 161 = .ok (.ireturn, 1) := by decide +kernel
theorem d2_162 : decode method_2_code 162 = .ok (.iload_n 0, 1) := by decide +kernel
theorem d2_163 : decode method_2_code 163 = .ok (.ldc 10, 2) := by decide +kernel
theorem d2_165 : decode method_2_code 165 = .ok (.if_icmp .lt 11, 3) := by decide +kernel
theorem d2_168 : decode method_2_code 168 = .ok (.iload_n 0, 1) := by decide +kernel
theorem d2_169 : decode method_2_code 169 = .ok (.ldc 11, 2) := by decide +kernel
theorem d2_171 : decode method_2_code 171 = .ok (.if_icmp .gt 5, 3) := by decide +kernel
theorem d2_174 : decode method_2_code 174 = .ok (.iconst 0, 1) := by decide +kernel
theorem d2_175 : decode method_2_code 175 = .ok (.ireturn, 1) := by decide +kernel
theorem d2_176 : decode method_2_code 176 = .ok (.iload_n 0, 1) := by decide +kernel
theorem d2_177 : decode method_2_code 177 = .ok (.ldc 12, 2) := by decide +kernel
theorem d2_179 : decode method_2_code 179 = .ok (.if_icmp .lt 11, 3) := by decide +kernel
theorem d2_182 : decode method_2_code 182 = .ok (.iload_n 0, 1) := by decide +kernel
theorem d2_183 : decode method_2_code 183 = .ok (.ldc 13, 2) := by decide +kernel
theorem d2_185 : decode method_2_code 185 = .ok (.if_icmp .gt 5, 3) := by decide +kernel
theorem d2_188 : decode method_2_code 188 = .ok (.iconst 0, 1) := by decide +kernel
theorem d2_189 : decode method_2_code 189 = .ok (.ireturn, 1) := by decide +kernel
theorem d2_190 : decode method_2_code 190 = .ok (.iconst 1, 1) := by decide +kernel
theorem d2_191 : decode method_2_code 191 = .ok (.ireturn, 1) := by decide +kernel
theorem pd_0 : parseMethodDescriptor "(I)Z" = some ⟨[.int], some (.boolean)⟩ := by decide +kernel
theorem pn1 : plainName "com/example/mapped_lineage/mappedlineage/text/Names" = true := by first | (simp [plainName, overriddenIn]; done) | decide +kernel
theorem pn0 : plainName "com/example/mapped_lineage/mappedlineage/text/NamesIsPnCharsBasePinLaw" = true := by first | (simp [plainName, overriddenIn]; done) | decide +kernel
theorem ef1 (m : MethodId) (x0 : Int32) : entryFrame m #[(.int x0)] 1 = mkF m 0 #[.val (.int x0)] [] := by first | (simp [entryFrame, mkF, argsToLocals, Value.category, maxLocals]; done) | rfl
theorem ef0 (m : MethodId) (x0 x1 x2 : Int32) : entryFrame m #[(.int x0), (.int x1), (.int x2)] maxLocals = mkF m 0 #[.val (.int x0), .val (.int x1), .val (.int x2), .unset, .unset, .unset, .unset, .unset, .unset, .unset, .unset] [] := by first | (simp [entryFrame, mkF, argsToLocals, Value.category, maxLocals]; done) | rfl
def own_f_189 (p1 : Int32) : Bool := false
def own_f_185 (p1 : Int32) : Bool := true
def own_f_173 (p1 : Int32) : Bool := if p1 < (65536 : Int32) then false else (if (983039 : Int32) < p1 then false else (true))
def own_f_161 (p1 : Int32) : Bool := if p1 < (65008 : Int32) then own_f_173 p1 else (if (65533 : Int32) < p1 then own_f_173 p1 else (true))
def own_f_149 (p1 : Int32) : Bool := if p1 < (63744 : Int32) then own_f_161 p1 else (if (64975 : Int32) < p1 then own_f_161 p1 else (true))
def own_f_136 (p1 : Int32) : Bool := if p1 < (12289 : Int32) then own_f_149 p1 else (if (55295 : Int32) < p1 then own_f_149 p1 else (true))
def own_f_122 (p1 : Int32) : Bool := if p1 < (11264 : Int32) then own_f_136 p1 else (if (12271 : Int32) < p1 then own_f_136 p1 else (true))
def own_f_94 (p1 : Int32) : Bool := if p1 = (8204 : Int32) then true else (if p1 = (8205 : Int32) then true else (if p1 < (8304 : Int32) then own_f_122 p1 else (if (8591 : Int32) < p1 then own_f_122 p1 else (true))))
def own_f_80 (p1 : Int32) : Bool := if p1 < (895 : Int32) then own_f_94 p1 else (if (8191 : Int32) < p1 then own_f_94 p1 else (true))
def own_f_66 (p1 : Int32) : Bool := if p1 < (880 : Int32) then own_f_80 p1 else (if (893 : Int32) < p1 then own_f_80 p1 else (true))
def own_f_52 (p1 : Int32) : Bool := if p1 < (248 : Int32) then own_f_66 p1 else (if (767 : Int32) < p1 then own_f_66 p1 else (true))
def own_f_38 (p1 : Int32) : Bool := if p1 < (216 : Int32) then own_f_52 p1 else (if (246 : Int32) < p1 then own_f_52 p1 else (true))
def own_f_24 (p1 : Int32) : Bool := if p1 < (192 : Int32) then own_f_38 p1 else (if (214 : Int32) < p1 then own_f_38 p1 else (true))
def own_f_12 (p1 : Int32) : Bool := if p1 < (65 : Int32) then own_f_24 p1 else (if (90 : Int32) < p1 then own_f_24 p1 else (true))
def own_f_0 (p1 : Int32) : Bool := if p1 < (97 : Int32) then own_f_12 p1 else (if (122 : Int32) < p1 then own_f_12 p1 else (true))
def own_g_190 (p1 : Int32) : Bool := true
def own_g_176 (p1 : Int32) : Bool := if p1 < (65534 : Int32) then true else (if (65535 : Int32) < p1 then true else (false))
def own_g_162 (p1 : Int32) : Bool := if p1 < (64976 : Int32) then own_g_176 p1 else (if (65007 : Int32) < p1 then own_g_176 p1 else (false))
def own_g_148 (p1 : Int32) : Bool := if p1 < (55296 : Int32) then own_g_162 p1 else (if (63743 : Int32) < p1 then own_g_162 p1 else (false))
def own_g_132 (p1 : Int32) : Bool := if p1 < (12272 : Int32) then own_g_148 p1 else (if (12288 : Int32) < p1 then own_g_148 p1 else (false))
def own_g_116 (p1 : Int32) : Bool := if p1 < (8592 : Int32) then own_g_132 p1 else (if (11263 : Int32) < p1 then own_g_132 p1 else (false))
def own_g_100 (p1 : Int32) : Bool := if p1 < (8206 : Int32) then own_g_116 p1 else (if (8303 : Int32) < p1 then own_g_116 p1 else (false))
def own_g_75 (p1 : Int32) : Bool := if p1 = (894 : Int32) then false else (if p1 < (8192 : Int32) then own_g_100 p1 else (if (8203 : Int32) < p1 then own_g_100 p1 else (false)))
def own_g_57 (p1 : Int32) : Bool := false
def own_g_43 (p1 : Int32) : Bool := if p1 = (215 : Int32) then false else (if p1 = (247 : Int32) then false else (if p1 < (768 : Int32) then own_g_75 p1 else (if (879 : Int32) < p1 then own_g_75 p1 else (false))))
def own_g_28 (p1 : Int32) : Bool := if p1 < (123 : Int32) then own_g_43 p1 else (if (191 : Int32) < p1 then own_g_43 p1 else (false))
def own_g_12 (p1 : Int32) : Bool := false
def own_g_0 (p1 : Int32) : Bool := if p1 < (65 : Int32) then false else (if (983039 : Int32) < p1 then false else (if p1 < (91 : Int32) then own_g_28 p1 else (if (96 : Int32) < p1 then own_g_28 p1 else (false))))
theorem own_true : ((true : Bool) = true) = True := by simp
theorem own_false : ((false : Bool) = true) = False := by simp
theorem own_lA {c lo hi : Int32} {r : Bool} (l h : Int) (q1 : lo.toInt = l) (q2 : hi.toInt = h) : ((if c < lo then r else (if hi < c then r else true)) = true) ↔ ((l ≤ c.toInt ∧ c.toInt ≤ h) ∨ r = true) := by
  simp only [Int32.lt_iff_toInt_lt, q1, q2]
  by_cases a : c.toInt < l
  · simp [a]; omega
  · by_cases b : h < c.toInt
    · simp [a, b]; omega
    · simp [a, b]; omega
theorem own_lD {c lo hi : Int32} (l h : Int) (q1 : lo.toInt = l) (q2 : hi.toInt = h) : ((if c < lo then false else (if hi < c then false else true)) = true) ↔ (l ≤ c.toInt ∧ c.toInt ≤ h) := by
  rw [own_lA l h q1 q2]; simp
theorem own_lB {c k : Int32} {r : Bool} (z : Int) (q : k.toInt = z) : ((if c = k then true else r) = true) ↔ (c.toInt = z ∨ r = true) := by
  subst q
  by_cases a : c = k
  · simp [a]
  · have : ¬ c.toInt = k.toInt := fun h => a (Int32.toInt_inj.mp h)
    simp [a, this]
theorem own_lC {c k : Int32} {r : Bool} (z : Int) (q : k.toInt = z) : ((if c < k then true else r) = true) ↔ (c.toInt < z ∨ r = true) := by
  simp only [Int32.lt_iff_toInt_lt, q]
  by_cases a : c.toInt < z <;> simp [a]
theorem own_lE {c k : Int32} (z : Int) (q : k.toInt = z) : ((if k < c then true else false) = true) ↔ (z < c.toInt) := by
  simp only [Int32.lt_iff_toInt_lt, q]
  by_cases a : z < c.toInt <;> simp [a]
theorem own_nA {c lo hi : Int32} {r : Bool} (l h : Int) (q1 : lo.toInt = l) (q2 : hi.toInt = h) : ((if c < lo then r else (if hi < c then r else false)) = true) ↔ ((c.toInt < l ∨ h < c.toInt) ∧ r = true) := by
  simp only [Int32.lt_iff_toInt_lt, q1, q2]
  by_cases a : c.toInt < l
  · simp [a]
  · by_cases b : h < c.toInt
    · simp [a, b]
    · simp [a, b]
theorem own_nB {c k : Int32} {r : Bool} (z : Int) (q : k.toInt = z) : ((if c = k then false else r) = true) ↔ (¬ c.toInt = z ∧ r = true) := by
  subst q
  by_cases a : c = k
  · simp [a]
  · have : ¬ c.toInt = k.toInt := fun h => a (Int32.toInt_inj.mp h)
    simp [a, this]
theorem own_nC {c k : Int32} {r : Bool} (z : Int) (q : k.toInt = z) : ((if c < k then false else r) = true) ↔ (¬ c.toInt < z ∧ r = true) := by
  simp only [Int32.lt_iff_toInt_lt, q]
  by_cases a : c.toInt < z <;> simp [a]
theorem own_nE {c k : Int32} {r : Bool} (z : Int) (q : k.toInt = z) : ((if k < c then false else r) = true) ↔ (¬ z < c.toInt ∧ r = true) := by
  simp only [Int32.lt_iff_toInt_lt, q]
  by_cases a : z < c.toInt <;> simp [a]
theorem own_lF {c k : Int32} {r : Bool} (z : Int) (q : k.toInt = z) : ((if k < c then true else r) = true) ↔ (z < c.toInt ∨ r = true) := by
  simp only [Int32.lt_iff_toInt_lt, q]
  by_cases a : z < c.toInt <;> simp [a]
theorem own_lEn {c k : Int32} (z : Int) (q : k.toInt = z) : ((if k < c then false else true) = true) ↔ (¬ z < c.toInt) := by
  simp only [Int32.lt_iff_toInt_lt, q]
  by_cases a : z < c.toInt <;> simp [a]
theorem own_f_i (p1 : Int32) : own_f_0 p1 = true ↔ ((97 ≤ p1.toInt ∧ p1.toInt ≤ 122) ∨ ((65 ≤ p1.toInt ∧ p1.toInt ≤ 90) ∨ ((192 ≤ p1.toInt ∧ p1.toInt ≤ 214) ∨ ((216 ≤ p1.toInt ∧ p1.toInt ≤ 246) ∨ ((248 ≤ p1.toInt ∧ p1.toInt ≤ 767) ∨ ((880 ≤ p1.toInt ∧ p1.toInt ≤ 893) ∨ ((895 ≤ p1.toInt ∧ p1.toInt ≤ 8191) ∨ (p1.toInt = 8204 ∨ (p1.toInt = 8205 ∨ ((8304 ≤ p1.toInt ∧ p1.toInt ≤ 8591) ∨ ((11264 ≤ p1.toInt ∧ p1.toInt ≤ 12271) ∨ ((12289 ≤ p1.toInt ∧ p1.toInt ≤ 55295) ∨ ((63744 ≤ p1.toInt ∧ p1.toInt ≤ 64975) ∨ ((65008 ≤ p1.toInt ∧ p1.toInt ≤ 65533) ∨ (65536 ≤ p1.toInt ∧ p1.toInt ≤ 983039))))))))))))))) := by
  rw [own_f_0, own_lA 97 122 (by decide) (by decide), own_f_12, own_lA 65 90 (by decide) (by decide), own_f_24, own_lA 192 214 (by decide) (by decide), own_f_38, own_lA 216 246 (by decide) (by decide), own_f_52, own_lA 248 767 (by decide) (by decide), own_f_66, own_lA 880 893 (by decide) (by decide), own_f_80, own_lA 895 8191 (by decide) (by decide), own_f_94, own_lB 8204 (by decide), own_lB 8205 (by decide), own_lA 8304 8591 (by decide) (by decide), own_f_122, own_lA 11264 12271 (by decide) (by decide), own_f_136, own_lA 12289 55295 (by decide) (by decide), own_f_149, own_lA 63744 64975 (by decide) (by decide), own_f_161, own_lA 65008 65533 (by decide) (by decide), own_f_173, own_lD 65536 983039 (by decide) (by decide)]
theorem own_g_i (p1 : Int32) : own_g_0 p1 = true ↔ (¬ p1.toInt < 65 ∧ (¬ 983039 < p1.toInt ∧ ((p1.toInt < 91 ∨ 96 < p1.toInt) ∧ ((p1.toInt < 123 ∨ 191 < p1.toInt) ∧ (¬ p1.toInt = 215 ∧ (¬ p1.toInt = 247 ∧ ((p1.toInt < 768 ∨ 879 < p1.toInt) ∧ (¬ p1.toInt = 894 ∧ ((p1.toInt < 8192 ∨ 8203 < p1.toInt) ∧ ((p1.toInt < 8206 ∨ 8303 < p1.toInt) ∧ ((p1.toInt < 8592 ∨ 11263 < p1.toInt) ∧ ((p1.toInt < 12272 ∨ 12288 < p1.toInt) ∧ ((p1.toInt < 55296 ∨ 63743 < p1.toInt) ∧ ((p1.toInt < 64976 ∨ 65007 < p1.toInt) ∧ ((p1.toInt < 65534 ∨ 65535 < p1.toInt) ∧ True))))))))))))))) := by
  rw [own_g_0, own_nC 65 (by decide), own_nE 983039 (by decide), own_nA 91 96 (by decide) (by decide), own_g_28, own_nA 123 191 (by decide) (by decide), own_g_43, own_nB 215 (by decide), own_nB 247 (by decide), own_nA 768 879 (by decide) (by decide), own_g_75, own_nB 894 (by decide), own_nA 8192 8203 (by decide) (by decide), own_g_100, own_nA 8206 8303 (by decide) (by decide), own_g_116, own_nA 8592 11263 (by decide) (by decide), own_g_132, own_nA 12272 12288 (by decide) (by decide), own_g_148, own_nA 55296 63743 (by decide) (by decide), own_g_162, own_nA 64976 65007 (by decide) (by decide), own_g_176, own_nA 65534 65535 (by decide) (by decide), own_true]
theorem own_same (c : Int32) : own_f_0 c = own_g_0 c := by
  have e1 := own_f_i c
  have e2 := own_g_i c
  have e3 : own_f_0 c = true ↔ own_g_0 c = true := by rw [e1, e2]; simp only [and_true]; omega
  cases hf : own_f_0 c <;> cases hg : own_g_0 c <;> simp [hf, hg] at e3 ⊢
def own_AI (cl : Cell) (n : Nat) : Prop := cl.slots.size = n ∧ ∀ i, i < n → ∃ x : Int32, cl.slots[i]? = some (.int x)
theorem own_AI.set {cl : Cell} {n : Nat} (h : own_AI cl n) (j : Nat) (x : Int32) : own_AI (cl.setSlot j (.int x)) n := by
  refine ⟨by rw [sz_set]; exact h.1, fun i hi => ?_⟩
  by_cases e : j = i
  · subst e
    exact ⟨x, by simp [Cell.setSlot, h.1, hi]⟩
  · obtain ⟨y, hy⟩ := h.2 i hi
    exact ⟨y, by simp only [Cell.setSlot]; rw [Array.getElem?_setIfInBounds_ne e]; exact hy⟩
theorem own_AI.new (cA : ClassId) (n : Int32) : own_AI (newA cA .int n) n.toNatClampNeg := ⟨sz_new _ _ _, fun i hi => ⟨0, by simp [newA, hi, defaultValue]⟩⟩
theorem own_AI.inb {cl : Cell} {n : Nat} (h : own_AI cl n) {j : Int32} (q : ¬ (j < 0 ∨ n ≤ j.toNatClampNeg)) : ¬ (j < 0 ∨ cl.slots.size ≤ j.toNatClampNeg) := by rw [h.1]; exact q
theorem own_idx (k : Int32) : ¬ (((k &&& (2147483647 : Int32)) % (36 : Int32)) < 0 ∨ 36 ≤ ((k &&& (2147483647 : Int32)) % (36 : Int32)).toNatClampNeg) := by
  have h1 := c_mask k 2147483647 31 (by decide) (by decide)
  have h2 := (c_irem (k &&& 2147483647) 36 36 (by decide)).1 (by omega)
  have k0 : (0 : Int32).toInt = 0 := by decide
  rw [Int32.lt_iff_toInt_lt, k0]
  have h3 : ((k &&& (2147483647 : Int32)) % (36 : Int32)).toNatClampNeg = ((k &&& (2147483647 : Int32)) % (36 : Int32)).toInt.toNat := rfl
  rw [h3]
  omega
set_option maxRecDepth 65536 in
set_option maxHeartbeats 40000000 in
theorem rm1 (l : Launch) (Z : State) (a0 : Array Value) (hw : ∀ d ∈ tables_1, d.before a0 Z = true) (p1 : Int32) (h0 : Heap) (n0 : Nat)  :
    OCon l Z (⟨"com/example/mapped_lineage/mappedlineage/text/Names", "isPnCharsBase", "(I)Z"⟩ : MethodName) prog_87_method_4_code 1 (some (.boolean)) [] ({ frames := 0, cells := 0, slots := 0, locals := 0 } : Room) #[(.int p1)] h0 (fun v h L => v = some (.int (b2i (own_f_0 p1))) ∧ h = h0 ∧ Fr n0 L) := by
  refine con (plainFor_of_name pn1) ?_
  intro p e s m below meth c s₁ hx hby hml hZ hown hnm hret hlk X0 e0
  refine entry (ef1 m p1) ?_
  have B189 : OEnds p e below s 0 0 (fun v h L => v = some (.int (b2i (own_f_189 p1))) ∧ h = h0 ∧ Fr n0 L) s₁ (mkF m 189 #[.val (.int p1)] []) := by
    refine s_iconst X0 hx hby (n := 190) (v := (0 : Int32)) d1_189 rfl rfl ?_
    exact s_retN X0 hx hby hlk hret (t := .boolean) (by simp) (z' := (0 : Int32)) (by decide) d1_190 (by decide) (by decide) ⟨by simp [own_f_189, b2i], e0, Fr.nil _⟩
  have B185 : OEnds p e below s 0 0 (fun v h L => v = some (.int (b2i (own_f_185 p1))) ∧ h = h0 ∧ Fr n0 L) s₁ (mkF m 185 #[.val (.int p1)] []) := by
    refine s_iconst X0 hx hby (n := 186) (v := (1 : Int32)) d1_185 rfl rfl ?_
    refine s_goto X0 hx hby (n := 190) d1_186 (by decide) (by decide) ?_
    exact s_retN X0 hx hby hlk hret (t := .boolean) (by simp) (z' := (1 : Int32)) (by decide) d1_190 (by decide) (by decide) ⟨by simp [own_f_185, own_f_189, b2i], e0, Fr.nil _⟩
  have B173 : OEnds p e below s 0 0 (fun v h L => v = some (.int (b2i (own_f_173 p1))) ∧ h = h0 ∧ Fr n0 L) s₁ (mkF m 173 #[.val (.int p1)] []) := by
    refine s_iloadN X0 hx hby (n := 174) (x := p1) d1_173 rfl rfl ?_
    refine s_ldcI X0 hx hby hZ (n := 176) hown (hw _ (List.mem_of_getElem? (i := 16) rfl)) d1_174 rfl ?_
    by_cases c176 : p1 < (65536 : Int32)
    · refine s_icmpY X0 hx hby (n := 189) d1_176 (XT.ii_lt_t c176) (by decide) (by decide) ?_
      rw [show own_f_173 p1 = own_f_189 p1 from by simp [own_f_173, own_f_189, own_f_185, c176]]
      exact B189
    · refine s_icmpN X0 hx hby (n := 179) d1_176 (XT.ii_lt_f c176) rfl ?_
      refine s_iloadN X0 hx hby (n := 180) (x := p1) d1_179 rfl rfl ?_
      refine s_ldcI X0 hx hby hZ (n := 182) hown (hw _ (List.mem_of_getElem? (i := 27) rfl)) d1_180 rfl ?_
      by_cases c182 : (983039 : Int32) < p1
      · refine s_icmpY X0 hx hby (n := 189) d1_182 (XT.ii_gt_t c182) (by decide) (by decide) ?_
        rw [show own_f_173 p1 = own_f_189 p1 from by simp [own_f_173, own_f_189, own_f_185, c176, c182]]
        exact B189
      · refine s_icmpN X0 hx hby (n := 185) d1_182 (XT.ii_gt_f c182) rfl ?_
        rw [show own_f_173 p1 = own_f_185 p1 from by simp [own_f_173, own_f_189, own_f_185, c176, c182]]
        exact B185
  have B161 : OEnds p e below s 0 0 (fun v h L => v = some (.int (b2i (own_f_161 p1))) ∧ h = h0 ∧ Fr n0 L) s₁ (mkF m 161 #[.val (.int p1)] []) := by
    refine s_iloadN X0 hx hby (n := 162) (x := p1) d1_161 rfl rfl ?_
    refine s_ldcI X0 hx hby hZ (n := 164) hown (hw _ (List.mem_of_getElem? (i := 15) rfl)) d1_162 rfl ?_
    by_cases c164 : p1 < (65008 : Int32)
    · refine s_icmpY X0 hx hby (n := 173) d1_164 (XT.ii_lt_t c164) (by decide) (by decide) ?_
      rw [show own_f_161 p1 = own_f_173 p1 from by simp [own_f_161, own_f_189, own_f_185, c164]]
      exact B173
    · refine s_icmpN X0 hx hby (n := 167) d1_164 (XT.ii_lt_f c164) rfl ?_
      refine s_iloadN X0 hx hby (n := 168) (x := p1) d1_167 rfl rfl ?_
      refine s_ldcI X0 hx hby hZ (n := 170) hown (hw _ (List.mem_of_getElem? (i := 26) rfl)) d1_168 rfl ?_
      by_cases c170 : (65533 : Int32) < p1
      · refine s_icmpN X0 hx hby (n := 173) d1_170 (XT.ii_le_f c170) rfl ?_
        rw [show own_f_161 p1 = own_f_173 p1 from by simp [own_f_161, own_f_189, own_f_185, c164, c170]]
        exact B173
      · refine s_icmpY X0 hx hby (n := 185) d1_170 (XT.ii_le_t c170) (by decide) (by decide) ?_
        rw [show own_f_161 p1 = own_f_185 p1 from by simp [own_f_161, own_f_189, own_f_185, c164, c170]]
        exact B185
  have B149 : OEnds p e below s 0 0 (fun v h L => v = some (.int (b2i (own_f_149 p1))) ∧ h = h0 ∧ Fr n0 L) s₁ (mkF m 149 #[.val (.int p1)] []) := by
    refine s_iloadN X0 hx hby (n := 150) (x := p1) d1_149 rfl rfl ?_
    refine s_ldcI X0 hx hby hZ (n := 152) hown (hw _ (List.mem_of_getElem? (i := 14) rfl)) d1_150 rfl ?_
    by_cases c152 : p1 < (63744 : Int32)
    · refine s_icmpY X0 hx hby (n := 161) d1_152 (XT.ii_lt_t c152) (by decide) (by decide) ?_
      rw [show own_f_149 p1 = own_f_161 p1 from by simp [own_f_149, own_f_189, own_f_185, c152]]
      exact B161
    · refine s_icmpN X0 hx hby (n := 155) d1_152 (XT.ii_lt_f c152) rfl ?_
      refine s_iloadN X0 hx hby (n := 156) (x := p1) d1_155 rfl rfl ?_
      refine s_ldcI X0 hx hby hZ (n := 158) hown (hw _ (List.mem_of_getElem? (i := 25) rfl)) d1_156 rfl ?_
      by_cases c158 : (64975 : Int32) < p1
      · refine s_icmpN X0 hx hby (n := 161) d1_158 (XT.ii_le_f c158) rfl ?_
        rw [show own_f_149 p1 = own_f_161 p1 from by simp [own_f_149, own_f_189, own_f_185, c152, c158]]
        exact B161
      · refine s_icmpY X0 hx hby (n := 185) d1_158 (XT.ii_le_t c158) (by decide) (by decide) ?_
        rw [show own_f_149 p1 = own_f_185 p1 from by simp [own_f_149, own_f_189, own_f_185, c152, c158]]
        exact B185
  have B136 : OEnds p e below s 0 0 (fun v h L => v = some (.int (b2i (own_f_136 p1))) ∧ h = h0 ∧ Fr n0 L) s₁ (mkF m 136 #[.val (.int p1)] []) := by
    refine s_iloadN X0 hx hby (n := 137) (x := p1) d1_136 rfl rfl ?_
    refine s_sipush X0 hx hby (n := 140) (v := (12289 : Int32)) d1_137 rfl rfl ?_
    by_cases c140 : p1 < (12289 : Int32)
    · refine s_icmpY X0 hx hby (n := 149) d1_140 (XT.ii_lt_t c140) (by decide) (by decide) ?_
      rw [show own_f_136 p1 = own_f_149 p1 from by simp [own_f_136, own_f_189, own_f_185, c140]]
      exact B149
    · refine s_icmpN X0 hx hby (n := 143) d1_140 (XT.ii_lt_f c140) rfl ?_
      refine s_iloadN X0 hx hby (n := 144) (x := p1) d1_143 rfl rfl ?_
      refine s_ldcI X0 hx hby hZ (n := 146) hown (hw _ (List.mem_of_getElem? (i := 24) rfl)) d1_144 rfl ?_
      by_cases c146 : (55295 : Int32) < p1
      · refine s_icmpN X0 hx hby (n := 149) d1_146 (XT.ii_le_f c146) rfl ?_
        rw [show own_f_136 p1 = own_f_149 p1 from by simp [own_f_136, own_f_189, own_f_185, c140, c146]]
        exact B149
      · refine s_icmpY X0 hx hby (n := 185) d1_146 (XT.ii_le_t c146) (by decide) (by decide) ?_
        rw [show own_f_136 p1 = own_f_185 p1 from by simp [own_f_136, own_f_189, own_f_185, c140, c146]]
        exact B185
  have B122 : OEnds p e below s 0 0 (fun v h L => v = some (.int (b2i (own_f_122 p1))) ∧ h = h0 ∧ Fr n0 L) s₁ (mkF m 122 #[.val (.int p1)] []) := by
    refine s_iloadN X0 hx hby (n := 123) (x := p1) d1_122 rfl rfl ?_
    refine s_sipush X0 hx hby (n := 126) (v := (11264 : Int32)) d1_123 rfl rfl ?_
    by_cases c126 : p1 < (11264 : Int32)
    · refine s_icmpY X0 hx hby (n := 136) d1_126 (XT.ii_lt_t c126) (by decide) (by decide) ?_
      rw [show own_f_122 p1 = own_f_136 p1 from by simp [own_f_122, own_f_189, own_f_185, c126]]
      exact B136
    · refine s_icmpN X0 hx hby (n := 129) d1_126 (XT.ii_lt_f c126) rfl ?_
      refine s_iloadN X0 hx hby (n := 130) (x := p1) d1_129 rfl rfl ?_
      refine s_sipush X0 hx hby (n := 133) (v := (12271 : Int32)) d1_130 rfl rfl ?_
      by_cases c133 : (12271 : Int32) < p1
      · refine s_icmpN X0 hx hby (n := 136) d1_133 (XT.ii_le_f c133) rfl ?_
        rw [show own_f_122 p1 = own_f_136 p1 from by simp [own_f_122, own_f_189, own_f_185, c126, c133]]
        exact B136
      · refine s_icmpY X0 hx hby (n := 185) d1_133 (XT.ii_le_t c133) (by decide) (by decide) ?_
        rw [show own_f_122 p1 = own_f_185 p1 from by simp [own_f_122, own_f_189, own_f_185, c126, c133]]
        exact B185
  have B94 : OEnds p e below s 0 0 (fun v h L => v = some (.int (b2i (own_f_94 p1))) ∧ h = h0 ∧ Fr n0 L) s₁ (mkF m 94 #[.val (.int p1)] []) := by
    refine s_iloadN X0 hx hby (n := 95) (x := p1) d1_94 rfl rfl ?_
    refine s_sipush X0 hx hby (n := 98) (v := (8204 : Int32)) d1_95 rfl rfl ?_
    by_cases c98 : p1 = (8204 : Int32)
    · refine s_icmpY X0 hx hby (n := 185) d1_98 (XT.ii_eq_t c98) (by decide) (by decide) ?_
      rw [show own_f_94 p1 = own_f_185 p1 from by simp [own_f_94, own_f_189, own_f_185, c98]]
      exact B185
    · refine s_icmpN X0 hx hby (n := 101) d1_98 (XT.ii_eq_f c98) rfl ?_
      refine s_iloadN X0 hx hby (n := 102) (x := p1) d1_101 rfl rfl ?_
      refine s_sipush X0 hx hby (n := 105) (v := (8205 : Int32)) d1_102 rfl rfl ?_
      by_cases c105 : p1 = (8205 : Int32)
      · refine s_icmpY X0 hx hby (n := 185) d1_105 (XT.ii_eq_t c105) (by decide) (by decide) ?_
        rw [show own_f_94 p1 = own_f_185 p1 from by simp [own_f_94, own_f_189, own_f_185, c98, c105]]
        exact B185
      · refine s_icmpN X0 hx hby (n := 108) d1_105 (XT.ii_eq_f c105) rfl ?_
        refine s_iloadN X0 hx hby (n := 109) (x := p1) d1_108 rfl rfl ?_
        refine s_sipush X0 hx hby (n := 112) (v := (8304 : Int32)) d1_109 rfl rfl ?_
        by_cases c112 : p1 < (8304 : Int32)
        · refine s_icmpY X0 hx hby (n := 122) d1_112 (XT.ii_lt_t c112) (by decide) (by decide) ?_
          rw [show own_f_94 p1 = own_f_122 p1 from by simp [own_f_94, own_f_189, own_f_185, c98, c105, c112]]
          exact B122
        · refine s_icmpN X0 hx hby (n := 115) d1_112 (XT.ii_lt_f c112) rfl ?_
          refine s_iloadN X0 hx hby (n := 116) (x := p1) d1_115 rfl rfl ?_
          refine s_sipush X0 hx hby (n := 119) (v := (8591 : Int32)) d1_116 rfl rfl ?_
          by_cases c119 : (8591 : Int32) < p1
          · refine s_icmpN X0 hx hby (n := 122) d1_119 (XT.ii_le_f c119) rfl ?_
            rw [show own_f_94 p1 = own_f_122 p1 from by simp [own_f_94, own_f_189, own_f_185, c98, c105, c112, c119]]
            exact B122
          · refine s_icmpY X0 hx hby (n := 185) d1_119 (XT.ii_le_t c119) (by decide) (by decide) ?_
            rw [show own_f_94 p1 = own_f_185 p1 from by simp [own_f_94, own_f_189, own_f_185, c98, c105, c112, c119]]
            exact B185
  have B80 : OEnds p e below s 0 0 (fun v h L => v = some (.int (b2i (own_f_80 p1))) ∧ h = h0 ∧ Fr n0 L) s₁ (mkF m 80 #[.val (.int p1)] []) := by
    refine s_iloadN X0 hx hby (n := 81) (x := p1) d1_80 rfl rfl ?_
    refine s_sipush X0 hx hby (n := 84) (v := (895 : Int32)) d1_81 rfl rfl ?_
    by_cases c84 : p1 < (895 : Int32)
    · refine s_icmpY X0 hx hby (n := 94) d1_84 (XT.ii_lt_t c84) (by decide) (by decide) ?_
      rw [show own_f_80 p1 = own_f_94 p1 from by simp [own_f_80, own_f_189, own_f_185, c84]]
      exact B94
    · refine s_icmpN X0 hx hby (n := 87) d1_84 (XT.ii_lt_f c84) rfl ?_
      refine s_iloadN X0 hx hby (n := 88) (x := p1) d1_87 rfl rfl ?_
      refine s_sipush X0 hx hby (n := 91) (v := (8191 : Int32)) d1_88 rfl rfl ?_
      by_cases c91 : (8191 : Int32) < p1
      · refine s_icmpN X0 hx hby (n := 94) d1_91 (XT.ii_le_f c91) rfl ?_
        rw [show own_f_80 p1 = own_f_94 p1 from by simp [own_f_80, own_f_189, own_f_185, c84, c91]]
        exact B94
      · refine s_icmpY X0 hx hby (n := 185) d1_91 (XT.ii_le_t c91) (by decide) (by decide) ?_
        rw [show own_f_80 p1 = own_f_185 p1 from by simp [own_f_80, own_f_189, own_f_185, c84, c91]]
        exact B185
  have B66 : OEnds p e below s 0 0 (fun v h L => v = some (.int (b2i (own_f_66 p1))) ∧ h = h0 ∧ Fr n0 L) s₁ (mkF m 66 #[.val (.int p1)] []) := by
    refine s_iloadN X0 hx hby (n := 67) (x := p1) d1_66 rfl rfl ?_
    refine s_sipush X0 hx hby (n := 70) (v := (880 : Int32)) d1_67 rfl rfl ?_
    by_cases c70 : p1 < (880 : Int32)
    · refine s_icmpY X0 hx hby (n := 80) d1_70 (XT.ii_lt_t c70) (by decide) (by decide) ?_
      rw [show own_f_66 p1 = own_f_80 p1 from by simp [own_f_66, own_f_189, own_f_185, c70]]
      exact B80
    · refine s_icmpN X0 hx hby (n := 73) d1_70 (XT.ii_lt_f c70) rfl ?_
      refine s_iloadN X0 hx hby (n := 74) (x := p1) d1_73 rfl rfl ?_
      refine s_sipush X0 hx hby (n := 77) (v := (893 : Int32)) d1_74 rfl rfl ?_
      by_cases c77 : (893 : Int32) < p1
      · refine s_icmpN X0 hx hby (n := 80) d1_77 (XT.ii_le_f c77) rfl ?_
        rw [show own_f_66 p1 = own_f_80 p1 from by simp [own_f_66, own_f_189, own_f_185, c70, c77]]
        exact B80
      · refine s_icmpY X0 hx hby (n := 185) d1_77 (XT.ii_le_t c77) (by decide) (by decide) ?_
        rw [show own_f_66 p1 = own_f_185 p1 from by simp [own_f_66, own_f_189, own_f_185, c70, c77]]
        exact B185
  have B52 : OEnds p e below s 0 0 (fun v h L => v = some (.int (b2i (own_f_52 p1))) ∧ h = h0 ∧ Fr n0 L) s₁ (mkF m 52 #[.val (.int p1)] []) := by
    refine s_iloadN X0 hx hby (n := 53) (x := p1) d1_52 rfl rfl ?_
    refine s_sipush X0 hx hby (n := 56) (v := (248 : Int32)) d1_53 rfl rfl ?_
    by_cases c56 : p1 < (248 : Int32)
    · refine s_icmpY X0 hx hby (n := 66) d1_56 (XT.ii_lt_t c56) (by decide) (by decide) ?_
      rw [show own_f_52 p1 = own_f_66 p1 from by simp [own_f_52, own_f_189, own_f_185, c56]]
      exact B66
    · refine s_icmpN X0 hx hby (n := 59) d1_56 (XT.ii_lt_f c56) rfl ?_
      refine s_iloadN X0 hx hby (n := 60) (x := p1) d1_59 rfl rfl ?_
      refine s_sipush X0 hx hby (n := 63) (v := (767 : Int32)) d1_60 rfl rfl ?_
      by_cases c63 : (767 : Int32) < p1
      · refine s_icmpN X0 hx hby (n := 66) d1_63 (XT.ii_le_f c63) rfl ?_
        rw [show own_f_52 p1 = own_f_66 p1 from by simp [own_f_52, own_f_189, own_f_185, c56, c63]]
        exact B66
      · refine s_icmpY X0 hx hby (n := 185) d1_63 (XT.ii_le_t c63) (by decide) (by decide) ?_
        rw [show own_f_52 p1 = own_f_185 p1 from by simp [own_f_52, own_f_189, own_f_185, c56, c63]]
        exact B185
  have B38 : OEnds p e below s 0 0 (fun v h L => v = some (.int (b2i (own_f_38 p1))) ∧ h = h0 ∧ Fr n0 L) s₁ (mkF m 38 #[.val (.int p1)] []) := by
    refine s_iloadN X0 hx hby (n := 39) (x := p1) d1_38 rfl rfl ?_
    refine s_sipush X0 hx hby (n := 42) (v := (216 : Int32)) d1_39 rfl rfl ?_
    by_cases c42 : p1 < (216 : Int32)
    · refine s_icmpY X0 hx hby (n := 52) d1_42 (XT.ii_lt_t c42) (by decide) (by decide) ?_
      rw [show own_f_38 p1 = own_f_52 p1 from by simp [own_f_38, own_f_189, own_f_185, c42]]
      exact B52
    · refine s_icmpN X0 hx hby (n := 45) d1_42 (XT.ii_lt_f c42) rfl ?_
      refine s_iloadN X0 hx hby (n := 46) (x := p1) d1_45 rfl rfl ?_
      refine s_sipush X0 hx hby (n := 49) (v := (246 : Int32)) d1_46 rfl rfl ?_
      by_cases c49 : (246 : Int32) < p1
      · refine s_icmpN X0 hx hby (n := 52) d1_49 (XT.ii_le_f c49) rfl ?_
        rw [show own_f_38 p1 = own_f_52 p1 from by simp [own_f_38, own_f_189, own_f_185, c42, c49]]
        exact B52
      · refine s_icmpY X0 hx hby (n := 185) d1_49 (XT.ii_le_t c49) (by decide) (by decide) ?_
        rw [show own_f_38 p1 = own_f_185 p1 from by simp [own_f_38, own_f_189, own_f_185, c42, c49]]
        exact B185
  have B24 : OEnds p e below s 0 0 (fun v h L => v = some (.int (b2i (own_f_24 p1))) ∧ h = h0 ∧ Fr n0 L) s₁ (mkF m 24 #[.val (.int p1)] []) := by
    refine s_iloadN X0 hx hby (n := 25) (x := p1) d1_24 rfl rfl ?_
    refine s_sipush X0 hx hby (n := 28) (v := (192 : Int32)) d1_25 rfl rfl ?_
    by_cases c28 : p1 < (192 : Int32)
    · refine s_icmpY X0 hx hby (n := 38) d1_28 (XT.ii_lt_t c28) (by decide) (by decide) ?_
      rw [show own_f_24 p1 = own_f_38 p1 from by simp [own_f_24, own_f_189, own_f_185, c28]]
      exact B38
    · refine s_icmpN X0 hx hby (n := 31) d1_28 (XT.ii_lt_f c28) rfl ?_
      refine s_iloadN X0 hx hby (n := 32) (x := p1) d1_31 rfl rfl ?_
      refine s_sipush X0 hx hby (n := 35) (v := (214 : Int32)) d1_32 rfl rfl ?_
      by_cases c35 : (214 : Int32) < p1
      · refine s_icmpN X0 hx hby (n := 38) d1_35 (XT.ii_le_f c35) rfl ?_
        rw [show own_f_24 p1 = own_f_38 p1 from by simp [own_f_24, own_f_189, own_f_185, c28, c35]]
        exact B38
      · refine s_icmpY X0 hx hby (n := 185) d1_35 (XT.ii_le_t c35) (by decide) (by decide) ?_
        rw [show own_f_24 p1 = own_f_185 p1 from by simp [own_f_24, own_f_189, own_f_185, c28, c35]]
        exact B185
  have B12 : OEnds p e below s 0 0 (fun v h L => v = some (.int (b2i (own_f_12 p1))) ∧ h = h0 ∧ Fr n0 L) s₁ (mkF m 12 #[.val (.int p1)] []) := by
    refine s_iloadN X0 hx hby (n := 13) (x := p1) d1_12 rfl rfl ?_
    refine s_bipush X0 hx hby (n := 15) (v := (65 : Int32)) d1_13 rfl rfl ?_
    by_cases c15 : p1 < (65 : Int32)
    · refine s_icmpY X0 hx hby (n := 24) d1_15 (XT.ii_lt_t c15) (by decide) (by decide) ?_
      rw [show own_f_12 p1 = own_f_24 p1 from by simp [own_f_12, own_f_189, own_f_185, c15]]
      exact B24
    · refine s_icmpN X0 hx hby (n := 18) d1_15 (XT.ii_lt_f c15) rfl ?_
      refine s_iloadN X0 hx hby (n := 19) (x := p1) d1_18 rfl rfl ?_
      refine s_bipush X0 hx hby (n := 21) (v := (90 : Int32)) d1_19 rfl rfl ?_
      by_cases c21 : (90 : Int32) < p1
      · refine s_icmpN X0 hx hby (n := 24) d1_21 (XT.ii_le_f c21) rfl ?_
        rw [show own_f_12 p1 = own_f_24 p1 from by simp [own_f_12, own_f_189, own_f_185, c15, c21]]
        exact B24
      · refine s_icmpY X0 hx hby (n := 185) d1_21 (XT.ii_le_t c21) (by decide) (by decide) ?_
        rw [show own_f_12 p1 = own_f_185 p1 from by simp [own_f_12, own_f_189, own_f_185, c15, c21]]
        exact B185
  have B0 : OEnds p e below s 0 0 (fun v h L => v = some (.int (b2i (own_f_0 p1))) ∧ h = h0 ∧ Fr n0 L) s₁ (mkF m 0 #[.val (.int p1)] []) := by
    refine s_iloadN X0 hx hby (n := 1) (x := p1) d1_0 rfl rfl ?_
    refine s_bipush X0 hx hby (n := 3) (v := (97 : Int32)) d1_1 rfl rfl ?_
    by_cases c3 : p1 < (97 : Int32)
    · refine s_icmpY X0 hx hby (n := 12) d1_3 (XT.ii_lt_t c3) (by decide) (by decide) ?_
      rw [show own_f_0 p1 = own_f_12 p1 from by simp [own_f_0, own_f_189, own_f_185, c3]]
      exact B12
    · refine s_icmpN X0 hx hby (n := 6) d1_3 (XT.ii_lt_f c3) rfl ?_
      refine s_iloadN X0 hx hby (n := 7) (x := p1) d1_6 rfl rfl ?_
      refine s_bipush X0 hx hby (n := 9) (v := (122 : Int32)) d1_7 rfl rfl ?_
      by_cases c9 : (122 : Int32) < p1
      · refine s_icmpN X0 hx hby (n := 12) d1_9 (XT.ii_le_f c9) rfl ?_
        rw [show own_f_0 p1 = own_f_12 p1 from by simp [own_f_0, own_f_189, own_f_185, c3, c9]]
        exact B12
      · refine s_icmpY X0 hx hby (n := 185) d1_9 (XT.ii_le_t c9) (by decide) (by decide) ?_
        rw [show own_f_0 p1 = own_f_185 p1 from by simp [own_f_0, own_f_189, own_f_185, c3, c9]]
        exact B185
  exact B0
set_option maxRecDepth 65536 in
set_option maxHeartbeats 40000000 in
theorem rm2 (l : Launch) (Z : State) (a0 : Array Value) (hw : ∀ d ∈ tables_1, d.before a0 Z = true) (p1 : Int32) (h0 : Heap) (n0 : Nat)  :
    OCon l Z (⟨"com/example/mapped_lineage/mappedlineage/text/NamesIsPnCharsBasePinLaw", "ref", "(I)Z"⟩ : MethodName) method_2_code 1 (some (.boolean)) [] ({ frames := 0, cells := 0, slots := 0, locals := 0 } : Room) #[(.int p1)] h0 (fun v h L => v = some (.int (b2i (own_g_0 p1))) ∧ h = h0 ∧ Fr n0 L) := by
  refine con (plainFor_of_name pn0) ?_
  intro p e s m below meth c s₁ hx hby hml hZ hown hnm hret hlk X0 e0
  refine entry (ef1 m p1) ?_
  have B190 : OEnds p e below s 0 0 (fun v h L => v = some (.int (b2i (own_g_190 p1))) ∧ h = h0 ∧ Fr n0 L) s₁ (mkF m 190 #[.val (.int p1)] []) := by
    refine s_iconst X0 hx hby (n := 191) (v := (1 : Int32)) d2_190 rfl rfl ?_
    exact s_retN X0 hx hby hlk hret (t := .boolean) (by simp) (z' := (1 : Int32)) (by decide) d2_191 (by decide) (by decide) ⟨by simp [own_g_190, b2i], e0, Fr.nil _⟩
  have B176 : OEnds p e below s 0 0 (fun v h L => v = some (.int (b2i (own_g_176 p1))) ∧ h = h0 ∧ Fr n0 L) s₁ (mkF m 176 #[.val (.int p1)] []) := by
    refine s_iloadN X0 hx hby (n := 177) (x := p1) d2_176 rfl rfl ?_
    refine s_ldcI X0 hx hby hZ (n := 179) hown (hw _ (List.mem_of_getElem? (i := 23) rfl)) d2_177 rfl ?_
    by_cases c179 : p1 < (65534 : Int32)
    · refine s_icmpY X0 hx hby (n := 190) d2_179 (XT.ii_lt_t c179) (by decide) (by decide) ?_
      rw [show own_g_176 p1 = own_g_190 p1 from by simp [own_g_176, own_g_190, c179]]
      exact B190
    · refine s_icmpN X0 hx hby (n := 182) d2_179 (XT.ii_lt_f c179) rfl ?_
      refine s_iloadN X0 hx hby (n := 183) (x := p1) d2_182 rfl rfl ?_
      refine s_ldcI X0 hx hby hZ (n := 185) hown (hw _ (List.mem_of_getElem? (i := 8) rfl)) d2_183 rfl ?_
      by_cases c185 : (65535 : Int32) < p1
      · refine s_icmpY X0 hx hby (n := 190) d2_185 (XT.ii_gt_t c185) (by decide) (by decide) ?_
        rw [show own_g_176 p1 = own_g_190 p1 from by simp [own_g_176, own_g_190, c179, c185]]
        exact B190
      · refine s_icmpN X0 hx hby (n := 188) d2_185 (XT.ii_gt_f c185) rfl ?_
        refine s_iconst X0 hx hby (n := 189) (v := (0 : Int32)) d2_188 rfl rfl ?_
        exact s_retN X0 hx hby hlk hret (t := .boolean) (by simp) (z' := (0 : Int32)) (by decide) d2_189 (by decide) (by decide) ⟨by simp [own_g_176, own_g_190, c179, c185, b2i], e0, Fr.nil _⟩
  have B162 : OEnds p e below s 0 0 (fun v h L => v = some (.int (b2i (own_g_162 p1))) ∧ h = h0 ∧ Fr n0 L) s₁ (mkF m 162 #[.val (.int p1)] []) := by
    refine s_iloadN X0 hx hby (n := 163) (x := p1) d2_162 rfl rfl ?_
    refine s_ldcI X0 hx hby hZ (n := 165) hown (hw _ (List.mem_of_getElem? (i := 22) rfl)) d2_163 rfl ?_
    by_cases c165 : p1 < (64976 : Int32)
    · refine s_icmpY X0 hx hby (n := 176) d2_165 (XT.ii_lt_t c165) (by decide) (by decide) ?_
      rw [show own_g_162 p1 = own_g_176 p1 from by simp [own_g_162, own_g_190, c165]]
      exact B176
    · refine s_icmpN X0 hx hby (n := 168) d2_165 (XT.ii_lt_f c165) rfl ?_
      refine s_iloadN X0 hx hby (n := 169) (x := p1) d2_168 rfl rfl ?_
      refine s_ldcI X0 hx hby hZ (n := 171) hown (hw _ (List.mem_of_getElem? (i := 29) rfl)) d2_169 rfl ?_
      by_cases c171 : (65007 : Int32) < p1
      · refine s_icmpY X0 hx hby (n := 176) d2_171 (XT.ii_gt_t c171) (by decide) (by decide) ?_
        rw [show own_g_162 p1 = own_g_176 p1 from by simp [own_g_162, own_g_190, c165, c171]]
        exact B176
      · refine s_icmpN X0 hx hby (n := 174) d2_171 (XT.ii_gt_f c171) rfl ?_
        refine s_iconst X0 hx hby (n := 175) (v := (0 : Int32)) d2_174 rfl rfl ?_
        exact s_retN X0 hx hby hlk hret (t := .boolean) (by simp) (z' := (0 : Int32)) (by decide) d2_175 (by decide) (by decide) ⟨by simp [own_g_162, own_g_190, c165, c171, b2i], e0, Fr.nil _⟩
  have B148 : OEnds p e below s 0 0 (fun v h L => v = some (.int (b2i (own_g_148 p1))) ∧ h = h0 ∧ Fr n0 L) s₁ (mkF m 148 #[.val (.int p1)] []) := by
    refine s_iloadN X0 hx hby (n := 149) (x := p1) d2_148 rfl rfl ?_
    refine s_ldcI X0 hx hby hZ (n := 151) hown (hw _ (List.mem_of_getElem? (i := 21) rfl)) d2_149 rfl ?_
    by_cases c151 : p1 < (55296 : Int32)
    · refine s_icmpY X0 hx hby (n := 162) d2_151 (XT.ii_lt_t c151) (by decide) (by decide) ?_
      rw [show own_g_148 p1 = own_g_162 p1 from by simp [own_g_148, own_g_190, c151]]
      exact B162
    · refine s_icmpN X0 hx hby (n := 154) d2_151 (XT.ii_lt_f c151) rfl ?_
      refine s_iloadN X0 hx hby (n := 155) (x := p1) d2_154 rfl rfl ?_
      refine s_ldcI X0 hx hby hZ (n := 157) hown (hw _ (List.mem_of_getElem? (i := 28) rfl)) d2_155 rfl ?_
      by_cases c157 : (63743 : Int32) < p1
      · refine s_icmpY X0 hx hby (n := 162) d2_157 (XT.ii_gt_t c157) (by decide) (by decide) ?_
        rw [show own_g_148 p1 = own_g_162 p1 from by simp [own_g_148, own_g_190, c151, c157]]
        exact B162
      · refine s_icmpN X0 hx hby (n := 160) d2_157 (XT.ii_gt_f c157) rfl ?_
        refine s_iconst X0 hx hby (n := 161) (v := (0 : Int32)) d2_160 rfl rfl ?_
        exact s_retN X0 hx hby hlk hret (t := .boolean) (by simp) (z' := (0 : Int32)) (by decide) d2_161 (by decide) (by decide) ⟨by simp [own_g_148, own_g_190, c151, c157, b2i], e0, Fr.nil _⟩
  have B132 : OEnds p e below s 0 0 (fun v h L => v = some (.int (b2i (own_g_132 p1))) ∧ h = h0 ∧ Fr n0 L) s₁ (mkF m 132 #[.val (.int p1)] []) := by
    refine s_iloadN X0 hx hby (n := 133) (x := p1) d2_132 rfl rfl ?_
    refine s_sipush X0 hx hby (n := 136) (v := (12272 : Int32)) d2_133 rfl rfl ?_
    by_cases c136 : p1 < (12272 : Int32)
    · refine s_icmpY X0 hx hby (n := 148) d2_136 (XT.ii_lt_t c136) (by decide) (by decide) ?_
      rw [show own_g_132 p1 = own_g_148 p1 from by simp [own_g_132, own_g_190, c136]]
      exact B148
    · refine s_icmpN X0 hx hby (n := 139) d2_136 (XT.ii_lt_f c136) rfl ?_
      refine s_iloadN X0 hx hby (n := 140) (x := p1) d2_139 rfl rfl ?_
      refine s_sipush X0 hx hby (n := 143) (v := (12288 : Int32)) d2_140 rfl rfl ?_
      by_cases c143 : (12288 : Int32) < p1
      · refine s_icmpY X0 hx hby (n := 148) d2_143 (XT.ii_gt_t c143) (by decide) (by decide) ?_
        rw [show own_g_132 p1 = own_g_148 p1 from by simp [own_g_132, own_g_190, c136, c143]]
        exact B148
      · refine s_icmpN X0 hx hby (n := 146) d2_143 (XT.ii_gt_f c143) rfl ?_
        refine s_iconst X0 hx hby (n := 147) (v := (0 : Int32)) d2_146 rfl rfl ?_
        exact s_retN X0 hx hby hlk hret (t := .boolean) (by simp) (z' := (0 : Int32)) (by decide) d2_147 (by decide) (by decide) ⟨by simp [own_g_132, own_g_190, c136, c143, b2i], e0, Fr.nil _⟩
  have B116 : OEnds p e below s 0 0 (fun v h L => v = some (.int (b2i (own_g_116 p1))) ∧ h = h0 ∧ Fr n0 L) s₁ (mkF m 116 #[.val (.int p1)] []) := by
    refine s_iloadN X0 hx hby (n := 117) (x := p1) d2_116 rfl rfl ?_
    refine s_sipush X0 hx hby (n := 120) (v := (8592 : Int32)) d2_117 rfl rfl ?_
    by_cases c120 : p1 < (8592 : Int32)
    · refine s_icmpY X0 hx hby (n := 132) d2_120 (XT.ii_lt_t c120) (by decide) (by decide) ?_
      rw [show own_g_116 p1 = own_g_132 p1 from by simp [own_g_116, own_g_190, c120]]
      exact B132
    · refine s_icmpN X0 hx hby (n := 123) d2_120 (XT.ii_lt_f c120) rfl ?_
      refine s_iloadN X0 hx hby (n := 124) (x := p1) d2_123 rfl rfl ?_
      refine s_sipush X0 hx hby (n := 127) (v := (11263 : Int32)) d2_124 rfl rfl ?_
      by_cases c127 : (11263 : Int32) < p1
      · refine s_icmpY X0 hx hby (n := 132) d2_127 (XT.ii_gt_t c127) (by decide) (by decide) ?_
        rw [show own_g_116 p1 = own_g_132 p1 from by simp [own_g_116, own_g_190, c120, c127]]
        exact B132
      · refine s_icmpN X0 hx hby (n := 130) d2_127 (XT.ii_gt_f c127) rfl ?_
        refine s_iconst X0 hx hby (n := 131) (v := (0 : Int32)) d2_130 rfl rfl ?_
        exact s_retN X0 hx hby hlk hret (t := .boolean) (by simp) (z' := (0 : Int32)) (by decide) d2_131 (by decide) (by decide) ⟨by simp [own_g_116, own_g_190, c120, c127, b2i], e0, Fr.nil _⟩
  have B100 : OEnds p e below s 0 0 (fun v h L => v = some (.int (b2i (own_g_100 p1))) ∧ h = h0 ∧ Fr n0 L) s₁ (mkF m 100 #[.val (.int p1)] []) := by
    refine s_iloadN X0 hx hby (n := 101) (x := p1) d2_100 rfl rfl ?_
    refine s_sipush X0 hx hby (n := 104) (v := (8206 : Int32)) d2_101 rfl rfl ?_
    by_cases c104 : p1 < (8206 : Int32)
    · refine s_icmpY X0 hx hby (n := 116) d2_104 (XT.ii_lt_t c104) (by decide) (by decide) ?_
      rw [show own_g_100 p1 = own_g_116 p1 from by simp [own_g_100, own_g_190, c104]]
      exact B116
    · refine s_icmpN X0 hx hby (n := 107) d2_104 (XT.ii_lt_f c104) rfl ?_
      refine s_iloadN X0 hx hby (n := 108) (x := p1) d2_107 rfl rfl ?_
      refine s_sipush X0 hx hby (n := 111) (v := (8303 : Int32)) d2_108 rfl rfl ?_
      by_cases c111 : (8303 : Int32) < p1
      · refine s_icmpY X0 hx hby (n := 116) d2_111 (XT.ii_gt_t c111) (by decide) (by decide) ?_
        rw [show own_g_100 p1 = own_g_116 p1 from by simp [own_g_100, own_g_190, c104, c111]]
        exact B116
      · refine s_icmpN X0 hx hby (n := 114) d2_111 (XT.ii_gt_f c111) rfl ?_
        refine s_iconst X0 hx hby (n := 115) (v := (0 : Int32)) d2_114 rfl rfl ?_
        exact s_retN X0 hx hby hlk hret (t := .boolean) (by simp) (z' := (0 : Int32)) (by decide) d2_115 (by decide) (by decide) ⟨by simp [own_g_100, own_g_190, c104, c111, b2i], e0, Fr.nil _⟩
  have B75 : OEnds p e below s 0 0 (fun v h L => v = some (.int (b2i (own_g_75 p1))) ∧ h = h0 ∧ Fr n0 L) s₁ (mkF m 75 #[.val (.int p1)] []) := by
    refine s_iloadN X0 hx hby (n := 76) (x := p1) d2_75 rfl rfl ?_
    refine s_sipush X0 hx hby (n := 79) (v := (894 : Int32)) d2_76 rfl rfl ?_
    by_cases c79 : p1 = (894 : Int32)
    · refine s_icmpN X0 hx hby (n := 82) d2_79 (XT.ii_ne_f c79) rfl ?_
      refine s_iconst X0 hx hby (n := 83) (v := (0 : Int32)) d2_82 rfl rfl ?_
      exact s_retN X0 hx hby hlk hret (t := .boolean) (by simp) (z' := (0 : Int32)) (by decide) d2_83 (by decide) (by decide) ⟨by simp [own_g_75, own_g_190, c79, b2i], e0, Fr.nil _⟩
    · refine s_icmpY X0 hx hby (n := 84) d2_79 (XT.ii_ne_t c79) (by decide) (by decide) ?_
      refine s_iloadN X0 hx hby (n := 85) (x := p1) d2_84 rfl rfl ?_
      refine s_sipush X0 hx hby (n := 88) (v := (8192 : Int32)) d2_85 rfl rfl ?_
      by_cases c88 : p1 < (8192 : Int32)
      · refine s_icmpY X0 hx hby (n := 100) d2_88 (XT.ii_lt_t c88) (by decide) (by decide) ?_
        rw [show own_g_75 p1 = own_g_100 p1 from by simp [own_g_75, own_g_190, c79, c88]]
        exact B100
      · refine s_icmpN X0 hx hby (n := 91) d2_88 (XT.ii_lt_f c88) rfl ?_
        refine s_iloadN X0 hx hby (n := 92) (x := p1) d2_91 rfl rfl ?_
        refine s_sipush X0 hx hby (n := 95) (v := (8203 : Int32)) d2_92 rfl rfl ?_
        by_cases c95 : (8203 : Int32) < p1
        · refine s_icmpY X0 hx hby (n := 100) d2_95 (XT.ii_gt_t c95) (by decide) (by decide) ?_
          rw [show own_g_75 p1 = own_g_100 p1 from by simp [own_g_75, own_g_190, c79, c88, c95]]
          exact B100
        · refine s_icmpN X0 hx hby (n := 98) d2_95 (XT.ii_gt_f c95) rfl ?_
          refine s_iconst X0 hx hby (n := 99) (v := (0 : Int32)) d2_98 rfl rfl ?_
          exact s_retN X0 hx hby hlk hret (t := .boolean) (by simp) (z' := (0 : Int32)) (by decide) d2_99 (by decide) (by decide) ⟨by simp [own_g_75, own_g_190, c79, c88, c95, b2i], e0, Fr.nil _⟩
  have B57 : OEnds p e below s 0 0 (fun v h L => v = some (.int (b2i (own_g_57 p1))) ∧ h = h0 ∧ Fr n0 L) s₁ (mkF m 57 #[.val (.int p1)] []) := by
    refine s_iconst X0 hx hby (n := 58) (v := (0 : Int32)) d2_57 rfl rfl ?_
    exact s_retN X0 hx hby hlk hret (t := .boolean) (by simp) (z' := (0 : Int32)) (by decide) d2_58 (by decide) (by decide) ⟨by simp [own_g_57, own_g_190, b2i], e0, Fr.nil _⟩
  have B43 : OEnds p e below s 0 0 (fun v h L => v = some (.int (b2i (own_g_43 p1))) ∧ h = h0 ∧ Fr n0 L) s₁ (mkF m 43 #[.val (.int p1)] []) := by
    refine s_iloadN X0 hx hby (n := 44) (x := p1) d2_43 rfl rfl ?_
    refine s_sipush X0 hx hby (n := 47) (v := (215 : Int32)) d2_44 rfl rfl ?_
    by_cases c47 : p1 = (215 : Int32)
    · refine s_icmpY X0 hx hby (n := 57) d2_47 (XT.ii_eq_t c47) (by decide) (by decide) ?_
      rw [show own_g_43 p1 = own_g_57 p1 from by simp [own_g_43, own_g_190, own_g_57, c47]]
      exact B57
    · refine s_icmpN X0 hx hby (n := 50) d2_47 (XT.ii_eq_f c47) rfl ?_
      refine s_iloadN X0 hx hby (n := 51) (x := p1) d2_50 rfl rfl ?_
      refine s_sipush X0 hx hby (n := 54) (v := (247 : Int32)) d2_51 rfl rfl ?_
      by_cases c54 : p1 = (247 : Int32)
      · refine s_icmpN X0 hx hby (n := 57) d2_54 (XT.ii_ne_f c54) rfl ?_
        rw [show own_g_43 p1 = own_g_57 p1 from by simp [own_g_43, own_g_190, own_g_57, c47, c54]]
        exact B57
      · refine s_icmpY X0 hx hby (n := 59) d2_54 (XT.ii_ne_t c54) (by decide) (by decide) ?_
        refine s_iloadN X0 hx hby (n := 60) (x := p1) d2_59 rfl rfl ?_
        refine s_sipush X0 hx hby (n := 63) (v := (768 : Int32)) d2_60 rfl rfl ?_
        by_cases c63 : p1 < (768 : Int32)
        · refine s_icmpY X0 hx hby (n := 75) d2_63 (XT.ii_lt_t c63) (by decide) (by decide) ?_
          rw [show own_g_43 p1 = own_g_75 p1 from by simp [own_g_43, own_g_190, own_g_57, c47, c54, c63]]
          exact B75
        · refine s_icmpN X0 hx hby (n := 66) d2_63 (XT.ii_lt_f c63) rfl ?_
          refine s_iloadN X0 hx hby (n := 67) (x := p1) d2_66 rfl rfl ?_
          refine s_sipush X0 hx hby (n := 70) (v := (879 : Int32)) d2_67 rfl rfl ?_
          by_cases c70 : (879 : Int32) < p1
          · refine s_icmpY X0 hx hby (n := 75) d2_70 (XT.ii_gt_t c70) (by decide) (by decide) ?_
            rw [show own_g_43 p1 = own_g_75 p1 from by simp [own_g_43, own_g_190, own_g_57, c47, c54, c63, c70]]
            exact B75
          · refine s_icmpN X0 hx hby (n := 73) d2_70 (XT.ii_gt_f c70) rfl ?_
            refine s_iconst X0 hx hby (n := 74) (v := (0 : Int32)) d2_73 rfl rfl ?_
            exact s_retN X0 hx hby hlk hret (t := .boolean) (by simp) (z' := (0 : Int32)) (by decide) d2_74 (by decide) (by decide) ⟨by simp [own_g_43, own_g_190, own_g_57, c47, c54, c63, c70, b2i], e0, Fr.nil _⟩
  have B28 : OEnds p e below s 0 0 (fun v h L => v = some (.int (b2i (own_g_28 p1))) ∧ h = h0 ∧ Fr n0 L) s₁ (mkF m 28 #[.val (.int p1)] []) := by
    refine s_iloadN X0 hx hby (n := 29) (x := p1) d2_28 rfl rfl ?_
    refine s_bipush X0 hx hby (n := 31) (v := (123 : Int32)) d2_29 rfl rfl ?_
    by_cases c31 : p1 < (123 : Int32)
    · refine s_icmpY X0 hx hby (n := 43) d2_31 (XT.ii_lt_t c31) (by decide) (by decide) ?_
      rw [show own_g_28 p1 = own_g_43 p1 from by simp [own_g_28, own_g_190, own_g_57, c31]]
      exact B43
    · refine s_icmpN X0 hx hby (n := 34) d2_31 (XT.ii_lt_f c31) rfl ?_
      refine s_iloadN X0 hx hby (n := 35) (x := p1) d2_34 rfl rfl ?_
      refine s_sipush X0 hx hby (n := 38) (v := (191 : Int32)) d2_35 rfl rfl ?_
      by_cases c38 : (191 : Int32) < p1
      · refine s_icmpY X0 hx hby (n := 43) d2_38 (XT.ii_gt_t c38) (by decide) (by decide) ?_
        rw [show own_g_28 p1 = own_g_43 p1 from by simp [own_g_28, own_g_190, own_g_57, c31, c38]]
        exact B43
      · refine s_icmpN X0 hx hby (n := 41) d2_38 (XT.ii_gt_f c38) rfl ?_
        refine s_iconst X0 hx hby (n := 42) (v := (0 : Int32)) d2_41 rfl rfl ?_
        exact s_retN X0 hx hby hlk hret (t := .boolean) (by simp) (z' := (0 : Int32)) (by decide) d2_42 (by decide) (by decide) ⟨by simp [own_g_28, own_g_190, own_g_57, c31, c38, b2i], e0, Fr.nil _⟩
  have B12 : OEnds p e below s 0 0 (fun v h L => v = some (.int (b2i (own_g_12 p1))) ∧ h = h0 ∧ Fr n0 L) s₁ (mkF m 12 #[.val (.int p1)] []) := by
    refine s_iconst X0 hx hby (n := 13) (v := (0 : Int32)) d2_12 rfl rfl ?_
    exact s_retN X0 hx hby hlk hret (t := .boolean) (by simp) (z' := (0 : Int32)) (by decide) d2_13 (by decide) (by decide) ⟨by simp [own_g_12, own_g_190, own_g_57, b2i], e0, Fr.nil _⟩
  have B0 : OEnds p e below s 0 0 (fun v h L => v = some (.int (b2i (own_g_0 p1))) ∧ h = h0 ∧ Fr n0 L) s₁ (mkF m 0 #[.val (.int p1)] []) := by
    refine s_iloadN X0 hx hby (n := 1) (x := p1) d2_0 rfl rfl ?_
    refine s_bipush X0 hx hby (n := 3) (v := (65 : Int32)) d2_1 rfl rfl ?_
    by_cases c3 : p1 < (65 : Int32)
    · refine s_icmpY X0 hx hby (n := 12) d2_3 (XT.ii_lt_t c3) (by decide) (by decide) ?_
      rw [show own_g_0 p1 = own_g_12 p1 from by simp [own_g_0, own_g_190, own_g_57, own_g_12, c3]]
      exact B12
    · refine s_icmpN X0 hx hby (n := 6) d2_3 (XT.ii_lt_f c3) rfl ?_
      refine s_iloadN X0 hx hby (n := 7) (x := p1) d2_6 rfl rfl ?_
      refine s_ldcI X0 hx hby hZ (n := 9) hown (hw _ (List.mem_of_getElem? (i := 7) rfl)) d2_7 rfl ?_
      by_cases c9 : (983039 : Int32) < p1
      · refine s_icmpN X0 hx hby (n := 12) d2_9 (XT.ii_le_f c9) rfl ?_
        rw [show own_g_0 p1 = own_g_12 p1 from by simp [own_g_0, own_g_190, own_g_57, own_g_12, c3, c9]]
        exact B12
      · refine s_icmpY X0 hx hby (n := 14) d2_9 (XT.ii_le_t c9) (by decide) (by decide) ?_
        refine s_iloadN X0 hx hby (n := 15) (x := p1) d2_14 rfl rfl ?_
        refine s_bipush X0 hx hby (n := 17) (v := (91 : Int32)) d2_15 rfl rfl ?_
        by_cases c17 : p1 < (91 : Int32)
        · refine s_icmpY X0 hx hby (n := 28) d2_17 (XT.ii_lt_t c17) (by decide) (by decide) ?_
          rw [show own_g_0 p1 = own_g_28 p1 from by simp [own_g_0, own_g_190, own_g_57, own_g_12, c3, c9, c17]]
          exact B28
        · refine s_icmpN X0 hx hby (n := 20) d2_17 (XT.ii_lt_f c17) rfl ?_
          refine s_iloadN X0 hx hby (n := 21) (x := p1) d2_20 rfl rfl ?_
          refine s_bipush X0 hx hby (n := 23) (v := (96 : Int32)) d2_21 rfl rfl ?_
          by_cases c23 : (96 : Int32) < p1
          · refine s_icmpY X0 hx hby (n := 28) d2_23 (XT.ii_gt_t c23) (by decide) (by decide) ?_
            rw [show own_g_0 p1 = own_g_28 p1 from by simp [own_g_0, own_g_190, own_g_57, own_g_12, c3, c9, c17, c23]]
            exact B28
          · refine s_icmpN X0 hx hby (n := 26) d2_23 (XT.ii_gt_f c23) rfl ?_
            refine s_iconst X0 hx hby (n := 27) (v := (0 : Int32)) d2_26 rfl rfl ?_
            exact s_retN X0 hx hby hlk hret (t := .boolean) (by simp) (z' := (0 : Int32)) (by decide) d2_27 (by decide) (by decide) ⟨by simp [own_g_0, own_g_190, own_g_57, own_g_12, c3, c9, c17, c23, b2i], e0, Fr.nil _⟩
  exact B0
set_option maxRecDepth 65536 in
set_option maxHeartbeats 40000000 in
theorem rm0 (l : Launch) (Z : State) (a0 : Array Value) (hw : ∀ d ∈ tables_1, d.before a0 Z = true) (p0 p1 p2 : Int32) (h0 : Heap) (n0 : Nat) (Z0 : n0 ≤ h0.size) :
    OCon l Z x code maxLocals ret tables_1 room_1 #[(.int p0), (.int p1), (.int p2)] h0 (fun v h L => v = some (.int 1) ∧ Fr n0 L) := by
  refine con (plainFor_of_name pn0) ?_
  intro p e s m below meth c s₁ hx hby hml hZ hown hnm hret hlk X0 e0
  refine entry (ef0 m p0 p1 p2) ?_
  have M0 := Fr.nil n0
  refine s_bipush X0 hx hby (n := 2) (v := (36 : Int32)) at_0 rfl rfl ?_
  refine s_newP X0 hx hby hZ (n := 4) (hw _ (List.mem_of_getElem? (i := 0) rfl)) (ty := .int) rfl e0 (by decide) 36 (by decide) (by decide) (by decide) (by decide) at_2 rfl ?_
  intro T1 h1 cA o ho X1 e1 E1 A1
  have I1 : own_AI _ 36 := own_AI.new cA 36
  have no : n0 ≤ o := by rw [ho]; exact Z0
  refine s_dup X1 hx hby (n := 5) at_4 rfl rfl ?_
  refine s_iconst X1 hx hby (n := 6) (v := (0 : Int32)) at_5 rfl rfl ?_
  refine s_bipush X1 hx hby (n := 8) (v := (65 : Int32)) at_6 rfl rfl ?_
  refine s_iastore X1 hx hby hZ (n := 9) e1 A1 (I1.inb (by decide)) at_8 rfl ?_
  intro T2 h2 X2 e2 W2
  obtain ⟨c2, A2, I2⟩ : ∃ cc, Arr Z h2 o cc .int ∧ own_AI cc 36 := ⟨_, A1.same W2, I1.set _ _⟩
  have M2 := Fr.snoc X2 M0 no
  refine s_dup X2 hx hby (n := 10) at_9 rfl rfl ?_
  refine s_iconst X2 hx hby (n := 11) (v := (1 : Int32)) at_10 rfl rfl ?_
  refine s_bipush X2 hx hby (n := 13) (v := (90 : Int32)) at_11 rfl rfl ?_
  refine s_iastore X2 hx hby hZ (n := 14) e2 A2 (I2.inb (by decide)) at_13 rfl ?_
  intro T3 h3 X3 e3 W3
  obtain ⟨c3, A3, I3⟩ : ∃ cc, Arr Z h3 o cc .int ∧ own_AI cc 36 := ⟨_, A2.same W3, I2.set _ _⟩
  have M3 := Fr.snoc X3 M2 no
  refine s_dup X3 hx hby (n := 15) at_14 rfl rfl ?_
  refine s_iconst X3 hx hby (n := 16) (v := (2 : Int32)) at_15 rfl rfl ?_
  refine s_bipush X3 hx hby (n := 18) (v := (97 : Int32)) at_16 rfl rfl ?_
  refine s_iastore X3 hx hby hZ (n := 19) e3 A3 (I3.inb (by decide)) at_18 rfl ?_
  intro T4 h4 X4 e4 W4
  obtain ⟨c4, A4, I4⟩ : ∃ cc, Arr Z h4 o cc .int ∧ own_AI cc 36 := ⟨_, A3.same W4, I3.set _ _⟩
  have M4 := Fr.snoc X4 M3 no
  refine s_dup X4 hx hby (n := 20) at_19 rfl rfl ?_
  refine s_iconst X4 hx hby (n := 21) (v := (3 : Int32)) at_20 rfl rfl ?_
  refine s_bipush X4 hx hby (n := 23) (v := (122 : Int32)) at_21 rfl rfl ?_
  refine s_iastore X4 hx hby hZ (n := 24) e4 A4 (I4.inb (by decide)) at_23 rfl ?_
  intro T5 h5 X5 e5 W5
  obtain ⟨c5, A5, I5⟩ : ∃ cc, Arr Z h5 o cc .int ∧ own_AI cc 36 := ⟨_, A4.same W5, I4.set _ _⟩
  have M5 := Fr.snoc X5 M4 no
  refine s_dup X5 hx hby (n := 25) at_24 rfl rfl ?_
  refine s_iconst X5 hx hby (n := 26) (v := (4 : Int32)) at_25 rfl rfl ?_
  refine s_sipush X5 hx hby (n := 29) (v := (192 : Int32)) at_26 rfl rfl ?_
  refine s_iastore X5 hx hby hZ (n := 30) e5 A5 (I5.inb (by decide)) at_29 rfl ?_
  intro T6 h6 X6 e6 W6
  obtain ⟨c6, A6, I6⟩ : ∃ cc, Arr Z h6 o cc .int ∧ own_AI cc 36 := ⟨_, A5.same W6, I5.set _ _⟩
  have M6 := Fr.snoc X6 M5 no
  refine s_dup X6 hx hby (n := 31) at_30 rfl rfl ?_
  refine s_iconst X6 hx hby (n := 32) (v := (5 : Int32)) at_31 rfl rfl ?_
  refine s_sipush X6 hx hby (n := 35) (v := (214 : Int32)) at_32 rfl rfl ?_
  refine s_iastore X6 hx hby hZ (n := 36) e6 A6 (I6.inb (by decide)) at_35 rfl ?_
  intro T7 h7 X7 e7 W7
  obtain ⟨c7, A7, I7⟩ : ∃ cc, Arr Z h7 o cc .int ∧ own_AI cc 36 := ⟨_, A6.same W7, I6.set _ _⟩
  have M7 := Fr.snoc X7 M6 no
  refine s_dup X7 hx hby (n := 37) at_36 rfl rfl ?_
  refine s_bipush X7 hx hby (n := 39) (v := (6 : Int32)) at_37 rfl rfl ?_
  refine s_sipush X7 hx hby (n := 42) (v := (216 : Int32)) at_39 rfl rfl ?_
  refine s_iastore X7 hx hby hZ (n := 43) e7 A7 (I7.inb (by decide)) at_42 rfl ?_
  intro T8 h8 X8 e8 W8
  obtain ⟨c8, A8, I8⟩ : ∃ cc, Arr Z h8 o cc .int ∧ own_AI cc 36 := ⟨_, A7.same W8, I7.set _ _⟩
  have M8 := Fr.snoc X8 M7 no
  refine s_dup X8 hx hby (n := 44) at_43 rfl rfl ?_
  refine s_bipush X8 hx hby (n := 46) (v := (7 : Int32)) at_44 rfl rfl ?_
  refine s_sipush X8 hx hby (n := 49) (v := (246 : Int32)) at_46 rfl rfl ?_
  refine s_iastore X8 hx hby hZ (n := 50) e8 A8 (I8.inb (by decide)) at_49 rfl ?_
  intro T9 h9 X9 e9 W9
  obtain ⟨c9, A9, I9⟩ : ∃ cc, Arr Z h9 o cc .int ∧ own_AI cc 36 := ⟨_, A8.same W9, I8.set _ _⟩
  have M9 := Fr.snoc X9 M8 no
  refine s_dup X9 hx hby (n := 51) at_50 rfl rfl ?_
  refine s_bipush X9 hx hby (n := 53) (v := (8 : Int32)) at_51 rfl rfl ?_
  refine s_sipush X9 hx hby (n := 56) (v := (248 : Int32)) at_53 rfl rfl ?_
  refine s_iastore X9 hx hby hZ (n := 57) e9 A9 (I9.inb (by decide)) at_56 rfl ?_
  intro T10 h10 X10 e10 W10
  obtain ⟨c10, A10, I10⟩ : ∃ cc, Arr Z h10 o cc .int ∧ own_AI cc 36 := ⟨_, A9.same W10, I9.set _ _⟩
  have M10 := Fr.snoc X10 M9 no
  refine s_dup X10 hx hby (n := 58) at_57 rfl rfl ?_
  refine s_bipush X10 hx hby (n := 60) (v := (9 : Int32)) at_58 rfl rfl ?_
  refine s_sipush X10 hx hby (n := 63) (v := (767 : Int32)) at_60 rfl rfl ?_
  refine s_iastore X10 hx hby hZ (n := 64) e10 A10 (I10.inb (by decide)) at_63 rfl ?_
  intro T11 h11 X11 e11 W11
  obtain ⟨c11, A11, I11⟩ : ∃ cc, Arr Z h11 o cc .int ∧ own_AI cc 36 := ⟨_, A10.same W11, I10.set _ _⟩
  have M11 := Fr.snoc X11 M10 no
  refine s_dup X11 hx hby (n := 65) at_64 rfl rfl ?_
  refine s_bipush X11 hx hby (n := 67) (v := (10 : Int32)) at_65 rfl rfl ?_
  refine s_sipush X11 hx hby (n := 70) (v := (880 : Int32)) at_67 rfl rfl ?_
  refine s_iastore X11 hx hby hZ (n := 71) e11 A11 (I11.inb (by decide)) at_70 rfl ?_
  intro T12 h12 X12 e12 W12
  obtain ⟨c12, A12, I12⟩ : ∃ cc, Arr Z h12 o cc .int ∧ own_AI cc 36 := ⟨_, A11.same W12, I11.set _ _⟩
  have M12 := Fr.snoc X12 M11 no
  refine s_dup X12 hx hby (n := 72) at_71 rfl rfl ?_
  refine s_bipush X12 hx hby (n := 74) (v := (11 : Int32)) at_72 rfl rfl ?_
  refine s_sipush X12 hx hby (n := 77) (v := (893 : Int32)) at_74 rfl rfl ?_
  refine s_iastore X12 hx hby hZ (n := 78) e12 A12 (I12.inb (by decide)) at_77 rfl ?_
  intro T13 h13 X13 e13 W13
  obtain ⟨c13, A13, I13⟩ : ∃ cc, Arr Z h13 o cc .int ∧ own_AI cc 36 := ⟨_, A12.same W13, I12.set _ _⟩
  have M13 := Fr.snoc X13 M12 no
  refine s_dup X13 hx hby (n := 79) at_78 rfl rfl ?_
  refine s_bipush X13 hx hby (n := 81) (v := (12 : Int32)) at_79 rfl rfl ?_
  refine s_sipush X13 hx hby (n := 84) (v := (895 : Int32)) at_81 rfl rfl ?_
  refine s_iastore X13 hx hby hZ (n := 85) e13 A13 (I13.inb (by decide)) at_84 rfl ?_
  intro T14 h14 X14 e14 W14
  obtain ⟨c14, A14, I14⟩ : ∃ cc, Arr Z h14 o cc .int ∧ own_AI cc 36 := ⟨_, A13.same W14, I13.set _ _⟩
  have M14 := Fr.snoc X14 M13 no
  refine s_dup X14 hx hby (n := 86) at_85 rfl rfl ?_
  refine s_bipush X14 hx hby (n := 88) (v := (13 : Int32)) at_86 rfl rfl ?_
  refine s_sipush X14 hx hby (n := 91) (v := (8191 : Int32)) at_88 rfl rfl ?_
  refine s_iastore X14 hx hby hZ (n := 92) e14 A14 (I14.inb (by decide)) at_91 rfl ?_
  intro T15 h15 X15 e15 W15
  obtain ⟨c15, A15, I15⟩ : ∃ cc, Arr Z h15 o cc .int ∧ own_AI cc 36 := ⟨_, A14.same W15, I14.set _ _⟩
  have M15 := Fr.snoc X15 M14 no
  refine s_dup X15 hx hby (n := 93) at_92 rfl rfl ?_
  refine s_bipush X15 hx hby (n := 95) (v := (14 : Int32)) at_93 rfl rfl ?_
  refine s_sipush X15 hx hby (n := 98) (v := (8204 : Int32)) at_95 rfl rfl ?_
  refine s_iastore X15 hx hby hZ (n := 99) e15 A15 (I15.inb (by decide)) at_98 rfl ?_
  intro T16 h16 X16 e16 W16
  obtain ⟨c16, A16, I16⟩ : ∃ cc, Arr Z h16 o cc .int ∧ own_AI cc 36 := ⟨_, A15.same W16, I15.set _ _⟩
  have M16 := Fr.snoc X16 M15 no
  refine s_dup X16 hx hby (n := 100) at_99 rfl rfl ?_
  refine s_bipush X16 hx hby (n := 102) (v := (15 : Int32)) at_100 rfl rfl ?_
  refine s_sipush X16 hx hby (n := 105) (v := (8205 : Int32)) at_102 rfl rfl ?_
  refine s_iastore X16 hx hby hZ (n := 106) e16 A16 (I16.inb (by decide)) at_105 rfl ?_
  intro T17 h17 X17 e17 W17
  obtain ⟨c17, A17, I17⟩ : ∃ cc, Arr Z h17 o cc .int ∧ own_AI cc 36 := ⟨_, A16.same W17, I16.set _ _⟩
  have M17 := Fr.snoc X17 M16 no
  refine s_dup X17 hx hby (n := 107) at_106 rfl rfl ?_
  refine s_bipush X17 hx hby (n := 109) (v := (16 : Int32)) at_107 rfl rfl ?_
  refine s_sipush X17 hx hby (n := 112) (v := (8304 : Int32)) at_109 rfl rfl ?_
  refine s_iastore X17 hx hby hZ (n := 113) e17 A17 (I17.inb (by decide)) at_112 rfl ?_
  intro T18 h18 X18 e18 W18
  obtain ⟨c18, A18, I18⟩ : ∃ cc, Arr Z h18 o cc .int ∧ own_AI cc 36 := ⟨_, A17.same W18, I17.set _ _⟩
  have M18 := Fr.snoc X18 M17 no
  refine s_dup X18 hx hby (n := 114) at_113 rfl rfl ?_
  refine s_bipush X18 hx hby (n := 116) (v := (17 : Int32)) at_114 rfl rfl ?_
  refine s_sipush X18 hx hby (n := 119) (v := (8591 : Int32)) at_116 rfl rfl ?_
  refine s_iastore X18 hx hby hZ (n := 120) e18 A18 (I18.inb (by decide)) at_119 rfl ?_
  intro T19 h19 X19 e19 W19
  obtain ⟨c19, A19, I19⟩ : ∃ cc, Arr Z h19 o cc .int ∧ own_AI cc 36 := ⟨_, A18.same W19, I18.set _ _⟩
  have M19 := Fr.snoc X19 M18 no
  refine s_dup X19 hx hby (n := 121) at_120 rfl rfl ?_
  refine s_bipush X19 hx hby (n := 123) (v := (18 : Int32)) at_121 rfl rfl ?_
  refine s_sipush X19 hx hby (n := 126) (v := (11264 : Int32)) at_123 rfl rfl ?_
  refine s_iastore X19 hx hby hZ (n := 127) e19 A19 (I19.inb (by decide)) at_126 rfl ?_
  intro T20 h20 X20 e20 W20
  obtain ⟨c20, A20, I20⟩ : ∃ cc, Arr Z h20 o cc .int ∧ own_AI cc 36 := ⟨_, A19.same W20, I19.set _ _⟩
  have M20 := Fr.snoc X20 M19 no
  refine s_dup X20 hx hby (n := 128) at_127 rfl rfl ?_
  refine s_bipush X20 hx hby (n := 130) (v := (19 : Int32)) at_128 rfl rfl ?_
  refine s_sipush X20 hx hby (n := 133) (v := (12271 : Int32)) at_130 rfl rfl ?_
  refine s_iastore X20 hx hby hZ (n := 134) e20 A20 (I20.inb (by decide)) at_133 rfl ?_
  intro T21 h21 X21 e21 W21
  obtain ⟨c21, A21, I21⟩ : ∃ cc, Arr Z h21 o cc .int ∧ own_AI cc 36 := ⟨_, A20.same W21, I20.set _ _⟩
  have M21 := Fr.snoc X21 M20 no
  refine s_dup X21 hx hby (n := 135) at_134 rfl rfl ?_
  refine s_bipush X21 hx hby (n := 137) (v := (20 : Int32)) at_135 rfl rfl ?_
  refine s_sipush X21 hx hby (n := 140) (v := (12289 : Int32)) at_137 rfl rfl ?_
  refine s_iastore X21 hx hby hZ (n := 141) e21 A21 (I21.inb (by decide)) at_140 rfl ?_
  intro T22 h22 X22 e22 W22
  obtain ⟨c22, A22, I22⟩ : ∃ cc, Arr Z h22 o cc .int ∧ own_AI cc 36 := ⟨_, A21.same W22, I21.set _ _⟩
  have M22 := Fr.snoc X22 M21 no
  refine s_dup X22 hx hby (n := 142) at_141 rfl rfl ?_
  refine s_bipush X22 hx hby (n := 144) (v := (21 : Int32)) at_142 rfl rfl ?_
  refine s_ldcI X22 hx hby hZ (n := 146) hown (hw _ (List.mem_of_getElem? (i := 1) rfl)) at_144 rfl ?_
  refine s_iastore X22 hx hby hZ (n := 147) e22 A22 (I22.inb (by decide)) at_146 rfl ?_
  intro T23 h23 X23 e23 W23
  obtain ⟨c23, A23, I23⟩ : ∃ cc, Arr Z h23 o cc .int ∧ own_AI cc 36 := ⟨_, A22.same W23, I22.set _ _⟩
  have M23 := Fr.snoc X23 M22 no
  refine s_dup X23 hx hby (n := 148) at_147 rfl rfl ?_
  refine s_bipush X23 hx hby (n := 150) (v := (22 : Int32)) at_148 rfl rfl ?_
  refine s_ldcI X23 hx hby hZ (n := 152) hown (hw _ (List.mem_of_getElem? (i := 2) rfl)) at_150 rfl ?_
  refine s_iastore X23 hx hby hZ (n := 153) e23 A23 (I23.inb (by decide)) at_152 rfl ?_
  intro T24 h24 X24 e24 W24
  obtain ⟨c24, A24, I24⟩ : ∃ cc, Arr Z h24 o cc .int ∧ own_AI cc 36 := ⟨_, A23.same W24, I23.set _ _⟩
  have M24 := Fr.snoc X24 M23 no
  refine s_dup X24 hx hby (n := 154) at_153 rfl rfl ?_
  refine s_bipush X24 hx hby (n := 156) (v := (23 : Int32)) at_154 rfl rfl ?_
  refine s_ldcI X24 hx hby hZ (n := 158) hown (hw _ (List.mem_of_getElem? (i := 3) rfl)) at_156 rfl ?_
  refine s_iastore X24 hx hby hZ (n := 159) e24 A24 (I24.inb (by decide)) at_158 rfl ?_
  intro T25 h25 X25 e25 W25
  obtain ⟨c25, A25, I25⟩ : ∃ cc, Arr Z h25 o cc .int ∧ own_AI cc 36 := ⟨_, A24.same W25, I24.set _ _⟩
  have M25 := Fr.snoc X25 M24 no
  refine s_dup X25 hx hby (n := 160) at_159 rfl rfl ?_
  refine s_bipush X25 hx hby (n := 162) (v := (24 : Int32)) at_160 rfl rfl ?_
  refine s_ldcI X25 hx hby hZ (n := 164) hown (hw _ (List.mem_of_getElem? (i := 4) rfl)) at_162 rfl ?_
  refine s_iastore X25 hx hby hZ (n := 165) e25 A25 (I25.inb (by decide)) at_164 rfl ?_
  intro T26 h26 X26 e26 W26
  obtain ⟨c26, A26, I26⟩ : ∃ cc, Arr Z h26 o cc .int ∧ own_AI cc 36 := ⟨_, A25.same W26, I25.set _ _⟩
  have M26 := Fr.snoc X26 M25 no
  refine s_dup X26 hx hby (n := 166) at_165 rfl rfl ?_
  refine s_bipush X26 hx hby (n := 168) (v := (25 : Int32)) at_166 rfl rfl ?_
  refine s_ldcI X26 hx hby hZ (n := 170) hown (hw _ (List.mem_of_getElem? (i := 5) rfl)) at_168 rfl ?_
  refine s_iastore X26 hx hby hZ (n := 171) e26 A26 (I26.inb (by decide)) at_170 rfl ?_
  intro T27 h27 X27 e27 W27
  obtain ⟨c27, A27, I27⟩ : ∃ cc, Arr Z h27 o cc .int ∧ own_AI cc 36 := ⟨_, A26.same W27, I26.set _ _⟩
  have M27 := Fr.snoc X27 M26 no
  refine s_dup X27 hx hby (n := 172) at_171 rfl rfl ?_
  refine s_bipush X27 hx hby (n := 174) (v := (26 : Int32)) at_172 rfl rfl ?_
  refine s_ldcI X27 hx hby hZ (n := 176) hown (hw _ (List.mem_of_getElem? (i := 6) rfl)) at_174 rfl ?_
  refine s_iastore X27 hx hby hZ (n := 177) e27 A27 (I27.inb (by decide)) at_176 rfl ?_
  intro T28 h28 X28 e28 W28
  obtain ⟨c28, A28, I28⟩ : ∃ cc, Arr Z h28 o cc .int ∧ own_AI cc 36 := ⟨_, A27.same W28, I27.set _ _⟩
  have M28 := Fr.snoc X28 M27 no
  refine s_dup X28 hx hby (n := 178) at_177 rfl rfl ?_
  refine s_bipush X28 hx hby (n := 180) (v := (27 : Int32)) at_178 rfl rfl ?_
  refine s_ldcI X28 hx hby hZ (n := 182) hown (hw _ (List.mem_of_getElem? (i := 7) rfl)) at_180 rfl ?_
  refine s_iastore X28 hx hby hZ (n := 183) e28 A28 (I28.inb (by decide)) at_182 rfl ?_
  intro T29 h29 X29 e29 W29
  obtain ⟨c29, A29, I29⟩ : ∃ cc, Arr Z h29 o cc .int ∧ own_AI cc 36 := ⟨_, A28.same W29, I28.set _ _⟩
  have M29 := Fr.snoc X29 M28 no
  refine s_dup X29 hx hby (n := 184) at_183 rfl rfl ?_
  refine s_bipush X29 hx hby (n := 186) (v := (28 : Int32)) at_184 rfl rfl ?_
  refine s_iconst X29 hx hby (n := 187) (v := (0 : Int32)) at_186 rfl rfl ?_
  refine s_iastore X29 hx hby hZ (n := 188) e29 A29 (I29.inb (by decide)) at_187 rfl ?_
  intro T30 h30 X30 e30 W30
  obtain ⟨c30, A30, I30⟩ : ∃ cc, Arr Z h30 o cc .int ∧ own_AI cc 36 := ⟨_, A29.same W30, I29.set _ _⟩
  have M30 := Fr.snoc X30 M29 no
  refine s_dup X30 hx hby (n := 189) at_188 rfl rfl ?_
  refine s_bipush X30 hx hby (n := 191) (v := (29 : Int32)) at_189 rfl rfl ?_
  refine s_bipush X30 hx hby (n := 193) (v := (48 : Int32)) at_191 rfl rfl ?_
  refine s_iastore X30 hx hby hZ (n := 194) e30 A30 (I30.inb (by decide)) at_193 rfl ?_
  intro T31 h31 X31 e31 W31
  obtain ⟨c31, A31, I31⟩ : ∃ cc, Arr Z h31 o cc .int ∧ own_AI cc 36 := ⟨_, A30.same W31, I30.set _ _⟩
  have M31 := Fr.snoc X31 M30 no
  refine s_dup X31 hx hby (n := 195) at_194 rfl rfl ?_
  refine s_bipush X31 hx hby (n := 197) (v := (30 : Int32)) at_195 rfl rfl ?_
  refine s_bipush X31 hx hby (n := 199) (v := (95 : Int32)) at_197 rfl rfl ?_
  refine s_iastore X31 hx hby hZ (n := 200) e31 A31 (I31.inb (by decide)) at_199 rfl ?_
  intro T32 h32 X32 e32 W32
  obtain ⟨c32, A32, I32⟩ : ∃ cc, Arr Z h32 o cc .int ∧ own_AI cc 36 := ⟨_, A31.same W32, I31.set _ _⟩
  have M32 := Fr.snoc X32 M31 no
  refine s_dup X32 hx hby (n := 201) at_200 rfl rfl ?_
  refine s_bipush X32 hx hby (n := 203) (v := (31 : Int32)) at_201 rfl rfl ?_
  refine s_sipush X32 hx hby (n := 206) (v := (183 : Int32)) at_203 rfl rfl ?_
  refine s_iastore X32 hx hby hZ (n := 207) e32 A32 (I32.inb (by decide)) at_206 rfl ?_
  intro T33 h33 X33 e33 W33
  obtain ⟨c33, A33, I33⟩ : ∃ cc, Arr Z h33 o cc .int ∧ own_AI cc 36 := ⟨_, A32.same W33, I32.set _ _⟩
  have M33 := Fr.snoc X33 M32 no
  refine s_dup X33 hx hby (n := 208) at_207 rfl rfl ?_
  refine s_bipush X33 hx hby (n := 210) (v := (32 : Int32)) at_208 rfl rfl ?_
  refine s_sipush X33 hx hby (n := 213) (v := (768 : Int32)) at_210 rfl rfl ?_
  refine s_iastore X33 hx hby hZ (n := 214) e33 A33 (I33.inb (by decide)) at_213 rfl ?_
  intro T34 h34 X34 e34 W34
  obtain ⟨c34, A34, I34⟩ : ∃ cc, Arr Z h34 o cc .int ∧ own_AI cc 36 := ⟨_, A33.same W34, I33.set _ _⟩
  have M34 := Fr.snoc X34 M33 no
  refine s_dup X34 hx hby (n := 215) at_214 rfl rfl ?_
  refine s_bipush X34 hx hby (n := 217) (v := (33 : Int32)) at_215 rfl rfl ?_
  refine s_sipush X34 hx hby (n := 220) (v := (879 : Int32)) at_217 rfl rfl ?_
  refine s_iastore X34 hx hby hZ (n := 221) e34 A34 (I34.inb (by decide)) at_220 rfl ?_
  intro T35 h35 X35 e35 W35
  obtain ⟨c35, A35, I35⟩ : ∃ cc, Arr Z h35 o cc .int ∧ own_AI cc 36 := ⟨_, A34.same W35, I34.set _ _⟩
  have M35 := Fr.snoc X35 M34 no
  refine s_dup X35 hx hby (n := 222) at_221 rfl rfl ?_
  refine s_bipush X35 hx hby (n := 224) (v := (34 : Int32)) at_222 rfl rfl ?_
  refine s_sipush X35 hx hby (n := 227) (v := (8192 : Int32)) at_224 rfl rfl ?_
  refine s_iastore X35 hx hby hZ (n := 228) e35 A35 (I35.inb (by decide)) at_227 rfl ?_
  intro T36 h36 X36 e36 W36
  obtain ⟨c36, A36, I36⟩ : ∃ cc, Arr Z h36 o cc .int ∧ own_AI cc 36 := ⟨_, A35.same W36, I35.set _ _⟩
  have M36 := Fr.snoc X36 M35 no
  refine s_dup X36 hx hby (n := 229) at_228 rfl rfl ?_
  refine s_bipush X36 hx hby (n := 231) (v := (35 : Int32)) at_229 rfl rfl ?_
  refine s_ldcI X36 hx hby hZ (n := 233) hown (hw _ (List.mem_of_getElem? (i := 8) rfl)) at_231 rfl ?_
  refine s_iastore X36 hx hby hZ (n := 234) e36 A36 (I36.inb (by decide)) at_233 rfl ?_
  intro T37 h37 X37 e37 W37
  obtain ⟨c37, A37, I37⟩ : ∃ cc, Arr Z h37 o cc .int ∧ own_AI cc 36 := ⟨_, A36.same W37, I36.set _ _⟩
  have M37 := Fr.snoc X37 M36 no
  refine s_astoreN X37 hx hby (n := 235) (L' := #[.val (.int p0), .val (.int p1), .val (.int p2), .val (.ref o), .unset, .unset, .unset, .unset, .unset, .unset, .unset]) at_234 rfl rfl rfl ?_
  refine s_iloadN X37 hx hby (n := 236) (x := p1) at_235 rfl rfl ?_
  refine s_ldcI X37 hx hby hZ (n := 238) hown (hw _ (List.mem_of_getElem? (i := 9) rfl)) at_236 rfl ?_
  refine s_iand X37 hx hby (n := 239) at_238 rfl ?_
  refine s_aloadN X37 hx hby (n := 240) (x := (.ref o)) at_239 rfl rfl rfl ?_
  refine s_arraylength X37 hx hby hZ (n := 241) e37 A37 (z := (36 : Int32)) I37.1 (by decide) at_240 rfl ?_
  refine s_irem X37 hx hby (n := 242) at_241 (by decide) rfl ?_
  refine s_istore X37 hx hby (n := 244) (L' := #[.val (.int p0), .val (.int p1), .val (.int p2), .val (.ref o), .val (.int ((p1 &&& (2147483647 : Int32)) % (36 : Int32))), .unset, .unset, .unset, .unset, .unset, .unset]) at_242 rfl rfl ?_
  refine s_iloadN X37 hx hby (n := 245) (x := p2) at_244 rfl rfl ?_
  refine s_ldcI X37 hx hby hZ (n := 247) hown (hw _ (List.mem_of_getElem? (i := 9) rfl)) at_245 rfl ?_
  refine s_iand X37 hx hby (n := 248) at_247 rfl ?_
  refine s_iconst X37 hx hby (n := 249) (v := (3 : Int32)) at_248 rfl rfl ?_
  refine s_irem X37 hx hby (n := 250) at_249 (by decide) rfl ?_
  refine s_iconst X37 hx hby (n := 251) (v := (1 : Int32)) at_250 rfl rfl ?_
  refine s_isub X37 hx hby (n := 252) at_251 rfl ?_
  refine s_istore X37 hx hby (n := 254) (L' := #[.val (.int p0), .val (.int p1), .val (.int p2), .val (.ref o), .val (.int ((p1 &&& (2147483647 : Int32)) % (36 : Int32))), .val (.int (((p2 &&& (2147483647 : Int32)) % (3 : Int32)) - (1 : Int32))), .unset, .unset, .unset, .unset, .unset]) at_252 rfl rfl ?_
  refine s_aloadN X37 hx hby (n := 255) (x := (.ref o)) at_254 rfl rfl rfl ?_
  refine s_iload X37 hx hby (n := 257) (x := ((p1 &&& (2147483647 : Int32)) % (36 : Int32))) at_255 rfl rfl ?_
  obtain ⟨xe, hxe⟩ := I37.2 (((p1 &&& (2147483647 : Int32)) % (36 : Int32))).toNatClampNeg (Nat.lt_of_not_le fun q => own_idx p1 (Or.inr q))
  refine s_iaload X37 hx hby hZ (n := 258) e37 A37 (I37.inb (own_idx p1)) hxe at_257 rfl ?_
  refine s_iload X37 hx hby (n := 260) (x := (((p2 &&& (2147483647 : Int32)) % (3 : Int32)) - (1 : Int32))) at_258 rfl rfl ?_
  refine s_iadd X37 hx hby (n := 261) at_260 rfl ?_
  refine s_istore X37 hx hby (n := 263) (L' := #[.val (.int p0), .val (.int p1), .val (.int p2), .val (.ref o), .val (.int ((p1 &&& (2147483647 : Int32)) % (36 : Int32))), .val (.int (((p2 &&& (2147483647 : Int32)) % (3 : Int32)) - (1 : Int32))), .val (.int (xe + (((p2 &&& (2147483647 : Int32)) % (3 : Int32)) - (1 : Int32)))), .unset, .unset, .unset, .unset]) at_261 rfl rfl ?_
  refine s_iloadN X37 hx hby (n := 264) (x := p0) at_263 rfl rfl ?_
  refine s_ldcI X37 hx hby hZ (n := 266) hown (hw _ (List.mem_of_getElem? (i := 8) rfl)) at_264 rfl ?_
  refine s_iand X37 hx hby (n := 267) at_266 rfl ?_
  refine s_istore X37 hx hby (n := 269) (L' := #[.val (.int p0), .val (.int p1), .val (.int p2), .val (.ref o), .val (.int ((p1 &&& (2147483647 : Int32)) % (36 : Int32))), .val (.int (((p2 &&& (2147483647 : Int32)) % (3 : Int32)) - (1 : Int32))), .val (.int (xe + (((p2 &&& (2147483647 : Int32)) % (3 : Int32)) - (1 : Int32)))), .val (.int (p0 &&& (65535 : Int32))), .unset, .unset, .unset]) at_267 rfl rfl ?_
  refine s_iloadN X37 hx hby (n := 270) (x := p0) at_269 rfl rfl ?_
  refine s_callS X37 hx hby hml hZ (n := 273) hown (hw _ (List.mem_of_getElem? (i := 10) rfl)) (hw _ (List.mem_of_getElem? (i := 11) rfl)) (hw _ (List.mem_of_getElem? (i := 12) rfl)) (hw _ (List.mem_of_getElem? (i := 13) rfl)) (by decide) (rm1 l Z a0 hw p0 h37 n0) e37 (by decide) 0 (by decide) (by decide) (by decide) pd_0 [(.int p0)] [] rfl rfl rfl (Nat.le_of_eq rfl) rfl at_270 rfl ?_
  intro T38 L38 v38 X38 q38c
  obtain ⟨rfl, e38, N38⟩ := q38c
  show OEnds p e below s _ _ _ T38 (mkF m 273 #[.val (.int p0), .val (.int p1), .val (.int p2), .val (.ref o), .val (.int ((p1 &&& (2147483647 : Int32)) % (36 : Int32))), .val (.int (((p2 &&& (2147483647 : Int32)) % (3 : Int32)) - (1 : Int32))), .val (.int (xe + (((p2 &&& (2147483647 : Int32)) % (3 : Int32)) - (1 : Int32)))), .val (.int (p0 &&& (65535 : Int32))), .unset, .unset, .unset] [(.int (b2i (own_f_0 p0)))])
  have M38 := Fr.app M37 N38
  refine s_iloadN X38 hx hby (n := 274) (x := p0) at_273 rfl rfl ?_
  refine s_callS X38 hx hby hml hZ (n := 277) hown (hw _ (List.mem_of_getElem? (i := 17) rfl)) (hw _ (List.mem_of_getElem? (i := 18) rfl)) (hw _ (List.mem_of_getElem? (i := 19) rfl)) (hw _ (List.mem_of_getElem? (i := 20) rfl)) (by decide) (rm2 l Z a0 hw p0 h37 n0) e38 (by decide) 1 (by decide) (by decide) (by decide) pd_0 [(.int p0)] [(.int (b2i (own_f_0 p0)))] rfl rfl rfl (Nat.le_of_eq rfl) rfl at_274 rfl ?_
  intro T39 L39 v39 X39 q39c
  obtain ⟨rfl, e39, N39⟩ := q39c
  show OEnds p e below s _ _ _ T39 (mkF m 277 #[.val (.int p0), .val (.int p1), .val (.int p2), .val (.ref o), .val (.int ((p1 &&& (2147483647 : Int32)) % (36 : Int32))), .val (.int (((p2 &&& (2147483647 : Int32)) % (3 : Int32)) - (1 : Int32))), .val (.int (xe + (((p2 &&& (2147483647 : Int32)) % (3 : Int32)) - (1 : Int32)))), .val (.int (p0 &&& (65535 : Int32))), .unset, .unset, .unset] [(.int (b2i (own_g_0 p0))), (.int (b2i (own_f_0 p0)))])
  have M39 := Fr.app M38 N39
  refine s_icmpN X39 hx hby (n := 280) at_277 (icb_ne_f (own_same _)) rfl ?_
  refine s_iconst X39 hx hby (n := 281) (v := (1 : Int32)) at_280 rfl rfl ?_
  refine s_goto X39 hx hby (n := 285) at_281 (by decide) (by decide) ?_
  refine s_istore X39 hx hby (n := 287) (L' := #[.val (.int p0), .val (.int p1), .val (.int p2), .val (.ref o), .val (.int ((p1 &&& (2147483647 : Int32)) % (36 : Int32))), .val (.int (((p2 &&& (2147483647 : Int32)) % (3 : Int32)) - (1 : Int32))), .val (.int (xe + (((p2 &&& (2147483647 : Int32)) % (3 : Int32)) - (1 : Int32)))), .val (.int (p0 &&& (65535 : Int32))), .val (.int (1 : Int32)), .unset, .unset]) at_285 rfl rfl ?_
  refine s_iload X39 hx hby (n := 289) (x := (p0 &&& (65535 : Int32))) at_287 rfl rfl ?_
  refine s_callS X39 hx hby hml hZ (n := 292) hown (hw _ (List.mem_of_getElem? (i := 10) rfl)) (hw _ (List.mem_of_getElem? (i := 11) rfl)) (hw _ (List.mem_of_getElem? (i := 12) rfl)) (hw _ (List.mem_of_getElem? (i := 13) rfl)) (by decide) (rm1 l Z a0 hw (p0 &&& (65535 : Int32)) h37 n0) e39 (by decide) 0 (by decide) (by decide) (by decide) pd_0 [(.int (p0 &&& (65535 : Int32)))] [] rfl rfl rfl (Nat.le_of_eq rfl) rfl at_289 rfl ?_
  intro T40 L40 v40 X40 q40c
  obtain ⟨rfl, e40, N40⟩ := q40c
  show OEnds p e below s _ _ _ T40 (mkF m 292 #[.val (.int p0), .val (.int p1), .val (.int p2), .val (.ref o), .val (.int ((p1 &&& (2147483647 : Int32)) % (36 : Int32))), .val (.int (((p2 &&& (2147483647 : Int32)) % (3 : Int32)) - (1 : Int32))), .val (.int (xe + (((p2 &&& (2147483647 : Int32)) % (3 : Int32)) - (1 : Int32)))), .val (.int (p0 &&& (65535 : Int32))), .val (.int (1 : Int32)), .unset, .unset] [(.int (b2i (own_f_0 (p0 &&& (65535 : Int32)))))])
  have M40 := Fr.app M39 N40
  refine s_iload X40 hx hby (n := 294) (x := (p0 &&& (65535 : Int32))) at_292 rfl rfl ?_
  refine s_callS X40 hx hby hml hZ (n := 297) hown (hw _ (List.mem_of_getElem? (i := 17) rfl)) (hw _ (List.mem_of_getElem? (i := 18) rfl)) (hw _ (List.mem_of_getElem? (i := 19) rfl)) (hw _ (List.mem_of_getElem? (i := 20) rfl)) (by decide) (rm2 l Z a0 hw (p0 &&& (65535 : Int32)) h37 n0) e40 (by decide) 1 (by decide) (by decide) (by decide) pd_0 [(.int (p0 &&& (65535 : Int32)))] [(.int (b2i (own_f_0 (p0 &&& (65535 : Int32)))))] rfl rfl rfl (Nat.le_of_eq rfl) rfl at_294 rfl ?_
  intro T41 L41 v41 X41 q41c
  obtain ⟨rfl, e41, N41⟩ := q41c
  show OEnds p e below s _ _ _ T41 (mkF m 297 #[.val (.int p0), .val (.int p1), .val (.int p2), .val (.ref o), .val (.int ((p1 &&& (2147483647 : Int32)) % (36 : Int32))), .val (.int (((p2 &&& (2147483647 : Int32)) % (3 : Int32)) - (1 : Int32))), .val (.int (xe + (((p2 &&& (2147483647 : Int32)) % (3 : Int32)) - (1 : Int32)))), .val (.int (p0 &&& (65535 : Int32))), .val (.int (1 : Int32)), .unset, .unset] [(.int (b2i (own_g_0 (p0 &&& (65535 : Int32))))), (.int (b2i (own_f_0 (p0 &&& (65535 : Int32)))))])
  have M41 := Fr.app M40 N41
  refine s_icmpN X41 hx hby (n := 300) at_297 (icb_ne_f (own_same _)) rfl ?_
  refine s_iconst X41 hx hby (n := 301) (v := (1 : Int32)) at_300 rfl rfl ?_
  refine s_goto X41 hx hby (n := 305) at_301 (by decide) (by decide) ?_
  refine s_istore X41 hx hby (n := 307) (L' := #[.val (.int p0), .val (.int p1), .val (.int p2), .val (.ref o), .val (.int ((p1 &&& (2147483647 : Int32)) % (36 : Int32))), .val (.int (((p2 &&& (2147483647 : Int32)) % (3 : Int32)) - (1 : Int32))), .val (.int (xe + (((p2 &&& (2147483647 : Int32)) % (3 : Int32)) - (1 : Int32)))), .val (.int (p0 &&& (65535 : Int32))), .val (.int (1 : Int32)), .val (.int (1 : Int32)), .unset]) at_305 rfl rfl ?_
  refine s_iload X41 hx hby (n := 309) (x := (xe + (((p2 &&& (2147483647 : Int32)) % (3 : Int32)) - (1 : Int32)))) at_307 rfl rfl ?_
  refine s_callS X41 hx hby hml hZ (n := 312) hown (hw _ (List.mem_of_getElem? (i := 10) rfl)) (hw _ (List.mem_of_getElem? (i := 11) rfl)) (hw _ (List.mem_of_getElem? (i := 12) rfl)) (hw _ (List.mem_of_getElem? (i := 13) rfl)) (by decide) (rm1 l Z a0 hw (xe + (((p2 &&& (2147483647 : Int32)) % (3 : Int32)) - (1 : Int32))) h37 n0) e41 (by decide) 0 (by decide) (by decide) (by decide) pd_0 [(.int (xe + (((p2 &&& (2147483647 : Int32)) % (3 : Int32)) - (1 : Int32))))] [] rfl rfl rfl (Nat.le_of_eq rfl) rfl at_309 rfl ?_
  intro T42 L42 v42 X42 q42c
  obtain ⟨rfl, e42, N42⟩ := q42c
  show OEnds p e below s _ _ _ T42 (mkF m 312 #[.val (.int p0), .val (.int p1), .val (.int p2), .val (.ref o), .val (.int ((p1 &&& (2147483647 : Int32)) % (36 : Int32))), .val (.int (((p2 &&& (2147483647 : Int32)) % (3 : Int32)) - (1 : Int32))), .val (.int (xe + (((p2 &&& (2147483647 : Int32)) % (3 : Int32)) - (1 : Int32)))), .val (.int (p0 &&& (65535 : Int32))), .val (.int (1 : Int32)), .val (.int (1 : Int32)), .unset] [(.int (b2i (own_f_0 (xe + (((p2 &&& (2147483647 : Int32)) % (3 : Int32)) - (1 : Int32))))))])
  have M42 := Fr.app M41 N42
  refine s_iload X42 hx hby (n := 314) (x := (xe + (((p2 &&& (2147483647 : Int32)) % (3 : Int32)) - (1 : Int32)))) at_312 rfl rfl ?_
  refine s_callS X42 hx hby hml hZ (n := 317) hown (hw _ (List.mem_of_getElem? (i := 17) rfl)) (hw _ (List.mem_of_getElem? (i := 18) rfl)) (hw _ (List.mem_of_getElem? (i := 19) rfl)) (hw _ (List.mem_of_getElem? (i := 20) rfl)) (by decide) (rm2 l Z a0 hw (xe + (((p2 &&& (2147483647 : Int32)) % (3 : Int32)) - (1 : Int32))) h37 n0) e42 (by decide) 1 (by decide) (by decide) (by decide) pd_0 [(.int (xe + (((p2 &&& (2147483647 : Int32)) % (3 : Int32)) - (1 : Int32))))] [(.int (b2i (own_f_0 (xe + (((p2 &&& (2147483647 : Int32)) % (3 : Int32)) - (1 : Int32))))))] rfl rfl rfl (Nat.le_of_eq rfl) rfl at_314 rfl ?_
  intro T43 L43 v43 X43 q43c
  obtain ⟨rfl, e43, N43⟩ := q43c
  show OEnds p e below s _ _ _ T43 (mkF m 317 #[.val (.int p0), .val (.int p1), .val (.int p2), .val (.ref o), .val (.int ((p1 &&& (2147483647 : Int32)) % (36 : Int32))), .val (.int (((p2 &&& (2147483647 : Int32)) % (3 : Int32)) - (1 : Int32))), .val (.int (xe + (((p2 &&& (2147483647 : Int32)) % (3 : Int32)) - (1 : Int32)))), .val (.int (p0 &&& (65535 : Int32))), .val (.int (1 : Int32)), .val (.int (1 : Int32)), .unset] [(.int (b2i (own_g_0 (xe + (((p2 &&& (2147483647 : Int32)) % (3 : Int32)) - (1 : Int32)))))), (.int (b2i (own_f_0 (xe + (((p2 &&& (2147483647 : Int32)) % (3 : Int32)) - (1 : Int32))))))])
  have M43 := Fr.app M42 N43
  refine s_icmpN X43 hx hby (n := 320) at_317 (icb_ne_f (own_same _)) rfl ?_
  refine s_iconst X43 hx hby (n := 321) (v := (1 : Int32)) at_320 rfl rfl ?_
  refine s_goto X43 hx hby (n := 325) at_321 (by decide) (by decide) ?_
  refine s_istore X43 hx hby (n := 327) (L' := #[.val (.int p0), .val (.int p1), .val (.int p2), .val (.ref o), .val (.int ((p1 &&& (2147483647 : Int32)) % (36 : Int32))), .val (.int (((p2 &&& (2147483647 : Int32)) % (3 : Int32)) - (1 : Int32))), .val (.int (xe + (((p2 &&& (2147483647 : Int32)) % (3 : Int32)) - (1 : Int32)))), .val (.int (p0 &&& (65535 : Int32))), .val (.int (1 : Int32)), .val (.int (1 : Int32)), .val (.int (1 : Int32))]) at_325 rfl rfl ?_
  refine s_iload X43 hx hby (n := 329) (x := (1 : Int32)) at_327 rfl rfl ?_
  refine s_ifN X43 hx hby (n := 332) at_329 (by decide) rfl ?_
  refine s_iload X43 hx hby (n := 334) (x := (1 : Int32)) at_332 rfl rfl ?_
  refine s_ifN X43 hx hby (n := 337) at_334 (by decide) rfl ?_
  refine s_iload X43 hx hby (n := 339) (x := (1 : Int32)) at_337 rfl rfl ?_
  refine s_ifN X43 hx hby (n := 342) at_339 (by decide) rfl ?_
  refine s_iconst X43 hx hby (n := 343) (v := (1 : Int32)) at_342 rfl rfl ?_
  refine s_goto X43 hx hby (n := 347) at_343 (by decide) (by decide) ?_
  exact s_retN X43 hx hby hlk hret (t := .boolean) (by simp) (z' := (1 : Int32)) (by decide) at_347 (by decide) (by decide) ⟨rfl, M43⟩
set_option maxRecDepth 65536 in
set_option maxHeartbeats 40000000 in
theorem comes_1 {Post : Tables → Env → Array Value → State → Outcome → State → Prop} (hpost : ∀ tb e args s v u, (limb_1_1.after args s (.returned v) u = true ∧ limb_1_2.after args s (.returned v) u = true ∧ True) → FrameEnd s (.returned v) u (Jvm.fieldLocs frame_1_writes args s ++ Jvm.arrayLocs frame_1_arrays args s ++ Jvm.staticLocs frame_1_statics s) room_1.cells room_1.slots → Post tb e args s (.returned v) u) :
    ArmFor flags0 classFile x code maxLocals ret World_1 tables_1 room_1 Calls_1 rest_1 Pre_1 Post := by
  intro l hfl _ _ p e ha hc hk s m args below hf hA hF happ hP
  obtain ⟨hcalls, hrest, hpre⟩ := hP
  obtain ⟨-, -, -, hnamed, -, -, -, hat⟩ := (Spec.applies_iff hf).mp happ
  obtain ⟨hg, hn⟩ := and_e (Cond.before_iff.mp (show (Jvm.Cond.and given_1 narrow_1).before args s = true from hpre))
  obtain ⟨hcount, g0⟩ := and_e hg
  obtain ⟨q0, g1⟩ := and_e g0
  obtain ⟨q1, g2⟩ := and_e g1
  obtain ⟨w0, w1, w2, rfl⟩ : ∃ w0 w1 w2 : Value, args = #[w0, w1, w2] := by
    have hs : args.size = 3 := by simpa [Cond.value, given_1] using hcount
    obtain ⟨L⟩ := args
    match L, hs with
    | [w0, w1, w2], _ => exact ⟨w0, w1, w2, rfl⟩
  have hw := fun d (hd : d ∈ tables_1) => atoms_spec (ws := Jvm.Cond.code x code maxLocals ret :: tables_1) hat d (List.mem_cons_of_mem _ hd)
  have hfit : Fit s := fun {y c} hc i hi => by
    obtain ⟨ha, rfl⟩ := Array.getElem?_eq_some_iff.mp hc
    have q := List.all_eq_true.mp ((Array.all_eq_true_iff_forall_mem.mp hF) _ (Array.getElem_mem ha)) i (List.mem_range.mpr hi)
    simpa [Array.getElem?_eq_getElem hi] using q
  obtain ⟨i0, r0⟩ := is_v q0
  obtain rfl : w0 = (.int i0) := Option.some.inj r0
  obtain ⟨i1, r1⟩ := is_v q1
  obtain rfl : w1 = (.int i1) := Option.some.inj r1
  obtain ⟨i2, r2⟩ := is_v g2
  obtain rfl : w2 = (.int i2) := Option.some.inj r2
  obtain ⟨n, o, h1, h2, h3, _, L, rfl, ⟨rfl, N⟩, hq⟩ := rm0 l s _ hw i0 i1 i2 s.heap s.heap.size (Nat.le_refl _) p e ha hc hk s m _ below hf ((Spec.applies_iff_loose hf).mp happ).1 ⟨rfl, State.Warmed39.refl s, rfl⟩ trivial
  refine ⟨n, _, h1, h2, h3, hpost _ _ _ _ _ _ ⟨Cond.after_iff.mpr rfl, Cond.after_iff.mpr (eq_i res_at (Term.int_eval (1)) rfl), trivial⟩ ⟨hq.1, hq.2.1, (hq.2.2.sift fun y hy => Or.inr (N y hy)).mono (by decide) (by decide)⟩⟩
theorem main_1_1 : Claimed_1_1 := comes_1 fun _ _ _ _ _ _ h hF => ⟨h.1, hF⟩
theorem main_1_2 : Claimed_1_2 := comes_1 fun _ _ _ _ _ _ h hF => ⟨h.2.1, hF⟩
end Jvm.Pilot.@@N@@
namespace Jvm.Pilot.@@N@@
open Jvm Jvm.ClassFile Sem Op Lib Jvm.Free Jvm.Stand Jvm.Pilot.@@N@@.Jvm.D
/-! MADE BY PROGRAM (witnessworld.py) out of the Statement's table words and the real class files: 9 classes; the members and pool entries that the words name. The judged class is class 1, her method 2. -/
namespace start1
open Jvm.ClassFile
def u (s : String) : CpInfo := .utf8 (stringToUtf16 s)
/-- a pool by its gaps: so many unusable entries, then the entry; so many at the end -/
def gap : Nat → List CpInfo → List CpInfo
  | 0, r => r
  | n + 1, r => .unusable :: gap n r
def poolList (es : List (Nat × CpInfo)) (last : Nat) : List CpInfo := es.foldr (fun e r => gap e.1 (e.2 :: r)) (gap last [])
def pool (es : List (Nat × CpInfo)) (last : Nat) : Array CpInfo := ⟨poolList es last⟩
def fileOf (pool : Array CpInfo) (this : Nat) (attrs : Array Attribute := #[]) (ms : Array MethodInfo := #[]) (fl : Nat := 33) (sup : Nat := 0) (ifs : Array Nat := #[]) (fds : Array FieldInfo := #[]) : ClassFile where
  minorVersion := 0
  majorVersion := 65
  constantPool := pool
  accessFlags := fl
  thisClass := this
  superClass := sup
  interfaces := ifs
  fields := fds
  methods := ms
  attributes := attrs
def plain (name : String) (sup : Option ClassId) : Class where
  name := name
  kind := .ordinary
  loader := none
  accessFlags := 33
  super := sup
  interfaces := #[]
  cf := none
  fields := #[]
  methods := #[]
  instanceTypes := #[]
  staticTypes := #[]
  resolved := #[]
  callSites := []
  init := .initialized
  statics := none
  mirror := none

def pool0 : Array CpInfo := pool [(5, u "<init>"), (0, u "()V"), (1, .class_ 10), (1, u "java/lang/Object")] 113

def k0m0 : Method := { name := "<init>", desc := "()V", sig := { parameters := [], returnType := none }, accessFlags := 1, code := none }
/-- java/lang/Object -/
def k0 : Class := { plain "java/lang/Object" none with
  accessFlags := 33
  interfaces := #[]
  cf := some (fileOf pool0 8 #[] #[{ accessFlags := 1, nameIndex := 5, descriptorIndex := 6, attributes := #[] }] 33 0 #[] #[])
  fields := #[]
  methods := #[k0m0]
  instanceTypes := #[]
  staticTypes := #[]
  resolved := Array.replicate 124 none
  statics := none }

def pool1 : Array CpInfo := pool [(2, .class_ 4), (1, u "java/lang/Object"), (0, u "<init>"), (0, u "()V"), (0, .integer 983039), (0, .integer 55296), (0, .integer 63743), (0, .integer 64976), (0, .integer 65007), (0, .integer 65534), (0, .integer 65535), (0, .integer 55295), (0, .integer 63744), (0, .integer 64975), (0, .integer 65008), (0, .integer 65533), (0, .integer 65536), (0, .integer 2147483647), (0, .methodref 22 23), (0, .class_ 24), (0, .nameAndType 25 26), (0, u "com/example/mapped_lineage/mappedlineage/text/Names"), (0, u "isPnCharsBase"), (0, u "(I)Z"), (0, .methodref 28 29), (0, .class_ 30), (0, .nameAndType 31 26), (0, u "com/example/mapped_lineage/mappedlineage/text/NamesIsPnCharsBasePinLaw"), (0, u "ref"), (3, u "law"), (0, u "(III)Z")] 4

def k1m0 : Method := { name := "<init>", desc := "()V", sig := { parameters := [], returnType := none }, accessFlags := 2, code := none }
def k1c1 : Code := { maxStack := 2, maxLocals := 1, code := method_2_code, exceptionTable := #[], attributes := #[] }
def k1m1 : Method := { name := "ref", desc := "(I)Z", sig := { parameters := [.int], returnType := some .boolean }, accessFlags := 10, code := some k1c1 }
def k1c2 : Code := { maxStack := 4, maxLocals := 11, code := code, exceptionTable := #[], attributes := #[] }
def k1m2 : Method := { name := "law", desc := "(III)Z", sig := { parameters := [.int, .int, .int], returnType := some .boolean }, accessFlags := 9, code := some k1c2 }
/-- com/example/mapped_lineage/mappedlineage/text/NamesIsPnCharsBasePinLaw -/
def k1 : Class := { plain "com/example/mapped_lineage/mappedlineage/text/NamesIsPnCharsBasePinLaw" (some 0) with
  accessFlags := 49
  interfaces := #[]
  cf := some (fileOf pool1 28 #[] #[{ accessFlags := 2, nameIndex := 5, descriptorIndex := 6, attributes := #[] }, { accessFlags := 10, nameIndex := 31, descriptorIndex := 26, attributes := #[] }, { accessFlags := 9, nameIndex := 35, descriptorIndex := 36, attributes := #[] }] 49 2 #[] #[])
  fields := #[]
  methods := #[k1m0, k1m1, k1m2]
  instanceTypes := #[]
  staticTypes := #[]
  resolved := Array.replicate 41 none
  statics := none }

def pool2 : Array CpInfo := pool [(2, .class_ 4), (1, u "java/lang/Object"), (0, u "<init>"), (0, u "()V"), (1, .class_ 10), (1, u "com/example/mapped_lineage/mappedlineage/text/Names"), (0, u "LANGUAGE_TAG"), (0, u "Ljava/util/regex/Pattern;"), (33, u "isPnCharsBase"), (0, u "(I)Z"), (8, .integer 55295), (0, .integer 63744), (0, .integer 64975), (0, .integer 65008), (0, .integer 65533), (0, .integer 65536), (0, .integer 983039)] 14

def k2m0 : Method := { name := "<init>", desc := "()V", sig := { parameters := [], returnType := none }, accessFlags := 2, code := none }
def k2c1 : Code := { maxStack := 2, maxLocals := 1, code := prog_87_method_4_code, exceptionTable := #[], attributes := #[] }
def k2m1 : Method := { name := "isPnCharsBase", desc := "(I)Z", sig := { parameters := [.int], returnType := some .boolean }, accessFlags := 9, code := some k2c1 }
/-- com/example/mapped_lineage/mappedlineage/text/Names -/
def k2 : Class := { plain "com/example/mapped_lineage/mappedlineage/text/Names" (some 0) with
  accessFlags := 49
  interfaces := #[]
  cf := some (fileOf pool2 8 #[] #[{ accessFlags := 2, nameIndex := 5, descriptorIndex := 6, attributes := #[] }, { accessFlags := 9, nameIndex := 46, descriptorIndex := 47, attributes := #[] }] 49 2 #[] #[{ accessFlags := 26, nameIndex := 11, descriptorIndex := 12, attributes := #[] }])
  fields := #[{ name := "LANGUAGE_TAG", type := (.object "java/util/regex/Pattern"), accessFlags := 26, slot := 0, constantValue := 0 }]
  methods := #[k2m0, k2m1]
  instanceTypes := #[]
  staticTypes := #[(.object "java/util/regex/Pattern")]
  resolved := Array.replicate 77 none
  statics := none }

def pool3 : Array CpInfo := pool [(1, u "java/lang/Cloneable"), (0, .class_ 1), (0, u "java/lang/Object"), (0, .class_ 3)] 3

/-- java/lang/Cloneable -/
def k3 : Class := { plain "java/lang/Cloneable" (some 0) with
  accessFlags := 1537
  interfaces := #[]
  cf := some (fileOf pool3 2 #[] #[] 1537 4 #[] #[])
  fields := #[]
  methods := #[]
  instanceTypes := #[]
  staticTypes := #[]
  resolved := Array.replicate 8 none
  statics := none }

def pool4 : Array CpInfo := pool [(1, u "java/io/Serializable"), (0, .class_ 1), (0, u "java/lang/Object"), (0, .class_ 3)] 3

/-- java/io/Serializable -/
def k4 : Class := { plain "java/io/Serializable" (some 0) with
  accessFlags := 1537
  interfaces := #[]
  cf := some (fileOf pool4 2 #[] #[] 1537 4 #[] #[])
  fields := #[]
  methods := #[]
  instanceTypes := #[]
  staticTypes := #[]
  resolved := Array.replicate 8 none
  statics := none }

/-- the primitive byte -/
def k5 : Class := { plain "byte" none with kind := .primitive 'B', accessFlags := 0x411 }
/-- [B -/
def k6 : Class := { plain "[B" (some 0) with kind := .array 5 .byte, interfaces := #[3, 4], accessFlags := 1041 }

/-- the primitive int -/
def k7 : Class := { plain "int" none with kind := .primitive 'I', accessFlags := 0x411 }
/-- [I -/
def k8 : Class := { plain "[I" (some 0) with kind := .array 7 .int, interfaces := #[3, 4], accessFlags := 1041 }

def heap : Heap := #[]
def classes : Array Class := #[k0, k1, k2, k3, k4, k5, k6, k7, k8]
def interned : List (Array UInt16 × Addr) := []
def slotsUsed : Nat := 0
def theMethod : MethodId := ⟨1, 2⟩
def args0 : Array Value := #[.int 5, .int 6, .int 7]
def aboutOver (below : List Frame) : State where
  vm := { classes := classes, interned := interned.toArray }
  heap := heap
  slotsUsed := slotsUsed
  threads := #[{ frames := .invoking theMethod args0 :: below }]
def below0 : List Frame := [.native { method := ⟨0, 0⟩, args := #[] }]
def about1 : State := aboutOver below0
def p0 : Program := .bare "" "" ""
def e0 : Env := launch0.env 0 0 0
theorem w_frames : about1.frames = Frame.invoking theMethod args0 :: below0 := rfl
set_option maxRecDepth 65536 in
theorem w_args : argsFit about1.vm theMethod args0 = true := by decide +kernel
set_option maxRecDepth 65536 in
theorem w_heap : heapFits about1 = true := by decide +kernel
set_option maxRecDepth 65536 in
theorem w_runnable : about1.curStatus? = some .runnable := by decide +kernel
set_option maxRecDepth 65536 in
theorem w_alone : about1.alone = true := by decide +kernel
set_option maxRecDepth 65536 in
theorem w_named : about1.methodNamed? x = some theMethod := by decide +kernel
set_option maxRecDepth 65536 in
theorem w_hears : about1.hears theMethod below0 = true := by decide +kernel
set_option maxRecDepth 65536 in
theorem w_ripe : about1.ripe theMethod args0 below0 = true := by decide +kernel
theorem w_running : about1.status = .running := rfl
set_option maxRecDepth 65536 in
theorem w_room : about1.hasRoom e0.platform room_1 = true :=
  launch0.hasRoom_least _ room_1 (by decide +kernel) (by decide +kernel) (by decide +kernel) (by decide +kernel) (by decide +kernel) (by decide +kernel)
theorem allAtoms_all (ts : List Jvm.Cond) (a : Array Jvm.Value) (st : Jvm.State) : (allAtoms ts).before a st = ts.all (fun c => c.before a st) := by
  induction ts with
  | nil => rfl
  | cons c t ih =>
    show (Jvm.Cond.and c (allAtoms t)).before a st = _
    rw [Jvm.Cond.before_and, ih, List.all_cons]
def words1 : List Jvm.Cond := Jvm.Cond.code x code maxLocals ret :: tables_1
/-- a 'code' word, met by the world's own term for the bytes: nothing is compared byte by byte -/
theorem code_word {y : MethodName} {bytes : ByteArray} {mx : Nat} {rt : Option FieldType} {a : Array Value} {s : State} {m : MethodId} {meth : Method} {c : Code} (h1 : s.methodNamed? y = some m) (h2 : s.vm.method? m = some meth) (h3 : meth.code = some c) (h4 : c.code = bytes)
    (h5 : (c.maxLocals == mx && c.exceptionTable.isEmpty && decide (c.maxStack ≤ mostOperands) && decide (meth.sig.returnType = rt) && !meth.locks && decide (parseMethodDescriptor y.desc = some meth.sig)) = true) : (Jvm.Cond.code y bytes mx rt).before a s = true := by
  simp only [Bool.and_eq_true, beq_iff_eq, Bool.not_eq_true', decide_eq_true_eq] at h5
  obtain ⟨⟨⟨⟨⟨g1, g2⟩, g3⟩, g4⟩, g5⟩, g6⟩ := h5
  simp [Cond.before, Cond.holds, Cond.value, h1, h2, h3, h4, g1, g2, g3, g4, g5, g6]
def isCode : Jvm.Cond → Bool
  | .code _ _ _ _ => true
  | _ => false
theorem all_split {L : List Jvm.Cond} {P : Jvm.Cond → Bool} (h1 : L.all (fun c => isCode c || P c) = true) (h2 : ∀ c ∈ L.filter isCode, P c = true) : L.all P = true := by
  refine List.all_eq_true.mpr fun c hc => ?_
  have h := List.all_eq_true.mp h1 c hc
  rcases Bool.eq_false_or_eq_true (isCode c) with hi | hi
  · exact h2 c (List.mem_filter.mpr ⟨hc, hi⟩)
  · simpa [hi] using h
set_option maxRecDepth 65536 in
theorem w_c0 : (Jvm.Cond.code x code maxLocals ret).before args0 about1 = true := code_word (m := ⟨1, 2⟩) (meth := k1m2) (c := k1c2) (by decide +kernel) rfl rfl rfl (by decide +kernel)
set_option maxRecDepth 65536 in
theorem w_c1 : (Jvm.Cond.code ({ cls := "com/example/mapped_lineage/mappedlineage/text/Names", name := "isPnCharsBase", desc := "(I)Z" } : Jvm.MethodName) prog_87_method_4_code (1 : Nat) (Option.some Jvm.ClassFile.FieldType.boolean)).before args0 about1 = true := code_word (m := ⟨2, 1⟩) (meth := k2m1) (c := k2c1) (by decide +kernel) rfl rfl rfl (by decide +kernel)
set_option maxRecDepth 65536 in
theorem w_c2 : (Jvm.Cond.code ({ cls := "com/example/mapped_lineage/mappedlineage/text/NamesIsPnCharsBasePinLaw", name := "ref", desc := "(I)Z" } : Jvm.MethodName) method_2_code (1 : Nat) (Option.some Jvm.ClassFile.FieldType.boolean)).before args0 about1 = true := code_word (m := ⟨1, 1⟩) (meth := k1m1) (c := k1c1) (by decide +kernel) rfl rfl rfl (by decide +kernel)
def codes1 : List Jvm.Cond := [Jvm.Cond.code x code maxLocals ret, Jvm.Cond.code ({ cls := "com/example/mapped_lineage/mappedlineage/text/Names", name := "isPnCharsBase", desc := "(I)Z" } : Jvm.MethodName) prog_87_method_4_code (1 : Nat) (Option.some Jvm.ClassFile.FieldType.boolean), Jvm.Cond.code ({ cls := "com/example/mapped_lineage/mappedlineage/text/NamesIsPnCharsBasePinLaw", name := "ref", desc := "(I)Z" } : Jvm.MethodName) method_2_code (1 : Nat) (Option.some Jvm.ClassFile.FieldType.boolean)]
set_option maxRecDepth 65536 in
theorem codes_eq : words1.filter isCode = codes1 := rfl
theorem w_codes : ∀ c ∈ words1.filter isCode, c.before args0 about1 = true := by
  rw [codes_eq]
  intro c hc
  simp only [codes1, List.mem_cons, List.not_mem_nil, or_false] at hc
  rcases hc with rfl | rfl | rfl
  · exact w_c0
  · exact w_c1
  · exact w_c2
set_option maxRecDepth 65536 in
theorem w_t1 : (words1.take 24).all (fun c => isCode c || c.before args0 about1) = true := by decide +kernel
set_option maxRecDepth 65536 in
theorem w_t2 : (words1.drop 24).all (fun c => isCode c || c.before args0 about1) = true := by decide +kernel
theorem w_tables : (allAtoms (Jvm.Cond.code x code maxLocals ret :: tables_1)).before args0 about1 = true := by
  rw [allAtoms_all]
  show words1.all (fun c => c.before args0 about1) = true
  refine all_split ?_ w_codes
  rw [← List.take_append_drop 24 words1, List.all_append, w_t1, w_t2]
  rfl
set_option maxRecDepth 65536 in
theorem w_case : (Jvm.Cond.and given_1 narrow_1).before args0 about1 = true := by decide +kernel
theorem w_applies : (headSpec (Jvm.Cond.code x code maxLocals ret :: tables_1) room_1).applies x e0.platform about1 = true :=
  (Spec.applies_iff w_frames).mpr ⟨w_running, w_runnable, w_alone, w_named, w_hears, w_ripe, w_room, w_tables⟩
theorem atStart : AtStart classFile x code maxLocals ret World_1 tables_1 room_1 Calls_1 rest_1 Pre_1 launch0 p0 e0 about1 theMethod args0 below0 :=
  ⟨lists_1, trivial, launch0.admits_env _ _ _, launch0.least_env, fairChoices_fair.cas, fairChoices_fair.clock, w_frames, w_args, w_heap, w_applies, trivial, trivial, w_case⟩
end start1
theorem witness_1 : WitnessClaimed_1 := ⟨start1.p0, start1.e0, start1.about1, start1.theMethod, start1.args0, start1.below0, start1.atStart⟩
end Jvm.Pilot.@@N@@
