import JvmDerived
import JvmDerived.Pilot.@@N@@Statement
import JvmDerived.Pilot.@@N@@Code
set_option linter.unusedVariables false
set_option linter.unusedSimpArgs false
namespace Jvm.Own
open Sem ClassFile Op Lib Jvm.Stand Jvm.Free Jvm.LawKit Jvm.RoadKit
/-- the walk that stands in T at the frame g runs to the method's return, and Q is said of what it leaves -/
def OEnds (p : Program) (e : Env) (below : List Frame) (s : State) (C S : Nat) (Q : Option Value → Heap → List Loc → Prop) (T : State) (g : JFrame) : Prop :=
  ∃ (t : State) (v : Option Value) (L : List Loc), Steps p.tables e below (T.setTop g) t ∧ t.status = .running ∧ Ended t below (.returned v) ∧ Q v t.heap L ∧ FrameEnd s (.returned v) t L C S
/-- a callee's contract, at one array of arguments and one heap -/
def OCon (l : Launch) (Z : State) (y : MethodName) (bytes : ByteArray) (maxL : Nat) (ret : Option FieldType) (ws : List Jvm.Cond) (rm : Room) (as' : Array Value) (h : Heap) (Q : Option Value → Heap → List Loc → Prop) : Prop :=
  MetFree l y (head1 (Jvm.Cond.code y bytes maxL ret :: ws) rm) (fun a U => a = as' ∧ Z.Warmed39 U.vm ∧ U.heap = h) (fun _ _ _ _ _ => True) (fun _ U o U' => ∃ v L, o = .returned v ∧ Q v U'.heap L ∧ FrameEnd U o U' L rm.cells rm.slots)
section Walk
variable {p : Program} {l : Launch} {e : Env} {R : Room} {s : State} {m : MethodId} {args : Array Value} {below : List Frame} {meth : Method} {c : Code} {T : State} {locs : List Loc} {cells slots : Nat} {C S : Nat} {Q : Option Value → Heap → List Loc → Prop} {bytes : ByteArray} {pc n : Nat} {L : Array Slot} {st : List Value} {Z : State} {a0 : Array Value} {h : Heap}
theorem OEnds.pre {T' : State} {g g' : JFrame} (k : OEnds p e below s C S Q T' g') (f : ∀ t, Steps p.tables e below (T'.setTop g') t → Steps p.tables e below (T.setTop g) t) : OEnds p e below s C S Q T g := by
  obtain ⟨t, v, L, h1, h2⟩ := k
  exact ⟨t, v, L, f _ h1, h2⟩
theorem OEnds.weaken {Q' : Option Value → Heap → List Loc → Prop} {g : JFrame} (k : OEnds p e below s C S Q T g) (f : ∀ v h L, Q v h L → Q' v h L) : OEnds p e below s C S Q' T g := by
  obtain ⟨t, v, L, h1, h2, h3, h4, h5⟩ := k
  exact ⟨t, v, L, h1, h2, h3, f _ _ _ h4, h5⟩
theorem OCon.weaken {y : MethodName} {maxL : Nat} {ret : Option FieldType} {ws : List Jvm.Cond} {rm : Room} {as' : Array Value} {Q' : Option Value → Heap → List Loc → Prop} (k : OCon l Z y bytes maxL ret ws rm as' h Q) (f : ∀ v h L, Q v h L → Q' v h L) : OCon l Z y bytes maxL ret ws rm as' h Q' := by
  intro p e ha hc hk s m args below hf happ hP hK
  obtain ⟨n, o, h1, h2, h3, v, L, h4, h5, h6⟩ := k p e ha hc hk s m args below hf happ hP hK
  exact ⟨n, o, h1, h2, h3, v, L, h4, f _ _ _ h5, h6⟩
/-- a contract by a walk -/
theorem con {y : MethodName} {maxL : Nat} {ret : Option FieldType} {ws : List Jvm.Cond} {rm : Room} {as' : Array Value} (hp : plainFor y = true)
    (body : ∀ (p : Program) (e : Env) (s : State) (m : MethodId) (below : List Frame) (meth : Method) (c : Code) (s₁ : State), p.tables.exec = Jvm.exec → c.code = bytes → c.maxLocals = maxL → Z.Warmed39 s.vm → s.vm.findClass y.cls = some m.cls → meth.name = y.name → meth.sig.returnType = ret → meth.locks = false →
      Stand p l e rm s m as' below meth c s₁ [] 0 0 → s₁.heap = h → OEnds p e below s rm.cells rm.slots Q s₁ (entryFrame m as' maxL)) : OCon l Z y bytes maxL ret ws rm as' h Q := by
  refine MetFree.of_bodySF hp hisR ?_
  intro p e s m args below meth c s₁ Bd hml hP hK
  obtain ⟨rfl, hZ, hh⟩ := hP
  obtain ⟨t, v, L, h1, h2, h3, h4, h5⟩ := body p e s m below meth c s₁ Bd.exec Bd.bytes hml hZ (findClass_of_methodNamed Bd.named) (name_of_methodNamed Bd.named Bd.method).1 Bd.returns Bd.notSynchronized (Stand.of_body Bd) (by rw [← hh, Bd.state]; rfl)
  exact ⟨t, _, h1, h2, h3, v, L, rfl, h4, h5⟩
theorem entry {mm : MethodId} {as' : Array Value} {maxL : Nat} {g : JFrame} (q : entryFrame mm as' maxL = g) (k : OEnds p e below s C S Q T g) : OEnds p e below s C S Q T (entryFrame mm as' maxL) := q ▸ k
theorem s_iloadN (X : Stand p l e R s m args below meth c T locs cells slots) (hx : p.tables.exec = Jvm.exec) (hby : c.code = bytes) {i : Fin 4} {x : Int32} (hd : decode bytes pc = .ok (.iload_n i, 1)) (hl : L[i.val]? = some (.val (.int x))) (hn : pc + 1 = n) (k : OEnds p e below s C S Q T (mkF m n L (.int x :: st))) : OEnds p e below s C S Q T (mkF m pc L (st)) := by
  subst hn
  exact k.pre fun t r => XS.iloadN X.here hx rfl (hb hby hd) hl r
theorem s_iload (X : Stand p l e R s m args below meth c T locs cells slots) (hx : p.tables.exec = Jvm.exec) (hby : c.code = bytes) {i : Nat} {x : Int32} (hd : decode bytes pc = .ok (.iload i, 2)) (hl : L[i]? = some (.val (.int x))) (hn : pc + 2 = n) (k : OEnds p e below s C S Q T (mkF m n L (.int x :: st))) : OEnds p e below s C S Q T (mkF m pc L (st)) := by
  subst hn
  exact k.pre fun t r => XS.iload X.here hx rfl (hb hby hd) hl r
theorem s_lloadN (X : Stand p l e R s m args below meth c T locs cells slots) (hx : p.tables.exec = Jvm.exec) (hby : c.code = bytes) {i : Fin 4} {x : Int64} (hd : decode bytes pc = .ok (.lload_n i, 1)) (hl : L[i.val]? = some (.val (.long x))) (hn : pc + 1 = n) (k : OEnds p e below s C S Q T (mkF m n L (.long x :: st))) : OEnds p e below s C S Q T (mkF m pc L (st)) := by
  subst hn
  exact k.pre fun t r => XT.lloadN X.here hx rfl (hb hby hd) hl r
theorem s_lload (X : Stand p l e R s m args below meth c T locs cells slots) (hx : p.tables.exec = Jvm.exec) (hby : c.code = bytes) {i : Nat} {x : Int64} (hd : decode bytes pc = .ok (.lload i, 2)) (hl : L[i]? = some (.val (.long x))) (hn : pc + 2 = n) (k : OEnds p e below s C S Q T (mkF m n L (.long x :: st))) : OEnds p e below s C S Q T (mkF m pc L (st)) := by
  subst hn
  exact k.pre fun t r => XT.lload X.here hx rfl (hb hby hd) hl r
theorem s_aloadN (X : Stand p l e R s m args below meth c T locs cells slots) (hx : p.tables.exec = Jvm.exec) (hby : c.code = bytes) {i : Fin 4} {x : Value} (hd : decode bytes pc = .ok (.aload_n i, 1)) (hl : L[i.val]? = some (.val x)) (hv : x.isRef = true) (hn : pc + 1 = n) (k : OEnds p e below s C S Q T (mkF m n L (x :: st))) : OEnds p e below s C S Q T (mkF m pc L (st)) := by
  subst hn
  exact k.pre fun t r => XS.aloadN X.here hx rfl (hb hby hd) hl hv r
theorem s_aload (X : Stand p l e R s m args below meth c T locs cells slots) (hx : p.tables.exec = Jvm.exec) (hby : c.code = bytes) {i : Nat} {x : Value} (hd : decode bytes pc = .ok (.aload i, 2)) (hl : L[i]? = some (.val x)) (hv : x.isRef = true) (hn : pc + 2 = n) (k : OEnds p e below s C S Q T (mkF m n L (x :: st))) : OEnds p e below s C S Q T (mkF m pc L (st)) := by
  subst hn
  exact k.pre fun t r => XS.aload X.here hx rfl (hb hby hd) hl hv r
theorem s_istoreN (X : Stand p l e R s m args below meth c T locs cells slots) (hx : p.tables.exec = Jvm.exec) (hby : c.code = bytes) {i : Fin 4} {x : Int32} {L' : Array Slot} (hd : decode bytes pc = .ok (.istore_n i, 1)) (hl : storeLocals L i.val (.int x) = some L') (hn : pc + 1 = n) (k : OEnds p e below s C S Q T (mkF m n L' (st))) : OEnds p e below s C S Q T (mkF m pc L (.int x :: st)) := by
  subst hn
  exact k.pre fun t r => XS.istoreN X.here hx rfl (hb hby hd) rfl hl r
theorem s_istore (X : Stand p l e R s m args below meth c T locs cells slots) (hx : p.tables.exec = Jvm.exec) (hby : c.code = bytes) {i : Nat} {x : Int32} {L' : Array Slot} (hd : decode bytes pc = .ok (.istore i, 2)) (hl : storeLocals L i (.int x) = some L') (hn : pc + 2 = n) (k : OEnds p e below s C S Q T (mkF m n L' (st))) : OEnds p e below s C S Q T (mkF m pc L (.int x :: st)) := by
  subst hn
  exact k.pre fun t r => XS.istore X.here hx rfl (hb hby hd) rfl hl r
theorem s_lstoreN (X : Stand p l e R s m args below meth c T locs cells slots) (hx : p.tables.exec = Jvm.exec) (hby : c.code = bytes) {i : Fin 4} {x : Int64} {L' : Array Slot} (hd : decode bytes pc = .ok (.lstore_n i, 1)) (hl : storeLocals L i.val (.long x) = some L') (hn : pc + 1 = n) (k : OEnds p e below s C S Q T (mkF m n L' (st))) : OEnds p e below s C S Q T (mkF m pc L (.long x :: st)) := by
  subst hn
  exact k.pre fun t r => XT.lstoreN X.here hx rfl (hb hby hd) rfl hl r
theorem s_lstore (X : Stand p l e R s m args below meth c T locs cells slots) (hx : p.tables.exec = Jvm.exec) (hby : c.code = bytes) {i : Nat} {x : Int64} {L' : Array Slot} (hd : decode bytes pc = .ok (.lstore i, 2)) (hl : storeLocals L i (.long x) = some L') (hn : pc + 2 = n) (k : OEnds p e below s C S Q T (mkF m n L' (st))) : OEnds p e below s C S Q T (mkF m pc L (.long x :: st)) := by
  subst hn
  exact k.pre fun t r => XT.lstore X.here hx rfl (hb hby hd) rfl hl r
theorem s_astoreN (X : Stand p l e R s m args below meth c T locs cells slots) (hx : p.tables.exec = Jvm.exec) (hby : c.code = bytes) {i : Fin 4} {x : Value} {L' : Array Slot} (hd : decode bytes pc = .ok (.astore_n i, 1)) (hv : x.isRef = true) (hl : storeLocals L i.val x = some L') (hn : pc + 1 = n) (k : OEnds p e below s C S Q T (mkF m n L' (st))) : OEnds p e below s C S Q T (mkF m pc L (x :: st)) := by
  subst hn
  exact k.pre fun t r => XS.astoreN X.here hx rfl (hb hby hd) rfl hv hl r
theorem s_astore (X : Stand p l e R s m args below meth c T locs cells slots) (hx : p.tables.exec = Jvm.exec) (hby : c.code = bytes) {i : Nat} {x : Value} {L' : Array Slot} (hd : decode bytes pc = .ok (.astore i, 2)) (hv : x.isRef = true) (hl : storeLocals L i x = some L') (hn : pc + 2 = n) (k : OEnds p e below s C S Q T (mkF m n L' (st))) : OEnds p e below s C S Q T (mkF m pc L (x :: st)) := by
  subst hn
  exact k.pre fun t r => XS.astore X.here hx rfl (hb hby hd) rfl hv hl r
theorem s_iinc (X : Stand p l e R s m args below meth c T locs cells slots) (hx : p.tables.exec = Jvm.exec) (hby : c.code = bytes) {i : Nat} {cst : Int} {x v : Int32} {L' : Array Slot} (hd : decode bytes pc = .ok (.iinc i cst, 3)) (hv : Int32.ofInt cst = v) (hi : L[i]? = some (.val (.int x))) (hl : storeLocals L i (.int (x + v)) = some L') (hn : pc + 3 = n) (k : OEnds p e below s C S Q T (mkF m n L' (st))) : OEnds p e below s C S Q T (mkF m pc L (st)) := by
  subst hn
  exact k.pre fun t r => XT.iincV X.here hx rfl _ (hb hby hd) hv hi hl r
theorem s_iconst (X : Stand p l e R s m args below meth c T locs cells slots) (hx : p.tables.exec = Jvm.exec) (hby : c.code = bytes) {i : Int} {v : Int32} (hd : decode bytes pc = .ok (.iconst i, 1)) (hv : Int32.ofInt i = v) (hn : pc + 1 = n) (k : OEnds p e below s C S Q T (mkF m n L (.int v :: st))) : OEnds p e below s C S Q T (mkF m pc L (st)) := by
  subst hn
  exact k.pre fun t r => XT.iconstV X.here hx rfl _ (hb hby hd) hv r
theorem s_bipush (X : Stand p l e R s m args below meth c T locs cells slots) (hx : p.tables.exec = Jvm.exec) (hby : c.code = bytes) {i : Int} {v : Int32} (hd : decode bytes pc = .ok (.bipush i, 2)) (hv : (Int8.ofInt i).toInt32 = v) (hn : pc + 2 = n) (k : OEnds p e below s C S Q T (mkF m n L (.int v :: st))) : OEnds p e below s C S Q T (mkF m pc L (st)) := by
  subst hn
  exact k.pre fun t r => XT.bipushV X.here hx rfl _ (hb hby hd) hv r
theorem s_sipush (X : Stand p l e R s m args below meth c T locs cells slots) (hx : p.tables.exec = Jvm.exec) (hby : c.code = bytes) {i : Int} {v : Int32} (hd : decode bytes pc = .ok (.sipush i, 3)) (hv : (Int16.ofInt i).toInt32 = v) (hn : pc + 3 = n) (k : OEnds p e below s C S Q T (mkF m n L (.int v :: st))) : OEnds p e below s C S Q T (mkF m pc L (st)) := by
  subst hn
  exact k.pre fun t r => XT.sipushV X.here hx rfl _ (hb hby hd) hv r
theorem s_lconst (X : Stand p l e R s m args below meth c T locs cells slots) (hx : p.tables.exec = Jvm.exec) (hby : c.code = bytes) {i : Fin 2} {v : Int64} (hd : decode bytes pc = .ok (.lconst i, 1)) (hv : Int64.ofNat i = v) (hn : pc + 1 = n) (k : OEnds p e below s C S Q T (mkF m n L (.long v :: st))) : OEnds p e below s C S Q T (mkF m pc L (st)) := by
  subst hn
  exact k.pre fun t r => XT.lconstV X.here hx rfl _ (hb hby hd) hv r
theorem s_aconstNull (X : Stand p l e R s m args below meth c T locs cells slots) (hx : p.tables.exec = Jvm.exec) (hby : c.code = bytes)  (hd : decode bytes pc = .ok (.aconst_null, 1)) (hn : pc + 1 = n) (k : OEnds p e below s C S Q T (mkF m n L (.null :: st))) : OEnds p e below s C S Q T (mkF m pc L (st)) := by
  subst hn
  exact k.pre fun t r => XS.aconstNull X.here hx rfl (hb hby hd)  r
theorem s_iadd (X : Stand p l e R s m args below meth c T locs cells slots) (hx : p.tables.exec = Jvm.exec) (hby : c.code = bytes) {x y : Int32} (hd : decode bytes pc = .ok (.iadd, 1)) (hn : pc + 1 = n) (k : OEnds p e below s C S Q T (mkF m n L (.int (x + y) :: st))) : OEnds p e below s C S Q T (mkF m pc L (.int y :: .int x :: st)) := by
  subst hn
  exact k.pre fun t r => XS.iadd X.here hx rfl (hb hby hd) rfl r
theorem s_isub (X : Stand p l e R s m args below meth c T locs cells slots) (hx : p.tables.exec = Jvm.exec) (hby : c.code = bytes) {x y : Int32} (hd : decode bytes pc = .ok (.isub, 1)) (hn : pc + 1 = n) (k : OEnds p e below s C S Q T (mkF m n L (.int (x - y) :: st))) : OEnds p e below s C S Q T (mkF m pc L (.int y :: .int x :: st)) := by
  subst hn
  exact k.pre fun t r => XS.isub X.here hx rfl (hb hby hd) rfl r
theorem s_iand (X : Stand p l e R s m args below meth c T locs cells slots) (hx : p.tables.exec = Jvm.exec) (hby : c.code = bytes) {x y : Int32} (hd : decode bytes pc = .ok (.iand, 1)) (hn : pc + 1 = n) (k : OEnds p e below s C S Q T (mkF m n L (.int (x &&& y) :: st))) : OEnds p e below s C S Q T (mkF m pc L (.int y :: .int x :: st)) := by
  subst hn
  exact k.pre fun t r => XS.iand X.here hx rfl (hb hby hd) rfl r
theorem s_imul (X : Stand p l e R s m args below meth c T locs cells slots) (hx : p.tables.exec = Jvm.exec) (hby : c.code = bytes) {x y : Int32} (hd : decode bytes pc = .ok (.imul, 1)) (hn : pc + 1 = n) (k : OEnds p e below s C S Q T (mkF m n L (.int (x * y) :: st))) : OEnds p e below s C S Q T (mkF m pc L (.int y :: .int x :: st)) := by
  subst hn
  exact k.pre fun t r => XS.imul X.here hx rfl (hb hby hd) rfl r
theorem s_ixor (X : Stand p l e R s m args below meth c T locs cells slots) (hx : p.tables.exec = Jvm.exec) (hby : c.code = bytes) {x y : Int32} (hd : decode bytes pc = .ok (.ixor, 1)) (hn : pc + 1 = n) (k : OEnds p e below s C S Q T (mkF m n L (.int (x ^^^ y) :: st))) : OEnds p e below s C S Q T (mkF m pc L (.int y :: .int x :: st)) := by
  subst hn
  exact k.pre fun t r => XT.ixor X.here hx rfl (hb hby hd) rfl r
theorem s_ior (X : Stand p l e R s m args below meth c T locs cells slots) (hx : p.tables.exec = Jvm.exec) (hby : c.code = bytes) {x y : Int32} (hd : decode bytes pc = .ok (.ior, 1)) (hn : pc + 1 = n) (k : OEnds p e below s C S Q T (mkF m n L (.int (x ||| y) :: st))) : OEnds p e below s C S Q T (mkF m pc L (.int y :: .int x :: st)) := by
  subst hn
  exact k.pre fun t r => XT.ior X.here hx rfl (hb hby hd) rfl r
theorem s_ishl (X : Stand p l e R s m args below meth c T locs cells slots) (hx : p.tables.exec = Jvm.exec) (hby : c.code = bytes) {x y : Int32} (hd : decode bytes pc = .ok (.ishl, 1)) (hn : pc + 1 = n) (k : OEnds p e below s C S Q T (mkF m n L (.int (x <<< (y &&& 31)) :: st))) : OEnds p e below s C S Q T (mkF m pc L (.int y :: .int x :: st)) := by
  subst hn
  exact k.pre fun t r => XT.ishl X.here hx rfl (hb hby hd) rfl r
theorem s_ishr (X : Stand p l e R s m args below meth c T locs cells slots) (hx : p.tables.exec = Jvm.exec) (hby : c.code = bytes) {x y : Int32} (hd : decode bytes pc = .ok (.ishr, 1)) (hn : pc + 1 = n) (k : OEnds p e below s C S Q T (mkF m n L (.int (x >>> (y &&& 31)) :: st))) : OEnds p e below s C S Q T (mkF m pc L (.int y :: .int x :: st)) := by
  subst hn
  exact k.pre fun t r => XT.ishr X.here hx rfl (hb hby hd) rfl r
theorem s_iushr (X : Stand p l e R s m args below meth c T locs cells slots) (hx : p.tables.exec = Jvm.exec) (hby : c.code = bytes) {x y : Int32} (hd : decode bytes pc = .ok (.iushr, 1)) (hn : pc + 1 = n) (k : OEnds p e below s C S Q T (mkF m n L (.int (XT.ushr x y) :: st))) : OEnds p e below s C S Q T (mkF m pc L (.int y :: .int x :: st)) := by
  subst hn
  exact k.pre fun t r => XT.iushr X.here hx rfl (hb hby hd) rfl r
theorem s_ladd (X : Stand p l e R s m args below meth c T locs cells slots) (hx : p.tables.exec = Jvm.exec) (hby : c.code = bytes) {x y : Int64} (hd : decode bytes pc = .ok (.ladd, 1)) (hn : pc + 1 = n) (k : OEnds p e below s C S Q T (mkF m n L (.long (x + y) :: st))) : OEnds p e below s C S Q T (mkF m pc L (.long y :: .long x :: st)) := by
  subst hn
  exact k.pre fun t r => XT.ladd X.here hx rfl (hb hby hd) rfl r
theorem s_lsub (X : Stand p l e R s m args below meth c T locs cells slots) (hx : p.tables.exec = Jvm.exec) (hby : c.code = bytes) {x y : Int64} (hd : decode bytes pc = .ok (.lsub, 1)) (hn : pc + 1 = n) (k : OEnds p e below s C S Q T (mkF m n L (.long (x - y) :: st))) : OEnds p e below s C S Q T (mkF m pc L (.long y :: .long x :: st)) := by
  subst hn
  exact k.pre fun t r => XT.lsub X.here hx rfl (hb hby hd) rfl r
theorem s_lmul (X : Stand p l e R s m args below meth c T locs cells slots) (hx : p.tables.exec = Jvm.exec) (hby : c.code = bytes) {x y : Int64} (hd : decode bytes pc = .ok (.lmul, 1)) (hn : pc + 1 = n) (k : OEnds p e below s C S Q T (mkF m n L (.long (x * y) :: st))) : OEnds p e below s C S Q T (mkF m pc L (.long y :: .long x :: st)) := by
  subst hn
  exact k.pre fun t r => XT.lmul X.here hx rfl (hb hby hd) rfl r
theorem s_land (X : Stand p l e R s m args below meth c T locs cells slots) (hx : p.tables.exec = Jvm.exec) (hby : c.code = bytes) {x y : Int64} (hd : decode bytes pc = .ok (.land, 1)) (hn : pc + 1 = n) (k : OEnds p e below s C S Q T (mkF m n L (.long (x &&& y) :: st))) : OEnds p e below s C S Q T (mkF m pc L (.long y :: .long x :: st)) := by
  subst hn
  exact k.pre fun t r => XT.land X.here hx rfl (hb hby hd) rfl r
theorem s_lor (X : Stand p l e R s m args below meth c T locs cells slots) (hx : p.tables.exec = Jvm.exec) (hby : c.code = bytes) {x y : Int64} (hd : decode bytes pc = .ok (.lor, 1)) (hn : pc + 1 = n) (k : OEnds p e below s C S Q T (mkF m n L (.long (x ||| y) :: st))) : OEnds p e below s C S Q T (mkF m pc L (.long y :: .long x :: st)) := by
  subst hn
  exact k.pre fun t r => XT.lor X.here hx rfl (hb hby hd) rfl r
theorem s_lxor (X : Stand p l e R s m args below meth c T locs cells slots) (hx : p.tables.exec = Jvm.exec) (hby : c.code = bytes) {x y : Int64} (hd : decode bytes pc = .ok (.lxor, 1)) (hn : pc + 1 = n) (k : OEnds p e below s C S Q T (mkF m n L (.long (x ^^^ y) :: st))) : OEnds p e below s C S Q T (mkF m pc L (.long y :: .long x :: st)) := by
  subst hn
  exact k.pre fun t r => XT.lxor X.here hx rfl (hb hby hd) rfl r
theorem s_lshl (X : Stand p l e R s m args below meth c T locs cells slots) (hx : p.tables.exec = Jvm.exec) (hby : c.code = bytes) {x : Int64} {y : Int32} (hd : decode bytes pc = .ok (.lshl, 1)) (hn : pc + 1 = n) (k : OEnds p e below s C S Q T (mkF m n L (.long (x <<< (y.toInt64 &&& 63)) :: st))) : OEnds p e below s C S Q T (mkF m pc L (.int y :: .long x :: st)) := by
  subst hn
  exact k.pre fun t r => XT.lshl X.here hx rfl (hb hby hd) rfl r
theorem s_lshr (X : Stand p l e R s m args below meth c T locs cells slots) (hx : p.tables.exec = Jvm.exec) (hby : c.code = bytes) {x : Int64} {y : Int32} (hd : decode bytes pc = .ok (.lshr, 1)) (hn : pc + 1 = n) (k : OEnds p e below s C S Q T (mkF m n L (.long (x >>> (y.toInt64 &&& 63)) :: st))) : OEnds p e below s C S Q T (mkF m pc L (.int y :: .long x :: st)) := by
  subst hn
  exact k.pre fun t r => XT.lshr X.here hx rfl (hb hby hd) rfl r
theorem s_lushr (X : Stand p l e R s m args below meth c T locs cells slots) (hx : p.tables.exec = Jvm.exec) (hby : c.code = bytes) {x : Int64} {y : Int32} (hd : decode bytes pc = .ok (.lushr, 1)) (hn : pc + 1 = n) (k : OEnds p e below s C S Q T (mkF m n L (.long (XT.ushrL x y) :: st))) : OEnds p e below s C S Q T (mkF m pc L (.int y :: .long x :: st)) := by
  subst hn
  exact k.pre fun t r => XT.lushr X.here hx rfl (hb hby hd) rfl r
theorem s_idiv (X : Stand p l e R s m args below meth c T locs cells slots) (hx : p.tables.exec = Jvm.exec) (hby : c.code = bytes) {x y : Int32} (hd : decode bytes pc = .ok (.idiv, 1)) (hy : y ≠ 0) (hn : pc + 1 = n) (k : OEnds p e below s C S Q T (mkF m n L (.int (x / y) :: st))) : OEnds p e below s C S Q T (mkF m pc L (.int y :: .int x :: st)) := by
  subst hn
  exact k.pre fun t r => XS.idiv X.here hx rfl (hb hby hd) rfl hy r
theorem s_ldiv (X : Stand p l e R s m args below meth c T locs cells slots) (hx : p.tables.exec = Jvm.exec) (hby : c.code = bytes) {x y : Int64} (hd : decode bytes pc = .ok (.ldiv, 1)) (hy : y ≠ 0) (hn : pc + 1 = n) (k : OEnds p e below s C S Q T (mkF m n L (.long (x / y) :: st))) : OEnds p e below s C S Q T (mkF m pc L (.long y :: .long x :: st)) := by
  subst hn
  exact k.pre fun t r => XT.ldiv X.here hx rfl (hb hby hd) rfl hy r
theorem s_irem (X : Stand p l e R s m args below meth c T locs cells slots) (hx : p.tables.exec = Jvm.exec) (hby : c.code = bytes) {x y : Int32} (hd : decode bytes pc = .ok (.irem, 1)) (hy : y ≠ 0) (hn : pc + 1 = n) (k : OEnds p e below s C S Q T (mkF m n L (.int (x % y) :: st))) : OEnds p e below s C S Q T (mkF m pc L (.int y :: .int x :: st)) := by
  subst hn
  exact k.pre fun t r => iremM X hx rfl (hb hby hd) rfl hy r
theorem s_lrem (X : Stand p l e R s m args below meth c T locs cells slots) (hx : p.tables.exec = Jvm.exec) (hby : c.code = bytes) {x y : Int64} (hd : decode bytes pc = .ok (.lrem, 1)) (hy : y ≠ 0) (hn : pc + 1 = n) (k : OEnds p e below s C S Q T (mkF m n L (.long (x % y) :: st))) : OEnds p e below s C S Q T (mkF m pc L (.long y :: .long x :: st)) := by
  subst hn
  rw [← lrem_mod] at k
  exact k.pre fun t r => XT.lrem X.here hx rfl (hb hby hd) rfl hy r
theorem s_ineg (X : Stand p l e R s m args below meth c T locs cells slots) (hx : p.tables.exec = Jvm.exec) (hby : c.code = bytes) {x : Int32} (hd : decode bytes pc = .ok (.ineg, 1)) (hn : pc + 1 = n) (k : OEnds p e below s C S Q T (mkF m n L (.int (-x) :: st))) : OEnds p e below s C S Q T (mkF m pc L (.int x :: st)) := by
  subst hn
  exact k.pre fun t r => XS.ineg X.here hx rfl (hb hby hd) rfl r
theorem s_lneg (X : Stand p l e R s m args below meth c T locs cells slots) (hx : p.tables.exec = Jvm.exec) (hby : c.code = bytes) {x : Int64} (hd : decode bytes pc = .ok (.lneg, 1)) (hn : pc + 1 = n) (k : OEnds p e below s C S Q T (mkF m n L (.long (-x) :: st))) : OEnds p e below s C S Q T (mkF m pc L (.long x :: st)) := by
  subst hn
  exact k.pre fun t r => XT.lneg X.here hx rfl (hb hby hd) rfl r
theorem s_i2l (X : Stand p l e R s m args below meth c T locs cells slots) (hx : p.tables.exec = Jvm.exec) (hby : c.code = bytes) {x : Int32} (hd : decode bytes pc = .ok (.i2l, 1)) (hn : pc + 1 = n) (k : OEnds p e below s C S Q T (mkF m n L (.long x.toInt64 :: st))) : OEnds p e below s C S Q T (mkF m pc L (.int x :: st)) := by
  subst hn
  exact k.pre fun t r => XT.i2l X.here hx rfl (hb hby hd) rfl r
theorem s_l2i (X : Stand p l e R s m args below meth c T locs cells slots) (hx : p.tables.exec = Jvm.exec) (hby : c.code = bytes) {x : Int64} (hd : decode bytes pc = .ok (.l2i, 1)) (hn : pc + 1 = n) (k : OEnds p e below s C S Q T (mkF m n L (.int x.toInt32 :: st))) : OEnds p e below s C S Q T (mkF m pc L (.long x :: st)) := by
  subst hn
  exact k.pre fun t r => XT.l2i X.here hx rfl (hb hby hd) rfl r
theorem s_i2b (X : Stand p l e R s m args below meth c T locs cells slots) (hx : p.tables.exec = Jvm.exec) (hby : c.code = bytes) {x : Int32} (hd : decode bytes pc = .ok (.i2b, 1)) (hn : pc + 1 = n) (k : OEnds p e below s C S Q T (mkF m n L (.int x.toInt8.toInt32 :: st))) : OEnds p e below s C S Q T (mkF m pc L (.int x :: st)) := by
  subst hn
  exact k.pre fun t r => XT.i2b X.here hx rfl (hb hby hd) rfl r
theorem s_i2c (X : Stand p l e R s m args below meth c T locs cells slots) (hx : p.tables.exec = Jvm.exec) (hby : c.code = bytes) {x : Int32} (hd : decode bytes pc = .ok (.i2c, 1)) (hn : pc + 1 = n) (k : OEnds p e below s C S Q T (mkF m n L (.int x.toUInt32.toUInt16.toUInt32.toInt32 :: st))) : OEnds p e below s C S Q T (mkF m pc L (.int x :: st)) := by
  subst hn
  exact k.pre fun t r => XT.i2c X.here hx rfl (hb hby hd) rfl r
theorem s_i2s (X : Stand p l e R s m args below meth c T locs cells slots) (hx : p.tables.exec = Jvm.exec) (hby : c.code = bytes) {x : Int32} (hd : decode bytes pc = .ok (.i2s, 1)) (hn : pc + 1 = n) (k : OEnds p e below s C S Q T (mkF m n L (.int x.toInt16.toInt32 :: st))) : OEnds p e below s C S Q T (mkF m pc L (.int x :: st)) := by
  subst hn
  exact k.pre fun t r => XT.i2s X.here hx rfl (hb hby hd) rfl r
theorem s_lcmp (X : Stand p l e R s m args below meth c T locs cells slots) (hx : p.tables.exec = Jvm.exec) (hby : c.code = bytes) {x y : Int64} (hd : decode bytes pc = .ok (.lcmp, 1)) (hn : pc + 1 = n) (k : OEnds p e below s C S Q T (mkF m n L (.int (XT.cmpL x y) :: st))) : OEnds p e below s C S Q T (mkF m pc L (.long y :: .long x :: st)) := by
  subst hn
  exact k.pre fun t r => XT.lcmp X.here hx rfl (hb hby hd) rfl r
theorem s_dup (X : Stand p l e R s m args below meth c T locs cells slots) (hx : p.tables.exec = Jvm.exec) (hby : c.code = bytes) {x : Value} (hd : decode bytes pc = .ok (.dup, 1)) (hc : x.category = 1) (hn : pc + 1 = n) (k : OEnds p e below s C S Q T (mkF m n L (x :: x :: st))) : OEnds p e below s C S Q T (mkF m pc L (x :: st)) := by
  subst hn
  exact k.pre fun t r => XS.dup X.here hx rfl (hb hby hd) rfl hc r
theorem s_pop (X : Stand p l e R s m args below meth c T locs cells slots) (hx : p.tables.exec = Jvm.exec) (hby : c.code = bytes) {x : Value} (hd : decode bytes pc = .ok (.pop, 1)) (hc : x.category = 1) (hn : pc + 1 = n) (k : OEnds p e below s C S Q T (mkF m n L (st))) : OEnds p e below s C S Q T (mkF m pc L (x :: st)) := by
  subst hn
  exact k.pre fun t r => XT.pop X.here hx rfl (hb hby hd) rfl hc r
theorem s_dupX1 (X : Stand p l e R s m args below meth c T locs cells slots) (hx : p.tables.exec = Jvm.exec) (hby : c.code = bytes) {x y : Value} (hd : decode bytes pc = .ok (.dup_x1, 1)) (hc : x.category = 1) (hc' : y.category = 1) (hn : pc + 1 = n) (k : OEnds p e below s C S Q T (mkF m n L (x :: y :: x :: st))) : OEnds p e below s C S Q T (mkF m pc L (x :: y :: st)) := by
  subst hn
  exact k.pre fun t r => XT.dupX1 X.here hx rfl (hb hby hd) rfl hc hc' r
theorem s_dup2 (X : Stand p l e R s m args below meth c T locs cells slots) (hx : p.tables.exec = Jvm.exec) (hby : c.code = bytes) {x y : Value} (hd : decode bytes pc = .ok (.dup2, 1)) (hc : x.category = 1) (hc' : y.category = 1) (hn : pc + 1 = n) (k : OEnds p e below s C S Q T (mkF m n L (x :: y :: x :: y :: st))) : OEnds p e below s C S Q T (mkF m pc L (x :: y :: st)) := by
  subst hn
  exact k.pre fun t r => XT.dup2 X.here hx rfl (hb hby hd) rfl hc hc' r
theorem s_dup2L (X : Stand p l e R s m args below meth c T locs cells slots) (hx : p.tables.exec = Jvm.exec) (hby : c.code = bytes) {x : Int64} (hd : decode bytes pc = .ok (.dup2, 1)) (hn : pc + 1 = n) (k : OEnds p e below s C S Q T (mkF m n L (.long x :: .long x :: st))) : OEnds p e below s C S Q T (mkF m pc L (.long x :: st)) := by
  subst hn
  exact k.pre fun t r => XT.dup2L X.here hx rfl (hb hby hd) rfl r
theorem s_goto (X : Stand p l e R s m args below meth c T locs cells slots) (hx : p.tables.exec = Jvm.exec) (hby : c.code = bytes) {o : Int}  (hd : decode bytes pc = .ok (.goto o, 3)) (ho : 0 ≤ (pc : Int) + o) (hn : ((pc : Int) + o).toNat = n) (k : OEnds p e below s C S Q T (mkF m n L st)) : OEnds p e below s C S Q T (mkF m pc L (st)) :=
  k.pre fun t r => XS.goto X.here hx rfl rfl (hb hby hd)  ho hn r
theorem s_ifY (X : Stand p l e R s m args below meth c T locs cells slots) (hx : p.tables.exec = Jvm.exec) (hby : c.code = bytes) {o : Int} {cd : ClassFile.Cond} {x : Int32} (hd : decode bytes pc = .ok (.ifCond cd o, 3)) (hc : ifCond.holds cd x = true) (ho : 0 ≤ (pc : Int) + o) (hn : ((pc : Int) + o).toNat = n) (k : OEnds p e below s C S Q T (mkF m n L st)) : OEnds p e below s C S Q T (mkF m pc L (.int x :: st)) :=
  k.pre fun t r => XS.ifYes X.here hx rfl rfl (hb hby hd) rfl hc ho hn r
theorem s_ifN (X : Stand p l e R s m args below meth c T locs cells slots) (hx : p.tables.exec = Jvm.exec) (hby : c.code = bytes) {o : Int} {cd : ClassFile.Cond} {x : Int32} (hd : decode bytes pc = .ok (.ifCond cd o, 3)) (hc : ifCond.holds cd x = false) (hn : pc + 3 = n) (k : OEnds p e below s C S Q T (mkF m n L st)) : OEnds p e below s C S Q T (mkF m pc L (.int x :: st)) := by
  subst hn
  exact k.pre fun t r => XS.ifNo X.here hx rfl (hb hby hd) rfl hc r
theorem s_icmpY (X : Stand p l e R s m args below meth c T locs cells slots) (hx : p.tables.exec = Jvm.exec) (hby : c.code = bytes) {o : Int} {cd : ClassFile.Cond} {x y : Int32} (hd : decode bytes pc = .ok (.if_icmp cd o, 3)) (hc : if_icmp.holds cd x y = true) (ho : 0 ≤ (pc : Int) + o) (hn : ((pc : Int) + o).toNat = n) (k : OEnds p e below s C S Q T (mkF m n L st)) : OEnds p e below s C S Q T (mkF m pc L (.int y :: .int x :: st)) :=
  k.pre fun t r => XS.icmpYes X.here hx rfl rfl (hb hby hd) rfl hc ho hn r
theorem s_icmpN (X : Stand p l e R s m args below meth c T locs cells slots) (hx : p.tables.exec = Jvm.exec) (hby : c.code = bytes) {o : Int} {cd : ClassFile.Cond} {x y : Int32} (hd : decode bytes pc = .ok (.if_icmp cd o, 3)) (hc : if_icmp.holds cd x y = false) (hn : pc + 3 = n) (k : OEnds p e below s C S Q T (mkF m n L st)) : OEnds p e below s C S Q T (mkF m pc L (.int y :: .int x :: st)) := by
  subst hn
  exact k.pre fun t r => XS.icmpNo X.here hx rfl (hb hby hd) rfl hc r
theorem s_acmpY (X : Stand p l e R s m args below meth c T locs cells slots) (hx : p.tables.exec = Jvm.exec) (hby : c.code = bytes) {o : Int} {cd : ClassFile.ACond} {x y : Value} (hd : decode bytes pc = .ok (.if_acmp cd o, 3)) (h1 : x.isRef = true) (h2 : y.isRef = true) (hc : XT.acmp cd x y = true) (ho : 0 ≤ (pc : Int) + o) (hn : ((pc : Int) + o).toNat = n) (k : OEnds p e below s C S Q T (mkF m n L st)) : OEnds p e below s C S Q T (mkF m pc L (y :: x :: st)) :=
  k.pre fun t r => XT.acmpYes X.here hx rfl rfl (hb hby hd) rfl h1 h2 hc ho hn r
theorem s_acmpN (X : Stand p l e R s m args below meth c T locs cells slots) (hx : p.tables.exec = Jvm.exec) (hby : c.code = bytes) {o : Int} {cd : ClassFile.ACond} {x y : Value} (hd : decode bytes pc = .ok (.if_acmp cd o, 3)) (h1 : x.isRef = true) (h2 : y.isRef = true) (hc : XT.acmp cd x y = false) (hn : pc + 3 = n) (k : OEnds p e below s C S Q T (mkF m n L st)) : OEnds p e below s C S Q T (mkF m pc L (y :: x :: st)) := by
  subst hn
  exact k.pre fun t r => XT.acmpNo X.here hx rfl (hb hby hd) rfl h1 h2 hc r
theorem s_nullY (X : Stand p l e R s m args below meth c T locs cells slots) (hx : p.tables.exec = Jvm.exec) (hby : c.code = bytes) {o : Int} {x : Value} (hd : decode bytes pc = .ok (.ifnull o, 3)) (hv : x = .null) (ho : 0 ≤ (pc : Int) + o) (hn : ((pc : Int) + o).toNat = n) (k : OEnds p e below s C S Q T (mkF m n L st)) : OEnds p e below s C S Q T (mkF m pc L (x :: st)) :=
  k.pre fun t r => XT.nullYes X.here hx rfl rfl (hb hby hd) rfl hv ho hn r
theorem s_nullN (X : Stand p l e R s m args below meth c T locs cells slots) (hx : p.tables.exec = Jvm.exec) (hby : c.code = bytes) {o : Int} {x : Value} (hd : decode bytes pc = .ok (.ifnull o, 3)) (h1 : x.isRef = true) (hv : ¬ x = .null) (hn : pc + 3 = n) (k : OEnds p e below s C S Q T (mkF m n L st)) : OEnds p e below s C S Q T (mkF m pc L (x :: st)) := by
  subst hn
  exact k.pre fun t r => XT.nullNo X.here hx rfl (hb hby hd) rfl h1 hv r
theorem s_nonnullY (X : Stand p l e R s m args below meth c T locs cells slots) (hx : p.tables.exec = Jvm.exec) (hby : c.code = bytes) {o : Int} {x : Value} (hd : decode bytes pc = .ok (.ifnonnull o, 3)) (h1 : x.isRef = true) (hv : ¬ x = .null) (ho : 0 ≤ (pc : Int) + o) (hn : ((pc : Int) + o).toNat = n) (k : OEnds p e below s C S Q T (mkF m n L st)) : OEnds p e below s C S Q T (mkF m pc L (x :: st)) :=
  k.pre fun t r => XT.nonnullYes X.here hx rfl rfl (hb hby hd) rfl h1 hv ho hn r
theorem s_nonnullN (X : Stand p l e R s m args below meth c T locs cells slots) (hx : p.tables.exec = Jvm.exec) (hby : c.code = bytes) {o : Int} {x : Value} (hd : decode bytes pc = .ok (.ifnonnull o, 3)) (hv : x = .null) (hn : pc + 3 = n) (k : OEnds p e below s C S Q T (mkF m n L st)) : OEnds p e below s C S Q T (mkF m pc L (x :: st)) := by
  subst hn
  exact k.pre fun t r => XT.nonnullNo X.here hx rfl (hb hby hd) rfl hv r
theorem s_iincC (X : Stand p l e R s m args below meth c T locs cells slots) (hx : p.tables.exec = Jvm.exec) (hby : c.code = bytes) {i : Nat} {cst : Int} {x v z : Int32} {L' : Array Slot} (hd : decode bytes pc = .ok (.iinc i cst, 3)) (hv : Int32.ofInt cst = v) (hi : L[i]? = some (.val (.int x))) (hz : x + v = z) (hl : storeLocals L i (.int z) = some L') (hn : pc + 3 = n) (k : OEnds p e below s C S Q T (mkF m n L' (st))) : OEnds p e below s C S Q T (mkF m pc L (st)) := by
  subst hn
  exact k.pre fun t r => XT.iincV X.here hx rfl _ (hb hby hd) hv hi (hz ▸ hl) r

theorem s_fold {x z : Int32} (hz : x = z) (k : OEnds p e below s C S Q T (mkF m pc L (.int z :: st))) : OEnds p e below s C S Q T (mkF m pc L (.int x :: st)) := hz ▸ k
theorem s_foldJ {x z : Int64} (hz : x = z) (k : OEnds p e below s C S Q T (mkF m pc L (.long z :: st))) : OEnds p e below s C S Q T (mkF m pc L (.long x :: st)) := hz ▸ k
/-- the constants of the pool -/
theorem s_ldcI (X : Stand p l e R s m args below meth c T locs cells slots) (hx : p.tables.exec = Jvm.exec) (hby : c.code = bytes) (hZ : Z.Warmed39 s.vm) {own : String} {index : Nat} {v : Int32} (hown : s.vm.findClass own = some m.cls) (w : (Jvm.Cond.constant own index v).before a0 Z = true) (hd : decode bytes pc = .ok (.ldc index, 2)) (hn : pc + 2 = n) (k : OEnds p e below s C S Q T (mkF m n L (.int v :: st))) : OEnds p e below s C S Q T (mkF m pc L st) := by
  subst hn
  exact k.pre fun t r => X.ldcI hx hown (mvT hZ w) rfl (hb hby hd) r
theorem s_ldcWI (X : Stand p l e R s m args below meth c T locs cells slots) (hx : p.tables.exec = Jvm.exec) (hby : c.code = bytes) (hZ : Z.Warmed39 s.vm) {own : String} {index : Nat} {v : Int32} (hown : s.vm.findClass own = some m.cls) (w : (Jvm.Cond.constant own index v).before a0 Z = true) (hd : decode bytes pc = .ok (.ldc_w index, 3)) (hn : pc + 3 = n) (k : OEnds p e below s C S Q T (mkF m n L (.int v :: st))) : OEnds p e below s C S Q T (mkF m pc L st) := by
  subst hn
  exact k.pre fun t r => X.ldcWI hx hown (mvT hZ w) rfl (hb hby hd) r
theorem s_ldc2J (X : Stand p l e R s m args below meth c T locs cells slots) (hx : p.tables.exec = Jvm.exec) (hby : c.code = bytes) (hZ : Z.Warmed39 s.vm) {own : String} {index : Nat} {v : Int64} (hown : s.vm.findClass own = some m.cls) (w : (Jvm.Cond.constantLong own index v).before a0 Z = true) (hd : decode bytes pc = .ok (.ldc2_w index, 3)) (hn : pc + 3 = n) (k : OEnds p e below s C S Q T (mkF m n L (.long v :: st))) : OEnds p e below s C S Q T (mkF m pc L st) := by
  subst hn
  exact k.pre fun t r => X.ldc2J hx hown (mvT hZ w) rfl (hb hby hd) r
/-- the returns -/
theorem s_retV (X : Stand p l e R s m args below meth c T locs cells slots) (hx : p.tables.exec = Jvm.exec) (hby : c.code = bytes) (hlk : meth.locks = false) {t : FieldType} (hret : meth.sig.returnType = some t) {w : Value} {i : Instr} (hi : (i = .ireturn ∧ (t = .int ∨ t = .boolean ∨ t = .byte ∨ t = .char ∨ t = .short) ∧ ∃ z, w = .int z) ∨ (i = .lreturn ∧ t = .long ∧ ∃ z, w = .long z) ∨ (i = .dreturn ∧ t = .double ∧ ∃ z, w = .double z) ∨ (i = .freturn ∧ t = .float ∧ ∃ z, w = .float z) ∨ (i = .areturn ∧ t.isReference = true ∧ w.isRef = true))
    (hnw : narrow t w = w) (hd : decode bytes pc = .ok (i, 1)) (hc : cells ≤ C) (hs : slots ≤ S) (q : Q (some w) T.heap locs) : OEnds p e below s C S Q T (mkF m pc L (w :: st)) := by
  obtain ⟨fs, hr, hrun, hended, hW, hsame⟩ := X.leave (v := some w) (fun h => by rw [hret] at h; cases h) hlk
  exact ⟨_, _, _, retOut X hx hret hnw hi (hb hby hd) hr, hrun, hended, q, ⟨_, rfl⟩, hW, hsame.mono hc hs⟩
theorem s_retI (X : Stand p l e R s m args below meth c T locs cells slots) (hx : p.tables.exec = Jvm.exec) (hby : c.code = bytes) (hlk : meth.locks = false) (hret : meth.sig.returnType = some .int) {z : Int32} (hd : decode bytes pc = .ok (.ireturn, 1)) (hc : cells ≤ C) (hs : slots ≤ S) (q : Q (some (.int z)) T.heap locs) : OEnds p e below s C S Q T (mkF m pc L (.int z :: st)) :=
  s_retV X hx hby hlk hret (Or.inl ⟨rfl, Or.inl rfl, _, rfl⟩) rfl hd hc hs q
theorem s_retJ (X : Stand p l e R s m args below meth c T locs cells slots) (hx : p.tables.exec = Jvm.exec) (hby : c.code = bytes) (hlk : meth.locks = false) (hret : meth.sig.returnType = some .long) {z : Int64} (hd : decode bytes pc = .ok (.lreturn, 1)) (hc : cells ≤ C) (hs : slots ≤ S) (q : Q (some (.long z)) T.heap locs) : OEnds p e below s C S Q T (mkF m pc L (.long z :: st)) :=
  s_retV X hx hby hlk hret (Or.inr (Or.inl ⟨rfl, rfl, _, rfl⟩)) rfl hd hc hs q
theorem s_retA (X : Stand p l e R s m args below meth c T locs cells slots) (hx : p.tables.exec = Jvm.exec) (hby : c.code = bytes) (hlk : meth.locks = false) {t : FieldType} (hret : meth.sig.returnType = some t) (ht : t.isReference = true) {w : Value} (hw : w.isRef = true) (hd : decode bytes pc = .ok (.areturn, 1)) (hc : cells ≤ C) (hs : slots ≤ S) (q : Q (some w) T.heap locs) : OEnds p e below s C S Q T (mkF m pc L (w :: st)) :=
  s_retV X hx hby hlk hret (Or.inr (Or.inr (Or.inr (Or.inr ⟨rfl, ht, hw⟩)))) (by cases w <;> cases t <;> simp_all [Value.isRef, FieldType.isReference, narrow]) hd hc hs q
theorem s_retN (X : Stand p l e R s m args below meth c T locs cells slots) (hx : p.tables.exec = Jvm.exec) (hby : c.code = bytes) (hlk : meth.locks = false) {t : FieldType} (hret : meth.sig.returnType = some t) (ht : t = .boolean ∨ t = .byte ∨ t = .char ∨ t = .short) {z z' : Int32} (hz : nar t z = z') (hd : decode bytes pc = .ok (.ireturn, 1)) (hc : cells ≤ C) (hs : slots ≤ S) (q : Q (some (.int z')) T.heap locs) : OEnds p e below s C S Q T (mkF m pc L (.int z :: st)) := by
  subst hz
  obtain ⟨fs, hr, hrun, hended, hW, hsame⟩ := X.leave (v := some (.int (nar t z))) (fun h => by rw [hret] at h; cases h) hlk
  exact ⟨_, _, _, retN X hx hret ht (hb hby hd) hr, hrun, hended, q, ⟨_, rfl⟩, hW, hsame.mono hc hs⟩
theorem s_ret (X : Stand p l e R s m args below meth c T locs cells slots) (hx : p.tables.exec = Jvm.exec) (hby : c.code = bytes) (hlk : meth.locks = false) (hret : meth.sig.returnType = none) (hd : decode bytes pc = .ok (.return_, 1)) (hc : cells ≤ C) (hs : slots ≤ S) (q : Q none T.heap locs) : OEnds p e below s C S Q T (mkF m pc L []) := by
  obtain ⟨fs, hr, hrun, hended, hW, hsame⟩ := X.leave (v := none) (fun _ => rfl) hlk
  exact ⟨_, _, _, X.returnOut hx hret (hb hby hd) hr, hrun, hended, q, ⟨_, rfl⟩, hW, hsame.mono hc hs⟩
/-- the heap: fields -/
theorem s_getF (X : Stand p l e R s m args below meth c T locs cells slots) (hx : p.tables.exec = Jvm.exec) (hby : c.code = bytes) (hZ : Z.Warmed39 s.vm) {own O f d : String} {index : Nat} (hown : s.vm.findClass own = some m.cls) (w : (Jvm.Cond.fieldLink own index O f d).before a0 Z = true) (eT : T.heap = h) {a : Addr} {v : Value} (F : Fld Z h a O f d v) (hd : decode bytes pc = .ok (.getfield index, 3)) (hn : pc + 3 = n)
    (k : ∀ T', Stand p l e R s m args below meth c T' locs cells slots → T'.heap = h → OEnds p e below s C S Q T' (mkF m n L (v :: st))) : OEnds p e below s C S Q T (mkF m pc L (.ref a :: st)) := by
  subst hn
  obtain ⟨T', X', e', f'⟩ := getF X hx hZ hown (host := "") (Or.inl w) Via.refl eT F (g := mkF m pc L (.ref a :: st)) rfl rfl (hb hby hd)
  exact (k T' X' e').pre f'
theorem s_putF (X : Stand p l e R s m args below meth c T locs cells slots) (hx : p.tables.exec = Jvm.exec) (hby : c.code = bytes) (hZ : Z.Warmed39 s.vm) {own O f d K : String} {index kk : Nat} {ty : FieldType} (hown : s.vm.findClass own = some m.cls) (w : (Jvm.Cond.fieldLink own index O f d).before a0 Z = true) (eT : T.heap = h) {a : Addr} {v old : Value} (F : Fld Z h a O f d old) (E : Exa Z h a K)
    (Lw : (Jvm.Cond.lays K O f d).before a0 Z = true ∨ ((Jvm.Cond.laysFinal K O f d).before a0 Z = true ∧ own = O ∧ meth.name = "<init>")) (wi : (Jvm.Cond.instantiable K kk).before a0 Z = true) (hty : parseFieldDescriptor d = some ty) (hnw : narrow ty v = v) (hf : fits ty v = true) (hd : decode bytes pc = .ok (.putfield index, 3)) (hn : pc + 3 = n)
    (k : ∀ T' h', Stand p l e R s m args below meth c T' (locs ++ [⟨a, RoadKit.slotOf Z O f d⟩]) cells slots → T'.heap = h' → Wr h h' a (RoadKit.slotOf Z O f d) v → OEnds p e below s C S Q T' (mkF m n L st)) : OEnds p e below s C S Q T (mkF m pc L (v :: .ref a :: st)) := by
  subst hn
  obtain ⟨T', h', X', e', W', f'⟩ := putF X hx hZ hown (host := "") (Or.inl w) Via.refl eT F E Lw wi hty hnw hf (g := mkF m pc L (v :: .ref a :: st)) rfl rfl (hb hby hd)
  exact (k T' h' X' e' W').pre f'
theorem s_getS (X : Stand p l e R s m args below meth c T locs cells slots) (hx : p.tables.exec = Jvm.exec) (hby : c.code = bytes) (hZ : Z.Warmed39 s.vm) {own O f d : String} {index : Nat} (hown : s.vm.findClass own = some m.cls) (w : (Jvm.Cond.fieldLink own index O f d).before a0 Z = true) (eT : T.heap = h) {v : Value} (F : Sta Z h O f d v) (hd : decode bytes pc = .ok (.getstatic index, 3)) (hn : pc + 3 = n)
    (k : ∀ T', Stand p l e R s m args below meth c T' locs cells slots → T'.heap = h → OEnds p e below s C S Q T' (mkF m n L (v :: st))) : OEnds p e below s C S Q T (mkF m pc L st) := by
  subst hn
  obtain ⟨T', X', e', f'⟩ := getS X hx hZ hown (host := "") w Via.refl eT F (g := mkF m pc L st) rfl (hb hby hd)
  exact (k T' X' e').pre f'
theorem s_newO (X : Stand p l e R s m args below meth c T locs cells slots) (hx : p.tables.exec = Jvm.exec) (hby : c.code = bytes) (hZ : Z.Warmed39 s.vm) {own K : String} {index num : Nat} (hown : s.vm.findClass own = some m.cls) (w : (Jvm.Cond.classLink own index K).before a0 Z = true) (wi : (Jvm.Cond.instantiable K num).before a0 Z = true) (wz : (Jvm.Cond.initialized K).before a0 Z = true) (eT : T.heap = h) (hc : cells + 1 ≤ R.cells) (hl : slots + num ≤ R.slots) (hd : decode bytes pc = .ok (.new index, 3)) (hn : pc + 3 = n)
    (k : ∀ T' h' a, a = h.size → Stand p l e R s m args below meth c T' locs (cells + 1) (slots + num) → T'.heap = h' → Ext h h' → Exa Z h' a K → (∀ {O nm d : String} {ty : FieldType}, Laid Z a0 K O nm d → parseFieldDescriptor d = some ty → Fld Z h' a O nm d (defaultValue ty)) → OEnds p e below s C S Q T' (mkF m n L (.ref a :: st))) : OEnds p e below s C S Q T (mkF m pc L st) := by
  subst hn
  obtain ⟨T', h', X', e', E', A', D', -, f'⟩ := newO X hx hZ hown w wi wz eT (g := mkF m pc L st) rfl (hb hby hd) hc hl
  exact (k T' h' _ rfl X' e' E' A' D').pre f'
theorem s_initO (X : Stand p l e R s m args below meth c T locs cells slots) (hx : p.tables.exec = Jvm.exec) (hby : c.code = bytes) {ml : Nat} (hml : c.maxLocals = ml) (hZ : Z.Warmed39 s.vm) {own : String} {index : Nat} (hown : s.vm.findClass own = some m.cls) (w1 : (Jvm.Cond.methodLink own index Lib.objectInit).before a0 Z = true) (w2 : (Jvm.Cond.instanceMethod Lib.objectInit).before a0 Z = true) (w3 : (Jvm.Cond.code Lib.objectInit ⟨#[0xb1]⟩ 1 none).before a0 Z = true) (eT : T.heap = h) {a : Addr} (hf : 1 ≤ R.frames) (W : Nat) (hW : (st.map fun v => v.category).sum ≤ W) (hl : W + 12 ≤ R.locals) (hsz : L.size = ml) (hd : decode bytes pc = .ok (.invokespecial index, 3)) (hn : pc + 3 = n)
    (k : ∀ T', Stand p l e R s m args below meth c T' locs cells slots → T'.heap = h → OEnds p e below s C S Q T' (mkF m n L st)) : OEnds p e below s C S Q T (mkF m pc L (.ref a :: st)) := by
  subst hn
  obtain ⟨T', X', e', f'⟩ := initO X hx hZ hown w1 w2 w3 eT (g := mkF m pc L (.ref a :: st)) rfl (by rw [hml]; exact hsz) rfl (hb hby hd) hf (W := W) (by show 2 * 0 + _ ≤ _; rw [Nat.mul_zero, Nat.zero_add]; exact hW) hl
  exact (k T' X' e').pre f'
/-- the calls by a contract -/
theorem s_callS (X : Stand p l e R s m args below meth c T locs cells slots) (hx : p.tables.exec = Jvm.exec) (hby : c.code = bytes) {ml : Nat} (hml : c.maxLocals = ml) (hZ : Z.Warmed39 s.vm) {own : String} {index : Nat} {y : MethodName} {yb : ByteArray} {maxL : Nat} {ret : Option FieldType} (hown : s.vm.findClass own = some m.cls) (w1 : (Jvm.Cond.methodLink own index y).before a0 Z = true) (w2 : (Jvm.Cond.static y).before a0 Z = true) (w3 : (Jvm.Cond.initialized y.cls).before a0 Z = true) (w4 : (Jvm.Cond.code y yb maxL ret).before a0 Z = true) (hy : y.cls ≠ "java/lang/invoke/MethodHandle" ∧ y.cls ≠ "java/lang/invoke/VarHandle")
    {rm : Room} {as' : Array Value} {Q' : Option Value → Heap → List Loc → Prop} (K : OCon l Z y yb maxL ret [] rm as' h Q') (eT : T.heap = h) (hf : rm.frames + 1 ≤ R.frames) (W : Nat) (hl : W + (maxL + 11) + rm.locals ≤ R.locals) (hc : cells + rm.cells ≤ R.cells) (hs : slots + rm.slots ≤ R.slots) {ps : List FieldType} {rt : Option FieldType} (pd : parseMethodDescriptor y.desc = some ⟨ps, rt⟩) (argsL rest : List Value) (hlen : argsL.length = ps.length) (has : argsL.toArray = as') (hst : st = argsL.reverse ++ rest) (hW : (rest.map fun v => v.category).sum ≤ W) (hsz : L.size = ml) (hd : decode bytes pc = .ok (.invokestatic index, 3)) (hn : pc + 3 = n)
    (k : ∀ T' L' v, Stand p l e R s m args below meth c T' (locs ++ L') (cells + rm.cells) (slots + rm.slots) → Q' v T'.heap L' → OEnds p e below s C S Q T' (mkF m n L (v.toList ++ rest))) : OEnds p e below s C S Q T (mkF m pc L st) := by
  subst hn has
  obtain ⟨v, _, ⟨T', L', k', n'⟩, -, X', ⟨Lc, hQ, l', y', z'⟩, f'⟩ := Jvm.LawKit.callS X hx (y := y) hown (mvT hZ w1) (mvT hZ w2) (mvT hZ w3) (mvT hZ w4) hy (backOf (W := W) K hZ w4 w3 hf hl) (g := mkF m pc L st) rfl (by rw [hml]; exact hsz) (argsL := argsL) (rest := rest) (lenOf pd hlen) hst (by show 2 * 0 + _ ≤ _; rw [Nat.mul_zero, Nat.zero_add]; exact hW) (hb hby hd) (fun _ _ => ⟨rfl, eT, hc, hs⟩)
  dsimp only [Pt.U, Pt.locs, Pt.cells, Pt.slots] at X' l' y' z' f' hQ
  subst l' y' z'
  exact (k T' Lc v X' hQ).pre f'
theorem s_callI (X : Stand p l e R s m args below meth c T locs cells slots) (hx : p.tables.exec = Jvm.exec) (hby : c.code = bytes) {ml : Nat} (hml : c.maxLocals = ml) (hZ : Z.Warmed39 s.vm) {own : String} {index : Nat} {y : MethodName} {yb : ByteArray} {maxL : Nat} (hy1 : y.name = "<init>") (hown : s.vm.findClass own = some m.cls) (w1 : (Jvm.Cond.methodLink own index y).before a0 Z = true) (w2 : (Jvm.Cond.instanceMethod y).before a0 Z = true) (w3 : (Jvm.Cond.initialized y.cls).before a0 Z = true) (w4 : (Jvm.Cond.code y yb maxL none).before a0 Z = true) (hy : y.cls ≠ "java/lang/invoke/MethodHandle" ∧ y.cls ≠ "java/lang/invoke/VarHandle")
    {rm : Room} {as' : Array Value} {Q' : Option Value → Heap → List Loc → Prop} (K : OCon l Z y yb maxL none [] rm as' h Q') (eT : T.heap = h) (hf : rm.frames + 1 ≤ R.frames) (W : Nat) (hl : W + (maxL + 11) + rm.locals ≤ R.locals) (hc : cells + rm.cells ≤ R.cells) (hs : slots + rm.slots ≤ R.slots) {ps : List FieldType} {rt : Option FieldType} (pd : parseMethodDescriptor y.desc = some ⟨ps, rt⟩) (a : Addr) (argsL rest : List Value) (hlen : argsL.length = ps.length) (has : (Value.ref a :: argsL).toArray = as') (hst : st = argsL.reverse ++ .ref a :: rest) (hW : (rest.map fun v => v.category).sum ≤ W) (hsz : L.size = ml) (hd : decode bytes pc = .ok (.invokespecial index, 3)) (hn : pc + 3 = n)
    (k : ∀ T' L' v, Stand p l e R s m args below meth c T' (locs ++ L') (cells + rm.cells) (slots + rm.slots) → Q' v T'.heap L' → OEnds p e below s C S Q T' (mkF m n L (v.toList ++ rest))) : OEnds p e below s C S Q T (mkF m pc L st) := by
  subst hn has
  obtain ⟨v, _, ⟨T', L', k', n'⟩, -, X', ⟨Lc, hQ, l', y', z'⟩, f'⟩ := X.specialBack hx (y := y) hy1 hown (mvT hZ w1) (mvT hZ w2) (mvT hZ w4) hy (backOf (W := W) K hZ w4 w3 hf hl) (g := mkF m pc L st) rfl (by rw [hml]; exact hsz) (Steps.refl _) (a := a) (argsL := argsL) (rest := rest) (lenOf pd hlen) hst (by show 2 * 0 + _ ≤ _; rw [Nat.mul_zero, Nat.zero_add]; exact hW) (hb hby hd) (fun _ _ => ⟨rfl, eT, hc, hs⟩)
  dsimp only [Pt.U, Pt.locs, Pt.cells, Pt.slots] at X' l' y' z' f' hQ
  subst l' y' z'
  exact (k T' Lc v X' hQ).pre fun t r => f'.trans r
theorem s_callV (X : Stand p l e R s m args below meth c T locs cells slots) (hx : p.tables.exec = Jvm.exec) (hby : c.code = bytes) {ml : Nat} (hml : c.maxLocals = ml) (hZ : Z.Warmed39 s.vm) {own K0 : String} {index : Nat} {y z : MethodName} {yb : ByteArray} {maxL : Nat} {ret : Option FieldType} (hown : s.vm.findClass own = some m.cls) (w1 : (Jvm.Cond.methodLink own index y).before a0 Z = true) (w2 : (Jvm.Cond.declares y).before a0 Z = true) (w5 : NotFace s y) (w6 : (Jvm.Cond.selects K0 y z).before a0 Z = true) (w7 : (Jvm.Cond.instanceMethod z).before a0 Z = true) (w3 : (Jvm.Cond.initialized z.cls).before a0 Z = true) (w4 : (Jvm.Cond.code z yb maxL ret).before a0 Z = true) (hy : y.cls ≠ "java/lang/invoke/MethodHandle" ∧ y.cls ≠ "java/lang/invoke/VarHandle")
    {rm : Room} {as' : Array Value} {Q' : Option Value → Heap → List Loc → Prop} (K : OCon l Z z yb maxL ret [] rm as' h Q') (eT : T.heap = h) (hf : rm.frames + 1 ≤ R.frames) (W : Nat) (hl : W + (maxL + 11) + rm.locals ≤ R.locals) (hc : cells + rm.cells ≤ R.cells) (hs : slots + rm.slots ≤ R.slots) {ps : List FieldType} {rt : Option FieldType} (pd : parseMethodDescriptor y.desc = some ⟨ps, rt⟩) {a : Addr} (E : Exa Z h a K0) (argsL rest : List Value) (hlen : argsL.length = ps.length) (has : (Value.ref a :: argsL).toArray = as') (hst : st = argsL.reverse ++ .ref a :: rest) (hW : (rest.map fun v => v.category).sum ≤ W) (hsz : L.size = ml) (hd : decode bytes pc = .ok (.invokevirtual index, 3)) (hn : pc + 3 = n)
    (k : ∀ T' L' v, Stand p l e R s m args below meth c T' (locs ++ L') (cells + rm.cells) (slots + rm.slots) → Q' v T'.heap L' → OEnds p e below s C S Q T' (mkF m n L (v.toList ++ rest))) : OEnds p e below s C S Q T (mkF m pc L st) := by
  subst hn has
  obtain ⟨cq, kq, qa, qb, qc⟩ := isOf hZ eT E
  obtain ⟨v, _, ⟨T', L', k', n'⟩, -, X', ⟨Lc, hQ, l', y', z'⟩, f'⟩ := X.virtualBack hx (y := y) (z := z) hown (mvT hZ w1) (mvT hZ w2) w5 (mvT hZ w6) (mvT hZ w7) hy (backOf (W := W) K hZ w4 w3 hf hl) qa qc (g := mkF m pc L st) rfl (by rw [hml]; exact hsz) (Steps.refl _) (argsL := argsL) (rest := rest) (lenOf pd hlen) hst (by show 2 * 0 + _ ≤ _; rw [Nat.mul_zero, Nat.zero_add]; exact hW) (hb hby hd) (fun _ _ => ⟨rfl, eT, hc, hs⟩)
  dsimp only [Pt.U, Pt.locs, Pt.cells, Pt.slots] at X' l' y' z' f' hQ
  subst l' y' z'
  exact (k T' Lc v X' hQ).pre fun t r => f'.trans r
/-- arrays -/
theorem s_newP (X : Stand p l e R s m args below meth c T locs cells slots) (hx : p.tables.exec = Jvm.exec) (hby : c.code = bytes) (hZ : Z.Warmed39 s.vm) {aty : ArrayType} (w : (Jvm.Cond.arrayClass (newarray.typeOf aty)).before a0 Z = true) {ty : FieldType} (hty : newarray.typeOf aty = ty) (eT : T.heap = h) {num : Int32} (hnn : ¬ num < 0) (cap : Nat) (hcap : num.toNatClampNeg ≤ cap) (hb8 : cap * 8 ≤ 536870912) (hc : cells + 1 ≤ R.cells) (hl : slots + cap ≤ R.slots) (hd : decode bytes pc = .ok (.newarray aty, 2)) (hn : pc + 2 = n)
    (k : ∀ T' h' cA a, a = h.size → Stand p l e R s m args below meth c T' locs (cells + 1) (slots + cap) → T'.heap = h' → Ext h h' → Arr Z h' a (newA cA ty num) ty → OEnds p e below s C S Q T' (mkF m n L (.ref a :: st))) : OEnds p e below s C S Q T (mkF m pc L (.int num :: st)) := by
  subst hn hty
  obtain ⟨T', h', cA, X', e', E', A', f'⟩ := newP X hx hZ w eT (g := mkF m pc L (.int num :: st)) rfl (hb hby hd) rfl hnn hcap hb8 hc hl
  exact (k T' h' cA _ rfl X' e' E' A').pre f'
theorem s_arraylength (X : Stand p l e R s m args below meth c T locs cells slots) (hx : p.tables.exec = Jvm.exec) (hby : c.code = bytes) (hZ : Z.Warmed39 s.vm) (eT : T.heap = h) {a : Addr} {cl : Cell} {ty : FieldType} (A : Arr Z h a cl ty) {z : Int32} (hsz : cl.slots.size = z.toNatClampNeg) (hz : ¬ z < 0) (hd : decode bytes pc = .ok (.arraylength, 1)) (hn : pc + 1 = n)
    (k : OEnds p e below s C S Q T (mkF m n L (.int z :: st))) : OEnds p e below s C S Q T (mkF m pc L (.ref a :: st)) := by
  subst hn
  rw [← len_of hsz hz] at k
  exact k.pre fun t r => X.arraylength hx (by rw [eT]; exact A.1) (State.isArrayOf_alike hZ.alike A.2.1) (g := mkF m pc L (.ref a :: st)) rfl rfl (hb hby hd) _ r
theorem s_iaload (X : Stand p l e R s m args below meth c T locs cells slots) (hx : p.tables.exec = Jvm.exec) (hby : c.code = bytes) (hZ : Z.Warmed39 s.vm) (eT : T.heap = h) {a : Addr} {cl : Cell} (A : Arr Z h a cl .int) {j : Int32} (hj : ¬ (j < 0 ∨ cl.slots.size ≤ j.toNatClampNeg)) {v : Value} (hv : cl.slots[j.toNatClampNeg]? = some v) (hd : decode bytes pc = .ok (.iaload, 1)) (hn : pc + 1 = n)
    (k : OEnds p e below s C S Q T (mkF m n L (v :: st))) : OEnds p e below s C S Q T (mkF m pc L (.int j :: .ref a :: st)) := by
  subst hn
  exact k.pre fun t r => X.iaload hx (by rw [eT]; exact A.1) (State.isArrayOf_alike hZ.alike A.2.1) A.2.2 hj hv (g := mkF m pc L (.int j :: .ref a :: st)) rfl rfl (hb hby hd) _ r
theorem s_baload (X : Stand p l e R s m args below meth c T locs cells slots) (hx : p.tables.exec = Jvm.exec) (hby : c.code = bytes) (hZ : Z.Warmed39 s.vm) (eT : T.heap = h) {a : Addr} {cl : Cell} (A : Arr Z h a cl .byte) {j : Int32} (hj : ¬ (j < 0 ∨ cl.slots.size ≤ j.toNatClampNeg)) {v : Value} (hv : cl.slots[j.toNatClampNeg]? = some v) (hd : decode bytes pc = .ok (.baload, 1)) (hn : pc + 1 = n)
    (k : OEnds p e below s C S Q T (mkF m n L (v :: st))) : OEnds p e below s C S Q T (mkF m pc L (.int j :: .ref a :: st)) := by
  subst hn
  exact k.pre fun t r => X.baloadBytes hx (by rw [eT]; exact A.1) (State.isArrayOf_alike hZ.alike A.2.1) A.2.2 hj hv (g := mkF m pc L (.int j :: .ref a :: st)) rfl rfl (hb hby hd) _ r
theorem s_caload (X : Stand p l e R s m args below meth c T locs cells slots) (hx : p.tables.exec = Jvm.exec) (hby : c.code = bytes) (hZ : Z.Warmed39 s.vm) (eT : T.heap = h) {a : Addr} {cl : Cell} (A : Arr Z h a cl .char) {j : Int32} (hj : ¬ (j < 0 ∨ cl.slots.size ≤ j.toNatClampNeg)) {v : Value} (hv : cl.slots[j.toNatClampNeg]? = some v) (hd : decode bytes pc = .ok (.caload, 1)) (hn : pc + 1 = n)
    (k : OEnds p e below s C S Q T (mkF m n L (v :: st))) : OEnds p e below s C S Q T (mkF m pc L (.int j :: .ref a :: st)) := by
  subst hn
  exact k.pre fun t r => X.caload hx (by rw [eT]; exact A.1) (State.isArrayOf_alike hZ.alike A.2.1) A.2.2 hj hv (g := mkF m pc L (.int j :: .ref a :: st)) rfl rfl (hb hby hd) _ r
theorem s_iastore (X : Stand p l e R s m args below meth c T locs cells slots) (hx : p.tables.exec = Jvm.exec) (hby : c.code = bytes) (hZ : Z.Warmed39 s.vm) (eT : T.heap = h) {a : Addr} {cl : Cell} (A : Arr Z h a cl .int) {j x : Int32} (hj : ¬ (j < 0 ∨ cl.slots.size ≤ j.toNatClampNeg)) (hd : decode bytes pc = .ok (.iastore, 1)) (hn : pc + 1 = n)
    (k : ∀ T' h', Stand p l e R s m args below meth c T' (locs ++ [⟨a, j.toNatClampNeg⟩]) cells slots → T'.heap = h' → Wr h h' a j.toNatClampNeg (.int x) → OEnds p e below s C S Q T' (mkF m n L st)) : OEnds p e below s C S Q T (mkF m pc L (.int x :: .int j :: .ref a :: st)) := by
  subst hn
  obtain ⟨T', h', X', e', W', f'⟩ := stI X hx hZ eT A hj (g := mkF m pc L (.int x :: .int j :: .ref a :: st)) rfl rfl (hb hby hd)
  exact (k T' h' X' e' W').pre f'
theorem s_bastore (X : Stand p l e R s m args below meth c T locs cells slots) (hx : p.tables.exec = Jvm.exec) (hby : c.code = bytes) (hZ : Z.Warmed39 s.vm) (eT : T.heap = h) {a : Addr} {cl : Cell} (A : Arr Z h a cl .byte) {j x : Int32} (hj : ¬ (j < 0 ∨ cl.slots.size ≤ j.toNatClampNeg)) (hd : decode bytes pc = .ok (.bastore, 1)) (hn : pc + 1 = n)
    (k : ∀ T' h', Stand p l e R s m args below meth c T' (locs ++ [⟨a, j.toNatClampNeg⟩]) cells slots → T'.heap = h' → Wr h h' a j.toNatClampNeg (.int (nar .byte x)) → OEnds p e below s C S Q T' (mkF m n L st)) : OEnds p e below s C S Q T (mkF m pc L (.int x :: .int j :: .ref a :: st)) := by
  subst hn
  obtain ⟨T', h', X', e', W', f'⟩ := stB X hx hZ eT A hj (g := mkF m pc L (.int x :: .int j :: .ref a :: st)) rfl rfl (hb hby hd)
  exact (k T' h' X' e' W').pre f'
theorem s_castore (X : Stand p l e R s m args below meth c T locs cells slots) (hx : p.tables.exec = Jvm.exec) (hby : c.code = bytes) (hZ : Z.Warmed39 s.vm) (eT : T.heap = h) {a : Addr} {cl : Cell} (A : Arr Z h a cl .char) {j x : Int32} (hj : ¬ (j < 0 ∨ cl.slots.size ≤ j.toNatClampNeg)) (hd : decode bytes pc = .ok (.castore, 1)) (hn : pc + 1 = n)
    (k : ∀ T' h', Stand p l e R s m args below meth c T' (locs ++ [⟨a, j.toNatClampNeg⟩]) cells slots → T'.heap = h' → Wr h h' a j.toNatClampNeg (.int (nar .char x)) → OEnds p e below s C S Q T' (mkF m n L st)) : OEnds p e below s C S Q T (mkF m pc L (.int x :: .int j :: .ref a :: st)) := by
  subst hn
  obtain ⟨T', h', X', e', W', f'⟩ := stC X hx hZ eT A hj (g := mkF m pc L (.int x :: .int j :: .ref a :: st)) rfl rfl (hb hby hd)
  exact (k T' h' X' e' W').pre f'
theorem s_bastoreC (X : Stand p l e R s m args below meth c T locs cells slots) (hx : p.tables.exec = Jvm.exec) (hby : c.code = bytes) (hZ : Z.Warmed39 s.vm) (eT : T.heap = h) {a : Addr} {cl : Cell} (A : Arr Z h a cl .byte) {j x : Int32} (i : Nat) (hj : ¬ j < 0) (hi : j.toNatClampNeg = i) (hs : i < cl.slots.size) (hd : decode bytes pc = .ok (.bastore, 1)) (hn : pc + 1 = n)
    (k : ∀ T' h', Stand p l e R s m args below meth c T' (locs ++ [⟨a, i⟩]) cells slots → T'.heap = h' → Wr h h' a i (.int (nar .byte x)) → OEnds p e below s C S Q T' (mkF m n L st)) : OEnds p e below s C S Q T (mkF m pc L (.int x :: .int j :: .ref a :: st)) := by
  subst hi
  exact s_bastore X hx hby hZ eT A (fun q => q.elim hj (Nat.not_le.mpr hs)) hd hn k
theorem s_iastoreC (X : Stand p l e R s m args below meth c T locs cells slots) (hx : p.tables.exec = Jvm.exec) (hby : c.code = bytes) (hZ : Z.Warmed39 s.vm) (eT : T.heap = h) {a : Addr} {cl : Cell} (A : Arr Z h a cl .int) {j x : Int32} (i : Nat) (hj : ¬ j < 0) (hi : j.toNatClampNeg = i) (hs : i < cl.slots.size) (hd : decode bytes pc = .ok (.iastore, 1)) (hn : pc + 1 = n)
    (k : ∀ T' h', Stand p l e R s m args below meth c T' (locs ++ [⟨a, i⟩]) cells slots → T'.heap = h' → Wr h h' a i (.int x) → OEnds p e below s C S Q T' (mkF m n L st)) : OEnds p e below s C S Q T (mkF m pc L (.int x :: .int j :: .ref a :: st)) := by
  subst hi
  exact s_iastore X hx hby hZ eT A (fun q => q.elim hj (Nat.not_le.mpr hs)) hd hn k
theorem s_castoreC (X : Stand p l e R s m args below meth c T locs cells slots) (hx : p.tables.exec = Jvm.exec) (hby : c.code = bytes) (hZ : Z.Warmed39 s.vm) (eT : T.heap = h) {a : Addr} {cl : Cell} (A : Arr Z h a cl .char) {j x : Int32} (i : Nat) (hj : ¬ j < 0) (hi : j.toNatClampNeg = i) (hs : i < cl.slots.size) (hd : decode bytes pc = .ok (.castore, 1)) (hn : pc + 1 = n)
    (k : ∀ T' h', Stand p l e R s m args below meth c T' (locs ++ [⟨a, i⟩]) cells slots → T'.heap = h' → Wr h h' a i (.int (nar .char x)) → OEnds p e below s C S Q T' (mkF m n L st)) : OEnds p e below s C S Q T (mkF m pc L (.int x :: .int j :: .ref a :: st)) := by
  subst hi
  exact s_castore X hx hby hZ eT A (fun q => q.elim hj (Nat.not_le.mpr hs)) hd hn k
theorem s_baloadC (X : Stand p l e R s m args below meth c T locs cells slots) (hx : p.tables.exec = Jvm.exec) (hby : c.code = bytes) (hZ : Z.Warmed39 s.vm) (eT : T.heap = h) {a : Addr} {cl : Cell} (A : Arr Z h a cl .byte) {j : Int32} (i : Nat) (hj : ¬ j < 0) (hi : j.toNatClampNeg = i) (hs : i < cl.slots.size) {v : Value} (hv : cl.slots[i]? = some v) (hd : decode bytes pc = .ok (.baload, 1)) (hn : pc + 1 = n)
    (k : OEnds p e below s C S Q T (mkF m n L (v :: st))) : OEnds p e below s C S Q T (mkF m pc L (.int j :: .ref a :: st)) := by
  subst hi
  exact s_baload X hx hby hZ eT A (fun q => q.elim hj (Nat.not_le.mpr hs)) hv hd hn k
theorem s_caloadC (X : Stand p l e R s m args below meth c T locs cells slots) (hx : p.tables.exec = Jvm.exec) (hby : c.code = bytes) (hZ : Z.Warmed39 s.vm) (eT : T.heap = h) {a : Addr} {cl : Cell} (A : Arr Z h a cl .char) {j : Int32} (i : Nat) (hj : ¬ j < 0) (hi : j.toNatClampNeg = i) (hs : i < cl.slots.size) {v : Value} (hv : cl.slots[i]? = some v) (hd : decode bytes pc = .ok (.caload, 1)) (hn : pc + 1 = n)
    (k : OEnds p e below s C S Q T (mkF m n L (v :: st))) : OEnds p e below s C S Q T (mkF m pc L (.int j :: .ref a :: st)) := by
  subst hi
  exact s_caload X hx hby hZ eT A (fun q => q.elim hj (Nat.not_le.mpr hs)) hv hd hn k
theorem s_ialoadC (X : Stand p l e R s m args below meth c T locs cells slots) (hx : p.tables.exec = Jvm.exec) (hby : c.code = bytes) (hZ : Z.Warmed39 s.vm) (eT : T.heap = h) {a : Addr} {cl : Cell} (A : Arr Z h a cl .int) {j : Int32} (i : Nat) (hj : ¬ j < 0) (hi : j.toNatClampNeg = i) (hs : i < cl.slots.size) {v : Value} (hv : cl.slots[i]? = some v) (hd : decode bytes pc = .ok (.iaload, 1)) (hn : pc + 1 = n)
    (k : OEnds p e below s C S Q T (mkF m n L (v :: st))) : OEnds p e below s C S Q T (mkF m pc L (.int j :: .ref a :: st)) := by
  subst hi
  exact s_iaload X hx hby hZ eT A (fun q => q.elim hj (Nat.not_le.mpr hs)) hv hd hn k
theorem set_hit {cl : Cell} {i : Nat} {v : Value} (hs : i < cl.slots.size) : (cl.setSlot i v).slots[i]? = some v := by simp [Cell.setSlot, hs]
theorem set_mis {cl : Cell} {i j : Nat} {v : Value} {w : Option Value} (hv : cl.slots[j]? = w) (q : i ≠ j) : (cl.setSlot i v).slots[j]? = w := by
  rw [← hv]; exact Array.getElem?_setIfInBounds_ne q
theorem new_at (cA : ClassId) (ty : FieldType) {z : Int32} {i : Nat} (q : i < z.toNatClampNeg) : (newA cA ty z).slots[i]? = some (defaultValue ty) := by simp [newA, q]
/-- instanceof, checkcast, aaload -/
theorem s_instY (X : Stand p l e R s m args below meth c T locs cells slots) (hx : p.tables.exec = Jvm.exec) (hby : c.code = bytes) (hZ : Z.Warmed39 s.vm) {own K : String} {index : Nat} (hown : s.vm.findClass own = some m.cls) (w : (Jvm.Cond.classLink own index K).before a0 Z = true) (eT : T.heap = h) {a : Addr} (F : Ins Z h a K true) (hd : decode bytes pc = .ok (.instanceof index, 3)) (hn : pc + 3 = n)
    (k : ∀ T', Stand p l e R s m args below meth c T' locs cells slots → T'.heap = h → OEnds p e below s C S Q T' (mkF m n L (.int 1 :: st))) : OEnds p e below s C S Q T (mkF m pc L (.ref a :: st)) := by
  subst hn
  obtain ⟨T', X', e', f'⟩ := instY X hx hZ hown w eT F (g := mkF m pc L (.ref a :: st)) rfl rfl (hb hby hd)
  exact (k T' X' e').pre f'
theorem s_instNo (X : Stand p l e R s m args below meth c T locs cells slots) (hx : p.tables.exec = Jvm.exec) (hby : c.code = bytes) (hZ : Z.Warmed39 s.vm) {own K C0 : String} {index : Nat} (hown : s.vm.findClass own = some m.cls) (w : (Jvm.Cond.classLink own index K).before a0 Z = true) (eT : T.heap = h) {a : Addr} (E : Exa Z h a C0) (F : ∃ c t, Z.vm.findClass C0 = some c ∧ Z.vm.findClass K = some t ∧ Z.vm.assignable c t = false) (hd : decode bytes pc = .ok (.instanceof index, 3)) (hn : pc + 3 = n)
    (k : ∀ T', Stand p l e R s m args below meth c T' locs cells slots → T'.heap = h → OEnds p e below s C S Q T' (mkF m n L (.int 0 :: st))) : OEnds p e below s C S Q T (mkF m pc L (.ref a :: st)) := by
  subst hn
  obtain ⟨T', X', e', f'⟩ := instNo X hx hZ hown w eT E F (g := mkF m pc L (.ref a :: st)) rfl rfl (hb hby hd)
  exact (k T' X' e').pre f'
theorem s_instNull (X : Stand p l e R s m args below meth c T locs cells slots) (hx : p.tables.exec = Jvm.exec) (hby : c.code = bytes) {index : Nat} (hd : decode bytes pc = .ok (.instanceof index, 3)) (hn : pc + 3 = n)
    (k : OEnds p e below s C S Q T (mkF m n L (.int 0 :: st))) : OEnds p e below s C S Q T (mkF m pc L (.null :: st)) := by
  subst hn
  exact k.pre fun t r => Stand.instanceofNull X hx (g := mkF m pc L (.null :: st)) rfl rfl (hb hby hd) t r
theorem s_castY (X : Stand p l e R s m args below meth c T locs cells slots) (hx : p.tables.exec = Jvm.exec) (hby : c.code = bytes) (hZ : Z.Warmed39 s.vm) {own K : String} {index : Nat} (hown : s.vm.findClass own = some m.cls) (w : (Jvm.Cond.classLink own index K).before a0 Z = true) (eT : T.heap = h) {a : Addr} (F : Ins Z h a K true) (hd : decode bytes pc = .ok (.checkcast index, 3)) (hn : pc + 3 = n)
    (k : ∀ T', Stand p l e R s m args below meth c T' locs cells slots → T'.heap = h → OEnds p e below s C S Q T' (mkF m n L (.ref a :: st))) : OEnds p e below s C S Q T (mkF m pc L (.ref a :: st)) := by
  subst hn
  obtain ⟨T', X', e', f'⟩ := castY X hx hZ hown w eT F (g := mkF m pc L (.ref a :: st)) rfl rfl (hb hby hd)
  exact (k T' X' e').pre f'
theorem s_aaload (X : Stand p l e R s m args below meth c T locs cells slots) (hx : p.tables.exec = Jvm.exec) (hby : c.code = bytes) (hZ : Z.Warmed39 s.vm) (eT : T.heap = h) {a : Addr} {cl : Cell} {ty : FieldType} (A : Arr Z h a cl ty) (hty : ty.isReference = true) {j : Int32} (hj : ¬ (j < 0 ∨ cl.slots.size ≤ j.toNatClampNeg)) {v : Value} (hv : cl.slots[j.toNatClampNeg]? = some v) (hd : decode bytes pc = .ok (.aaload, 1)) (hn : pc + 1 = n)
    (k : OEnds p e below s C S Q T (mkF m n L (v :: st))) : OEnds p e below s C S Q T (mkF m pc L (.int j :: .ref a :: st)) := by
  subst hn
  exact k.pre fun t r => X.aaload hx (by rw [eT]; exact A.1) (State.isArrayOf_alike hZ.alike A.2.1) hty A.2.2 hj hv (g := mkF m pc L (.int j :: .ref a :: st)) rfl rfl (hb hby hd) _ r
theorem ns_root {O K : String} {num : Nat} (w : (Jvm.Cond.noSuperclass O).before a0 Z = true) (wi : (Jvm.Cond.instantiable K num).before a0 Z = true) (hn : O ≠ K) : NS Z O K := by
  obtain ⟨c, k, h1, h2, h3, -, -⟩ := Cond.noSuperclass_spec w
  obtain ⟨t, kt, g1, -⟩ := Cond.instantiable_spec wi
  have ne := ids_ne h1 g1 hn
  refine ⟨c, t, h1, g1, fun fuel => ?_⟩
  match fuel with
  | 0 => rfl
  | f + 1 => simp [Vm.isSubclassAux, ne, h2, h3]
theorem ns_no {C0 S0 K : String} {num : Nat} (w : (Jvm.Cond.superclass C0 S0).before a0 Z = true) (wi : (Jvm.Cond.instantiable K num).before a0 Z = true) (nn : NS Z C0 K) (hn : C0 ≠ K) : ∃ c t, Z.vm.findClass C0 = some c ∧ Z.vm.findClass K = some t ∧ Z.vm.assignable c t = false := by
  obtain ⟨c, t, q0, g0, n3⟩ := nn
  obtain ⟨p, k, kp, h1, h2, h3, h4, h5, -, h7⟩ := Cond.superclass_spec q0 w
  obtain ⟨t', kt, g1, g2, g3, g4, -⟩ := Cond.instantiable_spec wi
  cases g0.symm.trans g1
  have ne := ids_ne q0 g0 hn
  have g7 : kt.isInterface = false := by simp only [Bool.or_eq_false_iff] at g4; exact g4.1
  refine ⟨c, t, q0, g0, ?_⟩
  show Z.vm.assignableAux (255 + 1) c t = false
  simp [Vm.assignableAux, ne, h2, g2, h5, g3, g7, Vm.isSubclass, n3]
/-- the wide frame: a walk that may have interned -/
def FrameEndW (s : State) (o : Outcome) (t : State) (L : List Loc) (k n : Nat) : Prop :=
  (∃ v : Option Value, o = Outcome.returned v) ∧ s.Warmed39 t.vm ∧ (∀ (j : Nat) (p : Array UInt16 × Addr), s.vm.interned.size ≤ j → t.vm.interned[j]? = some p → s.heap.size ≤ p.2 ∧ p.2 < t.heap.size) ∧ s.sameButNew { t with vm := s.vm } L k n
def OEndsW (p : Program) (e : Env) (below : List Frame) (s : State) (C S : Nat) (Q : Option Value → Heap → List Loc → Prop) (T : State) (g : JFrame) : Prop :=
  ∃ (t : State) (v : Option Value) (L : List Loc), Steps p.tables e below (T.setTop g) t ∧ t.status = .running ∧ Ended t below (.returned v) ∧ Q v t.heap L ∧ FrameEndW s (.returned v) t L C S
def OConW (l : Launch) (Z : State) (y : MethodName) (bytes : ByteArray) (maxL : Nat) (ret : Option FieldType) (ws : List Jvm.Cond) (rm : Room) (as' : Array Value) (s₀ : State) (Q : Option Value → Heap → List Loc → Prop) : Prop :=
  MetFree l y (head1 (Jvm.Cond.code y bytes maxL ret :: ws) rm) (fun a U => a = as' ∧ U = s₀) (fun _ _ _ _ _ => True) (fun _ U o U' => ∃ v L, o = .returned v ∧ Q v U'.heap L ∧ FrameEndW U o U' L rm.cells rm.slots)
theorem OEnds.wide {g : JFrame} (k : OEnds p e below s C S Q T g) : OEndsW p e below s C S Q T g := by
  obtain ⟨t, v, L, h1, h2, h3, h4, h5⟩ := k
  exact ⟨t, v, L, h1, h2, h3, h4, RoadKit.wide h5⟩
theorem OEndsW.pre {T' : State} {g g' : JFrame} (k : OEndsW p e below s C S Q T' g') (f : ∀ t, Steps p.tables e below (T'.setTop g') t → Steps p.tables e below (T.setTop g) t) : OEndsW p e below s C S Q T g := by
  obtain ⟨t, v, L, h1, h2⟩ := k
  exact ⟨t, v, L, f _ h1, h2⟩
theorem OEnds.reb {vm1 : Vm} {k1 : Nat} (hS : s.Since vm1 k1) {g : JFrame} (k : OEnds p e below (s.setVm vm1) C S (fun v h L => Q v h L ∧ k1 ≤ h.size) T g) : OEndsW p e below s C S Q T g := by
  obtain ⟨t, v, L, h1, h2, h3, ⟨h4, h4'⟩, h5, h6, h7⟩ := k
  obtain ⟨q1, q2, q3⟩ := hS.ended h6 h4' h7
  exact ⟨t, v, L, h1, h2, h3, h4, h5, q1, q2, q3⟩
theorem conW {y : MethodName} {maxL : Nat} {ret : Option FieldType} {ws : List Jvm.Cond} {rm : Room} {as' : Array Value} {s₀ : State} (hp : plainFor y = true)
    (body : ∀ (p : Program) (e : Env) (m : MethodId) (below : List Frame) (meth : Method) (c : Code) (s₁ : State), p.tables.exec = Jvm.exec → c.code = bytes → c.maxLocals = maxL → s₀.vm.findClass y.cls = some m.cls → meth.name = y.name → meth.sig.returnType = ret → meth.locks = false →
      Stand p l e rm s₀ m as' below meth c s₁ [] 0 0 → s₁.heap = s₀.heap → OEndsW p e below s₀ rm.cells rm.slots Q s₁ (entryFrame m as' maxL)) : OConW l Z y bytes maxL ret ws rm as' s₀ Q := by
  refine MetFree.of_bodySF hp hisR ?_
  intro p e s m args below meth c s₁ Bd hml hP hK
  obtain ⟨rfl, rfl⟩ := hP
  obtain ⟨t, v, L, h1, h2, h3, h4, h5⟩ := body p e m below meth c s₁ Bd.exec Bd.bytes hml (findClass_of_methodNamed Bd.named) (name_of_methodNamed Bd.named Bd.method).1 Bd.returns Bd.notSynchronized (Stand.of_body Bd) (by rw [Bd.state]; rfl)
  exact ⟨t, _, h1, h2, h3, v, L, rfl, h4, h5⟩
theorem entryW {mm : MethodId} {as' : Array Value} {maxL : Nat} {g : JFrame} (q : entryFrame mm as' maxL = g) (k : OEndsW p e below s C S Q T g) : OEndsW p e below s C S Q T (entryFrame mm as' maxL) := q ▸ k
end Walk
/-- a boolean as an int -/
def b2i (b : Bool) : Int32 := if b = true then 1 else 0
theorem b2i_t : b2i true = 1 := rfl
theorem b2i_f : b2i false = 0 := rfl
theorem nar_b2i (b : Bool) : nar .boolean (b2i b) = b2i b := by cases b <;> decide
theorem ifb_eq_t {b : Bool} (q : b = false) : ifCond.holds .eq (b2i b) = true := by subst q; decide
theorem ifb_eq_f {b : Bool} (q : b = true) : ifCond.holds .eq (b2i b) = false := by subst q; decide
theorem ifb_ne_t {b : Bool} (q : b = true) : ifCond.holds .ne (b2i b) = true := by subst q; decide
theorem ifb_ne_f {b : Bool} (q : b = false) : ifCond.holds .ne (b2i b) = false := by subst q; decide
theorem icb_eq_t {a b : Bool} (q : a = b) : if_icmp.holds .eq (b2i a) (b2i b) = true := by subst q; cases a <;> decide
theorem icb_eq_f {a b : Bool} (q : ¬ a = b) : if_icmp.holds .eq (b2i a) (b2i b) = false := by cases a <;> cases b <;> first | exact absurd rfl q | decide
theorem icb_ne_t {a b : Bool} (q : ¬ a = b) : if_icmp.holds .ne (b2i a) (b2i b) = true := by cases a <;> cases b <;> first | exact absurd rfl q | decide
theorem icb_ne_f {a b : Bool} (q : a = b) : if_icmp.holds .ne (b2i a) (b2i b) = false := by subst q; cases a <;> decide
end Jvm.Own
namespace Jvm.Pilot.@@N@@
open Jvm Jvm.ClassFile Sem Op Lib Jvm.Free Jvm.Stand Jvm.LawKit Jvm.RoadKit Bundle Jvm.Own Jvm.Pilot.@@N@@.Jvm.D
theorem d1_0 : decode method_2_code 0 = .ok (.iload_n 1, 1) := by decide +kernel
theorem d1_1 : decode method_2_code 1 = .ok (.iconst 1, 1) := by decide +kernel
theorem d1_2 : decode method_2_code 2 = .ok (.if_icmp .ne 12, 3) := by decide +kernel
theorem d1_5 : decode method_2_code 5 = .ok (.iconst 1, 1) := by decide +kernel
theorem d1_6 : decode method_2_code 6 = .ok (.newarray .byte, 2) := by decide +kernel
theorem d1_8 : decode method_2_code 8 = .ok (.dup, 1) := by decide +kernel
theorem d1_9 : decode method_2_code 9 = .ok (.iconst 0, 1) := by decide +kernel
theorem d1_10 : decode method_2_code 10 = .ok (.iload_n 0, 1) := by decide +kernel
theorem d1_11 : decode method_2_code 11 = .ok (.i2b, 1) := by decide +kernel
theorem d1_12 : decode method_2_code 12 = .ok (.bastore, 1) := by decide +kernel
theorem d1_13 : decode method_2_code 13 = .ok (.areturn, 1) := by decide +kernel
theorem d1_14 : decode method_2_code 14 = .ok (.iload_n 1, 1) := by decide +kernel
theorem d1_15 : decode method_2_code 15 = .ok (.iconst 2, 1) := by decide +kernel
theorem d1_16 : decode method_2_code 16 = .ok (.if_icmp .ne 20, 3) := by decide +kernel
theorem d1_19 : decode method_2_code 19 = .ok (.iconst 2, 1) := by decide +kernel
theorem d1_20 : decode method_2_code 20 = .ok (.newarray .byte, 2) := by decide +kernel
theorem d1_22 : decode method_2_code 22 = .ok (.dup, 1) := by decide +kernel
theorem d1_23 : decode method_2_code 23 = .ok (.iconst 0, 1) := by decide +kernel
theorem d1_24 : decode method_2_code 24 = .ok (.iload_n 0, 1) := by decide +kernel
theorem d1_25 : decode method_2_code 25 = .ok (.i2b, 1) := by decide +kernel
theorem d1_26 : decode method_2_code 26 = .ok (.bastore, 1) := by decide +kernel
theorem d1_27 : decode method_2_code 27 = .ok (.dup, 1) := by decide +kernel
theorem d1_28 : decode method_2_code 28 = .ok (.iconst 1, 1) := by decide +kernel
theorem d1_29 : decode method_2_code 29 = .ok (.iload_n 0, 1) := by decide +kernel
theorem d1_30 : decode method_2_code 30 = .ok (.bipush 8, 2) := by decide +kernel
theorem d1_32 : decode method_2_code 32 = .ok (.iushr, 1) := by decide +kernel
theorem d1_33 : decode method_2_code 33 = .ok (.i2b, 1) := by decide +kernel
theorem d1_34 : decode method_2_code 34 = .ok (.bastore, 1) := by decide +kernel
theorem d1_35 : decode method_2_code 35 = .ok (.areturn, 1) := by decide +kernel
theorem d1_36 : decode method_2_code 36 = .ok (.iload_n 1, 1) := by decide +kernel
theorem d1_37 : decode method_2_code 37 = .ok (.iconst 3, 1) := by decide +kernel
theorem d1_38 : decode method_2_code 38 = .ok (.if_icmp .ne 28, 3) := by decide +kernel
theorem d1_41 : decode method_2_code 41 = .ok (.iconst 3, 1) := by decide +kernel
theorem d1_42 : decode method_2_code 42 = .ok (.newarray .byte, 2) := by decide +kernel
theorem d1_44 : decode method_2_code 44 = .ok (.dup, 1) := by decide +kernel
theorem d1_45 : decode method_2_code 45 = .ok (.iconst 0, 1) := by decide +kernel
theorem d1_46 : decode method_2_code 46 = .ok (.iload_n 0, 1) := by decide +kernel
theorem d1_47 : decode method_2_code 47 = .ok (.i2b, 1) := by decide +kernel
theorem d1_48 : decode method_2_code 48 = .ok (.bastore, 1) := by decide +kernel
theorem d1_49 : decode method_2_code 49 = .ok (.dup, 1) := by decide +kernel
theorem d1_50 : decode method_2_code 50 = .ok (.iconst 1, 1) := by decide +kernel
theorem d1_51 : decode method_2_code 51 = .ok (.iload_n 0, 1) := by decide +kernel
theorem d1_52 : decode method_2_code 52 = .ok (.bipush 8, 2) := by decide +kernel
theorem d1_54 : decode method_2_code 54 = .ok (.iushr, 1) := by decide +kernel
theorem d1_55 : decode method_2_code 55 = .ok (.i2b, 1) := by decide +kernel
theorem d1_56 : decode method_2_code 56 = .ok (.bastore, 1) := by decide +kernel
theorem d1_57 : decode method_2_code 57 = .ok (.dup, 1) := by decide +kernel
theorem d1_58 : decode method_2_code 58 = .ok (.iconst 2, 1) := by decide +kernel
theorem d1_59 : decode method_2_code 59 = .ok (.iload_n 0, 1) := by decide +kernel
theorem d1_60 : decode method_2_code 60 = .ok (.bipush 16, 2) := by decide +kernel
theorem d1_62 : decode method_2_code 62 = .ok (.iushr, 1) := by decide +kernel
theorem d1_63 : decode method_2_code 63 = .ok (.i2b, 1) := by decide +kernel
theorem d1_64 : decode method_2_code 64 = .ok (.bastore, 1) := by decide +kernel
theorem d1_65 : decode method_2_code 65 = .ok (.areturn, 1) := by decide +kernel
theorem d1_66 : decode method_2_code 66 = .ok (.iconst 4, 1) := by decide +kernel
theorem d1_67 : decode method_2_code 67 = .ok (.newarray .byte, 2) := by decide +kernel
theorem d1_69 : decode method_2_code 69 = .ok (.dup, 1) := by decide +kernel
theorem d1_70 : decode method_2_code 70 = .ok (.iconst 0, 1) := by decide +kernel
theorem d1_71 : decode method_2_code 71 = .ok (.iload_n 0, 1) := by decide +kernel
theorem d1_72 : decode method_2_code 72 = .ok (.i2b, 1) := by decide +kernel
theorem d1_73 : decode method_2_code 73 = .ok (.bastore, 1) := by decide +kernel
theorem d1_74 : decode method_2_code 74 = .ok (.dup, 1) := by decide +kernel
theorem d1_75 : decode method_2_code 75 = .ok (.iconst 1, 1) := by decide +kernel
theorem d1_76 : decode method_2_code 76 = .ok (.iload_n 0, 1) := by decide +kernel
theorem d1_77 : decode method_2_code 77 = .ok (.bipush 8, 2) := by decide +kernel
theorem d1_79 : decode method_2_code 79 = .ok (.iushr, 1) := by decide +kernel
theorem d1_80 : decode method_2_code 80 = .ok (.i2b, 1) := by decide +kernel
theorem d1_81 : decode method_2_code 81 = .ok (.bastore, 1) := by decide +kernel
theorem d1_82 : decode method_2_code 82 = .ok (.dup, 1) := by decide +kernel
theorem d1_83 : decode method_2_code 83 = .ok (.iconst 2, 1) := by decide +kernel
theorem d1_84 : decode method_2_code 84 = .ok (.iload_n 0, 1) := by decide +kernel
theorem d1_85 : decode method_2_code 85 = .ok (.bipush 16, 2) := by decide +kernel
theorem d1_87 : decode method_2_code 87 = .ok (.iushr, 1) := by decide +kernel
theorem d1_88 : decode method_2_code 88 = .ok (.i2b, 1) := by decide +kernel
theorem d1_89 : decode method_2_code 89 = .ok (.bastore, 1) := by decide +kernel
theorem d1_90 : decode method_2_code 90 = .ok (.dup, 1) := by decide +kernel
theorem d1_91 : decode method_2_code 91 = .ok (.iconst 3, 1) := by decide +kernel
theorem d1_92 : decode method_2_code 92 = .ok (.iload_n 0, 1) := by decide +kernel
theorem d1_93 : decode method_2_code 93 = .ok (.bipush 24, 2) := by decide +kernel
theorem d1_95 : decode method_2_code 95 = .ok (.iushr, 1) := by decide +kernel
theorem d1_96 : decode method_2_code 96 = .ok (.i2b, 1) := by decide +kernel
theorem d1_97 : decode method_2_code 97 = .ok (.bastore, 1) := by decide +kernel
theorem d1_98 : decode method_2_code 98 = .ok (.areturn, 1) := by decide +kernel
theorem d2_0 : decode prog_42_method_3_code 0 = .ok (.aload_n 0, 1) := by decide +kernel
theorem d2_1 : decode prog_42_method_3_code 1 = .ok (.arraylength, 1) := by decide +kernel
theorem d2_2 : decode prog_42_method_3_code 2 = .ok (.istore_n 1, 1) := by decide +kernel
theorem d2_3 : decode prog_42_method_3_code 3 = .ok (.iload_n 1, 1) := by decide +kernel
theorem d2_4 : decode prog_42_method_3_code 4 = .ok (.iload_n 1, 1) := by decide +kernel
theorem d2_5 : decode prog_42_method_3_code 5 = .ok (.iconst 4, 1) := by decide +kernel
theorem d2_6 : decode prog_42_method_3_code 6 = .ok (.irem, 1) := by decide +kernel
theorem d2_7 : decode prog_42_method_3_code 7 = .ok (.isub, 1) := by decide +kernel
theorem d2_8 : decode prog_42_method_3_code 8 = .ok (.istore_n 2, 1) := by decide +kernel
theorem d2_9 : decode prog_42_method_3_code 9 = .ok (.ldc 43, 2) := by decide +kernel
theorem d2_11 : decode prog_42_method_3_code 11 = .ok (.iload_n 1, 1) := by decide +kernel
theorem d2_12 : decode prog_42_method_3_code 12 = .ok (.ixor, 1) := by decide +kernel
theorem d2_13 : decode prog_42_method_3_code 13 = .ok (.istore_n 3, 1) := by decide +kernel
theorem d2_14 : decode prog_42_method_3_code 14 = .ok (.iconst 0, 1) := by decide +kernel
theorem d2_15 : decode prog_42_method_3_code 15 = .ok (.istore 4, 2) := by decide +kernel
theorem d2_17 : decode prog_42_method_3_code 17 = .ok (.iload 4, 2) := by decide +kernel
theorem d2_19 : decode prog_42_method_3_code 19 = .ok (.iload_n 2, 1) := by decide +kernel
theorem d2_20 : decode prog_42_method_3_code 20 = .ok (.if_icmp .ge 51, 3) := by decide +kernel
theorem d2_23 : decode prog_42_method_3_code 23 = .ok (.aload_n 0, 1) := by decide +kernel
theorem d2_24 : decode prog_42_method_3_code 24 = .ok (.iload 4, 2) := by decide +kernel
theorem d2_26 : decode prog_42_method_3_code 26 = .ok (.invokestatic 44, 3) := by decide +kernel
theorem d2_29 : decode prog_42_method_3_code 29 = .ok (.istore 5, 2) := by decide +kernel
theorem d2_31 : decode prog_42_method_3_code 31 = .ok (.iload 5, 2) := by decide +kernel
theorem d2_33 : decode prog_42_method_3_code 33 = .ok (.ldc 48, 2) := by decide +kernel
theorem d2_35 : decode prog_42_method_3_code 35 = .ok (.imul, 1) := by decide +kernel
theorem d2_36 : decode prog_42_method_3_code 36 = .ok (.istore 5, 2) := by decide +kernel
theorem d2_38 : decode prog_42_method_3_code 38 = .ok (.iload 5, 2) := by decide +kernel
theorem d2_40 : decode prog_42_method_3_code 40 = .ok (.iload 5, 2) := by decide +kernel
theorem d2_42 : decode prog_42_method_3_code 42 = .ok (.bipush 24, 2) := by decide +kernel
theorem d2_44 : decode prog_42_method_3_code 44 = .ok (.iushr, 1) := by decide +kernel
theorem d2_45 : decode prog_42_method_3_code 45 = .ok (.ixor, 1) := by decide +kernel
theorem d2_46 : decode prog_42_method_3_code 46 = .ok (.istore 5, 2) := by decide +kernel
theorem d2_48 : decode prog_42_method_3_code 48 = .ok (.iload 5, 2) := by decide +kernel
theorem d2_50 : decode prog_42_method_3_code 50 = .ok (.ldc 48, 2) := by decide +kernel
theorem d2_52 : decode prog_42_method_3_code 52 = .ok (.imul, 1) := by decide +kernel
theorem d2_53 : decode prog_42_method_3_code 53 = .ok (.istore 5, 2) := by decide +kernel
theorem d2_55 : decode prog_42_method_3_code 55 = .ok (.iload_n 3, 1) := by decide +kernel
theorem d2_56 : decode prog_42_method_3_code 56 = .ok (.ldc 48, 2) := by decide +kernel
theorem d2_58 : decode prog_42_method_3_code 58 = .ok (.imul, 1) := by decide +kernel
theorem d2_59 : decode prog_42_method_3_code 59 = .ok (.istore_n 3, 1) := by decide +kernel
theorem d2_60 : decode prog_42_method_3_code 60 = .ok (.iload_n 3, 1) := by decide +kernel
theorem d2_61 : decode prog_42_method_3_code 61 = .ok (.iload 5, 2) := by decide +kernel
theorem d2_63 : decode prog_42_method_3_code 63 = .ok (.ixor, 1) := by decide +kernel
theorem d2_64 : decode prog_42_method_3_code 64 = .ok (.istore_n 3, 1) := by decide +kernel
theorem d2_65 : decode prog_42_method_3_code 65 = .ok (.iinc 4 4, 3) := by decide +kernel
theorem d2_68 : decode prog_42_method_3_code 68 = .ok (.goto (-51), 3) := by decide +kernel
theorem d2_71 : decode prog_42_method_3_code 71 = .ok (.iload_n 2, 1) := by decide +kernel
theorem d2_72 : decode prog_42_method_3_code 72 = .ok (.iload_n 1, 1) := by decide +kernel
theorem d2_73 : decode prog_42_method_3_code 73 = .ok (.if_icmp .ge 42, 3) := by decide +kernel
theorem d2_76 : decode prog_42_method_3_code 76 = .ok (.iload_n 2, 1) := by decide +kernel
theorem d2_77 : decode prog_42_method_3_code 77 = .ok (.istore 4, 2) := by decide +kernel
theorem d2_79 : decode prog_42_method_3_code 79 = .ok (.iload 4, 2) := by decide +kernel
theorem d2_81 : decode prog_42_method_3_code 81 = .ok (.iload_n 1, 1) := by decide +kernel
theorem d2_82 : decode prog_42_method_3_code 82 = .ok (.if_icmp .ge 28, 3) := by decide +kernel
theorem d2_85 : decode prog_42_method_3_code 85 = .ok (.iload_n 3, 1) := by decide +kernel
theorem d2_86 : decode prog_42_method_3_code 86 = .ok (.aload_n 0, 1) := by decide +kernel
theorem d2_87 : decode prog_42_method_3_code 87 = .ok (.iload 4, 2) := by decide +kernel
theorem d2_89 : decode prog_42_method_3_code 89 = .ok (.baload, 1) := by decide +kernel
theorem d2_90 : decode prog_42_method_3_code 90 = .ok (.sipush 255, 3) := by decide +kernel
theorem d2_93 : decode prog_42_method_3_code 93 = .ok (.iand, 1) := by decide +kernel
theorem d2_94 : decode prog_42_method_3_code 94 = .ok (.bipush 8, 2) := by decide +kernel
theorem d2_96 : decode prog_42_method_3_code 96 = .ok (.iload 4, 2) := by decide +kernel
theorem d2_98 : decode prog_42_method_3_code 98 = .ok (.iload_n 2, 1) := by decide +kernel
theorem d2_99 : decode prog_42_method_3_code 99 = .ok (.isub, 1) := by decide +kernel
theorem d2_100 : decode prog_42_method_3_code 100 = .ok (.imul, 1) := by decide +kernel
theorem d2_101 : decode prog_42_method_3_code 101 = .ok (.ishl, 1) := by decide +kernel
theorem d2_102 : decode prog_42_method_3_code 102 = .ok (.ixor, 1) := by decide +kernel
theorem d2_103 : decode prog_42_method_3_code 103 = .ok (.istore_n 3, 1) := by decide +kernel
theorem d2_104 : decode prog_42_method_3_code 104 = .ok (.iinc 4 1, 3) := by decide +kernel
theorem d2_107 : decode prog_42_method_3_code 107 = .ok (.goto (-28), 3) := by decide +kernel
theorem d2_110 : decode prog_42_method_3_code 110 = .ok (.iload_n 3, 1) := by decide +kernel
theorem d2_111 : decode prog_42_method_3_code 111 = .ok (.ldc 48, 2) := by decide +kernel
theorem d2_113 : decode prog_42_method_3_code 113 = .ok (.imul, 1) := by decide +kernel
theorem d2_114 : decode prog_42_method_3_code 114 = .ok (.istore_n 3, 1) := by decide +kernel
theorem d2_115 : decode prog_42_method_3_code 115 = .ok (.iload_n 3, 1) := by decide +kernel
theorem d2_116 : decode prog_42_method_3_code 116 = .ok (.iload_n 3, 1) := by decide +kernel
theorem d2_117 : decode prog_42_method_3_code 117 = .ok (.bipush 13, 2) := by decide +kernel
theorem d2_119 : decode prog_42_method_3_code 119 = .ok (.iushr, 1) := by decide +kernel
theorem d2_120 : decode prog_42_method_3_code 120 = .ok (.ixor, 1) := by decide +kernel
theorem d2_121 : decode prog_42_method_3_code 121 = .ok (.istore_n 3, 1) := by decide +kernel
theorem d2_122 : decode prog_42_method_3_code 122 = .ok (.iload_n 3, 1) := by decide +kernel
theorem d2_123 : decode prog_42_method_3_code 123 = .ok (.ldc 48, 2) := by decide +kernel
theorem d2_125 : decode prog_42_method_3_code 125 = .ok (.imul, 1) := by decide +kernel
theorem d2_126 : decode prog_42_method_3_code 126 = .ok (.istore_n 3, 1) := by decide +kernel
theorem d2_127 : decode prog_42_method_3_code 127 = .ok (.iload_n 3, 1) := by decide +kernel
theorem d2_128 : decode prog_42_method_3_code 128 = .ok (.iload_n 3, 1) := by decide +kernel
theorem d2_129 : decode prog_42_method_3_code 129 = .ok (.bipush 15, 2) := by decide +kernel
theorem d2_131 : decode prog_42_method_3_code 131 = .ok (.iushr, 1) := by decide +kernel
theorem d2_132 : decode prog_42_method_3_code 132 = .ok (.ixor, 1) := by decide +kernel
theorem d2_133 : decode prog_42_method_3_code 133 = .ok (.istore_n 3, 1) := by decide +kernel
theorem d2_134 : decode prog_42_method_3_code 134 = .ok (.iload_n 3, 1) := by decide +kernel
theorem d2_135 : decode prog_42_method_3_code 135 = .ok (.ireturn, 1) := by decide +kernel
theorem d3_0 : decode prog_42_method_4_code 0 = .ok (.aload_n 0, 1) := by decide +kernel
theorem d3_1 : decode prog_42_method_4_code 1 = .ok (.iload_n 1, 1) := by decide +kernel
theorem d3_2 : decode prog_42_method_4_code 2 = .ok (.baload, 1) := by decide +kernel
theorem d3_3 : decode prog_42_method_4_code 3 = .ok (.sipush 255, 3) := by decide +kernel
theorem d3_6 : decode prog_42_method_4_code 6 = .ok (.iand, 1) := by decide +kernel
theorem d3_7 : decode prog_42_method_4_code 7 = .ok (.aload_n 0, 1) := by decide +kernel
theorem d3_8 : decode prog_42_method_4_code 8 = .ok (.iload_n 1, 1) := by decide +kernel
theorem d3_9 : decode prog_42_method_4_code 9 = .ok (.iconst 1, 1) := by decide +kernel
theorem d3_10 : decode prog_42_method_4_code 10 = .ok (.iadd, 1) := by decide +kernel
theorem d3_11 : decode prog_42_method_4_code 11 = .ok (.baload, 1) := by decide +kernel
theorem d3_12 : decode prog_42_method_4_code 12 = .ok (.sipush 255, 3) := by decide +kernel
theorem d3_15 : decode prog_42_method_4_code 15 = .ok (.iand, 1) := by decide +kernel
theorem d3_16 : decode prog_42_method_4_code 16 = .ok (.bipush 8, 2) := by decide +kernel
theorem d3_18 : decode prog_42_method_4_code 18 = .ok (.ishl, 1) := by decide +kernel
theorem d3_19 : decode prog_42_method_4_code 19 = .ok (.ior, 1) := by decide +kernel
theorem d3_20 : decode prog_42_method_4_code 20 = .ok (.aload_n 0, 1) := by decide +kernel
theorem d3_21 : decode prog_42_method_4_code 21 = .ok (.iload_n 1, 1) := by decide +kernel
theorem d3_22 : decode prog_42_method_4_code 22 = .ok (.iconst 2, 1) := by decide +kernel
theorem d3_23 : decode prog_42_method_4_code 23 = .ok (.iadd, 1) := by decide +kernel
theorem d3_24 : decode prog_42_method_4_code 24 = .ok (.baload, 1) := by decide +kernel
theorem d3_25 : decode prog_42_method_4_code 25 = .ok (.sipush 255, 3) := by decide +kernel
theorem d3_28 : decode prog_42_method_4_code 28 = .ok (.iand, 1) := by decide +kernel
theorem d3_29 : decode prog_42_method_4_code 29 = .ok (.bipush 16, 2) := by decide +kernel
theorem d3_31 : decode prog_42_method_4_code 31 = .ok (.ishl, 1) := by decide +kernel
theorem d3_32 : decode prog_42_method_4_code 32 = .ok (.ior, 1) := by decide +kernel
theorem d3_33 : decode prog_42_method_4_code 33 = .ok (.aload_n 0, 1) := by decide +kernel
theorem d3_34 : decode prog_42_method_4_code 34 = .ok (.iload_n 1, 1) := by decide +kernel
theorem d3_35 : decode prog_42_method_4_code 35 = .ok (.iconst 3, 1) := by decide +kernel
theorem d3_36 : decode prog_42_method_4_code 36 = .ok (.iadd, 1) := by decide +kernel
theorem d3_37 : decode prog_42_method_4_code 37 = .ok (.baload, 1) := by decide +kernel
theorem d3_38 : decode prog_42_method_4_code 38 = .ok (.sipush 255, 3) := by decide +kernel
theorem d3_41 : decode prog_42_method_4_code 41 = .ok (.iand, 1) := by decide +kernel
theorem d3_42 : decode prog_42_method_4_code 42 = .ok (.bipush 24, 2) := by decide +kernel
theorem d3_44 : decode prog_42_method_4_code 44 = .ok (.ishl, 1) := by decide +kernel
theorem d3_45 : decode prog_42_method_4_code 45 = .ok (.ior, 1) := by decide +kernel
theorem d3_46 : decode prog_42_method_4_code 46 = .ok (.ireturn, 1) := by decide +kernel
theorem pd_0 : parseMethodDescriptor "([BI)I" = some ⟨[(.array (.byte)), .int], some (.int)⟩ := by decide +kernel
theorem pd_1 : parseMethodDescriptor "([B)I" = some ⟨[(.array (.byte))], some (.int)⟩ := by decide +kernel
theorem pd_2 : parseMethodDescriptor "(II)[B" = some ⟨[.int, .int], some ((.array (.byte)))⟩ := by decide +kernel
theorem pn0 : plainName "com/example/ucoord/ucoord/partition/KeyPartitionerMurmur2PinLaw" = true := by first | (simp [plainName, overriddenIn]; done) | decide +kernel
theorem pn1 : plainName "com/example/ucoord/ucoord/partition/KeyPartitioner" = true := by first | (simp [plainName, overriddenIn]; done) | decide +kernel
theorem efB (m : MethodId) (x0 : Int32) (x1 : Int32) : entryFrame m #[(.int x0), (.int x1)] 2 = mkF m 0 #[.val (.int x0), .val (.int x1)] [] := by first | (simp [entryFrame, mkF, argsToLocals, Value.category, maxLocals]; done) | rfl
theorem efH (m : MethodId) (x0 : Addr) : entryFrame m #[(.ref x0)] 6 = mkF m 0 #[.val (.ref x0), .unset, .unset, .unset, .unset, .unset] [] := by first | (simp [entryFrame, mkF, argsToLocals, Value.category, maxLocals]; done) | rfl
theorem efE (m : MethodId) (x0 : Addr) (x1 : Int32) : entryFrame m #[(.ref x0), (.int x1)] 2 = mkF m 0 #[.val (.ref x0), .val (.int x1)] [] := by first | (simp [entryFrame, mkF, argsToLocals, Value.category, maxLocals]; done) | rfl
theorem ef0 (m : MethodId) (x0 : Int32) (x1 : Int32) (x2 : Int32) (x3 : Int32) : entryFrame m #[(.int x0), (.int x1), (.int x2), (.int x3)] maxLocals = mkF m 0 #[.val (.int x0), .val (.int x1), .val (.int x2), .val (.int x3), .unset, .unset, .unset, .unset, .unset, .unset, .unset, .unset, .unset, .unset, .unset, .unset, .unset, .unset] [] := by first | (simp [entryFrame, mkF, argsToLocals, Value.category, maxLocals]; done) | rfl
def own_le (b0 b1 b2 b3 : Int32) : Int32 := ((((b0 &&& (255 : Int32)) ||| ((b1 &&& (255 : Int32)) <<< ((8 : Int32) &&& 31))) ||| ((b2 &&& (255 : Int32)) <<< ((16 : Int32) &&& 31))) ||| ((b3 &&& (255 : Int32)) <<< ((24 : Int32) &&& 31)))
def own_x13 (h : Int32) : Int32 := h ^^^ (XT.ushr h (13 : Int32))
def own_x15 (h : Int32) : Int32 := h ^^^ (XT.ushr h (15 : Int32))
def own_x24 (h : Int32) : Int32 := h ^^^ (XT.ushr h (24 : Int32))
def own_k (w : Int32) : Int32 := (own_x24 (w * (1540483477 : Int32))) * (1540483477 : Int32)
def own_stp (h w : Int32) : Int32 := (h * (1540483477 : Int32)) ^^^ (own_k w)
def own_fin (h : Int32) : Int32 := own_x15 ((own_x13 h) * (1540483477 : Int32))
set_option maxRecDepth 65536 in
set_option maxHeartbeats 40000000 in
theorem rmE (l : Launch) (Z : State) (a0 : Array Value) (hw : ∀ d ∈ tables_1, d.before a0 Z = true) (a : Addr) (cl : Cell) (p1 b0 b1 b2 b3 : Int32) (i0 i1 i2 i3 : Nat) (h0 : Heap) (n0 : Nat) (Ar : Arr Z h0 a cl .byte) (hj0 : ¬ p1 < 0) (hi0 : (p1).toNatClampNeg = i0) (hs0 : i0 < cl.slots.size) (B0 : cl.slots[i0]? = some (.int b0)) (hj1 : ¬ (p1 + (1 : Int32)) < 0) (hi1 : ((p1 + (1 : Int32))).toNatClampNeg = i1) (hs1 : i1 < cl.slots.size) (B1 : cl.slots[i1]? = some (.int b1)) (hj2 : ¬ (p1 + (2 : Int32)) < 0) (hi2 : ((p1 + (2 : Int32))).toNatClampNeg = i2) (hs2 : i2 < cl.slots.size) (B2 : cl.slots[i2]? = some (.int b2)) (hj3 : ¬ (p1 + (3 : Int32)) < 0) (hi3 : ((p1 + (3 : Int32))).toNatClampNeg = i3) (hs3 : i3 < cl.slots.size) (B3 : cl.slots[i3]? = some (.int b3)) :
    OCon l Z (⟨"com/example/ucoord/ucoord/partition/KeyPartitioner", "littleEndianInt", "([BI)I"⟩ : MethodName) prog_42_method_4_code 2 (some (.int)) [] ({ frames := 0, cells := 0, slots := 0, locals := 0 } : Room) #[(.ref a), (.int p1)] h0 (fun v h L => v = some (.int (own_le b0 b1 b2 b3)) ∧ h = h0 ∧ Fr n0 L) := by
  refine con (plainFor_of_name pn1) ?_
  intro p e s m below meth c s₁ hx hby hml hZ hown hnm hret hlk X0 e0
  refine entry (efE m a p1) ?_
  have M0 := Fr.nil n0
  refine s_aloadN X0 hx hby (n := 1) (x := (.ref a)) d3_0 rfl rfl rfl ?_
  refine s_iloadN X0 hx hby (n := 2) (x := p1) d3_1 rfl rfl ?_
  refine s_baloadC X0 hx hby hZ (n := 3) e0 Ar i0 hj0 hi0 hs0 B0 d3_2 rfl ?_
  refine s_sipush X0 hx hby (n := 6) (v := (255 : Int32)) d3_3 rfl rfl ?_
  refine s_iand X0 hx hby (n := 7) d3_6 rfl ?_
  refine s_aloadN X0 hx hby (n := 8) (x := (.ref a)) d3_7 rfl rfl rfl ?_
  refine s_iloadN X0 hx hby (n := 9) (x := p1) d3_8 rfl rfl ?_
  refine s_iconst X0 hx hby (n := 10) (v := (1 : Int32)) d3_9 rfl rfl ?_
  refine s_iadd X0 hx hby (n := 11) d3_10 rfl ?_
  refine s_baloadC X0 hx hby hZ (n := 12) e0 Ar i1 hj1 hi1 hs1 B1 d3_11 rfl ?_
  refine s_sipush X0 hx hby (n := 15) (v := (255 : Int32)) d3_12 rfl rfl ?_
  refine s_iand X0 hx hby (n := 16) d3_15 rfl ?_
  refine s_bipush X0 hx hby (n := 18) (v := (8 : Int32)) d3_16 rfl rfl ?_
  refine s_ishl X0 hx hby (n := 19) d3_18 rfl ?_
  refine s_ior X0 hx hby (n := 20) d3_19 rfl ?_
  refine s_aloadN X0 hx hby (n := 21) (x := (.ref a)) d3_20 rfl rfl rfl ?_
  refine s_iloadN X0 hx hby (n := 22) (x := p1) d3_21 rfl rfl ?_
  refine s_iconst X0 hx hby (n := 23) (v := (2 : Int32)) d3_22 rfl rfl ?_
  refine s_iadd X0 hx hby (n := 24) d3_23 rfl ?_
  refine s_baloadC X0 hx hby hZ (n := 25) e0 Ar i2 hj2 hi2 hs2 B2 d3_24 rfl ?_
  refine s_sipush X0 hx hby (n := 28) (v := (255 : Int32)) d3_25 rfl rfl ?_
  refine s_iand X0 hx hby (n := 29) d3_28 rfl ?_
  refine s_bipush X0 hx hby (n := 31) (v := (16 : Int32)) d3_29 rfl rfl ?_
  refine s_ishl X0 hx hby (n := 32) d3_31 rfl ?_
  refine s_ior X0 hx hby (n := 33) d3_32 rfl ?_
  refine s_aloadN X0 hx hby (n := 34) (x := (.ref a)) d3_33 rfl rfl rfl ?_
  refine s_iloadN X0 hx hby (n := 35) (x := p1) d3_34 rfl rfl ?_
  refine s_iconst X0 hx hby (n := 36) (v := (3 : Int32)) d3_35 rfl rfl ?_
  refine s_iadd X0 hx hby (n := 37) d3_36 rfl ?_
  refine s_baloadC X0 hx hby hZ (n := 38) e0 Ar i3 hj3 hi3 hs3 B3 d3_37 rfl ?_
  refine s_sipush X0 hx hby (n := 41) (v := (255 : Int32)) d3_38 rfl rfl ?_
  refine s_iand X0 hx hby (n := 42) d3_41 rfl ?_
  refine s_bipush X0 hx hby (n := 44) (v := (24 : Int32)) d3_42 rfl rfl ?_
  refine s_ishl X0 hx hby (n := 45) d3_44 rfl ?_
  refine s_ior X0 hx hby (n := 46) d3_45 rfl ?_
  exact s_retI X0 hx hby hlk hret d3_46 (by decide) (by decide) ⟨rfl, e0, M0⟩
set_option maxRecDepth 65536 in
set_option maxHeartbeats 40000000 in
theorem rmH1 (l : Launch) (Z : State) (a0 : Array Value) (hw : ∀ d ∈ tables_1, d.before a0 Z = true) (a : Addr) (cl : Cell) (b0 : Int32) (h0 : Heap) (n0 : Nat) (Ar : Arr Z h0 a cl .byte) (Sz : cl.slots.size = (1 : Int32).toNatClampNeg) (B0 : cl.slots[0]? = some (.int b0)) :
    OCon l Z (⟨"com/example/ucoord/ucoord/partition/KeyPartitioner", "murmur2", "([B)I"⟩ : MethodName) prog_42_method_3_code 6 (some (.int)) [] ({ frames := 1, cells := 0, slots := 0, locals := 13 } : Room) #[(.ref a)] h0 (fun v h L => v = some (.int (own_x15 ((own_x13 (((-1756908915 : Int32) ^^^ ((b0 &&& (255 : Int32)) <<< ((0 : Int32) &&& 31))) * (1540483477 : Int32))) * (1540483477 : Int32)))) ∧ h = h0 ∧ Fr n0 L) := by
  refine con (plainFor_of_name pn1) ?_
  intro p e s m below meth c s₁ hx hby hml hZ hown hnm hret hlk X0 e0
  refine entry (efH m a) ?_
  have M0 := Fr.nil n0
  refine s_aloadN X0 hx hby (n := 1) (x := (.ref a)) d2_0 rfl rfl rfl ?_
  refine s_arraylength X0 hx hby hZ (n := 2) e0 Ar (z := (1 : Int32)) Sz (by decide) d2_1 rfl ?_
  refine s_istoreN X0 hx hby (n := 3) (L' := #[.val (.ref a), .val (.int (1 : Int32)), .unset, .unset, .unset, .unset]) d2_2 rfl rfl ?_
  refine s_iloadN X0 hx hby (n := 4) (x := (1 : Int32)) d2_3 rfl rfl ?_
  refine s_iloadN X0 hx hby (n := 5) (x := (1 : Int32)) d2_4 rfl rfl ?_
  refine s_iconst X0 hx hby (n := 6) (v := (4 : Int32)) d2_5 rfl rfl ?_
  refine s_irem X0 hx hby (n := 7) d2_6 (by decide) rfl ?_
  refine s_fold (z := (1 : Int32)) (by decide) ?_
  refine s_isub X0 hx hby (n := 8) d2_7 rfl ?_
  refine s_fold (z := (0 : Int32)) (by decide) ?_
  refine s_istoreN X0 hx hby (n := 9) (L' := #[.val (.ref a), .val (.int (1 : Int32)), .val (.int (0 : Int32)), .unset, .unset, .unset]) d2_8 rfl rfl ?_
  refine s_ldcI X0 hx hby hZ (n := 11) hown (hw _ (List.mem_of_getElem? (i := 9) rfl)) d2_9 rfl ?_
  refine s_iloadN X0 hx hby (n := 12) (x := (1 : Int32)) d2_11 rfl rfl ?_
  refine s_ixor X0 hx hby (n := 13) d2_12 rfl ?_
  refine s_fold (z := (-1756908915 : Int32)) (by decide) ?_
  refine s_istoreN X0 hx hby (n := 14) (L' := #[.val (.ref a), .val (.int (1 : Int32)), .val (.int (0 : Int32)), .val (.int (-1756908915 : Int32)), .unset, .unset]) d2_13 rfl rfl ?_
  refine s_iconst X0 hx hby (n := 15) (v := (0 : Int32)) d2_14 rfl rfl ?_
  refine s_istore X0 hx hby (n := 17) (L' := #[.val (.ref a), .val (.int (1 : Int32)), .val (.int (0 : Int32)), .val (.int (-1756908915 : Int32)), .val (.int (0 : Int32)), .unset]) d2_15 rfl rfl ?_
  refine s_iload X0 hx hby (n := 19) (x := (0 : Int32)) d2_17 rfl rfl ?_
  refine s_iloadN X0 hx hby (n := 20) (x := (0 : Int32)) d2_19 rfl rfl ?_
  refine s_icmpY X0 hx hby (n := 71) d2_20 (by decide) (by decide) (by decide) ?_
  refine s_iloadN X0 hx hby (n := 72) (x := (0 : Int32)) d2_71 rfl rfl ?_
  refine s_iloadN X0 hx hby (n := 73) (x := (1 : Int32)) d2_72 rfl rfl ?_
  refine s_icmpN X0 hx hby (n := 76) d2_73 (by decide) rfl ?_
  refine s_iloadN X0 hx hby (n := 77) (x := (0 : Int32)) d2_76 rfl rfl ?_
  refine s_istore X0 hx hby (n := 79) (L' := #[.val (.ref a), .val (.int (1 : Int32)), .val (.int (0 : Int32)), .val (.int (-1756908915 : Int32)), .val (.int (0 : Int32)), .unset]) d2_77 rfl rfl ?_
  refine s_iload X0 hx hby (n := 81) (x := (0 : Int32)) d2_79 rfl rfl ?_
  refine s_iloadN X0 hx hby (n := 82) (x := (1 : Int32)) d2_81 rfl rfl ?_
  refine s_icmpN X0 hx hby (n := 85) d2_82 (by decide) rfl ?_
  refine s_iloadN X0 hx hby (n := 86) (x := (-1756908915 : Int32)) d2_85 rfl rfl ?_
  refine s_aloadN X0 hx hby (n := 87) (x := (.ref a)) d2_86 rfl rfl rfl ?_
  refine s_iload X0 hx hby (n := 89) (x := (0 : Int32)) d2_87 rfl rfl ?_
  refine s_baloadC X0 hx hby hZ (n := 90) e0 Ar 0 (by decide) (by decide) (by rw [Sz]; decide) B0 d2_89 rfl ?_
  refine s_sipush X0 hx hby (n := 93) (v := (255 : Int32)) d2_90 rfl rfl ?_
  refine s_iand X0 hx hby (n := 94) d2_93 rfl ?_
  refine s_bipush X0 hx hby (n := 96) (v := (8 : Int32)) d2_94 rfl rfl ?_
  refine s_iload X0 hx hby (n := 98) (x := (0 : Int32)) d2_96 rfl rfl ?_
  refine s_iloadN X0 hx hby (n := 99) (x := (0 : Int32)) d2_98 rfl rfl ?_
  refine s_isub X0 hx hby (n := 100) d2_99 rfl ?_
  refine s_fold (z := (0 : Int32)) (by decide) ?_
  refine s_imul X0 hx hby (n := 101) d2_100 rfl ?_
  refine s_fold (z := (0 : Int32)) (by decide) ?_
  refine s_ishl X0 hx hby (n := 102) d2_101 rfl ?_
  refine s_ixor X0 hx hby (n := 103) d2_102 rfl ?_
  refine s_istoreN X0 hx hby (n := 104) (L' := #[.val (.ref a), .val (.int (1 : Int32)), .val (.int (0 : Int32)), .val (.int ((-1756908915 : Int32) ^^^ ((b0 &&& (255 : Int32)) <<< ((0 : Int32) &&& 31)))), .val (.int (0 : Int32)), .unset]) d2_103 rfl rfl ?_
  refine s_iincC X0 hx hby (n := 107) (v := (1 : Int32)) (x := (0 : Int32)) (z := (1 : Int32)) (L' := #[.val (.ref a), .val (.int (1 : Int32)), .val (.int (0 : Int32)), .val (.int ((-1756908915 : Int32) ^^^ ((b0 &&& (255 : Int32)) <<< ((0 : Int32) &&& 31)))), .val (.int (1 : Int32)), .unset]) d2_104 rfl rfl (by decide) rfl rfl ?_
  refine s_goto X0 hx hby (n := 79) d2_107 (by decide) (by decide) ?_
  refine s_iload X0 hx hby (n := 81) (x := (1 : Int32)) d2_79 rfl rfl ?_
  refine s_iloadN X0 hx hby (n := 82) (x := (1 : Int32)) d2_81 rfl rfl ?_
  refine s_icmpY X0 hx hby (n := 110) d2_82 (by decide) (by decide) (by decide) ?_
  refine s_iloadN X0 hx hby (n := 111) (x := ((-1756908915 : Int32) ^^^ ((b0 &&& (255 : Int32)) <<< ((0 : Int32) &&& 31)))) d2_110 rfl rfl ?_
  refine s_ldcI X0 hx hby hZ (n := 113) hown (hw _ (List.mem_of_getElem? (i := 10) rfl)) d2_111 rfl ?_
  refine s_imul X0 hx hby (n := 114) d2_113 rfl ?_
  refine s_istoreN X0 hx hby (n := 115) (L' := #[.val (.ref a), .val (.int (1 : Int32)), .val (.int (0 : Int32)), .val (.int (((-1756908915 : Int32) ^^^ ((b0 &&& (255 : Int32)) <<< ((0 : Int32) &&& 31))) * (1540483477 : Int32))), .val (.int (1 : Int32)), .unset]) d2_114 rfl rfl ?_
  refine s_iloadN X0 hx hby (n := 116) (x := (((-1756908915 : Int32) ^^^ ((b0 &&& (255 : Int32)) <<< ((0 : Int32) &&& 31))) * (1540483477 : Int32))) d2_115 rfl rfl ?_
  refine s_iloadN X0 hx hby (n := 117) (x := (((-1756908915 : Int32) ^^^ ((b0 &&& (255 : Int32)) <<< ((0 : Int32) &&& 31))) * (1540483477 : Int32))) d2_116 rfl rfl ?_
  refine s_bipush X0 hx hby (n := 119) (v := (13 : Int32)) d2_117 rfl rfl ?_
  refine s_iushr X0 hx hby (n := 120) d2_119 rfl ?_
  refine s_ixor X0 hx hby (n := 121) d2_120 rfl ?_
  refine s_fold (z := (own_x13 (((-1756908915 : Int32) ^^^ ((b0 &&& (255 : Int32)) <<< ((0 : Int32) &&& 31))) * (1540483477 : Int32)))) rfl ?_
  refine s_istoreN X0 hx hby (n := 122) (L' := #[.val (.ref a), .val (.int (1 : Int32)), .val (.int (0 : Int32)), .val (.int (own_x13 (((-1756908915 : Int32) ^^^ ((b0 &&& (255 : Int32)) <<< ((0 : Int32) &&& 31))) * (1540483477 : Int32)))), .val (.int (1 : Int32)), .unset]) d2_121 rfl rfl ?_
  refine s_iloadN X0 hx hby (n := 123) (x := (own_x13 (((-1756908915 : Int32) ^^^ ((b0 &&& (255 : Int32)) <<< ((0 : Int32) &&& 31))) * (1540483477 : Int32)))) d2_122 rfl rfl ?_
  refine s_ldcI X0 hx hby hZ (n := 125) hown (hw _ (List.mem_of_getElem? (i := 10) rfl)) d2_123 rfl ?_
  refine s_imul X0 hx hby (n := 126) d2_125 rfl ?_
  refine s_istoreN X0 hx hby (n := 127) (L' := #[.val (.ref a), .val (.int (1 : Int32)), .val (.int (0 : Int32)), .val (.int ((own_x13 (((-1756908915 : Int32) ^^^ ((b0 &&& (255 : Int32)) <<< ((0 : Int32) &&& 31))) * (1540483477 : Int32))) * (1540483477 : Int32))), .val (.int (1 : Int32)), .unset]) d2_126 rfl rfl ?_
  refine s_iloadN X0 hx hby (n := 128) (x := ((own_x13 (((-1756908915 : Int32) ^^^ ((b0 &&& (255 : Int32)) <<< ((0 : Int32) &&& 31))) * (1540483477 : Int32))) * (1540483477 : Int32))) d2_127 rfl rfl ?_
  refine s_iloadN X0 hx hby (n := 129) (x := ((own_x13 (((-1756908915 : Int32) ^^^ ((b0 &&& (255 : Int32)) <<< ((0 : Int32) &&& 31))) * (1540483477 : Int32))) * (1540483477 : Int32))) d2_128 rfl rfl ?_
  refine s_bipush X0 hx hby (n := 131) (v := (15 : Int32)) d2_129 rfl rfl ?_
  refine s_iushr X0 hx hby (n := 132) d2_131 rfl ?_
  refine s_ixor X0 hx hby (n := 133) d2_132 rfl ?_
  refine s_fold (z := (own_x15 ((own_x13 (((-1756908915 : Int32) ^^^ ((b0 &&& (255 : Int32)) <<< ((0 : Int32) &&& 31))) * (1540483477 : Int32))) * (1540483477 : Int32)))) rfl ?_
  refine s_istoreN X0 hx hby (n := 134) (L' := #[.val (.ref a), .val (.int (1 : Int32)), .val (.int (0 : Int32)), .val (.int (own_x15 ((own_x13 (((-1756908915 : Int32) ^^^ ((b0 &&& (255 : Int32)) <<< ((0 : Int32) &&& 31))) * (1540483477 : Int32))) * (1540483477 : Int32)))), .val (.int (1 : Int32)), .unset]) d2_133 rfl rfl ?_
  refine s_iloadN X0 hx hby (n := 135) (x := (own_x15 ((own_x13 (((-1756908915 : Int32) ^^^ ((b0 &&& (255 : Int32)) <<< ((0 : Int32) &&& 31))) * (1540483477 : Int32))) * (1540483477 : Int32)))) d2_134 rfl rfl ?_
  exact s_retI X0 hx hby hlk hret d2_135 (by decide) (by decide) ⟨rfl, e0, M0⟩
set_option maxRecDepth 65536 in
set_option maxHeartbeats 40000000 in
theorem rmH2 (l : Launch) (Z : State) (a0 : Array Value) (hw : ∀ d ∈ tables_1, d.before a0 Z = true) (a : Addr) (cl : Cell) (b0 b1 : Int32) (h0 : Heap) (n0 : Nat) (Ar : Arr Z h0 a cl .byte) (Sz : cl.slots.size = (2 : Int32).toNatClampNeg) (B0 : cl.slots[0]? = some (.int b0)) (B1 : cl.slots[1]? = some (.int b1)) :
    OCon l Z (⟨"com/example/ucoord/ucoord/partition/KeyPartitioner", "murmur2", "([B)I"⟩ : MethodName) prog_42_method_3_code 6 (some (.int)) [] ({ frames := 1, cells := 0, slots := 0, locals := 13 } : Room) #[(.ref a)] h0 (fun v h L => v = some (.int (own_x15 ((own_x13 ((((-1756908914 : Int32) ^^^ ((b0 &&& (255 : Int32)) <<< ((0 : Int32) &&& 31))) ^^^ ((b1 &&& (255 : Int32)) <<< ((8 : Int32) &&& 31))) * (1540483477 : Int32))) * (1540483477 : Int32)))) ∧ h = h0 ∧ Fr n0 L) := by
  refine con (plainFor_of_name pn1) ?_
  intro p e s m below meth c s₁ hx hby hml hZ hown hnm hret hlk X0 e0
  refine entry (efH m a) ?_
  have M0 := Fr.nil n0
  refine s_aloadN X0 hx hby (n := 1) (x := (.ref a)) d2_0 rfl rfl rfl ?_
  refine s_arraylength X0 hx hby hZ (n := 2) e0 Ar (z := (2 : Int32)) Sz (by decide) d2_1 rfl ?_
  refine s_istoreN X0 hx hby (n := 3) (L' := #[.val (.ref a), .val (.int (2 : Int32)), .unset, .unset, .unset, .unset]) d2_2 rfl rfl ?_
  refine s_iloadN X0 hx hby (n := 4) (x := (2 : Int32)) d2_3 rfl rfl ?_
  refine s_iloadN X0 hx hby (n := 5) (x := (2 : Int32)) d2_4 rfl rfl ?_
  refine s_iconst X0 hx hby (n := 6) (v := (4 : Int32)) d2_5 rfl rfl ?_
  refine s_irem X0 hx hby (n := 7) d2_6 (by decide) rfl ?_
  refine s_fold (z := (2 : Int32)) (by decide) ?_
  refine s_isub X0 hx hby (n := 8) d2_7 rfl ?_
  refine s_fold (z := (0 : Int32)) (by decide) ?_
  refine s_istoreN X0 hx hby (n := 9) (L' := #[.val (.ref a), .val (.int (2 : Int32)), .val (.int (0 : Int32)), .unset, .unset, .unset]) d2_8 rfl rfl ?_
  refine s_ldcI X0 hx hby hZ (n := 11) hown (hw _ (List.mem_of_getElem? (i := 9) rfl)) d2_9 rfl ?_
  refine s_iloadN X0 hx hby (n := 12) (x := (2 : Int32)) d2_11 rfl rfl ?_
  refine s_ixor X0 hx hby (n := 13) d2_12 rfl ?_
  refine s_fold (z := (-1756908914 : Int32)) (by decide) ?_
  refine s_istoreN X0 hx hby (n := 14) (L' := #[.val (.ref a), .val (.int (2 : Int32)), .val (.int (0 : Int32)), .val (.int (-1756908914 : Int32)), .unset, .unset]) d2_13 rfl rfl ?_
  refine s_iconst X0 hx hby (n := 15) (v := (0 : Int32)) d2_14 rfl rfl ?_
  refine s_istore X0 hx hby (n := 17) (L' := #[.val (.ref a), .val (.int (2 : Int32)), .val (.int (0 : Int32)), .val (.int (-1756908914 : Int32)), .val (.int (0 : Int32)), .unset]) d2_15 rfl rfl ?_
  refine s_iload X0 hx hby (n := 19) (x := (0 : Int32)) d2_17 rfl rfl ?_
  refine s_iloadN X0 hx hby (n := 20) (x := (0 : Int32)) d2_19 rfl rfl ?_
  refine s_icmpY X0 hx hby (n := 71) d2_20 (by decide) (by decide) (by decide) ?_
  refine s_iloadN X0 hx hby (n := 72) (x := (0 : Int32)) d2_71 rfl rfl ?_
  refine s_iloadN X0 hx hby (n := 73) (x := (2 : Int32)) d2_72 rfl rfl ?_
  refine s_icmpN X0 hx hby (n := 76) d2_73 (by decide) rfl ?_
  refine s_iloadN X0 hx hby (n := 77) (x := (0 : Int32)) d2_76 rfl rfl ?_
  refine s_istore X0 hx hby (n := 79) (L' := #[.val (.ref a), .val (.int (2 : Int32)), .val (.int (0 : Int32)), .val (.int (-1756908914 : Int32)), .val (.int (0 : Int32)), .unset]) d2_77 rfl rfl ?_
  refine s_iload X0 hx hby (n := 81) (x := (0 : Int32)) d2_79 rfl rfl ?_
  refine s_iloadN X0 hx hby (n := 82) (x := (2 : Int32)) d2_81 rfl rfl ?_
  refine s_icmpN X0 hx hby (n := 85) d2_82 (by decide) rfl ?_
  refine s_iloadN X0 hx hby (n := 86) (x := (-1756908914 : Int32)) d2_85 rfl rfl ?_
  refine s_aloadN X0 hx hby (n := 87) (x := (.ref a)) d2_86 rfl rfl rfl ?_
  refine s_iload X0 hx hby (n := 89) (x := (0 : Int32)) d2_87 rfl rfl ?_
  refine s_baloadC X0 hx hby hZ (n := 90) e0 Ar 0 (by decide) (by decide) (by rw [Sz]; decide) B0 d2_89 rfl ?_
  refine s_sipush X0 hx hby (n := 93) (v := (255 : Int32)) d2_90 rfl rfl ?_
  refine s_iand X0 hx hby (n := 94) d2_93 rfl ?_
  refine s_bipush X0 hx hby (n := 96) (v := (8 : Int32)) d2_94 rfl rfl ?_
  refine s_iload X0 hx hby (n := 98) (x := (0 : Int32)) d2_96 rfl rfl ?_
  refine s_iloadN X0 hx hby (n := 99) (x := (0 : Int32)) d2_98 rfl rfl ?_
  refine s_isub X0 hx hby (n := 100) d2_99 rfl ?_
  refine s_fold (z := (0 : Int32)) (by decide) ?_
  refine s_imul X0 hx hby (n := 101) d2_100 rfl ?_
  refine s_fold (z := (0 : Int32)) (by decide) ?_
  refine s_ishl X0 hx hby (n := 102) d2_101 rfl ?_
  refine s_ixor X0 hx hby (n := 103) d2_102 rfl ?_
  refine s_istoreN X0 hx hby (n := 104) (L' := #[.val (.ref a), .val (.int (2 : Int32)), .val (.int (0 : Int32)), .val (.int ((-1756908914 : Int32) ^^^ ((b0 &&& (255 : Int32)) <<< ((0 : Int32) &&& 31)))), .val (.int (0 : Int32)), .unset]) d2_103 rfl rfl ?_
  refine s_iincC X0 hx hby (n := 107) (v := (1 : Int32)) (x := (0 : Int32)) (z := (1 : Int32)) (L' := #[.val (.ref a), .val (.int (2 : Int32)), .val (.int (0 : Int32)), .val (.int ((-1756908914 : Int32) ^^^ ((b0 &&& (255 : Int32)) <<< ((0 : Int32) &&& 31)))), .val (.int (1 : Int32)), .unset]) d2_104 rfl rfl (by decide) rfl rfl ?_
  refine s_goto X0 hx hby (n := 79) d2_107 (by decide) (by decide) ?_
  refine s_iload X0 hx hby (n := 81) (x := (1 : Int32)) d2_79 rfl rfl ?_
  refine s_iloadN X0 hx hby (n := 82) (x := (2 : Int32)) d2_81 rfl rfl ?_
  refine s_icmpN X0 hx hby (n := 85) d2_82 (by decide) rfl ?_
  refine s_iloadN X0 hx hby (n := 86) (x := ((-1756908914 : Int32) ^^^ ((b0 &&& (255 : Int32)) <<< ((0 : Int32) &&& 31)))) d2_85 rfl rfl ?_
  refine s_aloadN X0 hx hby (n := 87) (x := (.ref a)) d2_86 rfl rfl rfl ?_
  refine s_iload X0 hx hby (n := 89) (x := (1 : Int32)) d2_87 rfl rfl ?_
  refine s_baloadC X0 hx hby hZ (n := 90) e0 Ar 1 (by decide) (by decide) (by rw [Sz]; decide) B1 d2_89 rfl ?_
  refine s_sipush X0 hx hby (n := 93) (v := (255 : Int32)) d2_90 rfl rfl ?_
  refine s_iand X0 hx hby (n := 94) d2_93 rfl ?_
  refine s_bipush X0 hx hby (n := 96) (v := (8 : Int32)) d2_94 rfl rfl ?_
  refine s_iload X0 hx hby (n := 98) (x := (1 : Int32)) d2_96 rfl rfl ?_
  refine s_iloadN X0 hx hby (n := 99) (x := (0 : Int32)) d2_98 rfl rfl ?_
  refine s_isub X0 hx hby (n := 100) d2_99 rfl ?_
  refine s_fold (z := (1 : Int32)) (by decide) ?_
  refine s_imul X0 hx hby (n := 101) d2_100 rfl ?_
  refine s_fold (z := (8 : Int32)) (by decide) ?_
  refine s_ishl X0 hx hby (n := 102) d2_101 rfl ?_
  refine s_ixor X0 hx hby (n := 103) d2_102 rfl ?_
  refine s_istoreN X0 hx hby (n := 104) (L' := #[.val (.ref a), .val (.int (2 : Int32)), .val (.int (0 : Int32)), .val (.int (((-1756908914 : Int32) ^^^ ((b0 &&& (255 : Int32)) <<< ((0 : Int32) &&& 31))) ^^^ ((b1 &&& (255 : Int32)) <<< ((8 : Int32) &&& 31)))), .val (.int (1 : Int32)), .unset]) d2_103 rfl rfl ?_
  refine s_iincC X0 hx hby (n := 107) (v := (1 : Int32)) (x := (1 : Int32)) (z := (2 : Int32)) (L' := #[.val (.ref a), .val (.int (2 : Int32)), .val (.int (0 : Int32)), .val (.int (((-1756908914 : Int32) ^^^ ((b0 &&& (255 : Int32)) <<< ((0 : Int32) &&& 31))) ^^^ ((b1 &&& (255 : Int32)) <<< ((8 : Int32) &&& 31)))), .val (.int (2 : Int32)), .unset]) d2_104 rfl rfl (by decide) rfl rfl ?_
  refine s_goto X0 hx hby (n := 79) d2_107 (by decide) (by decide) ?_
  refine s_iload X0 hx hby (n := 81) (x := (2 : Int32)) d2_79 rfl rfl ?_
  refine s_iloadN X0 hx hby (n := 82) (x := (2 : Int32)) d2_81 rfl rfl ?_
  refine s_icmpY X0 hx hby (n := 110) d2_82 (by decide) (by decide) (by decide) ?_
  refine s_iloadN X0 hx hby (n := 111) (x := (((-1756908914 : Int32) ^^^ ((b0 &&& (255 : Int32)) <<< ((0 : Int32) &&& 31))) ^^^ ((b1 &&& (255 : Int32)) <<< ((8 : Int32) &&& 31)))) d2_110 rfl rfl ?_
  refine s_ldcI X0 hx hby hZ (n := 113) hown (hw _ (List.mem_of_getElem? (i := 10) rfl)) d2_111 rfl ?_
  refine s_imul X0 hx hby (n := 114) d2_113 rfl ?_
  refine s_istoreN X0 hx hby (n := 115) (L' := #[.val (.ref a), .val (.int (2 : Int32)), .val (.int (0 : Int32)), .val (.int ((((-1756908914 : Int32) ^^^ ((b0 &&& (255 : Int32)) <<< ((0 : Int32) &&& 31))) ^^^ ((b1 &&& (255 : Int32)) <<< ((8 : Int32) &&& 31))) * (1540483477 : Int32))), .val (.int (2 : Int32)), .unset]) d2_114 rfl rfl ?_
  refine s_iloadN X0 hx hby (n := 116) (x := ((((-1756908914 : Int32) ^^^ ((b0 &&& (255 : Int32)) <<< ((0 : Int32) &&& 31))) ^^^ ((b1 &&& (255 : Int32)) <<< ((8 : Int32) &&& 31))) * (1540483477 : Int32))) d2_115 rfl rfl ?_
  refine s_iloadN X0 hx hby (n := 117) (x := ((((-1756908914 : Int32) ^^^ ((b0 &&& (255 : Int32)) <<< ((0 : Int32) &&& 31))) ^^^ ((b1 &&& (255 : Int32)) <<< ((8 : Int32) &&& 31))) * (1540483477 : Int32))) d2_116 rfl rfl ?_
  refine s_bipush X0 hx hby (n := 119) (v := (13 : Int32)) d2_117 rfl rfl ?_
  refine s_iushr X0 hx hby (n := 120) d2_119 rfl ?_
  refine s_ixor X0 hx hby (n := 121) d2_120 rfl ?_
  refine s_fold (z := (own_x13 ((((-1756908914 : Int32) ^^^ ((b0 &&& (255 : Int32)) <<< ((0 : Int32) &&& 31))) ^^^ ((b1 &&& (255 : Int32)) <<< ((8 : Int32) &&& 31))) * (1540483477 : Int32)))) rfl ?_
  refine s_istoreN X0 hx hby (n := 122) (L' := #[.val (.ref a), .val (.int (2 : Int32)), .val (.int (0 : Int32)), .val (.int (own_x13 ((((-1756908914 : Int32) ^^^ ((b0 &&& (255 : Int32)) <<< ((0 : Int32) &&& 31))) ^^^ ((b1 &&& (255 : Int32)) <<< ((8 : Int32) &&& 31))) * (1540483477 : Int32)))), .val (.int (2 : Int32)), .unset]) d2_121 rfl rfl ?_
  refine s_iloadN X0 hx hby (n := 123) (x := (own_x13 ((((-1756908914 : Int32) ^^^ ((b0 &&& (255 : Int32)) <<< ((0 : Int32) &&& 31))) ^^^ ((b1 &&& (255 : Int32)) <<< ((8 : Int32) &&& 31))) * (1540483477 : Int32)))) d2_122 rfl rfl ?_
  refine s_ldcI X0 hx hby hZ (n := 125) hown (hw _ (List.mem_of_getElem? (i := 10) rfl)) d2_123 rfl ?_
  refine s_imul X0 hx hby (n := 126) d2_125 rfl ?_
  refine s_istoreN X0 hx hby (n := 127) (L' := #[.val (.ref a), .val (.int (2 : Int32)), .val (.int (0 : Int32)), .val (.int ((own_x13 ((((-1756908914 : Int32) ^^^ ((b0 &&& (255 : Int32)) <<< ((0 : Int32) &&& 31))) ^^^ ((b1 &&& (255 : Int32)) <<< ((8 : Int32) &&& 31))) * (1540483477 : Int32))) * (1540483477 : Int32))), .val (.int (2 : Int32)), .unset]) d2_126 rfl rfl ?_
  refine s_iloadN X0 hx hby (n := 128) (x := ((own_x13 ((((-1756908914 : Int32) ^^^ ((b0 &&& (255 : Int32)) <<< ((0 : Int32) &&& 31))) ^^^ ((b1 &&& (255 : Int32)) <<< ((8 : Int32) &&& 31))) * (1540483477 : Int32))) * (1540483477 : Int32))) d2_127 rfl rfl ?_
  refine s_iloadN X0 hx hby (n := 129) (x := ((own_x13 ((((-1756908914 : Int32) ^^^ ((b0 &&& (255 : Int32)) <<< ((0 : Int32) &&& 31))) ^^^ ((b1 &&& (255 : Int32)) <<< ((8 : Int32) &&& 31))) * (1540483477 : Int32))) * (1540483477 : Int32))) d2_128 rfl rfl ?_
  refine s_bipush X0 hx hby (n := 131) (v := (15 : Int32)) d2_129 rfl rfl ?_
  refine s_iushr X0 hx hby (n := 132) d2_131 rfl ?_
  refine s_ixor X0 hx hby (n := 133) d2_132 rfl ?_
  refine s_fold (z := (own_x15 ((own_x13 ((((-1756908914 : Int32) ^^^ ((b0 &&& (255 : Int32)) <<< ((0 : Int32) &&& 31))) ^^^ ((b1 &&& (255 : Int32)) <<< ((8 : Int32) &&& 31))) * (1540483477 : Int32))) * (1540483477 : Int32)))) rfl ?_
  refine s_istoreN X0 hx hby (n := 134) (L' := #[.val (.ref a), .val (.int (2 : Int32)), .val (.int (0 : Int32)), .val (.int (own_x15 ((own_x13 ((((-1756908914 : Int32) ^^^ ((b0 &&& (255 : Int32)) <<< ((0 : Int32) &&& 31))) ^^^ ((b1 &&& (255 : Int32)) <<< ((8 : Int32) &&& 31))) * (1540483477 : Int32))) * (1540483477 : Int32)))), .val (.int (2 : Int32)), .unset]) d2_133 rfl rfl ?_
  refine s_iloadN X0 hx hby (n := 135) (x := (own_x15 ((own_x13 ((((-1756908914 : Int32) ^^^ ((b0 &&& (255 : Int32)) <<< ((0 : Int32) &&& 31))) ^^^ ((b1 &&& (255 : Int32)) <<< ((8 : Int32) &&& 31))) * (1540483477 : Int32))) * (1540483477 : Int32)))) d2_134 rfl rfl ?_
  exact s_retI X0 hx hby hlk hret d2_135 (by decide) (by decide) ⟨rfl, e0, M0⟩
set_option maxRecDepth 65536 in
set_option maxHeartbeats 40000000 in
theorem rmH3 (l : Launch) (Z : State) (a0 : Array Value) (hw : ∀ d ∈ tables_1, d.before a0 Z = true) (a : Addr) (cl : Cell) (b0 b1 b2 : Int32) (h0 : Heap) (n0 : Nat) (Ar : Arr Z h0 a cl .byte) (Sz : cl.slots.size = (3 : Int32).toNatClampNeg) (B0 : cl.slots[0]? = some (.int b0)) (B1 : cl.slots[1]? = some (.int b1)) (B2 : cl.slots[2]? = some (.int b2)) :
    OCon l Z (⟨"com/example/ucoord/ucoord/partition/KeyPartitioner", "murmur2", "([B)I"⟩ : MethodName) prog_42_method_3_code 6 (some (.int)) [] ({ frames := 1, cells := 0, slots := 0, locals := 13 } : Room) #[(.ref a)] h0 (fun v h L => v = some (.int (own_x15 ((own_x13 (((((-1756908913 : Int32) ^^^ ((b0 &&& (255 : Int32)) <<< ((0 : Int32) &&& 31))) ^^^ ((b1 &&& (255 : Int32)) <<< ((8 : Int32) &&& 31))) ^^^ ((b2 &&& (255 : Int32)) <<< ((16 : Int32) &&& 31))) * (1540483477 : Int32))) * (1540483477 : Int32)))) ∧ h = h0 ∧ Fr n0 L) := by
  refine con (plainFor_of_name pn1) ?_
  intro p e s m below meth c s₁ hx hby hml hZ hown hnm hret hlk X0 e0
  refine entry (efH m a) ?_
  have M0 := Fr.nil n0
  refine s_aloadN X0 hx hby (n := 1) (x := (.ref a)) d2_0 rfl rfl rfl ?_
  refine s_arraylength X0 hx hby hZ (n := 2) e0 Ar (z := (3 : Int32)) Sz (by decide) d2_1 rfl ?_
  refine s_istoreN X0 hx hby (n := 3) (L' := #[.val (.ref a), .val (.int (3 : Int32)), .unset, .unset, .unset, .unset]) d2_2 rfl rfl ?_
  refine s_iloadN X0 hx hby (n := 4) (x := (3 : Int32)) d2_3 rfl rfl ?_
  refine s_iloadN X0 hx hby (n := 5) (x := (3 : Int32)) d2_4 rfl rfl ?_
  refine s_iconst X0 hx hby (n := 6) (v := (4 : Int32)) d2_5 rfl rfl ?_
  refine s_irem X0 hx hby (n := 7) d2_6 (by decide) rfl ?_
  refine s_fold (z := (3 : Int32)) (by decide) ?_
  refine s_isub X0 hx hby (n := 8) d2_7 rfl ?_
  refine s_fold (z := (0 : Int32)) (by decide) ?_
  refine s_istoreN X0 hx hby (n := 9) (L' := #[.val (.ref a), .val (.int (3 : Int32)), .val (.int (0 : Int32)), .unset, .unset, .unset]) d2_8 rfl rfl ?_
  refine s_ldcI X0 hx hby hZ (n := 11) hown (hw _ (List.mem_of_getElem? (i := 9) rfl)) d2_9 rfl ?_
  refine s_iloadN X0 hx hby (n := 12) (x := (3 : Int32)) d2_11 rfl rfl ?_
  refine s_ixor X0 hx hby (n := 13) d2_12 rfl ?_
  refine s_fold (z := (-1756908913 : Int32)) (by decide) ?_
  refine s_istoreN X0 hx hby (n := 14) (L' := #[.val (.ref a), .val (.int (3 : Int32)), .val (.int (0 : Int32)), .val (.int (-1756908913 : Int32)), .unset, .unset]) d2_13 rfl rfl ?_
  refine s_iconst X0 hx hby (n := 15) (v := (0 : Int32)) d2_14 rfl rfl ?_
  refine s_istore X0 hx hby (n := 17) (L' := #[.val (.ref a), .val (.int (3 : Int32)), .val (.int (0 : Int32)), .val (.int (-1756908913 : Int32)), .val (.int (0 : Int32)), .unset]) d2_15 rfl rfl ?_
  refine s_iload X0 hx hby (n := 19) (x := (0 : Int32)) d2_17 rfl rfl ?_
  refine s_iloadN X0 hx hby (n := 20) (x := (0 : Int32)) d2_19 rfl rfl ?_
  refine s_icmpY X0 hx hby (n := 71) d2_20 (by decide) (by decide) (by decide) ?_
  refine s_iloadN X0 hx hby (n := 72) (x := (0 : Int32)) d2_71 rfl rfl ?_
  refine s_iloadN X0 hx hby (n := 73) (x := (3 : Int32)) d2_72 rfl rfl ?_
  refine s_icmpN X0 hx hby (n := 76) d2_73 (by decide) rfl ?_
  refine s_iloadN X0 hx hby (n := 77) (x := (0 : Int32)) d2_76 rfl rfl ?_
  refine s_istore X0 hx hby (n := 79) (L' := #[.val (.ref a), .val (.int (3 : Int32)), .val (.int (0 : Int32)), .val (.int (-1756908913 : Int32)), .val (.int (0 : Int32)), .unset]) d2_77 rfl rfl ?_
  refine s_iload X0 hx hby (n := 81) (x := (0 : Int32)) d2_79 rfl rfl ?_
  refine s_iloadN X0 hx hby (n := 82) (x := (3 : Int32)) d2_81 rfl rfl ?_
  refine s_icmpN X0 hx hby (n := 85) d2_82 (by decide) rfl ?_
  refine s_iloadN X0 hx hby (n := 86) (x := (-1756908913 : Int32)) d2_85 rfl rfl ?_
  refine s_aloadN X0 hx hby (n := 87) (x := (.ref a)) d2_86 rfl rfl rfl ?_
  refine s_iload X0 hx hby (n := 89) (x := (0 : Int32)) d2_87 rfl rfl ?_
  refine s_baloadC X0 hx hby hZ (n := 90) e0 Ar 0 (by decide) (by decide) (by rw [Sz]; decide) B0 d2_89 rfl ?_
  refine s_sipush X0 hx hby (n := 93) (v := (255 : Int32)) d2_90 rfl rfl ?_
  refine s_iand X0 hx hby (n := 94) d2_93 rfl ?_
  refine s_bipush X0 hx hby (n := 96) (v := (8 : Int32)) d2_94 rfl rfl ?_
  refine s_iload X0 hx hby (n := 98) (x := (0 : Int32)) d2_96 rfl rfl ?_
  refine s_iloadN X0 hx hby (n := 99) (x := (0 : Int32)) d2_98 rfl rfl ?_
  refine s_isub X0 hx hby (n := 100) d2_99 rfl ?_
  refine s_fold (z := (0 : Int32)) (by decide) ?_
  refine s_imul X0 hx hby (n := 101) d2_100 rfl ?_
  refine s_fold (z := (0 : Int32)) (by decide) ?_
  refine s_ishl X0 hx hby (n := 102) d2_101 rfl ?_
  refine s_ixor X0 hx hby (n := 103) d2_102 rfl ?_
  refine s_istoreN X0 hx hby (n := 104) (L' := #[.val (.ref a), .val (.int (3 : Int32)), .val (.int (0 : Int32)), .val (.int ((-1756908913 : Int32) ^^^ ((b0 &&& (255 : Int32)) <<< ((0 : Int32) &&& 31)))), .val (.int (0 : Int32)), .unset]) d2_103 rfl rfl ?_
  refine s_iincC X0 hx hby (n := 107) (v := (1 : Int32)) (x := (0 : Int32)) (z := (1 : Int32)) (L' := #[.val (.ref a), .val (.int (3 : Int32)), .val (.int (0 : Int32)), .val (.int ((-1756908913 : Int32) ^^^ ((b0 &&& (255 : Int32)) <<< ((0 : Int32) &&& 31)))), .val (.int (1 : Int32)), .unset]) d2_104 rfl rfl (by decide) rfl rfl ?_
  refine s_goto X0 hx hby (n := 79) d2_107 (by decide) (by decide) ?_
  refine s_iload X0 hx hby (n := 81) (x := (1 : Int32)) d2_79 rfl rfl ?_
  refine s_iloadN X0 hx hby (n := 82) (x := (3 : Int32)) d2_81 rfl rfl ?_
  refine s_icmpN X0 hx hby (n := 85) d2_82 (by decide) rfl ?_
  refine s_iloadN X0 hx hby (n := 86) (x := ((-1756908913 : Int32) ^^^ ((b0 &&& (255 : Int32)) <<< ((0 : Int32) &&& 31)))) d2_85 rfl rfl ?_
  refine s_aloadN X0 hx hby (n := 87) (x := (.ref a)) d2_86 rfl rfl rfl ?_
  refine s_iload X0 hx hby (n := 89) (x := (1 : Int32)) d2_87 rfl rfl ?_
  refine s_baloadC X0 hx hby hZ (n := 90) e0 Ar 1 (by decide) (by decide) (by rw [Sz]; decide) B1 d2_89 rfl ?_
  refine s_sipush X0 hx hby (n := 93) (v := (255 : Int32)) d2_90 rfl rfl ?_
  refine s_iand X0 hx hby (n := 94) d2_93 rfl ?_
  refine s_bipush X0 hx hby (n := 96) (v := (8 : Int32)) d2_94 rfl rfl ?_
  refine s_iload X0 hx hby (n := 98) (x := (1 : Int32)) d2_96 rfl rfl ?_
  refine s_iloadN X0 hx hby (n := 99) (x := (0 : Int32)) d2_98 rfl rfl ?_
  refine s_isub X0 hx hby (n := 100) d2_99 rfl ?_
  refine s_fold (z := (1 : Int32)) (by decide) ?_
  refine s_imul X0 hx hby (n := 101) d2_100 rfl ?_
  refine s_fold (z := (8 : Int32)) (by decide) ?_
  refine s_ishl X0 hx hby (n := 102) d2_101 rfl ?_
  refine s_ixor X0 hx hby (n := 103) d2_102 rfl ?_
  refine s_istoreN X0 hx hby (n := 104) (L' := #[.val (.ref a), .val (.int (3 : Int32)), .val (.int (0 : Int32)), .val (.int (((-1756908913 : Int32) ^^^ ((b0 &&& (255 : Int32)) <<< ((0 : Int32) &&& 31))) ^^^ ((b1 &&& (255 : Int32)) <<< ((8 : Int32) &&& 31)))), .val (.int (1 : Int32)), .unset]) d2_103 rfl rfl ?_
  refine s_iincC X0 hx hby (n := 107) (v := (1 : Int32)) (x := (1 : Int32)) (z := (2 : Int32)) (L' := #[.val (.ref a), .val (.int (3 : Int32)), .val (.int (0 : Int32)), .val (.int (((-1756908913 : Int32) ^^^ ((b0 &&& (255 : Int32)) <<< ((0 : Int32) &&& 31))) ^^^ ((b1 &&& (255 : Int32)) <<< ((8 : Int32) &&& 31)))), .val (.int (2 : Int32)), .unset]) d2_104 rfl rfl (by decide) rfl rfl ?_
  refine s_goto X0 hx hby (n := 79) d2_107 (by decide) (by decide) ?_
  refine s_iload X0 hx hby (n := 81) (x := (2 : Int32)) d2_79 rfl rfl ?_
  refine s_iloadN X0 hx hby (n := 82) (x := (3 : Int32)) d2_81 rfl rfl ?_
  refine s_icmpN X0 hx hby (n := 85) d2_82 (by decide) rfl ?_
  refine s_iloadN X0 hx hby (n := 86) (x := (((-1756908913 : Int32) ^^^ ((b0 &&& (255 : Int32)) <<< ((0 : Int32) &&& 31))) ^^^ ((b1 &&& (255 : Int32)) <<< ((8 : Int32) &&& 31)))) d2_85 rfl rfl ?_
  refine s_aloadN X0 hx hby (n := 87) (x := (.ref a)) d2_86 rfl rfl rfl ?_
  refine s_iload X0 hx hby (n := 89) (x := (2 : Int32)) d2_87 rfl rfl ?_
  refine s_baloadC X0 hx hby hZ (n := 90) e0 Ar 2 (by decide) (by decide) (by rw [Sz]; decide) B2 d2_89 rfl ?_
  refine s_sipush X0 hx hby (n := 93) (v := (255 : Int32)) d2_90 rfl rfl ?_
  refine s_iand X0 hx hby (n := 94) d2_93 rfl ?_
  refine s_bipush X0 hx hby (n := 96) (v := (8 : Int32)) d2_94 rfl rfl ?_
  refine s_iload X0 hx hby (n := 98) (x := (2 : Int32)) d2_96 rfl rfl ?_
  refine s_iloadN X0 hx hby (n := 99) (x := (0 : Int32)) d2_98 rfl rfl ?_
  refine s_isub X0 hx hby (n := 100) d2_99 rfl ?_
  refine s_fold (z := (2 : Int32)) (by decide) ?_
  refine s_imul X0 hx hby (n := 101) d2_100 rfl ?_
  refine s_fold (z := (16 : Int32)) (by decide) ?_
  refine s_ishl X0 hx hby (n := 102) d2_101 rfl ?_
  refine s_ixor X0 hx hby (n := 103) d2_102 rfl ?_
  refine s_istoreN X0 hx hby (n := 104) (L' := #[.val (.ref a), .val (.int (3 : Int32)), .val (.int (0 : Int32)), .val (.int ((((-1756908913 : Int32) ^^^ ((b0 &&& (255 : Int32)) <<< ((0 : Int32) &&& 31))) ^^^ ((b1 &&& (255 : Int32)) <<< ((8 : Int32) &&& 31))) ^^^ ((b2 &&& (255 : Int32)) <<< ((16 : Int32) &&& 31)))), .val (.int (2 : Int32)), .unset]) d2_103 rfl rfl ?_
  refine s_iincC X0 hx hby (n := 107) (v := (1 : Int32)) (x := (2 : Int32)) (z := (3 : Int32)) (L' := #[.val (.ref a), .val (.int (3 : Int32)), .val (.int (0 : Int32)), .val (.int ((((-1756908913 : Int32) ^^^ ((b0 &&& (255 : Int32)) <<< ((0 : Int32) &&& 31))) ^^^ ((b1 &&& (255 : Int32)) <<< ((8 : Int32) &&& 31))) ^^^ ((b2 &&& (255 : Int32)) <<< ((16 : Int32) &&& 31)))), .val (.int (3 : Int32)), .unset]) d2_104 rfl rfl (by decide) rfl rfl ?_
  refine s_goto X0 hx hby (n := 79) d2_107 (by decide) (by decide) ?_
  refine s_iload X0 hx hby (n := 81) (x := (3 : Int32)) d2_79 rfl rfl ?_
  refine s_iloadN X0 hx hby (n := 82) (x := (3 : Int32)) d2_81 rfl rfl ?_
  refine s_icmpY X0 hx hby (n := 110) d2_82 (by decide) (by decide) (by decide) ?_
  refine s_iloadN X0 hx hby (n := 111) (x := ((((-1756908913 : Int32) ^^^ ((b0 &&& (255 : Int32)) <<< ((0 : Int32) &&& 31))) ^^^ ((b1 &&& (255 : Int32)) <<< ((8 : Int32) &&& 31))) ^^^ ((b2 &&& (255 : Int32)) <<< ((16 : Int32) &&& 31)))) d2_110 rfl rfl ?_
  refine s_ldcI X0 hx hby hZ (n := 113) hown (hw _ (List.mem_of_getElem? (i := 10) rfl)) d2_111 rfl ?_
  refine s_imul X0 hx hby (n := 114) d2_113 rfl ?_
  refine s_istoreN X0 hx hby (n := 115) (L' := #[.val (.ref a), .val (.int (3 : Int32)), .val (.int (0 : Int32)), .val (.int (((((-1756908913 : Int32) ^^^ ((b0 &&& (255 : Int32)) <<< ((0 : Int32) &&& 31))) ^^^ ((b1 &&& (255 : Int32)) <<< ((8 : Int32) &&& 31))) ^^^ ((b2 &&& (255 : Int32)) <<< ((16 : Int32) &&& 31))) * (1540483477 : Int32))), .val (.int (3 : Int32)), .unset]) d2_114 rfl rfl ?_
  refine s_iloadN X0 hx hby (n := 116) (x := (((((-1756908913 : Int32) ^^^ ((b0 &&& (255 : Int32)) <<< ((0 : Int32) &&& 31))) ^^^ ((b1 &&& (255 : Int32)) <<< ((8 : Int32) &&& 31))) ^^^ ((b2 &&& (255 : Int32)) <<< ((16 : Int32) &&& 31))) * (1540483477 : Int32))) d2_115 rfl rfl ?_
  refine s_iloadN X0 hx hby (n := 117) (x := (((((-1756908913 : Int32) ^^^ ((b0 &&& (255 : Int32)) <<< ((0 : Int32) &&& 31))) ^^^ ((b1 &&& (255 : Int32)) <<< ((8 : Int32) &&& 31))) ^^^ ((b2 &&& (255 : Int32)) <<< ((16 : Int32) &&& 31))) * (1540483477 : Int32))) d2_116 rfl rfl ?_
  refine s_bipush X0 hx hby (n := 119) (v := (13 : Int32)) d2_117 rfl rfl ?_
  refine s_iushr X0 hx hby (n := 120) d2_119 rfl ?_
  refine s_ixor X0 hx hby (n := 121) d2_120 rfl ?_
  refine s_fold (z := (own_x13 (((((-1756908913 : Int32) ^^^ ((b0 &&& (255 : Int32)) <<< ((0 : Int32) &&& 31))) ^^^ ((b1 &&& (255 : Int32)) <<< ((8 : Int32) &&& 31))) ^^^ ((b2 &&& (255 : Int32)) <<< ((16 : Int32) &&& 31))) * (1540483477 : Int32)))) rfl ?_
  refine s_istoreN X0 hx hby (n := 122) (L' := #[.val (.ref a), .val (.int (3 : Int32)), .val (.int (0 : Int32)), .val (.int (own_x13 (((((-1756908913 : Int32) ^^^ ((b0 &&& (255 : Int32)) <<< ((0 : Int32) &&& 31))) ^^^ ((b1 &&& (255 : Int32)) <<< ((8 : Int32) &&& 31))) ^^^ ((b2 &&& (255 : Int32)) <<< ((16 : Int32) &&& 31))) * (1540483477 : Int32)))), .val (.int (3 : Int32)), .unset]) d2_121 rfl rfl ?_
  refine s_iloadN X0 hx hby (n := 123) (x := (own_x13 (((((-1756908913 : Int32) ^^^ ((b0 &&& (255 : Int32)) <<< ((0 : Int32) &&& 31))) ^^^ ((b1 &&& (255 : Int32)) <<< ((8 : Int32) &&& 31))) ^^^ ((b2 &&& (255 : Int32)) <<< ((16 : Int32) &&& 31))) * (1540483477 : Int32)))) d2_122 rfl rfl ?_
  refine s_ldcI X0 hx hby hZ (n := 125) hown (hw _ (List.mem_of_getElem? (i := 10) rfl)) d2_123 rfl ?_
  refine s_imul X0 hx hby (n := 126) d2_125 rfl ?_
  refine s_istoreN X0 hx hby (n := 127) (L' := #[.val (.ref a), .val (.int (3 : Int32)), .val (.int (0 : Int32)), .val (.int ((own_x13 (((((-1756908913 : Int32) ^^^ ((b0 &&& (255 : Int32)) <<< ((0 : Int32) &&& 31))) ^^^ ((b1 &&& (255 : Int32)) <<< ((8 : Int32) &&& 31))) ^^^ ((b2 &&& (255 : Int32)) <<< ((16 : Int32) &&& 31))) * (1540483477 : Int32))) * (1540483477 : Int32))), .val (.int (3 : Int32)), .unset]) d2_126 rfl rfl ?_
  refine s_iloadN X0 hx hby (n := 128) (x := ((own_x13 (((((-1756908913 : Int32) ^^^ ((b0 &&& (255 : Int32)) <<< ((0 : Int32) &&& 31))) ^^^ ((b1 &&& (255 : Int32)) <<< ((8 : Int32) &&& 31))) ^^^ ((b2 &&& (255 : Int32)) <<< ((16 : Int32) &&& 31))) * (1540483477 : Int32))) * (1540483477 : Int32))) d2_127 rfl rfl ?_
  refine s_iloadN X0 hx hby (n := 129) (x := ((own_x13 (((((-1756908913 : Int32) ^^^ ((b0 &&& (255 : Int32)) <<< ((0 : Int32) &&& 31))) ^^^ ((b1 &&& (255 : Int32)) <<< ((8 : Int32) &&& 31))) ^^^ ((b2 &&& (255 : Int32)) <<< ((16 : Int32) &&& 31))) * (1540483477 : Int32))) * (1540483477 : Int32))) d2_128 rfl rfl ?_
  refine s_bipush X0 hx hby (n := 131) (v := (15 : Int32)) d2_129 rfl rfl ?_
  refine s_iushr X0 hx hby (n := 132) d2_131 rfl ?_
  refine s_ixor X0 hx hby (n := 133) d2_132 rfl ?_
  refine s_fold (z := (own_x15 ((own_x13 (((((-1756908913 : Int32) ^^^ ((b0 &&& (255 : Int32)) <<< ((0 : Int32) &&& 31))) ^^^ ((b1 &&& (255 : Int32)) <<< ((8 : Int32) &&& 31))) ^^^ ((b2 &&& (255 : Int32)) <<< ((16 : Int32) &&& 31))) * (1540483477 : Int32))) * (1540483477 : Int32)))) rfl ?_
  refine s_istoreN X0 hx hby (n := 134) (L' := #[.val (.ref a), .val (.int (3 : Int32)), .val (.int (0 : Int32)), .val (.int (own_x15 ((own_x13 (((((-1756908913 : Int32) ^^^ ((b0 &&& (255 : Int32)) <<< ((0 : Int32) &&& 31))) ^^^ ((b1 &&& (255 : Int32)) <<< ((8 : Int32) &&& 31))) ^^^ ((b2 &&& (255 : Int32)) <<< ((16 : Int32) &&& 31))) * (1540483477 : Int32))) * (1540483477 : Int32)))), .val (.int (3 : Int32)), .unset]) d2_133 rfl rfl ?_
  refine s_iloadN X0 hx hby (n := 135) (x := (own_x15 ((own_x13 (((((-1756908913 : Int32) ^^^ ((b0 &&& (255 : Int32)) <<< ((0 : Int32) &&& 31))) ^^^ ((b1 &&& (255 : Int32)) <<< ((8 : Int32) &&& 31))) ^^^ ((b2 &&& (255 : Int32)) <<< ((16 : Int32) &&& 31))) * (1540483477 : Int32))) * (1540483477 : Int32)))) d2_134 rfl rfl ?_
  exact s_retI X0 hx hby hlk hret d2_135 (by decide) (by decide) ⟨rfl, e0, M0⟩
set_option maxRecDepth 65536 in
set_option maxHeartbeats 40000000 in
theorem rmH4 (l : Launch) (Z : State) (a0 : Array Value) (hw : ∀ d ∈ tables_1, d.before a0 Z = true) (a : Addr) (cl : Cell) (b0 b1 b2 b3 : Int32) (h0 : Heap) (n0 : Nat) (Ar : Arr Z h0 a cl .byte) (Sz : cl.slots.size = (4 : Int32).toNatClampNeg) (B0 : cl.slots[0]? = some (.int b0)) (B1 : cl.slots[1]? = some (.int b1)) (B2 : cl.slots[2]? = some (.int b2)) (B3 : cl.slots[3]? = some (.int b3)) :
    OCon l Z (⟨"com/example/ucoord/ucoord/partition/KeyPartitioner", "murmur2", "([B)I"⟩ : MethodName) prog_42_method_3_code 6 (some (.int)) [] ({ frames := 1, cells := 0, slots := 0, locals := 13 } : Room) #[(.ref a)] h0 (fun v h L => v = some (.int (own_x15 ((own_x13 (own_stp (-1756908920 : Int32) (own_le b0 b1 b2 b3))) * (1540483477 : Int32)))) ∧ h = h0 ∧ Fr n0 L) := by
  refine con (plainFor_of_name pn1) ?_
  intro p e s m below meth c s₁ hx hby hml hZ hown hnm hret hlk X0 e0
  refine entry (efH m a) ?_
  have M0 := Fr.nil n0
  refine s_aloadN X0 hx hby (n := 1) (x := (.ref a)) d2_0 rfl rfl rfl ?_
  refine s_arraylength X0 hx hby hZ (n := 2) e0 Ar (z := (4 : Int32)) Sz (by decide) d2_1 rfl ?_
  refine s_istoreN X0 hx hby (n := 3) (L' := #[.val (.ref a), .val (.int (4 : Int32)), .unset, .unset, .unset, .unset]) d2_2 rfl rfl ?_
  refine s_iloadN X0 hx hby (n := 4) (x := (4 : Int32)) d2_3 rfl rfl ?_
  refine s_iloadN X0 hx hby (n := 5) (x := (4 : Int32)) d2_4 rfl rfl ?_
  refine s_iconst X0 hx hby (n := 6) (v := (4 : Int32)) d2_5 rfl rfl ?_
  refine s_irem X0 hx hby (n := 7) d2_6 (by decide) rfl ?_
  refine s_fold (z := (0 : Int32)) (by decide) ?_
  refine s_isub X0 hx hby (n := 8) d2_7 rfl ?_
  refine s_fold (z := (4 : Int32)) (by decide) ?_
  refine s_istoreN X0 hx hby (n := 9) (L' := #[.val (.ref a), .val (.int (4 : Int32)), .val (.int (4 : Int32)), .unset, .unset, .unset]) d2_8 rfl rfl ?_
  refine s_ldcI X0 hx hby hZ (n := 11) hown (hw _ (List.mem_of_getElem? (i := 9) rfl)) d2_9 rfl ?_
  refine s_iloadN X0 hx hby (n := 12) (x := (4 : Int32)) d2_11 rfl rfl ?_
  refine s_ixor X0 hx hby (n := 13) d2_12 rfl ?_
  refine s_fold (z := (-1756908920 : Int32)) (by decide) ?_
  refine s_istoreN X0 hx hby (n := 14) (L' := #[.val (.ref a), .val (.int (4 : Int32)), .val (.int (4 : Int32)), .val (.int (-1756908920 : Int32)), .unset, .unset]) d2_13 rfl rfl ?_
  refine s_iconst X0 hx hby (n := 15) (v := (0 : Int32)) d2_14 rfl rfl ?_
  refine s_istore X0 hx hby (n := 17) (L' := #[.val (.ref a), .val (.int (4 : Int32)), .val (.int (4 : Int32)), .val (.int (-1756908920 : Int32)), .val (.int (0 : Int32)), .unset]) d2_15 rfl rfl ?_
  refine s_iload X0 hx hby (n := 19) (x := (0 : Int32)) d2_17 rfl rfl ?_
  refine s_iloadN X0 hx hby (n := 20) (x := (4 : Int32)) d2_19 rfl rfl ?_
  refine s_icmpN X0 hx hby (n := 23) d2_20 (by decide) rfl ?_
  refine s_aloadN X0 hx hby (n := 24) (x := (.ref a)) d2_23 rfl rfl rfl ?_
  refine s_iload X0 hx hby (n := 26) (x := (0 : Int32)) d2_24 rfl rfl ?_
  refine s_callS X0 hx hby hml hZ (n := 29) hown (hw _ (List.mem_of_getElem? (i := 13) rfl)) (hw _ (List.mem_of_getElem? (i := 14) rfl)) (hw _ (List.mem_of_getElem? (i := 7) rfl)) (hw _ (List.mem_of_getElem? (i := 15) rfl)) (by decide) (rmE l Z a0 hw a cl (0 : Int32) b0 b1 b2 b3 0 1 2 3 h0 n0 Ar (by decide) (by decide) (by rw [Sz]; decide) B0 (by decide) (by decide) (by rw [Sz]; decide) B1 (by decide) (by decide) (by rw [Sz]; decide) B2 (by decide) (by decide) (by rw [Sz]; decide) B3) e0 (by decide) 0 (by decide) (by decide) (by decide) pd_0 [(.ref a), (.int (0 : Int32))] [] rfl rfl rfl (Nat.le_of_eq rfl) rfl d2_26 rfl ?_
  intro T1 L1 v1 X1 q1c
  obtain ⟨rfl, e1, N1⟩ := q1c
  show OEnds p e below s _ _ _ T1 (mkF m 29 #[.val (.ref a), .val (.int (4 : Int32)), .val (.int (4 : Int32)), .val (.int (-1756908920 : Int32)), .val (.int (0 : Int32)), .unset] [(.int (own_le b0 b1 b2 b3))])
  have M1 := Fr.app M0 N1
  refine s_istore X1 hx hby (n := 31) (L' := #[.val (.ref a), .val (.int (4 : Int32)), .val (.int (4 : Int32)), .val (.int (-1756908920 : Int32)), .val (.int (0 : Int32)), .val (.int (own_le b0 b1 b2 b3))]) d2_29 rfl rfl ?_
  refine s_iload X1 hx hby (n := 33) (x := (own_le b0 b1 b2 b3)) d2_31 rfl rfl ?_
  refine s_ldcI X1 hx hby hZ (n := 35) hown (hw _ (List.mem_of_getElem? (i := 10) rfl)) d2_33 rfl ?_
  refine s_imul X1 hx hby (n := 36) d2_35 rfl ?_
  refine s_istore X1 hx hby (n := 38) (L' := #[.val (.ref a), .val (.int (4 : Int32)), .val (.int (4 : Int32)), .val (.int (-1756908920 : Int32)), .val (.int (0 : Int32)), .val (.int ((own_le b0 b1 b2 b3) * (1540483477 : Int32)))]) d2_36 rfl rfl ?_
  refine s_iload X1 hx hby (n := 40) (x := ((own_le b0 b1 b2 b3) * (1540483477 : Int32))) d2_38 rfl rfl ?_
  refine s_iload X1 hx hby (n := 42) (x := ((own_le b0 b1 b2 b3) * (1540483477 : Int32))) d2_40 rfl rfl ?_
  refine s_bipush X1 hx hby (n := 44) (v := (24 : Int32)) d2_42 rfl rfl ?_
  refine s_iushr X1 hx hby (n := 45) d2_44 rfl ?_
  refine s_ixor X1 hx hby (n := 46) d2_45 rfl ?_
  refine s_istore X1 hx hby (n := 48) (L' := #[.val (.ref a), .val (.int (4 : Int32)), .val (.int (4 : Int32)), .val (.int (-1756908920 : Int32)), .val (.int (0 : Int32)), .val (.int (((own_le b0 b1 b2 b3) * (1540483477 : Int32)) ^^^ (XT.ushr ((own_le b0 b1 b2 b3) * (1540483477 : Int32)) (24 : Int32))))]) d2_46 rfl rfl ?_
  refine s_iload X1 hx hby (n := 50) (x := (((own_le b0 b1 b2 b3) * (1540483477 : Int32)) ^^^ (XT.ushr ((own_le b0 b1 b2 b3) * (1540483477 : Int32)) (24 : Int32)))) d2_48 rfl rfl ?_
  refine s_ldcI X1 hx hby hZ (n := 52) hown (hw _ (List.mem_of_getElem? (i := 10) rfl)) d2_50 rfl ?_
  refine s_imul X1 hx hby (n := 53) d2_52 rfl ?_
  refine s_istore X1 hx hby (n := 55) (L' := #[.val (.ref a), .val (.int (4 : Int32)), .val (.int (4 : Int32)), .val (.int (-1756908920 : Int32)), .val (.int (0 : Int32)), .val (.int ((((own_le b0 b1 b2 b3) * (1540483477 : Int32)) ^^^ (XT.ushr ((own_le b0 b1 b2 b3) * (1540483477 : Int32)) (24 : Int32))) * (1540483477 : Int32)))]) d2_53 rfl rfl ?_
  refine s_iloadN X1 hx hby (n := 56) (x := (-1756908920 : Int32)) d2_55 rfl rfl ?_
  refine s_ldcI X1 hx hby hZ (n := 58) hown (hw _ (List.mem_of_getElem? (i := 10) rfl)) d2_56 rfl ?_
  refine s_imul X1 hx hby (n := 59) d2_58 rfl ?_
  refine s_istoreN X1 hx hby (n := 60) (L' := #[.val (.ref a), .val (.int (4 : Int32)), .val (.int (4 : Int32)), .val (.int ((-1756908920 : Int32) * (1540483477 : Int32))), .val (.int (0 : Int32)), .val (.int ((((own_le b0 b1 b2 b3) * (1540483477 : Int32)) ^^^ (XT.ushr ((own_le b0 b1 b2 b3) * (1540483477 : Int32)) (24 : Int32))) * (1540483477 : Int32)))]) d2_59 rfl rfl ?_
  refine s_iloadN X1 hx hby (n := 61) (x := ((-1756908920 : Int32) * (1540483477 : Int32))) d2_60 rfl rfl ?_
  refine s_iload X1 hx hby (n := 63) (x := ((((own_le b0 b1 b2 b3) * (1540483477 : Int32)) ^^^ (XT.ushr ((own_le b0 b1 b2 b3) * (1540483477 : Int32)) (24 : Int32))) * (1540483477 : Int32))) d2_61 rfl rfl ?_
  refine s_ixor X1 hx hby (n := 64) d2_63 rfl ?_
  refine s_fold (z := (own_stp (-1756908920 : Int32) (own_le b0 b1 b2 b3))) rfl ?_
  refine s_istoreN X1 hx hby (n := 65) (L' := #[.val (.ref a), .val (.int (4 : Int32)), .val (.int (4 : Int32)), .val (.int (own_stp (-1756908920 : Int32) (own_le b0 b1 b2 b3))), .val (.int (0 : Int32)), .val (.int ((((own_le b0 b1 b2 b3) * (1540483477 : Int32)) ^^^ (XT.ushr ((own_le b0 b1 b2 b3) * (1540483477 : Int32)) (24 : Int32))) * (1540483477 : Int32)))]) d2_64 rfl rfl ?_
  refine s_iincC X1 hx hby (n := 68) (v := (4 : Int32)) (x := (0 : Int32)) (z := (4 : Int32)) (L' := #[.val (.ref a), .val (.int (4 : Int32)), .val (.int (4 : Int32)), .val (.int (own_stp (-1756908920 : Int32) (own_le b0 b1 b2 b3))), .val (.int (4 : Int32)), .val (.int ((((own_le b0 b1 b2 b3) * (1540483477 : Int32)) ^^^ (XT.ushr ((own_le b0 b1 b2 b3) * (1540483477 : Int32)) (24 : Int32))) * (1540483477 : Int32)))]) d2_65 rfl rfl (by decide) rfl rfl ?_
  refine s_goto X1 hx hby (n := 17) d2_68 (by decide) (by decide) ?_
  refine s_iload X1 hx hby (n := 19) (x := (4 : Int32)) d2_17 rfl rfl ?_
  refine s_iloadN X1 hx hby (n := 20) (x := (4 : Int32)) d2_19 rfl rfl ?_
  refine s_icmpY X1 hx hby (n := 71) d2_20 (by decide) (by decide) (by decide) ?_
  refine s_iloadN X1 hx hby (n := 72) (x := (4 : Int32)) d2_71 rfl rfl ?_
  refine s_iloadN X1 hx hby (n := 73) (x := (4 : Int32)) d2_72 rfl rfl ?_
  refine s_icmpY X1 hx hby (n := 115) d2_73 (by decide) (by decide) (by decide) ?_
  refine s_iloadN X1 hx hby (n := 116) (x := (own_stp (-1756908920 : Int32) (own_le b0 b1 b2 b3))) d2_115 rfl rfl ?_
  refine s_iloadN X1 hx hby (n := 117) (x := (own_stp (-1756908920 : Int32) (own_le b0 b1 b2 b3))) d2_116 rfl rfl ?_
  refine s_bipush X1 hx hby (n := 119) (v := (13 : Int32)) d2_117 rfl rfl ?_
  refine s_iushr X1 hx hby (n := 120) d2_119 rfl ?_
  refine s_ixor X1 hx hby (n := 121) d2_120 rfl ?_
  refine s_fold (z := (own_x13 (own_stp (-1756908920 : Int32) (own_le b0 b1 b2 b3)))) rfl ?_
  refine s_istoreN X1 hx hby (n := 122) (L' := #[.val (.ref a), .val (.int (4 : Int32)), .val (.int (4 : Int32)), .val (.int (own_x13 (own_stp (-1756908920 : Int32) (own_le b0 b1 b2 b3)))), .val (.int (4 : Int32)), .val (.int ((((own_le b0 b1 b2 b3) * (1540483477 : Int32)) ^^^ (XT.ushr ((own_le b0 b1 b2 b3) * (1540483477 : Int32)) (24 : Int32))) * (1540483477 : Int32)))]) d2_121 rfl rfl ?_
  refine s_iloadN X1 hx hby (n := 123) (x := (own_x13 (own_stp (-1756908920 : Int32) (own_le b0 b1 b2 b3)))) d2_122 rfl rfl ?_
  refine s_ldcI X1 hx hby hZ (n := 125) hown (hw _ (List.mem_of_getElem? (i := 10) rfl)) d2_123 rfl ?_
  refine s_imul X1 hx hby (n := 126) d2_125 rfl ?_
  refine s_istoreN X1 hx hby (n := 127) (L' := #[.val (.ref a), .val (.int (4 : Int32)), .val (.int (4 : Int32)), .val (.int ((own_x13 (own_stp (-1756908920 : Int32) (own_le b0 b1 b2 b3))) * (1540483477 : Int32))), .val (.int (4 : Int32)), .val (.int ((((own_le b0 b1 b2 b3) * (1540483477 : Int32)) ^^^ (XT.ushr ((own_le b0 b1 b2 b3) * (1540483477 : Int32)) (24 : Int32))) * (1540483477 : Int32)))]) d2_126 rfl rfl ?_
  refine s_iloadN X1 hx hby (n := 128) (x := ((own_x13 (own_stp (-1756908920 : Int32) (own_le b0 b1 b2 b3))) * (1540483477 : Int32))) d2_127 rfl rfl ?_
  refine s_iloadN X1 hx hby (n := 129) (x := ((own_x13 (own_stp (-1756908920 : Int32) (own_le b0 b1 b2 b3))) * (1540483477 : Int32))) d2_128 rfl rfl ?_
  refine s_bipush X1 hx hby (n := 131) (v := (15 : Int32)) d2_129 rfl rfl ?_
  refine s_iushr X1 hx hby (n := 132) d2_131 rfl ?_
  refine s_ixor X1 hx hby (n := 133) d2_132 rfl ?_
  refine s_fold (z := (own_x15 ((own_x13 (own_stp (-1756908920 : Int32) (own_le b0 b1 b2 b3))) * (1540483477 : Int32)))) rfl ?_
  refine s_istoreN X1 hx hby (n := 134) (L' := #[.val (.ref a), .val (.int (4 : Int32)), .val (.int (4 : Int32)), .val (.int (own_x15 ((own_x13 (own_stp (-1756908920 : Int32) (own_le b0 b1 b2 b3))) * (1540483477 : Int32)))), .val (.int (4 : Int32)), .val (.int ((((own_le b0 b1 b2 b3) * (1540483477 : Int32)) ^^^ (XT.ushr ((own_le b0 b1 b2 b3) * (1540483477 : Int32)) (24 : Int32))) * (1540483477 : Int32)))]) d2_133 rfl rfl ?_
  refine s_iloadN X1 hx hby (n := 135) (x := (own_x15 ((own_x13 (own_stp (-1756908920 : Int32) (own_le b0 b1 b2 b3))) * (1540483477 : Int32)))) d2_134 rfl rfl ?_
  exact s_retI X1 hx hby hlk hret d2_135 (by decide) (by decide) ⟨rfl, e1, M1⟩
set_option maxRecDepth 65536 in
set_option maxHeartbeats 40000000 in
theorem rmH6 (l : Launch) (Z : State) (a0 : Array Value) (hw : ∀ d ∈ tables_1, d.before a0 Z = true) (a : Addr) (cl : Cell) (b0 b1 b2 b3 b4 b5 : Int32) (h0 : Heap) (n0 : Nat) (Ar : Arr Z h0 a cl .byte) (Sz : cl.slots.size = (6 : Int32).toNatClampNeg) (B0 : cl.slots[0]? = some (.int b0)) (B1 : cl.slots[1]? = some (.int b1)) (B2 : cl.slots[2]? = some (.int b2)) (B3 : cl.slots[3]? = some (.int b3)) (B4 : cl.slots[4]? = some (.int b4)) (B5 : cl.slots[5]? = some (.int b5)) :
    OCon l Z (⟨"com/example/ucoord/ucoord/partition/KeyPartitioner", "murmur2", "([B)I"⟩ : MethodName) prog_42_method_3_code 6 (some (.int)) [] ({ frames := 1, cells := 0, slots := 0, locals := 13 } : Room) #[(.ref a)] h0 (fun v h L => v = some (.int (own_x15 ((own_x13 ((((own_stp (-1756908918 : Int32) (own_le b0 b1 b2 b3)) ^^^ ((b4 &&& (255 : Int32)) <<< ((0 : Int32) &&& 31))) ^^^ ((b5 &&& (255 : Int32)) <<< ((8 : Int32) &&& 31))) * (1540483477 : Int32))) * (1540483477 : Int32)))) ∧ h = h0 ∧ Fr n0 L) := by
  refine con (plainFor_of_name pn1) ?_
  intro p e s m below meth c s₁ hx hby hml hZ hown hnm hret hlk X0 e0
  refine entry (efH m a) ?_
  have M0 := Fr.nil n0
  refine s_aloadN X0 hx hby (n := 1) (x := (.ref a)) d2_0 rfl rfl rfl ?_
  refine s_arraylength X0 hx hby hZ (n := 2) e0 Ar (z := (6 : Int32)) Sz (by decide) d2_1 rfl ?_
  refine s_istoreN X0 hx hby (n := 3) (L' := #[.val (.ref a), .val (.int (6 : Int32)), .unset, .unset, .unset, .unset]) d2_2 rfl rfl ?_
  refine s_iloadN X0 hx hby (n := 4) (x := (6 : Int32)) d2_3 rfl rfl ?_
  refine s_iloadN X0 hx hby (n := 5) (x := (6 : Int32)) d2_4 rfl rfl ?_
  refine s_iconst X0 hx hby (n := 6) (v := (4 : Int32)) d2_5 rfl rfl ?_
  refine s_irem X0 hx hby (n := 7) d2_6 (by decide) rfl ?_
  refine s_fold (z := (2 : Int32)) (by decide) ?_
  refine s_isub X0 hx hby (n := 8) d2_7 rfl ?_
  refine s_fold (z := (4 : Int32)) (by decide) ?_
  refine s_istoreN X0 hx hby (n := 9) (L' := #[.val (.ref a), .val (.int (6 : Int32)), .val (.int (4 : Int32)), .unset, .unset, .unset]) d2_8 rfl rfl ?_
  refine s_ldcI X0 hx hby hZ (n := 11) hown (hw _ (List.mem_of_getElem? (i := 9) rfl)) d2_9 rfl ?_
  refine s_iloadN X0 hx hby (n := 12) (x := (6 : Int32)) d2_11 rfl rfl ?_
  refine s_ixor X0 hx hby (n := 13) d2_12 rfl ?_
  refine s_fold (z := (-1756908918 : Int32)) (by decide) ?_
  refine s_istoreN X0 hx hby (n := 14) (L' := #[.val (.ref a), .val (.int (6 : Int32)), .val (.int (4 : Int32)), .val (.int (-1756908918 : Int32)), .unset, .unset]) d2_13 rfl rfl ?_
  refine s_iconst X0 hx hby (n := 15) (v := (0 : Int32)) d2_14 rfl rfl ?_
  refine s_istore X0 hx hby (n := 17) (L' := #[.val (.ref a), .val (.int (6 : Int32)), .val (.int (4 : Int32)), .val (.int (-1756908918 : Int32)), .val (.int (0 : Int32)), .unset]) d2_15 rfl rfl ?_
  refine s_iload X0 hx hby (n := 19) (x := (0 : Int32)) d2_17 rfl rfl ?_
  refine s_iloadN X0 hx hby (n := 20) (x := (4 : Int32)) d2_19 rfl rfl ?_
  refine s_icmpN X0 hx hby (n := 23) d2_20 (by decide) rfl ?_
  refine s_aloadN X0 hx hby (n := 24) (x := (.ref a)) d2_23 rfl rfl rfl ?_
  refine s_iload X0 hx hby (n := 26) (x := (0 : Int32)) d2_24 rfl rfl ?_
  refine s_callS X0 hx hby hml hZ (n := 29) hown (hw _ (List.mem_of_getElem? (i := 13) rfl)) (hw _ (List.mem_of_getElem? (i := 14) rfl)) (hw _ (List.mem_of_getElem? (i := 7) rfl)) (hw _ (List.mem_of_getElem? (i := 15) rfl)) (by decide) (rmE l Z a0 hw a cl (0 : Int32) b0 b1 b2 b3 0 1 2 3 h0 n0 Ar (by decide) (by decide) (by rw [Sz]; decide) B0 (by decide) (by decide) (by rw [Sz]; decide) B1 (by decide) (by decide) (by rw [Sz]; decide) B2 (by decide) (by decide) (by rw [Sz]; decide) B3) e0 (by decide) 0 (by decide) (by decide) (by decide) pd_0 [(.ref a), (.int (0 : Int32))] [] rfl rfl rfl (Nat.le_of_eq rfl) rfl d2_26 rfl ?_
  intro T1 L1 v1 X1 q1c
  obtain ⟨rfl, e1, N1⟩ := q1c
  show OEnds p e below s _ _ _ T1 (mkF m 29 #[.val (.ref a), .val (.int (6 : Int32)), .val (.int (4 : Int32)), .val (.int (-1756908918 : Int32)), .val (.int (0 : Int32)), .unset] [(.int (own_le b0 b1 b2 b3))])
  have M1 := Fr.app M0 N1
  refine s_istore X1 hx hby (n := 31) (L' := #[.val (.ref a), .val (.int (6 : Int32)), .val (.int (4 : Int32)), .val (.int (-1756908918 : Int32)), .val (.int (0 : Int32)), .val (.int (own_le b0 b1 b2 b3))]) d2_29 rfl rfl ?_
  refine s_iload X1 hx hby (n := 33) (x := (own_le b0 b1 b2 b3)) d2_31 rfl rfl ?_
  refine s_ldcI X1 hx hby hZ (n := 35) hown (hw _ (List.mem_of_getElem? (i := 10) rfl)) d2_33 rfl ?_
  refine s_imul X1 hx hby (n := 36) d2_35 rfl ?_
  refine s_istore X1 hx hby (n := 38) (L' := #[.val (.ref a), .val (.int (6 : Int32)), .val (.int (4 : Int32)), .val (.int (-1756908918 : Int32)), .val (.int (0 : Int32)), .val (.int ((own_le b0 b1 b2 b3) * (1540483477 : Int32)))]) d2_36 rfl rfl ?_
  refine s_iload X1 hx hby (n := 40) (x := ((own_le b0 b1 b2 b3) * (1540483477 : Int32))) d2_38 rfl rfl ?_
  refine s_iload X1 hx hby (n := 42) (x := ((own_le b0 b1 b2 b3) * (1540483477 : Int32))) d2_40 rfl rfl ?_
  refine s_bipush X1 hx hby (n := 44) (v := (24 : Int32)) d2_42 rfl rfl ?_
  refine s_iushr X1 hx hby (n := 45) d2_44 rfl ?_
  refine s_ixor X1 hx hby (n := 46) d2_45 rfl ?_
  refine s_istore X1 hx hby (n := 48) (L' := #[.val (.ref a), .val (.int (6 : Int32)), .val (.int (4 : Int32)), .val (.int (-1756908918 : Int32)), .val (.int (0 : Int32)), .val (.int (((own_le b0 b1 b2 b3) * (1540483477 : Int32)) ^^^ (XT.ushr ((own_le b0 b1 b2 b3) * (1540483477 : Int32)) (24 : Int32))))]) d2_46 rfl rfl ?_
  refine s_iload X1 hx hby (n := 50) (x := (((own_le b0 b1 b2 b3) * (1540483477 : Int32)) ^^^ (XT.ushr ((own_le b0 b1 b2 b3) * (1540483477 : Int32)) (24 : Int32)))) d2_48 rfl rfl ?_
  refine s_ldcI X1 hx hby hZ (n := 52) hown (hw _ (List.mem_of_getElem? (i := 10) rfl)) d2_50 rfl ?_
  refine s_imul X1 hx hby (n := 53) d2_52 rfl ?_
  refine s_istore X1 hx hby (n := 55) (L' := #[.val (.ref a), .val (.int (6 : Int32)), .val (.int (4 : Int32)), .val (.int (-1756908918 : Int32)), .val (.int (0 : Int32)), .val (.int ((((own_le b0 b1 b2 b3) * (1540483477 : Int32)) ^^^ (XT.ushr ((own_le b0 b1 b2 b3) * (1540483477 : Int32)) (24 : Int32))) * (1540483477 : Int32)))]) d2_53 rfl rfl ?_
  refine s_iloadN X1 hx hby (n := 56) (x := (-1756908918 : Int32)) d2_55 rfl rfl ?_
  refine s_ldcI X1 hx hby hZ (n := 58) hown (hw _ (List.mem_of_getElem? (i := 10) rfl)) d2_56 rfl ?_
  refine s_imul X1 hx hby (n := 59) d2_58 rfl ?_
  refine s_istoreN X1 hx hby (n := 60) (L' := #[.val (.ref a), .val (.int (6 : Int32)), .val (.int (4 : Int32)), .val (.int ((-1756908918 : Int32) * (1540483477 : Int32))), .val (.int (0 : Int32)), .val (.int ((((own_le b0 b1 b2 b3) * (1540483477 : Int32)) ^^^ (XT.ushr ((own_le b0 b1 b2 b3) * (1540483477 : Int32)) (24 : Int32))) * (1540483477 : Int32)))]) d2_59 rfl rfl ?_
  refine s_iloadN X1 hx hby (n := 61) (x := ((-1756908918 : Int32) * (1540483477 : Int32))) d2_60 rfl rfl ?_
  refine s_iload X1 hx hby (n := 63) (x := ((((own_le b0 b1 b2 b3) * (1540483477 : Int32)) ^^^ (XT.ushr ((own_le b0 b1 b2 b3) * (1540483477 : Int32)) (24 : Int32))) * (1540483477 : Int32))) d2_61 rfl rfl ?_
  refine s_ixor X1 hx hby (n := 64) d2_63 rfl ?_
  refine s_fold (z := (own_stp (-1756908918 : Int32) (own_le b0 b1 b2 b3))) rfl ?_
  refine s_istoreN X1 hx hby (n := 65) (L' := #[.val (.ref a), .val (.int (6 : Int32)), .val (.int (4 : Int32)), .val (.int (own_stp (-1756908918 : Int32) (own_le b0 b1 b2 b3))), .val (.int (0 : Int32)), .val (.int ((((own_le b0 b1 b2 b3) * (1540483477 : Int32)) ^^^ (XT.ushr ((own_le b0 b1 b2 b3) * (1540483477 : Int32)) (24 : Int32))) * (1540483477 : Int32)))]) d2_64 rfl rfl ?_
  refine s_iincC X1 hx hby (n := 68) (v := (4 : Int32)) (x := (0 : Int32)) (z := (4 : Int32)) (L' := #[.val (.ref a), .val (.int (6 : Int32)), .val (.int (4 : Int32)), .val (.int (own_stp (-1756908918 : Int32) (own_le b0 b1 b2 b3))), .val (.int (4 : Int32)), .val (.int ((((own_le b0 b1 b2 b3) * (1540483477 : Int32)) ^^^ (XT.ushr ((own_le b0 b1 b2 b3) * (1540483477 : Int32)) (24 : Int32))) * (1540483477 : Int32)))]) d2_65 rfl rfl (by decide) rfl rfl ?_
  refine s_goto X1 hx hby (n := 17) d2_68 (by decide) (by decide) ?_
  refine s_iload X1 hx hby (n := 19) (x := (4 : Int32)) d2_17 rfl rfl ?_
  refine s_iloadN X1 hx hby (n := 20) (x := (4 : Int32)) d2_19 rfl rfl ?_
  refine s_icmpY X1 hx hby (n := 71) d2_20 (by decide) (by decide) (by decide) ?_
  refine s_iloadN X1 hx hby (n := 72) (x := (4 : Int32)) d2_71 rfl rfl ?_
  refine s_iloadN X1 hx hby (n := 73) (x := (6 : Int32)) d2_72 rfl rfl ?_
  refine s_icmpN X1 hx hby (n := 76) d2_73 (by decide) rfl ?_
  refine s_iloadN X1 hx hby (n := 77) (x := (4 : Int32)) d2_76 rfl rfl ?_
  refine s_istore X1 hx hby (n := 79) (L' := #[.val (.ref a), .val (.int (6 : Int32)), .val (.int (4 : Int32)), .val (.int (own_stp (-1756908918 : Int32) (own_le b0 b1 b2 b3))), .val (.int (4 : Int32)), .val (.int ((((own_le b0 b1 b2 b3) * (1540483477 : Int32)) ^^^ (XT.ushr ((own_le b0 b1 b2 b3) * (1540483477 : Int32)) (24 : Int32))) * (1540483477 : Int32)))]) d2_77 rfl rfl ?_
  refine s_iload X1 hx hby (n := 81) (x := (4 : Int32)) d2_79 rfl rfl ?_
  refine s_iloadN X1 hx hby (n := 82) (x := (6 : Int32)) d2_81 rfl rfl ?_
  refine s_icmpN X1 hx hby (n := 85) d2_82 (by decide) rfl ?_
  refine s_iloadN X1 hx hby (n := 86) (x := (own_stp (-1756908918 : Int32) (own_le b0 b1 b2 b3))) d2_85 rfl rfl ?_
  refine s_aloadN X1 hx hby (n := 87) (x := (.ref a)) d2_86 rfl rfl rfl ?_
  refine s_iload X1 hx hby (n := 89) (x := (4 : Int32)) d2_87 rfl rfl ?_
  refine s_baloadC X1 hx hby hZ (n := 90) e1 Ar 4 (by decide) (by decide) (by rw [Sz]; decide) B4 d2_89 rfl ?_
  refine s_sipush X1 hx hby (n := 93) (v := (255 : Int32)) d2_90 rfl rfl ?_
  refine s_iand X1 hx hby (n := 94) d2_93 rfl ?_
  refine s_bipush X1 hx hby (n := 96) (v := (8 : Int32)) d2_94 rfl rfl ?_
  refine s_iload X1 hx hby (n := 98) (x := (4 : Int32)) d2_96 rfl rfl ?_
  refine s_iloadN X1 hx hby (n := 99) (x := (4 : Int32)) d2_98 rfl rfl ?_
  refine s_isub X1 hx hby (n := 100) d2_99 rfl ?_
  refine s_fold (z := (0 : Int32)) (by decide) ?_
  refine s_imul X1 hx hby (n := 101) d2_100 rfl ?_
  refine s_fold (z := (0 : Int32)) (by decide) ?_
  refine s_ishl X1 hx hby (n := 102) d2_101 rfl ?_
  refine s_ixor X1 hx hby (n := 103) d2_102 rfl ?_
  refine s_istoreN X1 hx hby (n := 104) (L' := #[.val (.ref a), .val (.int (6 : Int32)), .val (.int (4 : Int32)), .val (.int ((own_stp (-1756908918 : Int32) (own_le b0 b1 b2 b3)) ^^^ ((b4 &&& (255 : Int32)) <<< ((0 : Int32) &&& 31)))), .val (.int (4 : Int32)), .val (.int ((((own_le b0 b1 b2 b3) * (1540483477 : Int32)) ^^^ (XT.ushr ((own_le b0 b1 b2 b3) * (1540483477 : Int32)) (24 : Int32))) * (1540483477 : Int32)))]) d2_103 rfl rfl ?_
  refine s_iincC X1 hx hby (n := 107) (v := (1 : Int32)) (x := (4 : Int32)) (z := (5 : Int32)) (L' := #[.val (.ref a), .val (.int (6 : Int32)), .val (.int (4 : Int32)), .val (.int ((own_stp (-1756908918 : Int32) (own_le b0 b1 b2 b3)) ^^^ ((b4 &&& (255 : Int32)) <<< ((0 : Int32) &&& 31)))), .val (.int (5 : Int32)), .val (.int ((((own_le b0 b1 b2 b3) * (1540483477 : Int32)) ^^^ (XT.ushr ((own_le b0 b1 b2 b3) * (1540483477 : Int32)) (24 : Int32))) * (1540483477 : Int32)))]) d2_104 rfl rfl (by decide) rfl rfl ?_
  refine s_goto X1 hx hby (n := 79) d2_107 (by decide) (by decide) ?_
  refine s_iload X1 hx hby (n := 81) (x := (5 : Int32)) d2_79 rfl rfl ?_
  refine s_iloadN X1 hx hby (n := 82) (x := (6 : Int32)) d2_81 rfl rfl ?_
  refine s_icmpN X1 hx hby (n := 85) d2_82 (by decide) rfl ?_
  refine s_iloadN X1 hx hby (n := 86) (x := ((own_stp (-1756908918 : Int32) (own_le b0 b1 b2 b3)) ^^^ ((b4 &&& (255 : Int32)) <<< ((0 : Int32) &&& 31)))) d2_85 rfl rfl ?_
  refine s_aloadN X1 hx hby (n := 87) (x := (.ref a)) d2_86 rfl rfl rfl ?_
  refine s_iload X1 hx hby (n := 89) (x := (5 : Int32)) d2_87 rfl rfl ?_
  refine s_baloadC X1 hx hby hZ (n := 90) e1 Ar 5 (by decide) (by decide) (by rw [Sz]; decide) B5 d2_89 rfl ?_
  refine s_sipush X1 hx hby (n := 93) (v := (255 : Int32)) d2_90 rfl rfl ?_
  refine s_iand X1 hx hby (n := 94) d2_93 rfl ?_
  refine s_bipush X1 hx hby (n := 96) (v := (8 : Int32)) d2_94 rfl rfl ?_
  refine s_iload X1 hx hby (n := 98) (x := (5 : Int32)) d2_96 rfl rfl ?_
  refine s_iloadN X1 hx hby (n := 99) (x := (4 : Int32)) d2_98 rfl rfl ?_
  refine s_isub X1 hx hby (n := 100) d2_99 rfl ?_
  refine s_fold (z := (1 : Int32)) (by decide) ?_
  refine s_imul X1 hx hby (n := 101) d2_100 rfl ?_
  refine s_fold (z := (8 : Int32)) (by decide) ?_
  refine s_ishl X1 hx hby (n := 102) d2_101 rfl ?_
  refine s_ixor X1 hx hby (n := 103) d2_102 rfl ?_
  refine s_istoreN X1 hx hby (n := 104) (L' := #[.val (.ref a), .val (.int (6 : Int32)), .val (.int (4 : Int32)), .val (.int (((own_stp (-1756908918 : Int32) (own_le b0 b1 b2 b3)) ^^^ ((b4 &&& (255 : Int32)) <<< ((0 : Int32) &&& 31))) ^^^ ((b5 &&& (255 : Int32)) <<< ((8 : Int32) &&& 31)))), .val (.int (5 : Int32)), .val (.int ((((own_le b0 b1 b2 b3) * (1540483477 : Int32)) ^^^ (XT.ushr ((own_le b0 b1 b2 b3) * (1540483477 : Int32)) (24 : Int32))) * (1540483477 : Int32)))]) d2_103 rfl rfl ?_
  refine s_iincC X1 hx hby (n := 107) (v := (1 : Int32)) (x := (5 : Int32)) (z := (6 : Int32)) (L' := #[.val (.ref a), .val (.int (6 : Int32)), .val (.int (4 : Int32)), .val (.int (((own_stp (-1756908918 : Int32) (own_le b0 b1 b2 b3)) ^^^ ((b4 &&& (255 : Int32)) <<< ((0 : Int32) &&& 31))) ^^^ ((b5 &&& (255 : Int32)) <<< ((8 : Int32) &&& 31)))), .val (.int (6 : Int32)), .val (.int ((((own_le b0 b1 b2 b3) * (1540483477 : Int32)) ^^^ (XT.ushr ((own_le b0 b1 b2 b3) * (1540483477 : Int32)) (24 : Int32))) * (1540483477 : Int32)))]) d2_104 rfl rfl (by decide) rfl rfl ?_
  refine s_goto X1 hx hby (n := 79) d2_107 (by decide) (by decide) ?_
  refine s_iload X1 hx hby (n := 81) (x := (6 : Int32)) d2_79 rfl rfl ?_
  refine s_iloadN X1 hx hby (n := 82) (x := (6 : Int32)) d2_81 rfl rfl ?_
  refine s_icmpY X1 hx hby (n := 110) d2_82 (by decide) (by decide) (by decide) ?_
  refine s_iloadN X1 hx hby (n := 111) (x := (((own_stp (-1756908918 : Int32) (own_le b0 b1 b2 b3)) ^^^ ((b4 &&& (255 : Int32)) <<< ((0 : Int32) &&& 31))) ^^^ ((b5 &&& (255 : Int32)) <<< ((8 : Int32) &&& 31)))) d2_110 rfl rfl ?_
  refine s_ldcI X1 hx hby hZ (n := 113) hown (hw _ (List.mem_of_getElem? (i := 10) rfl)) d2_111 rfl ?_
  refine s_imul X1 hx hby (n := 114) d2_113 rfl ?_
  refine s_istoreN X1 hx hby (n := 115) (L' := #[.val (.ref a), .val (.int (6 : Int32)), .val (.int (4 : Int32)), .val (.int ((((own_stp (-1756908918 : Int32) (own_le b0 b1 b2 b3)) ^^^ ((b4 &&& (255 : Int32)) <<< ((0 : Int32) &&& 31))) ^^^ ((b5 &&& (255 : Int32)) <<< ((8 : Int32) &&& 31))) * (1540483477 : Int32))), .val (.int (6 : Int32)), .val (.int ((((own_le b0 b1 b2 b3) * (1540483477 : Int32)) ^^^ (XT.ushr ((own_le b0 b1 b2 b3) * (1540483477 : Int32)) (24 : Int32))) * (1540483477 : Int32)))]) d2_114 rfl rfl ?_
  refine s_iloadN X1 hx hby (n := 116) (x := ((((own_stp (-1756908918 : Int32) (own_le b0 b1 b2 b3)) ^^^ ((b4 &&& (255 : Int32)) <<< ((0 : Int32) &&& 31))) ^^^ ((b5 &&& (255 : Int32)) <<< ((8 : Int32) &&& 31))) * (1540483477 : Int32))) d2_115 rfl rfl ?_
  refine s_iloadN X1 hx hby (n := 117) (x := ((((own_stp (-1756908918 : Int32) (own_le b0 b1 b2 b3)) ^^^ ((b4 &&& (255 : Int32)) <<< ((0 : Int32) &&& 31))) ^^^ ((b5 &&& (255 : Int32)) <<< ((8 : Int32) &&& 31))) * (1540483477 : Int32))) d2_116 rfl rfl ?_
  refine s_bipush X1 hx hby (n := 119) (v := (13 : Int32)) d2_117 rfl rfl ?_
  refine s_iushr X1 hx hby (n := 120) d2_119 rfl ?_
  refine s_ixor X1 hx hby (n := 121) d2_120 rfl ?_
  refine s_fold (z := (own_x13 ((((own_stp (-1756908918 : Int32) (own_le b0 b1 b2 b3)) ^^^ ((b4 &&& (255 : Int32)) <<< ((0 : Int32) &&& 31))) ^^^ ((b5 &&& (255 : Int32)) <<< ((8 : Int32) &&& 31))) * (1540483477 : Int32)))) rfl ?_
  refine s_istoreN X1 hx hby (n := 122) (L' := #[.val (.ref a), .val (.int (6 : Int32)), .val (.int (4 : Int32)), .val (.int (own_x13 ((((own_stp (-1756908918 : Int32) (own_le b0 b1 b2 b3)) ^^^ ((b4 &&& (255 : Int32)) <<< ((0 : Int32) &&& 31))) ^^^ ((b5 &&& (255 : Int32)) <<< ((8 : Int32) &&& 31))) * (1540483477 : Int32)))), .val (.int (6 : Int32)), .val (.int ((((own_le b0 b1 b2 b3) * (1540483477 : Int32)) ^^^ (XT.ushr ((own_le b0 b1 b2 b3) * (1540483477 : Int32)) (24 : Int32))) * (1540483477 : Int32)))]) d2_121 rfl rfl ?_
  refine s_iloadN X1 hx hby (n := 123) (x := (own_x13 ((((own_stp (-1756908918 : Int32) (own_le b0 b1 b2 b3)) ^^^ ((b4 &&& (255 : Int32)) <<< ((0 : Int32) &&& 31))) ^^^ ((b5 &&& (255 : Int32)) <<< ((8 : Int32) &&& 31))) * (1540483477 : Int32)))) d2_122 rfl rfl ?_
  refine s_ldcI X1 hx hby hZ (n := 125) hown (hw _ (List.mem_of_getElem? (i := 10) rfl)) d2_123 rfl ?_
  refine s_imul X1 hx hby (n := 126) d2_125 rfl ?_
  refine s_istoreN X1 hx hby (n := 127) (L' := #[.val (.ref a), .val (.int (6 : Int32)), .val (.int (4 : Int32)), .val (.int ((own_x13 ((((own_stp (-1756908918 : Int32) (own_le b0 b1 b2 b3)) ^^^ ((b4 &&& (255 : Int32)) <<< ((0 : Int32) &&& 31))) ^^^ ((b5 &&& (255 : Int32)) <<< ((8 : Int32) &&& 31))) * (1540483477 : Int32))) * (1540483477 : Int32))), .val (.int (6 : Int32)), .val (.int ((((own_le b0 b1 b2 b3) * (1540483477 : Int32)) ^^^ (XT.ushr ((own_le b0 b1 b2 b3) * (1540483477 : Int32)) (24 : Int32))) * (1540483477 : Int32)))]) d2_126 rfl rfl ?_
  refine s_iloadN X1 hx hby (n := 128) (x := ((own_x13 ((((own_stp (-1756908918 : Int32) (own_le b0 b1 b2 b3)) ^^^ ((b4 &&& (255 : Int32)) <<< ((0 : Int32) &&& 31))) ^^^ ((b5 &&& (255 : Int32)) <<< ((8 : Int32) &&& 31))) * (1540483477 : Int32))) * (1540483477 : Int32))) d2_127 rfl rfl ?_
  refine s_iloadN X1 hx hby (n := 129) (x := ((own_x13 ((((own_stp (-1756908918 : Int32) (own_le b0 b1 b2 b3)) ^^^ ((b4 &&& (255 : Int32)) <<< ((0 : Int32) &&& 31))) ^^^ ((b5 &&& (255 : Int32)) <<< ((8 : Int32) &&& 31))) * (1540483477 : Int32))) * (1540483477 : Int32))) d2_128 rfl rfl ?_
  refine s_bipush X1 hx hby (n := 131) (v := (15 : Int32)) d2_129 rfl rfl ?_
  refine s_iushr X1 hx hby (n := 132) d2_131 rfl ?_
  refine s_ixor X1 hx hby (n := 133) d2_132 rfl ?_
  refine s_fold (z := (own_x15 ((own_x13 ((((own_stp (-1756908918 : Int32) (own_le b0 b1 b2 b3)) ^^^ ((b4 &&& (255 : Int32)) <<< ((0 : Int32) &&& 31))) ^^^ ((b5 &&& (255 : Int32)) <<< ((8 : Int32) &&& 31))) * (1540483477 : Int32))) * (1540483477 : Int32)))) rfl ?_
  refine s_istoreN X1 hx hby (n := 134) (L' := #[.val (.ref a), .val (.int (6 : Int32)), .val (.int (4 : Int32)), .val (.int (own_x15 ((own_x13 ((((own_stp (-1756908918 : Int32) (own_le b0 b1 b2 b3)) ^^^ ((b4 &&& (255 : Int32)) <<< ((0 : Int32) &&& 31))) ^^^ ((b5 &&& (255 : Int32)) <<< ((8 : Int32) &&& 31))) * (1540483477 : Int32))) * (1540483477 : Int32)))), .val (.int (6 : Int32)), .val (.int ((((own_le b0 b1 b2 b3) * (1540483477 : Int32)) ^^^ (XT.ushr ((own_le b0 b1 b2 b3) * (1540483477 : Int32)) (24 : Int32))) * (1540483477 : Int32)))]) d2_133 rfl rfl ?_
  refine s_iloadN X1 hx hby (n := 135) (x := (own_x15 ((own_x13 ((((own_stp (-1756908918 : Int32) (own_le b0 b1 b2 b3)) ^^^ ((b4 &&& (255 : Int32)) <<< ((0 : Int32) &&& 31))) ^^^ ((b5 &&& (255 : Int32)) <<< ((8 : Int32) &&& 31))) * (1540483477 : Int32))) * (1540483477 : Int32)))) d2_134 rfl rfl ?_
  exact s_retI X1 hx hby hlk hret d2_135 (by decide) (by decide) ⟨rfl, e1, M1⟩
set_option maxRecDepth 65536 in
set_option maxHeartbeats 40000000 in
theorem rmH24 (l : Launch) (Z : State) (a0 : Array Value) (hw : ∀ d ∈ tables_1, d.before a0 Z = true) (a : Addr) (cl : Cell) (b0 b1 b2 b3 b4 b5 b6 b7 b8 b9 b10 b11 b12 b13 b14 b15 b16 b17 b18 b19 b20 b21 b22 b23 : Int32) (h0 : Heap) (n0 : Nat) (Ar : Arr Z h0 a cl .byte) (Sz : cl.slots.size = (24 : Int32).toNatClampNeg) (B0 : cl.slots[0]? = some (.int b0)) (B1 : cl.slots[1]? = some (.int b1)) (B2 : cl.slots[2]? = some (.int b2)) (B3 : cl.slots[3]? = some (.int b3)) (B4 : cl.slots[4]? = some (.int b4)) (B5 : cl.slots[5]? = some (.int b5)) (B6 : cl.slots[6]? = some (.int b6)) (B7 : cl.slots[7]? = some (.int b7)) (B8 : cl.slots[8]? = some (.int b8)) (B9 : cl.slots[9]? = some (.int b9)) (B10 : cl.slots[10]? = some (.int b10)) (B11 : cl.slots[11]? = some (.int b11)) (B12 : cl.slots[12]? = some (.int b12)) (B13 : cl.slots[13]? = some (.int b13)) (B14 : cl.slots[14]? = some (.int b14)) (B15 : cl.slots[15]? = some (.int b15)) (B16 : cl.slots[16]? = some (.int b16)) (B17 : cl.slots[17]? = some (.int b17)) (B18 : cl.slots[18]? = some (.int b18)) (B19 : cl.slots[19]? = some (.int b19)) (B20 : cl.slots[20]? = some (.int b20)) (B21 : cl.slots[21]? = some (.int b21)) (B22 : cl.slots[22]? = some (.int b22)) (B23 : cl.slots[23]? = some (.int b23)) :
    OCon l Z (⟨"com/example/ucoord/ucoord/partition/KeyPartitioner", "murmur2", "([B)I"⟩ : MethodName) prog_42_method_3_code 6 (some (.int)) [] ({ frames := 1, cells := 0, slots := 0, locals := 13 } : Room) #[(.ref a)] h0 (fun v h L => v = some (.int (own_x15 ((own_x13 (own_stp (own_stp (own_stp (own_stp (own_stp (own_stp (-1756908908 : Int32) (own_le b0 b1 b2 b3)) (own_le b4 b5 b6 b7)) (own_le b8 b9 b10 b11)) (own_le b12 b13 b14 b15)) (own_le b16 b17 b18 b19)) (own_le b20 b21 b22 b23))) * (1540483477 : Int32)))) ∧ h = h0 ∧ Fr n0 L) := by
  refine con (plainFor_of_name pn1) ?_
  intro p e s m below meth c s₁ hx hby hml hZ hown hnm hret hlk X0 e0
  refine entry (efH m a) ?_
  have M0 := Fr.nil n0
  refine s_aloadN X0 hx hby (n := 1) (x := (.ref a)) d2_0 rfl rfl rfl ?_
  refine s_arraylength X0 hx hby hZ (n := 2) e0 Ar (z := (24 : Int32)) Sz (by decide) d2_1 rfl ?_
  refine s_istoreN X0 hx hby (n := 3) (L' := #[.val (.ref a), .val (.int (24 : Int32)), .unset, .unset, .unset, .unset]) d2_2 rfl rfl ?_
  refine s_iloadN X0 hx hby (n := 4) (x := (24 : Int32)) d2_3 rfl rfl ?_
  refine s_iloadN X0 hx hby (n := 5) (x := (24 : Int32)) d2_4 rfl rfl ?_
  refine s_iconst X0 hx hby (n := 6) (v := (4 : Int32)) d2_5 rfl rfl ?_
  refine s_irem X0 hx hby (n := 7) d2_6 (by decide) rfl ?_
  refine s_fold (z := (0 : Int32)) (by decide) ?_
  refine s_isub X0 hx hby (n := 8) d2_7 rfl ?_
  refine s_fold (z := (24 : Int32)) (by decide) ?_
  refine s_istoreN X0 hx hby (n := 9) (L' := #[.val (.ref a), .val (.int (24 : Int32)), .val (.int (24 : Int32)), .unset, .unset, .unset]) d2_8 rfl rfl ?_
  refine s_ldcI X0 hx hby hZ (n := 11) hown (hw _ (List.mem_of_getElem? (i := 9) rfl)) d2_9 rfl ?_
  refine s_iloadN X0 hx hby (n := 12) (x := (24 : Int32)) d2_11 rfl rfl ?_
  refine s_ixor X0 hx hby (n := 13) d2_12 rfl ?_
  refine s_fold (z := (-1756908908 : Int32)) (by decide) ?_
  refine s_istoreN X0 hx hby (n := 14) (L' := #[.val (.ref a), .val (.int (24 : Int32)), .val (.int (24 : Int32)), .val (.int (-1756908908 : Int32)), .unset, .unset]) d2_13 rfl rfl ?_
  refine s_iconst X0 hx hby (n := 15) (v := (0 : Int32)) d2_14 rfl rfl ?_
  refine s_istore X0 hx hby (n := 17) (L' := #[.val (.ref a), .val (.int (24 : Int32)), .val (.int (24 : Int32)), .val (.int (-1756908908 : Int32)), .val (.int (0 : Int32)), .unset]) d2_15 rfl rfl ?_
  refine s_iload X0 hx hby (n := 19) (x := (0 : Int32)) d2_17 rfl rfl ?_
  refine s_iloadN X0 hx hby (n := 20) (x := (24 : Int32)) d2_19 rfl rfl ?_
  refine s_icmpN X0 hx hby (n := 23) d2_20 (by decide) rfl ?_
  refine s_aloadN X0 hx hby (n := 24) (x := (.ref a)) d2_23 rfl rfl rfl ?_
  refine s_iload X0 hx hby (n := 26) (x := (0 : Int32)) d2_24 rfl rfl ?_
  refine s_callS X0 hx hby hml hZ (n := 29) hown (hw _ (List.mem_of_getElem? (i := 13) rfl)) (hw _ (List.mem_of_getElem? (i := 14) rfl)) (hw _ (List.mem_of_getElem? (i := 7) rfl)) (hw _ (List.mem_of_getElem? (i := 15) rfl)) (by decide) (rmE l Z a0 hw a cl (0 : Int32) b0 b1 b2 b3 0 1 2 3 h0 n0 Ar (by decide) (by decide) (by rw [Sz]; decide) B0 (by decide) (by decide) (by rw [Sz]; decide) B1 (by decide) (by decide) (by rw [Sz]; decide) B2 (by decide) (by decide) (by rw [Sz]; decide) B3) e0 (by decide) 0 (by decide) (by decide) (by decide) pd_0 [(.ref a), (.int (0 : Int32))] [] rfl rfl rfl (Nat.le_of_eq rfl) rfl d2_26 rfl ?_
  intro T1 L1 v1 X1 q1c
  obtain ⟨rfl, e1, N1⟩ := q1c
  show OEnds p e below s _ _ _ T1 (mkF m 29 #[.val (.ref a), .val (.int (24 : Int32)), .val (.int (24 : Int32)), .val (.int (-1756908908 : Int32)), .val (.int (0 : Int32)), .unset] [(.int (own_le b0 b1 b2 b3))])
  have M1 := Fr.app M0 N1
  refine s_istore X1 hx hby (n := 31) (L' := #[.val (.ref a), .val (.int (24 : Int32)), .val (.int (24 : Int32)), .val (.int (-1756908908 : Int32)), .val (.int (0 : Int32)), .val (.int (own_le b0 b1 b2 b3))]) d2_29 rfl rfl ?_
  refine s_iload X1 hx hby (n := 33) (x := (own_le b0 b1 b2 b3)) d2_31 rfl rfl ?_
  refine s_ldcI X1 hx hby hZ (n := 35) hown (hw _ (List.mem_of_getElem? (i := 10) rfl)) d2_33 rfl ?_
  refine s_imul X1 hx hby (n := 36) d2_35 rfl ?_
  refine s_istore X1 hx hby (n := 38) (L' := #[.val (.ref a), .val (.int (24 : Int32)), .val (.int (24 : Int32)), .val (.int (-1756908908 : Int32)), .val (.int (0 : Int32)), .val (.int ((own_le b0 b1 b2 b3) * (1540483477 : Int32)))]) d2_36 rfl rfl ?_
  refine s_iload X1 hx hby (n := 40) (x := ((own_le b0 b1 b2 b3) * (1540483477 : Int32))) d2_38 rfl rfl ?_
  refine s_iload X1 hx hby (n := 42) (x := ((own_le b0 b1 b2 b3) * (1540483477 : Int32))) d2_40 rfl rfl ?_
  refine s_bipush X1 hx hby (n := 44) (v := (24 : Int32)) d2_42 rfl rfl ?_
  refine s_iushr X1 hx hby (n := 45) d2_44 rfl ?_
  refine s_ixor X1 hx hby (n := 46) d2_45 rfl ?_
  refine s_istore X1 hx hby (n := 48) (L' := #[.val (.ref a), .val (.int (24 : Int32)), .val (.int (24 : Int32)), .val (.int (-1756908908 : Int32)), .val (.int (0 : Int32)), .val (.int (((own_le b0 b1 b2 b3) * (1540483477 : Int32)) ^^^ (XT.ushr ((own_le b0 b1 b2 b3) * (1540483477 : Int32)) (24 : Int32))))]) d2_46 rfl rfl ?_
  refine s_iload X1 hx hby (n := 50) (x := (((own_le b0 b1 b2 b3) * (1540483477 : Int32)) ^^^ (XT.ushr ((own_le b0 b1 b2 b3) * (1540483477 : Int32)) (24 : Int32)))) d2_48 rfl rfl ?_
  refine s_ldcI X1 hx hby hZ (n := 52) hown (hw _ (List.mem_of_getElem? (i := 10) rfl)) d2_50 rfl ?_
  refine s_imul X1 hx hby (n := 53) d2_52 rfl ?_
  refine s_istore X1 hx hby (n := 55) (L' := #[.val (.ref a), .val (.int (24 : Int32)), .val (.int (24 : Int32)), .val (.int (-1756908908 : Int32)), .val (.int (0 : Int32)), .val (.int ((((own_le b0 b1 b2 b3) * (1540483477 : Int32)) ^^^ (XT.ushr ((own_le b0 b1 b2 b3) * (1540483477 : Int32)) (24 : Int32))) * (1540483477 : Int32)))]) d2_53 rfl rfl ?_
  refine s_iloadN X1 hx hby (n := 56) (x := (-1756908908 : Int32)) d2_55 rfl rfl ?_
  refine s_ldcI X1 hx hby hZ (n := 58) hown (hw _ (List.mem_of_getElem? (i := 10) rfl)) d2_56 rfl ?_
  refine s_imul X1 hx hby (n := 59) d2_58 rfl ?_
  refine s_istoreN X1 hx hby (n := 60) (L' := #[.val (.ref a), .val (.int (24 : Int32)), .val (.int (24 : Int32)), .val (.int ((-1756908908 : Int32) * (1540483477 : Int32))), .val (.int (0 : Int32)), .val (.int ((((own_le b0 b1 b2 b3) * (1540483477 : Int32)) ^^^ (XT.ushr ((own_le b0 b1 b2 b3) * (1540483477 : Int32)) (24 : Int32))) * (1540483477 : Int32)))]) d2_59 rfl rfl ?_
  refine s_iloadN X1 hx hby (n := 61) (x := ((-1756908908 : Int32) * (1540483477 : Int32))) d2_60 rfl rfl ?_
  refine s_iload X1 hx hby (n := 63) (x := ((((own_le b0 b1 b2 b3) * (1540483477 : Int32)) ^^^ (XT.ushr ((own_le b0 b1 b2 b3) * (1540483477 : Int32)) (24 : Int32))) * (1540483477 : Int32))) d2_61 rfl rfl ?_
  refine s_ixor X1 hx hby (n := 64) d2_63 rfl ?_
  refine s_fold (z := (own_stp (-1756908908 : Int32) (own_le b0 b1 b2 b3))) rfl ?_
  refine s_istoreN X1 hx hby (n := 65) (L' := #[.val (.ref a), .val (.int (24 : Int32)), .val (.int (24 : Int32)), .val (.int (own_stp (-1756908908 : Int32) (own_le b0 b1 b2 b3))), .val (.int (0 : Int32)), .val (.int ((((own_le b0 b1 b2 b3) * (1540483477 : Int32)) ^^^ (XT.ushr ((own_le b0 b1 b2 b3) * (1540483477 : Int32)) (24 : Int32))) * (1540483477 : Int32)))]) d2_64 rfl rfl ?_
  refine s_iincC X1 hx hby (n := 68) (v := (4 : Int32)) (x := (0 : Int32)) (z := (4 : Int32)) (L' := #[.val (.ref a), .val (.int (24 : Int32)), .val (.int (24 : Int32)), .val (.int (own_stp (-1756908908 : Int32) (own_le b0 b1 b2 b3))), .val (.int (4 : Int32)), .val (.int ((((own_le b0 b1 b2 b3) * (1540483477 : Int32)) ^^^ (XT.ushr ((own_le b0 b1 b2 b3) * (1540483477 : Int32)) (24 : Int32))) * (1540483477 : Int32)))]) d2_65 rfl rfl (by decide) rfl rfl ?_
  refine s_goto X1 hx hby (n := 17) d2_68 (by decide) (by decide) ?_
  refine s_iload X1 hx hby (n := 19) (x := (4 : Int32)) d2_17 rfl rfl ?_
  refine s_iloadN X1 hx hby (n := 20) (x := (24 : Int32)) d2_19 rfl rfl ?_
  refine s_icmpN X1 hx hby (n := 23) d2_20 (by decide) rfl ?_
  refine s_aloadN X1 hx hby (n := 24) (x := (.ref a)) d2_23 rfl rfl rfl ?_
  refine s_iload X1 hx hby (n := 26) (x := (4 : Int32)) d2_24 rfl rfl ?_
  refine s_callS X1 hx hby hml hZ (n := 29) hown (hw _ (List.mem_of_getElem? (i := 13) rfl)) (hw _ (List.mem_of_getElem? (i := 14) rfl)) (hw _ (List.mem_of_getElem? (i := 7) rfl)) (hw _ (List.mem_of_getElem? (i := 15) rfl)) (by decide) (rmE l Z a0 hw a cl (4 : Int32) b4 b5 b6 b7 4 5 6 7 h0 n0 Ar (by decide) (by decide) (by rw [Sz]; decide) B4 (by decide) (by decide) (by rw [Sz]; decide) B5 (by decide) (by decide) (by rw [Sz]; decide) B6 (by decide) (by decide) (by rw [Sz]; decide) B7) e1 (by decide) 0 (by decide) (by decide) (by decide) pd_0 [(.ref a), (.int (4 : Int32))] [] rfl rfl rfl (Nat.le_of_eq rfl) rfl d2_26 rfl ?_
  intro T2 L2 v2 X2 q2c
  obtain ⟨rfl, e2, N2⟩ := q2c
  show OEnds p e below s _ _ _ T2 (mkF m 29 #[.val (.ref a), .val (.int (24 : Int32)), .val (.int (24 : Int32)), .val (.int (own_stp (-1756908908 : Int32) (own_le b0 b1 b2 b3))), .val (.int (4 : Int32)), .val (.int ((((own_le b0 b1 b2 b3) * (1540483477 : Int32)) ^^^ (XT.ushr ((own_le b0 b1 b2 b3) * (1540483477 : Int32)) (24 : Int32))) * (1540483477 : Int32)))] [(.int (own_le b4 b5 b6 b7))])
  have M2 := Fr.app M1 N2
  refine s_istore X2 hx hby (n := 31) (L' := #[.val (.ref a), .val (.int (24 : Int32)), .val (.int (24 : Int32)), .val (.int (own_stp (-1756908908 : Int32) (own_le b0 b1 b2 b3))), .val (.int (4 : Int32)), .val (.int (own_le b4 b5 b6 b7))]) d2_29 rfl rfl ?_
  refine s_iload X2 hx hby (n := 33) (x := (own_le b4 b5 b6 b7)) d2_31 rfl rfl ?_
  refine s_ldcI X2 hx hby hZ (n := 35) hown (hw _ (List.mem_of_getElem? (i := 10) rfl)) d2_33 rfl ?_
  refine s_imul X2 hx hby (n := 36) d2_35 rfl ?_
  refine s_istore X2 hx hby (n := 38) (L' := #[.val (.ref a), .val (.int (24 : Int32)), .val (.int (24 : Int32)), .val (.int (own_stp (-1756908908 : Int32) (own_le b0 b1 b2 b3))), .val (.int (4 : Int32)), .val (.int ((own_le b4 b5 b6 b7) * (1540483477 : Int32)))]) d2_36 rfl rfl ?_
  refine s_iload X2 hx hby (n := 40) (x := ((own_le b4 b5 b6 b7) * (1540483477 : Int32))) d2_38 rfl rfl ?_
  refine s_iload X2 hx hby (n := 42) (x := ((own_le b4 b5 b6 b7) * (1540483477 : Int32))) d2_40 rfl rfl ?_
  refine s_bipush X2 hx hby (n := 44) (v := (24 : Int32)) d2_42 rfl rfl ?_
  refine s_iushr X2 hx hby (n := 45) d2_44 rfl ?_
  refine s_ixor X2 hx hby (n := 46) d2_45 rfl ?_
  refine s_istore X2 hx hby (n := 48) (L' := #[.val (.ref a), .val (.int (24 : Int32)), .val (.int (24 : Int32)), .val (.int (own_stp (-1756908908 : Int32) (own_le b0 b1 b2 b3))), .val (.int (4 : Int32)), .val (.int (((own_le b4 b5 b6 b7) * (1540483477 : Int32)) ^^^ (XT.ushr ((own_le b4 b5 b6 b7) * (1540483477 : Int32)) (24 : Int32))))]) d2_46 rfl rfl ?_
  refine s_iload X2 hx hby (n := 50) (x := (((own_le b4 b5 b6 b7) * (1540483477 : Int32)) ^^^ (XT.ushr ((own_le b4 b5 b6 b7) * (1540483477 : Int32)) (24 : Int32)))) d2_48 rfl rfl ?_
  refine s_ldcI X2 hx hby hZ (n := 52) hown (hw _ (List.mem_of_getElem? (i := 10) rfl)) d2_50 rfl ?_
  refine s_imul X2 hx hby (n := 53) d2_52 rfl ?_
  refine s_istore X2 hx hby (n := 55) (L' := #[.val (.ref a), .val (.int (24 : Int32)), .val (.int (24 : Int32)), .val (.int (own_stp (-1756908908 : Int32) (own_le b0 b1 b2 b3))), .val (.int (4 : Int32)), .val (.int ((((own_le b4 b5 b6 b7) * (1540483477 : Int32)) ^^^ (XT.ushr ((own_le b4 b5 b6 b7) * (1540483477 : Int32)) (24 : Int32))) * (1540483477 : Int32)))]) d2_53 rfl rfl ?_
  refine s_iloadN X2 hx hby (n := 56) (x := (own_stp (-1756908908 : Int32) (own_le b0 b1 b2 b3))) d2_55 rfl rfl ?_
  refine s_ldcI X2 hx hby hZ (n := 58) hown (hw _ (List.mem_of_getElem? (i := 10) rfl)) d2_56 rfl ?_
  refine s_imul X2 hx hby (n := 59) d2_58 rfl ?_
  refine s_istoreN X2 hx hby (n := 60) (L' := #[.val (.ref a), .val (.int (24 : Int32)), .val (.int (24 : Int32)), .val (.int ((own_stp (-1756908908 : Int32) (own_le b0 b1 b2 b3)) * (1540483477 : Int32))), .val (.int (4 : Int32)), .val (.int ((((own_le b4 b5 b6 b7) * (1540483477 : Int32)) ^^^ (XT.ushr ((own_le b4 b5 b6 b7) * (1540483477 : Int32)) (24 : Int32))) * (1540483477 : Int32)))]) d2_59 rfl rfl ?_
  refine s_iloadN X2 hx hby (n := 61) (x := ((own_stp (-1756908908 : Int32) (own_le b0 b1 b2 b3)) * (1540483477 : Int32))) d2_60 rfl rfl ?_
  refine s_iload X2 hx hby (n := 63) (x := ((((own_le b4 b5 b6 b7) * (1540483477 : Int32)) ^^^ (XT.ushr ((own_le b4 b5 b6 b7) * (1540483477 : Int32)) (24 : Int32))) * (1540483477 : Int32))) d2_61 rfl rfl ?_
  refine s_ixor X2 hx hby (n := 64) d2_63 rfl ?_
  refine s_fold (z := (own_stp (own_stp (-1756908908 : Int32) (own_le b0 b1 b2 b3)) (own_le b4 b5 b6 b7))) rfl ?_
  refine s_istoreN X2 hx hby (n := 65) (L' := #[.val (.ref a), .val (.int (24 : Int32)), .val (.int (24 : Int32)), .val (.int (own_stp (own_stp (-1756908908 : Int32) (own_le b0 b1 b2 b3)) (own_le b4 b5 b6 b7))), .val (.int (4 : Int32)), .val (.int ((((own_le b4 b5 b6 b7) * (1540483477 : Int32)) ^^^ (XT.ushr ((own_le b4 b5 b6 b7) * (1540483477 : Int32)) (24 : Int32))) * (1540483477 : Int32)))]) d2_64 rfl rfl ?_
  refine s_iincC X2 hx hby (n := 68) (v := (4 : Int32)) (x := (4 : Int32)) (z := (8 : Int32)) (L' := #[.val (.ref a), .val (.int (24 : Int32)), .val (.int (24 : Int32)), .val (.int (own_stp (own_stp (-1756908908 : Int32) (own_le b0 b1 b2 b3)) (own_le b4 b5 b6 b7))), .val (.int (8 : Int32)), .val (.int ((((own_le b4 b5 b6 b7) * (1540483477 : Int32)) ^^^ (XT.ushr ((own_le b4 b5 b6 b7) * (1540483477 : Int32)) (24 : Int32))) * (1540483477 : Int32)))]) d2_65 rfl rfl (by decide) rfl rfl ?_
  refine s_goto X2 hx hby (n := 17) d2_68 (by decide) (by decide) ?_
  refine s_iload X2 hx hby (n := 19) (x := (8 : Int32)) d2_17 rfl rfl ?_
  refine s_iloadN X2 hx hby (n := 20) (x := (24 : Int32)) d2_19 rfl rfl ?_
  refine s_icmpN X2 hx hby (n := 23) d2_20 (by decide) rfl ?_
  refine s_aloadN X2 hx hby (n := 24) (x := (.ref a)) d2_23 rfl rfl rfl ?_
  refine s_iload X2 hx hby (n := 26) (x := (8 : Int32)) d2_24 rfl rfl ?_
  refine s_callS X2 hx hby hml hZ (n := 29) hown (hw _ (List.mem_of_getElem? (i := 13) rfl)) (hw _ (List.mem_of_getElem? (i := 14) rfl)) (hw _ (List.mem_of_getElem? (i := 7) rfl)) (hw _ (List.mem_of_getElem? (i := 15) rfl)) (by decide) (rmE l Z a0 hw a cl (8 : Int32) b8 b9 b10 b11 8 9 10 11 h0 n0 Ar (by decide) (by decide) (by rw [Sz]; decide) B8 (by decide) (by decide) (by rw [Sz]; decide) B9 (by decide) (by decide) (by rw [Sz]; decide) B10 (by decide) (by decide) (by rw [Sz]; decide) B11) e2 (by decide) 0 (by decide) (by decide) (by decide) pd_0 [(.ref a), (.int (8 : Int32))] [] rfl rfl rfl (Nat.le_of_eq rfl) rfl d2_26 rfl ?_
  intro T3 L3 v3 X3 q3c
  obtain ⟨rfl, e3, N3⟩ := q3c
  show OEnds p e below s _ _ _ T3 (mkF m 29 #[.val (.ref a), .val (.int (24 : Int32)), .val (.int (24 : Int32)), .val (.int (own_stp (own_stp (-1756908908 : Int32) (own_le b0 b1 b2 b3)) (own_le b4 b5 b6 b7))), .val (.int (8 : Int32)), .val (.int ((((own_le b4 b5 b6 b7) * (1540483477 : Int32)) ^^^ (XT.ushr ((own_le b4 b5 b6 b7) * (1540483477 : Int32)) (24 : Int32))) * (1540483477 : Int32)))] [(.int (own_le b8 b9 b10 b11))])
  have M3 := Fr.app M2 N3
  refine s_istore X3 hx hby (n := 31) (L' := #[.val (.ref a), .val (.int (24 : Int32)), .val (.int (24 : Int32)), .val (.int (own_stp (own_stp (-1756908908 : Int32) (own_le b0 b1 b2 b3)) (own_le b4 b5 b6 b7))), .val (.int (8 : Int32)), .val (.int (own_le b8 b9 b10 b11))]) d2_29 rfl rfl ?_
  refine s_iload X3 hx hby (n := 33) (x := (own_le b8 b9 b10 b11)) d2_31 rfl rfl ?_
  refine s_ldcI X3 hx hby hZ (n := 35) hown (hw _ (List.mem_of_getElem? (i := 10) rfl)) d2_33 rfl ?_
  refine s_imul X3 hx hby (n := 36) d2_35 rfl ?_
  refine s_istore X3 hx hby (n := 38) (L' := #[.val (.ref a), .val (.int (24 : Int32)), .val (.int (24 : Int32)), .val (.int (own_stp (own_stp (-1756908908 : Int32) (own_le b0 b1 b2 b3)) (own_le b4 b5 b6 b7))), .val (.int (8 : Int32)), .val (.int ((own_le b8 b9 b10 b11) * (1540483477 : Int32)))]) d2_36 rfl rfl ?_
  refine s_iload X3 hx hby (n := 40) (x := ((own_le b8 b9 b10 b11) * (1540483477 : Int32))) d2_38 rfl rfl ?_
  refine s_iload X3 hx hby (n := 42) (x := ((own_le b8 b9 b10 b11) * (1540483477 : Int32))) d2_40 rfl rfl ?_
  refine s_bipush X3 hx hby (n := 44) (v := (24 : Int32)) d2_42 rfl rfl ?_
  refine s_iushr X3 hx hby (n := 45) d2_44 rfl ?_
  refine s_ixor X3 hx hby (n := 46) d2_45 rfl ?_
  refine s_istore X3 hx hby (n := 48) (L' := #[.val (.ref a), .val (.int (24 : Int32)), .val (.int (24 : Int32)), .val (.int (own_stp (own_stp (-1756908908 : Int32) (own_le b0 b1 b2 b3)) (own_le b4 b5 b6 b7))), .val (.int (8 : Int32)), .val (.int (((own_le b8 b9 b10 b11) * (1540483477 : Int32)) ^^^ (XT.ushr ((own_le b8 b9 b10 b11) * (1540483477 : Int32)) (24 : Int32))))]) d2_46 rfl rfl ?_
  refine s_iload X3 hx hby (n := 50) (x := (((own_le b8 b9 b10 b11) * (1540483477 : Int32)) ^^^ (XT.ushr ((own_le b8 b9 b10 b11) * (1540483477 : Int32)) (24 : Int32)))) d2_48 rfl rfl ?_
  refine s_ldcI X3 hx hby hZ (n := 52) hown (hw _ (List.mem_of_getElem? (i := 10) rfl)) d2_50 rfl ?_
  refine s_imul X3 hx hby (n := 53) d2_52 rfl ?_
  refine s_istore X3 hx hby (n := 55) (L' := #[.val (.ref a), .val (.int (24 : Int32)), .val (.int (24 : Int32)), .val (.int (own_stp (own_stp (-1756908908 : Int32) (own_le b0 b1 b2 b3)) (own_le b4 b5 b6 b7))), .val (.int (8 : Int32)), .val (.int ((((own_le b8 b9 b10 b11) * (1540483477 : Int32)) ^^^ (XT.ushr ((own_le b8 b9 b10 b11) * (1540483477 : Int32)) (24 : Int32))) * (1540483477 : Int32)))]) d2_53 rfl rfl ?_
  refine s_iloadN X3 hx hby (n := 56) (x := (own_stp (own_stp (-1756908908 : Int32) (own_le b0 b1 b2 b3)) (own_le b4 b5 b6 b7))) d2_55 rfl rfl ?_
  refine s_ldcI X3 hx hby hZ (n := 58) hown (hw _ (List.mem_of_getElem? (i := 10) rfl)) d2_56 rfl ?_
  refine s_imul X3 hx hby (n := 59) d2_58 rfl ?_
  refine s_istoreN X3 hx hby (n := 60) (L' := #[.val (.ref a), .val (.int (24 : Int32)), .val (.int (24 : Int32)), .val (.int ((own_stp (own_stp (-1756908908 : Int32) (own_le b0 b1 b2 b3)) (own_le b4 b5 b6 b7)) * (1540483477 : Int32))), .val (.int (8 : Int32)), .val (.int ((((own_le b8 b9 b10 b11) * (1540483477 : Int32)) ^^^ (XT.ushr ((own_le b8 b9 b10 b11) * (1540483477 : Int32)) (24 : Int32))) * (1540483477 : Int32)))]) d2_59 rfl rfl ?_
  refine s_iloadN X3 hx hby (n := 61) (x := ((own_stp (own_stp (-1756908908 : Int32) (own_le b0 b1 b2 b3)) (own_le b4 b5 b6 b7)) * (1540483477 : Int32))) d2_60 rfl rfl ?_
  refine s_iload X3 hx hby (n := 63) (x := ((((own_le b8 b9 b10 b11) * (1540483477 : Int32)) ^^^ (XT.ushr ((own_le b8 b9 b10 b11) * (1540483477 : Int32)) (24 : Int32))) * (1540483477 : Int32))) d2_61 rfl rfl ?_
  refine s_ixor X3 hx hby (n := 64) d2_63 rfl ?_
  refine s_fold (z := (own_stp (own_stp (own_stp (-1756908908 : Int32) (own_le b0 b1 b2 b3)) (own_le b4 b5 b6 b7)) (own_le b8 b9 b10 b11))) rfl ?_
  refine s_istoreN X3 hx hby (n := 65) (L' := #[.val (.ref a), .val (.int (24 : Int32)), .val (.int (24 : Int32)), .val (.int (own_stp (own_stp (own_stp (-1756908908 : Int32) (own_le b0 b1 b2 b3)) (own_le b4 b5 b6 b7)) (own_le b8 b9 b10 b11))), .val (.int (8 : Int32)), .val (.int ((((own_le b8 b9 b10 b11) * (1540483477 : Int32)) ^^^ (XT.ushr ((own_le b8 b9 b10 b11) * (1540483477 : Int32)) (24 : Int32))) * (1540483477 : Int32)))]) d2_64 rfl rfl ?_
  refine s_iincC X3 hx hby (n := 68) (v := (4 : Int32)) (x := (8 : Int32)) (z := (12 : Int32)) (L' := #[.val (.ref a), .val (.int (24 : Int32)), .val (.int (24 : Int32)), .val (.int (own_stp (own_stp (own_stp (-1756908908 : Int32) (own_le b0 b1 b2 b3)) (own_le b4 b5 b6 b7)) (own_le b8 b9 b10 b11))), .val (.int (12 : Int32)), .val (.int ((((own_le b8 b9 b10 b11) * (1540483477 : Int32)) ^^^ (XT.ushr ((own_le b8 b9 b10 b11) * (1540483477 : Int32)) (24 : Int32))) * (1540483477 : Int32)))]) d2_65 rfl rfl (by decide) rfl rfl ?_
  refine s_goto X3 hx hby (n := 17) d2_68 (by decide) (by decide) ?_
  refine s_iload X3 hx hby (n := 19) (x := (12 : Int32)) d2_17 rfl rfl ?_
  refine s_iloadN X3 hx hby (n := 20) (x := (24 : Int32)) d2_19 rfl rfl ?_
  refine s_icmpN X3 hx hby (n := 23) d2_20 (by decide) rfl ?_
  refine s_aloadN X3 hx hby (n := 24) (x := (.ref a)) d2_23 rfl rfl rfl ?_
  refine s_iload X3 hx hby (n := 26) (x := (12 : Int32)) d2_24 rfl rfl ?_
  refine s_callS X3 hx hby hml hZ (n := 29) hown (hw _ (List.mem_of_getElem? (i := 13) rfl)) (hw _ (List.mem_of_getElem? (i := 14) rfl)) (hw _ (List.mem_of_getElem? (i := 7) rfl)) (hw _ (List.mem_of_getElem? (i := 15) rfl)) (by decide) (rmE l Z a0 hw a cl (12 : Int32) b12 b13 b14 b15 12 13 14 15 h0 n0 Ar (by decide) (by decide) (by rw [Sz]; decide) B12 (by decide) (by decide) (by rw [Sz]; decide) B13 (by decide) (by decide) (by rw [Sz]; decide) B14 (by decide) (by decide) (by rw [Sz]; decide) B15) e3 (by decide) 0 (by decide) (by decide) (by decide) pd_0 [(.ref a), (.int (12 : Int32))] [] rfl rfl rfl (Nat.le_of_eq rfl) rfl d2_26 rfl ?_
  intro T4 L4 v4 X4 q4c
  obtain ⟨rfl, e4, N4⟩ := q4c
  show OEnds p e below s _ _ _ T4 (mkF m 29 #[.val (.ref a), .val (.int (24 : Int32)), .val (.int (24 : Int32)), .val (.int (own_stp (own_stp (own_stp (-1756908908 : Int32) (own_le b0 b1 b2 b3)) (own_le b4 b5 b6 b7)) (own_le b8 b9 b10 b11))), .val (.int (12 : Int32)), .val (.int ((((own_le b8 b9 b10 b11) * (1540483477 : Int32)) ^^^ (XT.ushr ((own_le b8 b9 b10 b11) * (1540483477 : Int32)) (24 : Int32))) * (1540483477 : Int32)))] [(.int (own_le b12 b13 b14 b15))])
  have M4 := Fr.app M3 N4
  refine s_istore X4 hx hby (n := 31) (L' := #[.val (.ref a), .val (.int (24 : Int32)), .val (.int (24 : Int32)), .val (.int (own_stp (own_stp (own_stp (-1756908908 : Int32) (own_le b0 b1 b2 b3)) (own_le b4 b5 b6 b7)) (own_le b8 b9 b10 b11))), .val (.int (12 : Int32)), .val (.int (own_le b12 b13 b14 b15))]) d2_29 rfl rfl ?_
  refine s_iload X4 hx hby (n := 33) (x := (own_le b12 b13 b14 b15)) d2_31 rfl rfl ?_
  refine s_ldcI X4 hx hby hZ (n := 35) hown (hw _ (List.mem_of_getElem? (i := 10) rfl)) d2_33 rfl ?_
  refine s_imul X4 hx hby (n := 36) d2_35 rfl ?_
  refine s_istore X4 hx hby (n := 38) (L' := #[.val (.ref a), .val (.int (24 : Int32)), .val (.int (24 : Int32)), .val (.int (own_stp (own_stp (own_stp (-1756908908 : Int32) (own_le b0 b1 b2 b3)) (own_le b4 b5 b6 b7)) (own_le b8 b9 b10 b11))), .val (.int (12 : Int32)), .val (.int ((own_le b12 b13 b14 b15) * (1540483477 : Int32)))]) d2_36 rfl rfl ?_
  refine s_iload X4 hx hby (n := 40) (x := ((own_le b12 b13 b14 b15) * (1540483477 : Int32))) d2_38 rfl rfl ?_
  refine s_iload X4 hx hby (n := 42) (x := ((own_le b12 b13 b14 b15) * (1540483477 : Int32))) d2_40 rfl rfl ?_
  refine s_bipush X4 hx hby (n := 44) (v := (24 : Int32)) d2_42 rfl rfl ?_
  refine s_iushr X4 hx hby (n := 45) d2_44 rfl ?_
  refine s_ixor X4 hx hby (n := 46) d2_45 rfl ?_
  refine s_istore X4 hx hby (n := 48) (L' := #[.val (.ref a), .val (.int (24 : Int32)), .val (.int (24 : Int32)), .val (.int (own_stp (own_stp (own_stp (-1756908908 : Int32) (own_le b0 b1 b2 b3)) (own_le b4 b5 b6 b7)) (own_le b8 b9 b10 b11))), .val (.int (12 : Int32)), .val (.int (((own_le b12 b13 b14 b15) * (1540483477 : Int32)) ^^^ (XT.ushr ((own_le b12 b13 b14 b15) * (1540483477 : Int32)) (24 : Int32))))]) d2_46 rfl rfl ?_
  refine s_iload X4 hx hby (n := 50) (x := (((own_le b12 b13 b14 b15) * (1540483477 : Int32)) ^^^ (XT.ushr ((own_le b12 b13 b14 b15) * (1540483477 : Int32)) (24 : Int32)))) d2_48 rfl rfl ?_
  refine s_ldcI X4 hx hby hZ (n := 52) hown (hw _ (List.mem_of_getElem? (i := 10) rfl)) d2_50 rfl ?_
  refine s_imul X4 hx hby (n := 53) d2_52 rfl ?_
  refine s_istore X4 hx hby (n := 55) (L' := #[.val (.ref a), .val (.int (24 : Int32)), .val (.int (24 : Int32)), .val (.int (own_stp (own_stp (own_stp (-1756908908 : Int32) (own_le b0 b1 b2 b3)) (own_le b4 b5 b6 b7)) (own_le b8 b9 b10 b11))), .val (.int (12 : Int32)), .val (.int ((((own_le b12 b13 b14 b15) * (1540483477 : Int32)) ^^^ (XT.ushr ((own_le b12 b13 b14 b15) * (1540483477 : Int32)) (24 : Int32))) * (1540483477 : Int32)))]) d2_53 rfl rfl ?_
  refine s_iloadN X4 hx hby (n := 56) (x := (own_stp (own_stp (own_stp (-1756908908 : Int32) (own_le b0 b1 b2 b3)) (own_le b4 b5 b6 b7)) (own_le b8 b9 b10 b11))) d2_55 rfl rfl ?_
  refine s_ldcI X4 hx hby hZ (n := 58) hown (hw _ (List.mem_of_getElem? (i := 10) rfl)) d2_56 rfl ?_
  refine s_imul X4 hx hby (n := 59) d2_58 rfl ?_
  refine s_istoreN X4 hx hby (n := 60) (L' := #[.val (.ref a), .val (.int (24 : Int32)), .val (.int (24 : Int32)), .val (.int ((own_stp (own_stp (own_stp (-1756908908 : Int32) (own_le b0 b1 b2 b3)) (own_le b4 b5 b6 b7)) (own_le b8 b9 b10 b11)) * (1540483477 : Int32))), .val (.int (12 : Int32)), .val (.int ((((own_le b12 b13 b14 b15) * (1540483477 : Int32)) ^^^ (XT.ushr ((own_le b12 b13 b14 b15) * (1540483477 : Int32)) (24 : Int32))) * (1540483477 : Int32)))]) d2_59 rfl rfl ?_
  refine s_iloadN X4 hx hby (n := 61) (x := ((own_stp (own_stp (own_stp (-1756908908 : Int32) (own_le b0 b1 b2 b3)) (own_le b4 b5 b6 b7)) (own_le b8 b9 b10 b11)) * (1540483477 : Int32))) d2_60 rfl rfl ?_
  refine s_iload X4 hx hby (n := 63) (x := ((((own_le b12 b13 b14 b15) * (1540483477 : Int32)) ^^^ (XT.ushr ((own_le b12 b13 b14 b15) * (1540483477 : Int32)) (24 : Int32))) * (1540483477 : Int32))) d2_61 rfl rfl ?_
  refine s_ixor X4 hx hby (n := 64) d2_63 rfl ?_
  refine s_fold (z := (own_stp (own_stp (own_stp (own_stp (-1756908908 : Int32) (own_le b0 b1 b2 b3)) (own_le b4 b5 b6 b7)) (own_le b8 b9 b10 b11)) (own_le b12 b13 b14 b15))) rfl ?_
  refine s_istoreN X4 hx hby (n := 65) (L' := #[.val (.ref a), .val (.int (24 : Int32)), .val (.int (24 : Int32)), .val (.int (own_stp (own_stp (own_stp (own_stp (-1756908908 : Int32) (own_le b0 b1 b2 b3)) (own_le b4 b5 b6 b7)) (own_le b8 b9 b10 b11)) (own_le b12 b13 b14 b15))), .val (.int (12 : Int32)), .val (.int ((((own_le b12 b13 b14 b15) * (1540483477 : Int32)) ^^^ (XT.ushr ((own_le b12 b13 b14 b15) * (1540483477 : Int32)) (24 : Int32))) * (1540483477 : Int32)))]) d2_64 rfl rfl ?_
  refine s_iincC X4 hx hby (n := 68) (v := (4 : Int32)) (x := (12 : Int32)) (z := (16 : Int32)) (L' := #[.val (.ref a), .val (.int (24 : Int32)), .val (.int (24 : Int32)), .val (.int (own_stp (own_stp (own_stp (own_stp (-1756908908 : Int32) (own_le b0 b1 b2 b3)) (own_le b4 b5 b6 b7)) (own_le b8 b9 b10 b11)) (own_le b12 b13 b14 b15))), .val (.int (16 : Int32)), .val (.int ((((own_le b12 b13 b14 b15) * (1540483477 : Int32)) ^^^ (XT.ushr ((own_le b12 b13 b14 b15) * (1540483477 : Int32)) (24 : Int32))) * (1540483477 : Int32)))]) d2_65 rfl rfl (by decide) rfl rfl ?_
  refine s_goto X4 hx hby (n := 17) d2_68 (by decide) (by decide) ?_
  refine s_iload X4 hx hby (n := 19) (x := (16 : Int32)) d2_17 rfl rfl ?_
  refine s_iloadN X4 hx hby (n := 20) (x := (24 : Int32)) d2_19 rfl rfl ?_
  refine s_icmpN X4 hx hby (n := 23) d2_20 (by decide) rfl ?_
  refine s_aloadN X4 hx hby (n := 24) (x := (.ref a)) d2_23 rfl rfl rfl ?_
  refine s_iload X4 hx hby (n := 26) (x := (16 : Int32)) d2_24 rfl rfl ?_
  refine s_callS X4 hx hby hml hZ (n := 29) hown (hw _ (List.mem_of_getElem? (i := 13) rfl)) (hw _ (List.mem_of_getElem? (i := 14) rfl)) (hw _ (List.mem_of_getElem? (i := 7) rfl)) (hw _ (List.mem_of_getElem? (i := 15) rfl)) (by decide) (rmE l Z a0 hw a cl (16 : Int32) b16 b17 b18 b19 16 17 18 19 h0 n0 Ar (by decide) (by decide) (by rw [Sz]; decide) B16 (by decide) (by decide) (by rw [Sz]; decide) B17 (by decide) (by decide) (by rw [Sz]; decide) B18 (by decide) (by decide) (by rw [Sz]; decide) B19) e4 (by decide) 0 (by decide) (by decide) (by decide) pd_0 [(.ref a), (.int (16 : Int32))] [] rfl rfl rfl (Nat.le_of_eq rfl) rfl d2_26 rfl ?_
  intro T5 L5 v5 X5 q5c
  obtain ⟨rfl, e5, N5⟩ := q5c
  show OEnds p e below s _ _ _ T5 (mkF m 29 #[.val (.ref a), .val (.int (24 : Int32)), .val (.int (24 : Int32)), .val (.int (own_stp (own_stp (own_stp (own_stp (-1756908908 : Int32) (own_le b0 b1 b2 b3)) (own_le b4 b5 b6 b7)) (own_le b8 b9 b10 b11)) (own_le b12 b13 b14 b15))), .val (.int (16 : Int32)), .val (.int ((((own_le b12 b13 b14 b15) * (1540483477 : Int32)) ^^^ (XT.ushr ((own_le b12 b13 b14 b15) * (1540483477 : Int32)) (24 : Int32))) * (1540483477 : Int32)))] [(.int (own_le b16 b17 b18 b19))])
  have M5 := Fr.app M4 N5
  refine s_istore X5 hx hby (n := 31) (L' := #[.val (.ref a), .val (.int (24 : Int32)), .val (.int (24 : Int32)), .val (.int (own_stp (own_stp (own_stp (own_stp (-1756908908 : Int32) (own_le b0 b1 b2 b3)) (own_le b4 b5 b6 b7)) (own_le b8 b9 b10 b11)) (own_le b12 b13 b14 b15))), .val (.int (16 : Int32)), .val (.int (own_le b16 b17 b18 b19))]) d2_29 rfl rfl ?_
  refine s_iload X5 hx hby (n := 33) (x := (own_le b16 b17 b18 b19)) d2_31 rfl rfl ?_
  refine s_ldcI X5 hx hby hZ (n := 35) hown (hw _ (List.mem_of_getElem? (i := 10) rfl)) d2_33 rfl ?_
  refine s_imul X5 hx hby (n := 36) d2_35 rfl ?_
  refine s_istore X5 hx hby (n := 38) (L' := #[.val (.ref a), .val (.int (24 : Int32)), .val (.int (24 : Int32)), .val (.int (own_stp (own_stp (own_stp (own_stp (-1756908908 : Int32) (own_le b0 b1 b2 b3)) (own_le b4 b5 b6 b7)) (own_le b8 b9 b10 b11)) (own_le b12 b13 b14 b15))), .val (.int (16 : Int32)), .val (.int ((own_le b16 b17 b18 b19) * (1540483477 : Int32)))]) d2_36 rfl rfl ?_
  refine s_iload X5 hx hby (n := 40) (x := ((own_le b16 b17 b18 b19) * (1540483477 : Int32))) d2_38 rfl rfl ?_
  refine s_iload X5 hx hby (n := 42) (x := ((own_le b16 b17 b18 b19) * (1540483477 : Int32))) d2_40 rfl rfl ?_
  refine s_bipush X5 hx hby (n := 44) (v := (24 : Int32)) d2_42 rfl rfl ?_
  refine s_iushr X5 hx hby (n := 45) d2_44 rfl ?_
  refine s_ixor X5 hx hby (n := 46) d2_45 rfl ?_
  refine s_istore X5 hx hby (n := 48) (L' := #[.val (.ref a), .val (.int (24 : Int32)), .val (.int (24 : Int32)), .val (.int (own_stp (own_stp (own_stp (own_stp (-1756908908 : Int32) (own_le b0 b1 b2 b3)) (own_le b4 b5 b6 b7)) (own_le b8 b9 b10 b11)) (own_le b12 b13 b14 b15))), .val (.int (16 : Int32)), .val (.int (((own_le b16 b17 b18 b19) * (1540483477 : Int32)) ^^^ (XT.ushr ((own_le b16 b17 b18 b19) * (1540483477 : Int32)) (24 : Int32))))]) d2_46 rfl rfl ?_
  refine s_iload X5 hx hby (n := 50) (x := (((own_le b16 b17 b18 b19) * (1540483477 : Int32)) ^^^ (XT.ushr ((own_le b16 b17 b18 b19) * (1540483477 : Int32)) (24 : Int32)))) d2_48 rfl rfl ?_
  refine s_ldcI X5 hx hby hZ (n := 52) hown (hw _ (List.mem_of_getElem? (i := 10) rfl)) d2_50 rfl ?_
  refine s_imul X5 hx hby (n := 53) d2_52 rfl ?_
  refine s_istore X5 hx hby (n := 55) (L' := #[.val (.ref a), .val (.int (24 : Int32)), .val (.int (24 : Int32)), .val (.int (own_stp (own_stp (own_stp (own_stp (-1756908908 : Int32) (own_le b0 b1 b2 b3)) (own_le b4 b5 b6 b7)) (own_le b8 b9 b10 b11)) (own_le b12 b13 b14 b15))), .val (.int (16 : Int32)), .val (.int ((((own_le b16 b17 b18 b19) * (1540483477 : Int32)) ^^^ (XT.ushr ((own_le b16 b17 b18 b19) * (1540483477 : Int32)) (24 : Int32))) * (1540483477 : Int32)))]) d2_53 rfl rfl ?_
  refine s_iloadN X5 hx hby (n := 56) (x := (own_stp (own_stp (own_stp (own_stp (-1756908908 : Int32) (own_le b0 b1 b2 b3)) (own_le b4 b5 b6 b7)) (own_le b8 b9 b10 b11)) (own_le b12 b13 b14 b15))) d2_55 rfl rfl ?_
  refine s_ldcI X5 hx hby hZ (n := 58) hown (hw _ (List.mem_of_getElem? (i := 10) rfl)) d2_56 rfl ?_
  refine s_imul X5 hx hby (n := 59) d2_58 rfl ?_
  refine s_istoreN X5 hx hby (n := 60) (L' := #[.val (.ref a), .val (.int (24 : Int32)), .val (.int (24 : Int32)), .val (.int ((own_stp (own_stp (own_stp (own_stp (-1756908908 : Int32) (own_le b0 b1 b2 b3)) (own_le b4 b5 b6 b7)) (own_le b8 b9 b10 b11)) (own_le b12 b13 b14 b15)) * (1540483477 : Int32))), .val (.int (16 : Int32)), .val (.int ((((own_le b16 b17 b18 b19) * (1540483477 : Int32)) ^^^ (XT.ushr ((own_le b16 b17 b18 b19) * (1540483477 : Int32)) (24 : Int32))) * (1540483477 : Int32)))]) d2_59 rfl rfl ?_
  refine s_iloadN X5 hx hby (n := 61) (x := ((own_stp (own_stp (own_stp (own_stp (-1756908908 : Int32) (own_le b0 b1 b2 b3)) (own_le b4 b5 b6 b7)) (own_le b8 b9 b10 b11)) (own_le b12 b13 b14 b15)) * (1540483477 : Int32))) d2_60 rfl rfl ?_
  refine s_iload X5 hx hby (n := 63) (x := ((((own_le b16 b17 b18 b19) * (1540483477 : Int32)) ^^^ (XT.ushr ((own_le b16 b17 b18 b19) * (1540483477 : Int32)) (24 : Int32))) * (1540483477 : Int32))) d2_61 rfl rfl ?_
  refine s_ixor X5 hx hby (n := 64) d2_63 rfl ?_
  refine s_fold (z := (own_stp (own_stp (own_stp (own_stp (own_stp (-1756908908 : Int32) (own_le b0 b1 b2 b3)) (own_le b4 b5 b6 b7)) (own_le b8 b9 b10 b11)) (own_le b12 b13 b14 b15)) (own_le b16 b17 b18 b19))) rfl ?_
  refine s_istoreN X5 hx hby (n := 65) (L' := #[.val (.ref a), .val (.int (24 : Int32)), .val (.int (24 : Int32)), .val (.int (own_stp (own_stp (own_stp (own_stp (own_stp (-1756908908 : Int32) (own_le b0 b1 b2 b3)) (own_le b4 b5 b6 b7)) (own_le b8 b9 b10 b11)) (own_le b12 b13 b14 b15)) (own_le b16 b17 b18 b19))), .val (.int (16 : Int32)), .val (.int ((((own_le b16 b17 b18 b19) * (1540483477 : Int32)) ^^^ (XT.ushr ((own_le b16 b17 b18 b19) * (1540483477 : Int32)) (24 : Int32))) * (1540483477 : Int32)))]) d2_64 rfl rfl ?_
  refine s_iincC X5 hx hby (n := 68) (v := (4 : Int32)) (x := (16 : Int32)) (z := (20 : Int32)) (L' := #[.val (.ref a), .val (.int (24 : Int32)), .val (.int (24 : Int32)), .val (.int (own_stp (own_stp (own_stp (own_stp (own_stp (-1756908908 : Int32) (own_le b0 b1 b2 b3)) (own_le b4 b5 b6 b7)) (own_le b8 b9 b10 b11)) (own_le b12 b13 b14 b15)) (own_le b16 b17 b18 b19))), .val (.int (20 : Int32)), .val (.int ((((own_le b16 b17 b18 b19) * (1540483477 : Int32)) ^^^ (XT.ushr ((own_le b16 b17 b18 b19) * (1540483477 : Int32)) (24 : Int32))) * (1540483477 : Int32)))]) d2_65 rfl rfl (by decide) rfl rfl ?_
  refine s_goto X5 hx hby (n := 17) d2_68 (by decide) (by decide) ?_
  refine s_iload X5 hx hby (n := 19) (x := (20 : Int32)) d2_17 rfl rfl ?_
  refine s_iloadN X5 hx hby (n := 20) (x := (24 : Int32)) d2_19 rfl rfl ?_
  refine s_icmpN X5 hx hby (n := 23) d2_20 (by decide) rfl ?_
  refine s_aloadN X5 hx hby (n := 24) (x := (.ref a)) d2_23 rfl rfl rfl ?_
  refine s_iload X5 hx hby (n := 26) (x := (20 : Int32)) d2_24 rfl rfl ?_
  refine s_callS X5 hx hby hml hZ (n := 29) hown (hw _ (List.mem_of_getElem? (i := 13) rfl)) (hw _ (List.mem_of_getElem? (i := 14) rfl)) (hw _ (List.mem_of_getElem? (i := 7) rfl)) (hw _ (List.mem_of_getElem? (i := 15) rfl)) (by decide) (rmE l Z a0 hw a cl (20 : Int32) b20 b21 b22 b23 20 21 22 23 h0 n0 Ar (by decide) (by decide) (by rw [Sz]; decide) B20 (by decide) (by decide) (by rw [Sz]; decide) B21 (by decide) (by decide) (by rw [Sz]; decide) B22 (by decide) (by decide) (by rw [Sz]; decide) B23) e5 (by decide) 0 (by decide) (by decide) (by decide) pd_0 [(.ref a), (.int (20 : Int32))] [] rfl rfl rfl (Nat.le_of_eq rfl) rfl d2_26 rfl ?_
  intro T6 L6 v6 X6 q6c
  obtain ⟨rfl, e6, N6⟩ := q6c
  show OEnds p e below s _ _ _ T6 (mkF m 29 #[.val (.ref a), .val (.int (24 : Int32)), .val (.int (24 : Int32)), .val (.int (own_stp (own_stp (own_stp (own_stp (own_stp (-1756908908 : Int32) (own_le b0 b1 b2 b3)) (own_le b4 b5 b6 b7)) (own_le b8 b9 b10 b11)) (own_le b12 b13 b14 b15)) (own_le b16 b17 b18 b19))), .val (.int (20 : Int32)), .val (.int ((((own_le b16 b17 b18 b19) * (1540483477 : Int32)) ^^^ (XT.ushr ((own_le b16 b17 b18 b19) * (1540483477 : Int32)) (24 : Int32))) * (1540483477 : Int32)))] [(.int (own_le b20 b21 b22 b23))])
  have M6 := Fr.app M5 N6
  refine s_istore X6 hx hby (n := 31) (L' := #[.val (.ref a), .val (.int (24 : Int32)), .val (.int (24 : Int32)), .val (.int (own_stp (own_stp (own_stp (own_stp (own_stp (-1756908908 : Int32) (own_le b0 b1 b2 b3)) (own_le b4 b5 b6 b7)) (own_le b8 b9 b10 b11)) (own_le b12 b13 b14 b15)) (own_le b16 b17 b18 b19))), .val (.int (20 : Int32)), .val (.int (own_le b20 b21 b22 b23))]) d2_29 rfl rfl ?_
  refine s_iload X6 hx hby (n := 33) (x := (own_le b20 b21 b22 b23)) d2_31 rfl rfl ?_
  refine s_ldcI X6 hx hby hZ (n := 35) hown (hw _ (List.mem_of_getElem? (i := 10) rfl)) d2_33 rfl ?_
  refine s_imul X6 hx hby (n := 36) d2_35 rfl ?_
  refine s_istore X6 hx hby (n := 38) (L' := #[.val (.ref a), .val (.int (24 : Int32)), .val (.int (24 : Int32)), .val (.int (own_stp (own_stp (own_stp (own_stp (own_stp (-1756908908 : Int32) (own_le b0 b1 b2 b3)) (own_le b4 b5 b6 b7)) (own_le b8 b9 b10 b11)) (own_le b12 b13 b14 b15)) (own_le b16 b17 b18 b19))), .val (.int (20 : Int32)), .val (.int ((own_le b20 b21 b22 b23) * (1540483477 : Int32)))]) d2_36 rfl rfl ?_
  refine s_iload X6 hx hby (n := 40) (x := ((own_le b20 b21 b22 b23) * (1540483477 : Int32))) d2_38 rfl rfl ?_
  refine s_iload X6 hx hby (n := 42) (x := ((own_le b20 b21 b22 b23) * (1540483477 : Int32))) d2_40 rfl rfl ?_
  refine s_bipush X6 hx hby (n := 44) (v := (24 : Int32)) d2_42 rfl rfl ?_
  refine s_iushr X6 hx hby (n := 45) d2_44 rfl ?_
  refine s_ixor X6 hx hby (n := 46) d2_45 rfl ?_
  refine s_istore X6 hx hby (n := 48) (L' := #[.val (.ref a), .val (.int (24 : Int32)), .val (.int (24 : Int32)), .val (.int (own_stp (own_stp (own_stp (own_stp (own_stp (-1756908908 : Int32) (own_le b0 b1 b2 b3)) (own_le b4 b5 b6 b7)) (own_le b8 b9 b10 b11)) (own_le b12 b13 b14 b15)) (own_le b16 b17 b18 b19))), .val (.int (20 : Int32)), .val (.int (((own_le b20 b21 b22 b23) * (1540483477 : Int32)) ^^^ (XT.ushr ((own_le b20 b21 b22 b23) * (1540483477 : Int32)) (24 : Int32))))]) d2_46 rfl rfl ?_
  refine s_iload X6 hx hby (n := 50) (x := (((own_le b20 b21 b22 b23) * (1540483477 : Int32)) ^^^ (XT.ushr ((own_le b20 b21 b22 b23) * (1540483477 : Int32)) (24 : Int32)))) d2_48 rfl rfl ?_
  refine s_ldcI X6 hx hby hZ (n := 52) hown (hw _ (List.mem_of_getElem? (i := 10) rfl)) d2_50 rfl ?_
  refine s_imul X6 hx hby (n := 53) d2_52 rfl ?_
  refine s_istore X6 hx hby (n := 55) (L' := #[.val (.ref a), .val (.int (24 : Int32)), .val (.int (24 : Int32)), .val (.int (own_stp (own_stp (own_stp (own_stp (own_stp (-1756908908 : Int32) (own_le b0 b1 b2 b3)) (own_le b4 b5 b6 b7)) (own_le b8 b9 b10 b11)) (own_le b12 b13 b14 b15)) (own_le b16 b17 b18 b19))), .val (.int (20 : Int32)), .val (.int ((((own_le b20 b21 b22 b23) * (1540483477 : Int32)) ^^^ (XT.ushr ((own_le b20 b21 b22 b23) * (1540483477 : Int32)) (24 : Int32))) * (1540483477 : Int32)))]) d2_53 rfl rfl ?_
  refine s_iloadN X6 hx hby (n := 56) (x := (own_stp (own_stp (own_stp (own_stp (own_stp (-1756908908 : Int32) (own_le b0 b1 b2 b3)) (own_le b4 b5 b6 b7)) (own_le b8 b9 b10 b11)) (own_le b12 b13 b14 b15)) (own_le b16 b17 b18 b19))) d2_55 rfl rfl ?_
  refine s_ldcI X6 hx hby hZ (n := 58) hown (hw _ (List.mem_of_getElem? (i := 10) rfl)) d2_56 rfl ?_
  refine s_imul X6 hx hby (n := 59) d2_58 rfl ?_
  refine s_istoreN X6 hx hby (n := 60) (L' := #[.val (.ref a), .val (.int (24 : Int32)), .val (.int (24 : Int32)), .val (.int ((own_stp (own_stp (own_stp (own_stp (own_stp (-1756908908 : Int32) (own_le b0 b1 b2 b3)) (own_le b4 b5 b6 b7)) (own_le b8 b9 b10 b11)) (own_le b12 b13 b14 b15)) (own_le b16 b17 b18 b19)) * (1540483477 : Int32))), .val (.int (20 : Int32)), .val (.int ((((own_le b20 b21 b22 b23) * (1540483477 : Int32)) ^^^ (XT.ushr ((own_le b20 b21 b22 b23) * (1540483477 : Int32)) (24 : Int32))) * (1540483477 : Int32)))]) d2_59 rfl rfl ?_
  refine s_iloadN X6 hx hby (n := 61) (x := ((own_stp (own_stp (own_stp (own_stp (own_stp (-1756908908 : Int32) (own_le b0 b1 b2 b3)) (own_le b4 b5 b6 b7)) (own_le b8 b9 b10 b11)) (own_le b12 b13 b14 b15)) (own_le b16 b17 b18 b19)) * (1540483477 : Int32))) d2_60 rfl rfl ?_
  refine s_iload X6 hx hby (n := 63) (x := ((((own_le b20 b21 b22 b23) * (1540483477 : Int32)) ^^^ (XT.ushr ((own_le b20 b21 b22 b23) * (1540483477 : Int32)) (24 : Int32))) * (1540483477 : Int32))) d2_61 rfl rfl ?_
  refine s_ixor X6 hx hby (n := 64) d2_63 rfl ?_
  refine s_fold (z := (own_stp (own_stp (own_stp (own_stp (own_stp (own_stp (-1756908908 : Int32) (own_le b0 b1 b2 b3)) (own_le b4 b5 b6 b7)) (own_le b8 b9 b10 b11)) (own_le b12 b13 b14 b15)) (own_le b16 b17 b18 b19)) (own_le b20 b21 b22 b23))) rfl ?_
  refine s_istoreN X6 hx hby (n := 65) (L' := #[.val (.ref a), .val (.int (24 : Int32)), .val (.int (24 : Int32)), .val (.int (own_stp (own_stp (own_stp (own_stp (own_stp (own_stp (-1756908908 : Int32) (own_le b0 b1 b2 b3)) (own_le b4 b5 b6 b7)) (own_le b8 b9 b10 b11)) (own_le b12 b13 b14 b15)) (own_le b16 b17 b18 b19)) (own_le b20 b21 b22 b23))), .val (.int (20 : Int32)), .val (.int ((((own_le b20 b21 b22 b23) * (1540483477 : Int32)) ^^^ (XT.ushr ((own_le b20 b21 b22 b23) * (1540483477 : Int32)) (24 : Int32))) * (1540483477 : Int32)))]) d2_64 rfl rfl ?_
  refine s_iincC X6 hx hby (n := 68) (v := (4 : Int32)) (x := (20 : Int32)) (z := (24 : Int32)) (L' := #[.val (.ref a), .val (.int (24 : Int32)), .val (.int (24 : Int32)), .val (.int (own_stp (own_stp (own_stp (own_stp (own_stp (own_stp (-1756908908 : Int32) (own_le b0 b1 b2 b3)) (own_le b4 b5 b6 b7)) (own_le b8 b9 b10 b11)) (own_le b12 b13 b14 b15)) (own_le b16 b17 b18 b19)) (own_le b20 b21 b22 b23))), .val (.int (24 : Int32)), .val (.int ((((own_le b20 b21 b22 b23) * (1540483477 : Int32)) ^^^ (XT.ushr ((own_le b20 b21 b22 b23) * (1540483477 : Int32)) (24 : Int32))) * (1540483477 : Int32)))]) d2_65 rfl rfl (by decide) rfl rfl ?_
  refine s_goto X6 hx hby (n := 17) d2_68 (by decide) (by decide) ?_
  refine s_iload X6 hx hby (n := 19) (x := (24 : Int32)) d2_17 rfl rfl ?_
  refine s_iloadN X6 hx hby (n := 20) (x := (24 : Int32)) d2_19 rfl rfl ?_
  refine s_icmpY X6 hx hby (n := 71) d2_20 (by decide) (by decide) (by decide) ?_
  refine s_iloadN X6 hx hby (n := 72) (x := (24 : Int32)) d2_71 rfl rfl ?_
  refine s_iloadN X6 hx hby (n := 73) (x := (24 : Int32)) d2_72 rfl rfl ?_
  refine s_icmpY X6 hx hby (n := 115) d2_73 (by decide) (by decide) (by decide) ?_
  refine s_iloadN X6 hx hby (n := 116) (x := (own_stp (own_stp (own_stp (own_stp (own_stp (own_stp (-1756908908 : Int32) (own_le b0 b1 b2 b3)) (own_le b4 b5 b6 b7)) (own_le b8 b9 b10 b11)) (own_le b12 b13 b14 b15)) (own_le b16 b17 b18 b19)) (own_le b20 b21 b22 b23))) d2_115 rfl rfl ?_
  refine s_iloadN X6 hx hby (n := 117) (x := (own_stp (own_stp (own_stp (own_stp (own_stp (own_stp (-1756908908 : Int32) (own_le b0 b1 b2 b3)) (own_le b4 b5 b6 b7)) (own_le b8 b9 b10 b11)) (own_le b12 b13 b14 b15)) (own_le b16 b17 b18 b19)) (own_le b20 b21 b22 b23))) d2_116 rfl rfl ?_
  refine s_bipush X6 hx hby (n := 119) (v := (13 : Int32)) d2_117 rfl rfl ?_
  refine s_iushr X6 hx hby (n := 120) d2_119 rfl ?_
  refine s_ixor X6 hx hby (n := 121) d2_120 rfl ?_
  refine s_fold (z := (own_x13 (own_stp (own_stp (own_stp (own_stp (own_stp (own_stp (-1756908908 : Int32) (own_le b0 b1 b2 b3)) (own_le b4 b5 b6 b7)) (own_le b8 b9 b10 b11)) (own_le b12 b13 b14 b15)) (own_le b16 b17 b18 b19)) (own_le b20 b21 b22 b23)))) rfl ?_
  refine s_istoreN X6 hx hby (n := 122) (L' := #[.val (.ref a), .val (.int (24 : Int32)), .val (.int (24 : Int32)), .val (.int (own_x13 (own_stp (own_stp (own_stp (own_stp (own_stp (own_stp (-1756908908 : Int32) (own_le b0 b1 b2 b3)) (own_le b4 b5 b6 b7)) (own_le b8 b9 b10 b11)) (own_le b12 b13 b14 b15)) (own_le b16 b17 b18 b19)) (own_le b20 b21 b22 b23)))), .val (.int (24 : Int32)), .val (.int ((((own_le b20 b21 b22 b23) * (1540483477 : Int32)) ^^^ (XT.ushr ((own_le b20 b21 b22 b23) * (1540483477 : Int32)) (24 : Int32))) * (1540483477 : Int32)))]) d2_121 rfl rfl ?_
  refine s_iloadN X6 hx hby (n := 123) (x := (own_x13 (own_stp (own_stp (own_stp (own_stp (own_stp (own_stp (-1756908908 : Int32) (own_le b0 b1 b2 b3)) (own_le b4 b5 b6 b7)) (own_le b8 b9 b10 b11)) (own_le b12 b13 b14 b15)) (own_le b16 b17 b18 b19)) (own_le b20 b21 b22 b23)))) d2_122 rfl rfl ?_
  refine s_ldcI X6 hx hby hZ (n := 125) hown (hw _ (List.mem_of_getElem? (i := 10) rfl)) d2_123 rfl ?_
  refine s_imul X6 hx hby (n := 126) d2_125 rfl ?_
  refine s_istoreN X6 hx hby (n := 127) (L' := #[.val (.ref a), .val (.int (24 : Int32)), .val (.int (24 : Int32)), .val (.int ((own_x13 (own_stp (own_stp (own_stp (own_stp (own_stp (own_stp (-1756908908 : Int32) (own_le b0 b1 b2 b3)) (own_le b4 b5 b6 b7)) (own_le b8 b9 b10 b11)) (own_le b12 b13 b14 b15)) (own_le b16 b17 b18 b19)) (own_le b20 b21 b22 b23))) * (1540483477 : Int32))), .val (.int (24 : Int32)), .val (.int ((((own_le b20 b21 b22 b23) * (1540483477 : Int32)) ^^^ (XT.ushr ((own_le b20 b21 b22 b23) * (1540483477 : Int32)) (24 : Int32))) * (1540483477 : Int32)))]) d2_126 rfl rfl ?_
  refine s_iloadN X6 hx hby (n := 128) (x := ((own_x13 (own_stp (own_stp (own_stp (own_stp (own_stp (own_stp (-1756908908 : Int32) (own_le b0 b1 b2 b3)) (own_le b4 b5 b6 b7)) (own_le b8 b9 b10 b11)) (own_le b12 b13 b14 b15)) (own_le b16 b17 b18 b19)) (own_le b20 b21 b22 b23))) * (1540483477 : Int32))) d2_127 rfl rfl ?_
  refine s_iloadN X6 hx hby (n := 129) (x := ((own_x13 (own_stp (own_stp (own_stp (own_stp (own_stp (own_stp (-1756908908 : Int32) (own_le b0 b1 b2 b3)) (own_le b4 b5 b6 b7)) (own_le b8 b9 b10 b11)) (own_le b12 b13 b14 b15)) (own_le b16 b17 b18 b19)) (own_le b20 b21 b22 b23))) * (1540483477 : Int32))) d2_128 rfl rfl ?_
  refine s_bipush X6 hx hby (n := 131) (v := (15 : Int32)) d2_129 rfl rfl ?_
  refine s_iushr X6 hx hby (n := 132) d2_131 rfl ?_
  refine s_ixor X6 hx hby (n := 133) d2_132 rfl ?_
  refine s_fold (z := (own_x15 ((own_x13 (own_stp (own_stp (own_stp (own_stp (own_stp (own_stp (-1756908908 : Int32) (own_le b0 b1 b2 b3)) (own_le b4 b5 b6 b7)) (own_le b8 b9 b10 b11)) (own_le b12 b13 b14 b15)) (own_le b16 b17 b18 b19)) (own_le b20 b21 b22 b23))) * (1540483477 : Int32)))) rfl ?_
  refine s_istoreN X6 hx hby (n := 134) (L' := #[.val (.ref a), .val (.int (24 : Int32)), .val (.int (24 : Int32)), .val (.int (own_x15 ((own_x13 (own_stp (own_stp (own_stp (own_stp (own_stp (own_stp (-1756908908 : Int32) (own_le b0 b1 b2 b3)) (own_le b4 b5 b6 b7)) (own_le b8 b9 b10 b11)) (own_le b12 b13 b14 b15)) (own_le b16 b17 b18 b19)) (own_le b20 b21 b22 b23))) * (1540483477 : Int32)))), .val (.int (24 : Int32)), .val (.int ((((own_le b20 b21 b22 b23) * (1540483477 : Int32)) ^^^ (XT.ushr ((own_le b20 b21 b22 b23) * (1540483477 : Int32)) (24 : Int32))) * (1540483477 : Int32)))]) d2_133 rfl rfl ?_
  refine s_iloadN X6 hx hby (n := 135) (x := (own_x15 ((own_x13 (own_stp (own_stp (own_stp (own_stp (own_stp (own_stp (-1756908908 : Int32) (own_le b0 b1 b2 b3)) (own_le b4 b5 b6 b7)) (own_le b8 b9 b10 b11)) (own_le b12 b13 b14 b15)) (own_le b16 b17 b18 b19)) (own_le b20 b21 b22 b23))) * (1540483477 : Int32)))) d2_134 rfl rfl ?_
  exact s_retI X6 hx hby hlk hret d2_135 (by decide) (by decide) ⟨rfl, e6, M6⟩
set_option maxRecDepth 65536 in
set_option maxHeartbeats 40000000 in
theorem rmH26 (l : Launch) (Z : State) (a0 : Array Value) (hw : ∀ d ∈ tables_1, d.before a0 Z = true) (a : Addr) (cl : Cell) (b0 b1 b2 b3 b4 b5 b6 b7 b8 b9 b10 b11 b12 b13 b14 b15 b16 b17 b18 b19 b20 b21 b22 b23 b24 b25 : Int32) (h0 : Heap) (n0 : Nat) (Ar : Arr Z h0 a cl .byte) (Sz : cl.slots.size = (26 : Int32).toNatClampNeg) (B0 : cl.slots[0]? = some (.int b0)) (B1 : cl.slots[1]? = some (.int b1)) (B2 : cl.slots[2]? = some (.int b2)) (B3 : cl.slots[3]? = some (.int b3)) (B4 : cl.slots[4]? = some (.int b4)) (B5 : cl.slots[5]? = some (.int b5)) (B6 : cl.slots[6]? = some (.int b6)) (B7 : cl.slots[7]? = some (.int b7)) (B8 : cl.slots[8]? = some (.int b8)) (B9 : cl.slots[9]? = some (.int b9)) (B10 : cl.slots[10]? = some (.int b10)) (B11 : cl.slots[11]? = some (.int b11)) (B12 : cl.slots[12]? = some (.int b12)) (B13 : cl.slots[13]? = some (.int b13)) (B14 : cl.slots[14]? = some (.int b14)) (B15 : cl.slots[15]? = some (.int b15)) (B16 : cl.slots[16]? = some (.int b16)) (B17 : cl.slots[17]? = some (.int b17)) (B18 : cl.slots[18]? = some (.int b18)) (B19 : cl.slots[19]? = some (.int b19)) (B20 : cl.slots[20]? = some (.int b20)) (B21 : cl.slots[21]? = some (.int b21)) (B22 : cl.slots[22]? = some (.int b22)) (B23 : cl.slots[23]? = some (.int b23)) (B24 : cl.slots[24]? = some (.int b24)) (B25 : cl.slots[25]? = some (.int b25)) :
    OCon l Z (⟨"com/example/ucoord/ucoord/partition/KeyPartitioner", "murmur2", "([B)I"⟩ : MethodName) prog_42_method_3_code 6 (some (.int)) [] ({ frames := 1, cells := 0, slots := 0, locals := 13 } : Room) #[(.ref a)] h0 (fun v h L => v = some (.int (own_x15 ((own_x13 ((((own_stp (own_stp (own_stp (own_stp (own_stp (own_stp (-1756908906 : Int32) (own_le b0 b1 b2 b3)) (own_le b4 b5 b6 b7)) (own_le b8 b9 b10 b11)) (own_le b12 b13 b14 b15)) (own_le b16 b17 b18 b19)) (own_le b20 b21 b22 b23)) ^^^ ((b24 &&& (255 : Int32)) <<< ((0 : Int32) &&& 31))) ^^^ ((b25 &&& (255 : Int32)) <<< ((8 : Int32) &&& 31))) * (1540483477 : Int32))) * (1540483477 : Int32)))) ∧ h = h0 ∧ Fr n0 L) := by
  refine con (plainFor_of_name pn1) ?_
  intro p e s m below meth c s₁ hx hby hml hZ hown hnm hret hlk X0 e0
  refine entry (efH m a) ?_
  have M0 := Fr.nil n0
  refine s_aloadN X0 hx hby (n := 1) (x := (.ref a)) d2_0 rfl rfl rfl ?_
  refine s_arraylength X0 hx hby hZ (n := 2) e0 Ar (z := (26 : Int32)) Sz (by decide) d2_1 rfl ?_
  refine s_istoreN X0 hx hby (n := 3) (L' := #[.val (.ref a), .val (.int (26 : Int32)), .unset, .unset, .unset, .unset]) d2_2 rfl rfl ?_
  refine s_iloadN X0 hx hby (n := 4) (x := (26 : Int32)) d2_3 rfl rfl ?_
  refine s_iloadN X0 hx hby (n := 5) (x := (26 : Int32)) d2_4 rfl rfl ?_
  refine s_iconst X0 hx hby (n := 6) (v := (4 : Int32)) d2_5 rfl rfl ?_
  refine s_irem X0 hx hby (n := 7) d2_6 (by decide) rfl ?_
  refine s_fold (z := (2 : Int32)) (by decide) ?_
  refine s_isub X0 hx hby (n := 8) d2_7 rfl ?_
  refine s_fold (z := (24 : Int32)) (by decide) ?_
  refine s_istoreN X0 hx hby (n := 9) (L' := #[.val (.ref a), .val (.int (26 : Int32)), .val (.int (24 : Int32)), .unset, .unset, .unset]) d2_8 rfl rfl ?_
  refine s_ldcI X0 hx hby hZ (n := 11) hown (hw _ (List.mem_of_getElem? (i := 9) rfl)) d2_9 rfl ?_
  refine s_iloadN X0 hx hby (n := 12) (x := (26 : Int32)) d2_11 rfl rfl ?_
  refine s_ixor X0 hx hby (n := 13) d2_12 rfl ?_
  refine s_fold (z := (-1756908906 : Int32)) (by decide) ?_
  refine s_istoreN X0 hx hby (n := 14) (L' := #[.val (.ref a), .val (.int (26 : Int32)), .val (.int (24 : Int32)), .val (.int (-1756908906 : Int32)), .unset, .unset]) d2_13 rfl rfl ?_
  refine s_iconst X0 hx hby (n := 15) (v := (0 : Int32)) d2_14 rfl rfl ?_
  refine s_istore X0 hx hby (n := 17) (L' := #[.val (.ref a), .val (.int (26 : Int32)), .val (.int (24 : Int32)), .val (.int (-1756908906 : Int32)), .val (.int (0 : Int32)), .unset]) d2_15 rfl rfl ?_
  refine s_iload X0 hx hby (n := 19) (x := (0 : Int32)) d2_17 rfl rfl ?_
  refine s_iloadN X0 hx hby (n := 20) (x := (24 : Int32)) d2_19 rfl rfl ?_
  refine s_icmpN X0 hx hby (n := 23) d2_20 (by decide) rfl ?_
  refine s_aloadN X0 hx hby (n := 24) (x := (.ref a)) d2_23 rfl rfl rfl ?_
  refine s_iload X0 hx hby (n := 26) (x := (0 : Int32)) d2_24 rfl rfl ?_
  refine s_callS X0 hx hby hml hZ (n := 29) hown (hw _ (List.mem_of_getElem? (i := 13) rfl)) (hw _ (List.mem_of_getElem? (i := 14) rfl)) (hw _ (List.mem_of_getElem? (i := 7) rfl)) (hw _ (List.mem_of_getElem? (i := 15) rfl)) (by decide) (rmE l Z a0 hw a cl (0 : Int32) b0 b1 b2 b3 0 1 2 3 h0 n0 Ar (by decide) (by decide) (by rw [Sz]; decide) B0 (by decide) (by decide) (by rw [Sz]; decide) B1 (by decide) (by decide) (by rw [Sz]; decide) B2 (by decide) (by decide) (by rw [Sz]; decide) B3) e0 (by decide) 0 (by decide) (by decide) (by decide) pd_0 [(.ref a), (.int (0 : Int32))] [] rfl rfl rfl (Nat.le_of_eq rfl) rfl d2_26 rfl ?_
  intro T1 L1 v1 X1 q1c
  obtain ⟨rfl, e1, N1⟩ := q1c
  show OEnds p e below s _ _ _ T1 (mkF m 29 #[.val (.ref a), .val (.int (26 : Int32)), .val (.int (24 : Int32)), .val (.int (-1756908906 : Int32)), .val (.int (0 : Int32)), .unset] [(.int (own_le b0 b1 b2 b3))])
  have M1 := Fr.app M0 N1
  refine s_istore X1 hx hby (n := 31) (L' := #[.val (.ref a), .val (.int (26 : Int32)), .val (.int (24 : Int32)), .val (.int (-1756908906 : Int32)), .val (.int (0 : Int32)), .val (.int (own_le b0 b1 b2 b3))]) d2_29 rfl rfl ?_
  refine s_iload X1 hx hby (n := 33) (x := (own_le b0 b1 b2 b3)) d2_31 rfl rfl ?_
  refine s_ldcI X1 hx hby hZ (n := 35) hown (hw _ (List.mem_of_getElem? (i := 10) rfl)) d2_33 rfl ?_
  refine s_imul X1 hx hby (n := 36) d2_35 rfl ?_
  refine s_istore X1 hx hby (n := 38) (L' := #[.val (.ref a), .val (.int (26 : Int32)), .val (.int (24 : Int32)), .val (.int (-1756908906 : Int32)), .val (.int (0 : Int32)), .val (.int ((own_le b0 b1 b2 b3) * (1540483477 : Int32)))]) d2_36 rfl rfl ?_
  refine s_iload X1 hx hby (n := 40) (x := ((own_le b0 b1 b2 b3) * (1540483477 : Int32))) d2_38 rfl rfl ?_
  refine s_iload X1 hx hby (n := 42) (x := ((own_le b0 b1 b2 b3) * (1540483477 : Int32))) d2_40 rfl rfl ?_
  refine s_bipush X1 hx hby (n := 44) (v := (24 : Int32)) d2_42 rfl rfl ?_
  refine s_iushr X1 hx hby (n := 45) d2_44 rfl ?_
  refine s_ixor X1 hx hby (n := 46) d2_45 rfl ?_
  refine s_istore X1 hx hby (n := 48) (L' := #[.val (.ref a), .val (.int (26 : Int32)), .val (.int (24 : Int32)), .val (.int (-1756908906 : Int32)), .val (.int (0 : Int32)), .val (.int (((own_le b0 b1 b2 b3) * (1540483477 : Int32)) ^^^ (XT.ushr ((own_le b0 b1 b2 b3) * (1540483477 : Int32)) (24 : Int32))))]) d2_46 rfl rfl ?_
  refine s_iload X1 hx hby (n := 50) (x := (((own_le b0 b1 b2 b3) * (1540483477 : Int32)) ^^^ (XT.ushr ((own_le b0 b1 b2 b3) * (1540483477 : Int32)) (24 : Int32)))) d2_48 rfl rfl ?_
  refine s_ldcI X1 hx hby hZ (n := 52) hown (hw _ (List.mem_of_getElem? (i := 10) rfl)) d2_50 rfl ?_
  refine s_imul X1 hx hby (n := 53) d2_52 rfl ?_
  refine s_istore X1 hx hby (n := 55) (L' := #[.val (.ref a), .val (.int (26 : Int32)), .val (.int (24 : Int32)), .val (.int (-1756908906 : Int32)), .val (.int (0 : Int32)), .val (.int ((((own_le b0 b1 b2 b3) * (1540483477 : Int32)) ^^^ (XT.ushr ((own_le b0 b1 b2 b3) * (1540483477 : Int32)) (24 : Int32))) * (1540483477 : Int32)))]) d2_53 rfl rfl ?_
  refine s_iloadN X1 hx hby (n := 56) (x := (-1756908906 : Int32)) d2_55 rfl rfl ?_
  refine s_ldcI X1 hx hby hZ (n := 58) hown (hw _ (List.mem_of_getElem? (i := 10) rfl)) d2_56 rfl ?_
  refine s_imul X1 hx hby (n := 59) d2_58 rfl ?_
  refine s_istoreN X1 hx hby (n := 60) (L' := #[.val (.ref a), .val (.int (26 : Int32)), .val (.int (24 : Int32)), .val (.int ((-1756908906 : Int32) * (1540483477 : Int32))), .val (.int (0 : Int32)), .val (.int ((((own_le b0 b1 b2 b3) * (1540483477 : Int32)) ^^^ (XT.ushr ((own_le b0 b1 b2 b3) * (1540483477 : Int32)) (24 : Int32))) * (1540483477 : Int32)))]) d2_59 rfl rfl ?_
  refine s_iloadN X1 hx hby (n := 61) (x := ((-1756908906 : Int32) * (1540483477 : Int32))) d2_60 rfl rfl ?_
  refine s_iload X1 hx hby (n := 63) (x := ((((own_le b0 b1 b2 b3) * (1540483477 : Int32)) ^^^ (XT.ushr ((own_le b0 b1 b2 b3) * (1540483477 : Int32)) (24 : Int32))) * (1540483477 : Int32))) d2_61 rfl rfl ?_
  refine s_ixor X1 hx hby (n := 64) d2_63 rfl ?_
  refine s_fold (z := (own_stp (-1756908906 : Int32) (own_le b0 b1 b2 b3))) rfl ?_
  refine s_istoreN X1 hx hby (n := 65) (L' := #[.val (.ref a), .val (.int (26 : Int32)), .val (.int (24 : Int32)), .val (.int (own_stp (-1756908906 : Int32) (own_le b0 b1 b2 b3))), .val (.int (0 : Int32)), .val (.int ((((own_le b0 b1 b2 b3) * (1540483477 : Int32)) ^^^ (XT.ushr ((own_le b0 b1 b2 b3) * (1540483477 : Int32)) (24 : Int32))) * (1540483477 : Int32)))]) d2_64 rfl rfl ?_
  refine s_iincC X1 hx hby (n := 68) (v := (4 : Int32)) (x := (0 : Int32)) (z := (4 : Int32)) (L' := #[.val (.ref a), .val (.int (26 : Int32)), .val (.int (24 : Int32)), .val (.int (own_stp (-1756908906 : Int32) (own_le b0 b1 b2 b3))), .val (.int (4 : Int32)), .val (.int ((((own_le b0 b1 b2 b3) * (1540483477 : Int32)) ^^^ (XT.ushr ((own_le b0 b1 b2 b3) * (1540483477 : Int32)) (24 : Int32))) * (1540483477 : Int32)))]) d2_65 rfl rfl (by decide) rfl rfl ?_
  refine s_goto X1 hx hby (n := 17) d2_68 (by decide) (by decide) ?_
  refine s_iload X1 hx hby (n := 19) (x := (4 : Int32)) d2_17 rfl rfl ?_
  refine s_iloadN X1 hx hby (n := 20) (x := (24 : Int32)) d2_19 rfl rfl ?_
  refine s_icmpN X1 hx hby (n := 23) d2_20 (by decide) rfl ?_
  refine s_aloadN X1 hx hby (n := 24) (x := (.ref a)) d2_23 rfl rfl rfl ?_
  refine s_iload X1 hx hby (n := 26) (x := (4 : Int32)) d2_24 rfl rfl ?_
  refine s_callS X1 hx hby hml hZ (n := 29) hown (hw _ (List.mem_of_getElem? (i := 13) rfl)) (hw _ (List.mem_of_getElem? (i := 14) rfl)) (hw _ (List.mem_of_getElem? (i := 7) rfl)) (hw _ (List.mem_of_getElem? (i := 15) rfl)) (by decide) (rmE l Z a0 hw a cl (4 : Int32) b4 b5 b6 b7 4 5 6 7 h0 n0 Ar (by decide) (by decide) (by rw [Sz]; decide) B4 (by decide) (by decide) (by rw [Sz]; decide) B5 (by decide) (by decide) (by rw [Sz]; decide) B6 (by decide) (by decide) (by rw [Sz]; decide) B7) e1 (by decide) 0 (by decide) (by decide) (by decide) pd_0 [(.ref a), (.int (4 : Int32))] [] rfl rfl rfl (Nat.le_of_eq rfl) rfl d2_26 rfl ?_
  intro T2 L2 v2 X2 q2c
  obtain ⟨rfl, e2, N2⟩ := q2c
  show OEnds p e below s _ _ _ T2 (mkF m 29 #[.val (.ref a), .val (.int (26 : Int32)), .val (.int (24 : Int32)), .val (.int (own_stp (-1756908906 : Int32) (own_le b0 b1 b2 b3))), .val (.int (4 : Int32)), .val (.int ((((own_le b0 b1 b2 b3) * (1540483477 : Int32)) ^^^ (XT.ushr ((own_le b0 b1 b2 b3) * (1540483477 : Int32)) (24 : Int32))) * (1540483477 : Int32)))] [(.int (own_le b4 b5 b6 b7))])
  have M2 := Fr.app M1 N2
  refine s_istore X2 hx hby (n := 31) (L' := #[.val (.ref a), .val (.int (26 : Int32)), .val (.int (24 : Int32)), .val (.int (own_stp (-1756908906 : Int32) (own_le b0 b1 b2 b3))), .val (.int (4 : Int32)), .val (.int (own_le b4 b5 b6 b7))]) d2_29 rfl rfl ?_
  refine s_iload X2 hx hby (n := 33) (x := (own_le b4 b5 b6 b7)) d2_31 rfl rfl ?_
  refine s_ldcI X2 hx hby hZ (n := 35) hown (hw _ (List.mem_of_getElem? (i := 10) rfl)) d2_33 rfl ?_
  refine s_imul X2 hx hby (n := 36) d2_35 rfl ?_
  refine s_istore X2 hx hby (n := 38) (L' := #[.val (.ref a), .val (.int (26 : Int32)), .val (.int (24 : Int32)), .val (.int (own_stp (-1756908906 : Int32) (own_le b0 b1 b2 b3))), .val (.int (4 : Int32)), .val (.int ((own_le b4 b5 b6 b7) * (1540483477 : Int32)))]) d2_36 rfl rfl ?_
  refine s_iload X2 hx hby (n := 40) (x := ((own_le b4 b5 b6 b7) * (1540483477 : Int32))) d2_38 rfl rfl ?_
  refine s_iload X2 hx hby (n := 42) (x := ((own_le b4 b5 b6 b7) * (1540483477 : Int32))) d2_40 rfl rfl ?_
  refine s_bipush X2 hx hby (n := 44) (v := (24 : Int32)) d2_42 rfl rfl ?_
  refine s_iushr X2 hx hby (n := 45) d2_44 rfl ?_
  refine s_ixor X2 hx hby (n := 46) d2_45 rfl ?_
  refine s_istore X2 hx hby (n := 48) (L' := #[.val (.ref a), .val (.int (26 : Int32)), .val (.int (24 : Int32)), .val (.int (own_stp (-1756908906 : Int32) (own_le b0 b1 b2 b3))), .val (.int (4 : Int32)), .val (.int (((own_le b4 b5 b6 b7) * (1540483477 : Int32)) ^^^ (XT.ushr ((own_le b4 b5 b6 b7) * (1540483477 : Int32)) (24 : Int32))))]) d2_46 rfl rfl ?_
  refine s_iload X2 hx hby (n := 50) (x := (((own_le b4 b5 b6 b7) * (1540483477 : Int32)) ^^^ (XT.ushr ((own_le b4 b5 b6 b7) * (1540483477 : Int32)) (24 : Int32)))) d2_48 rfl rfl ?_
  refine s_ldcI X2 hx hby hZ (n := 52) hown (hw _ (List.mem_of_getElem? (i := 10) rfl)) d2_50 rfl ?_
  refine s_imul X2 hx hby (n := 53) d2_52 rfl ?_
  refine s_istore X2 hx hby (n := 55) (L' := #[.val (.ref a), .val (.int (26 : Int32)), .val (.int (24 : Int32)), .val (.int (own_stp (-1756908906 : Int32) (own_le b0 b1 b2 b3))), .val (.int (4 : Int32)), .val (.int ((((own_le b4 b5 b6 b7) * (1540483477 : Int32)) ^^^ (XT.ushr ((own_le b4 b5 b6 b7) * (1540483477 : Int32)) (24 : Int32))) * (1540483477 : Int32)))]) d2_53 rfl rfl ?_
  refine s_iloadN X2 hx hby (n := 56) (x := (own_stp (-1756908906 : Int32) (own_le b0 b1 b2 b3))) d2_55 rfl rfl ?_
  refine s_ldcI X2 hx hby hZ (n := 58) hown (hw _ (List.mem_of_getElem? (i := 10) rfl)) d2_56 rfl ?_
  refine s_imul X2 hx hby (n := 59) d2_58 rfl ?_
  refine s_istoreN X2 hx hby (n := 60) (L' := #[.val (.ref a), .val (.int (26 : Int32)), .val (.int (24 : Int32)), .val (.int ((own_stp (-1756908906 : Int32) (own_le b0 b1 b2 b3)) * (1540483477 : Int32))), .val (.int (4 : Int32)), .val (.int ((((own_le b4 b5 b6 b7) * (1540483477 : Int32)) ^^^ (XT.ushr ((own_le b4 b5 b6 b7) * (1540483477 : Int32)) (24 : Int32))) * (1540483477 : Int32)))]) d2_59 rfl rfl ?_
  refine s_iloadN X2 hx hby (n := 61) (x := ((own_stp (-1756908906 : Int32) (own_le b0 b1 b2 b3)) * (1540483477 : Int32))) d2_60 rfl rfl ?_
  refine s_iload X2 hx hby (n := 63) (x := ((((own_le b4 b5 b6 b7) * (1540483477 : Int32)) ^^^ (XT.ushr ((own_le b4 b5 b6 b7) * (1540483477 : Int32)) (24 : Int32))) * (1540483477 : Int32))) d2_61 rfl rfl ?_
  refine s_ixor X2 hx hby (n := 64) d2_63 rfl ?_
  refine s_fold (z := (own_stp (own_stp (-1756908906 : Int32) (own_le b0 b1 b2 b3)) (own_le b4 b5 b6 b7))) rfl ?_
  refine s_istoreN X2 hx hby (n := 65) (L' := #[.val (.ref a), .val (.int (26 : Int32)), .val (.int (24 : Int32)), .val (.int (own_stp (own_stp (-1756908906 : Int32) (own_le b0 b1 b2 b3)) (own_le b4 b5 b6 b7))), .val (.int (4 : Int32)), .val (.int ((((own_le b4 b5 b6 b7) * (1540483477 : Int32)) ^^^ (XT.ushr ((own_le b4 b5 b6 b7) * (1540483477 : Int32)) (24 : Int32))) * (1540483477 : Int32)))]) d2_64 rfl rfl ?_
  refine s_iincC X2 hx hby (n := 68) (v := (4 : Int32)) (x := (4 : Int32)) (z := (8 : Int32)) (L' := #[.val (.ref a), .val (.int (26 : Int32)), .val (.int (24 : Int32)), .val (.int (own_stp (own_stp (-1756908906 : Int32) (own_le b0 b1 b2 b3)) (own_le b4 b5 b6 b7))), .val (.int (8 : Int32)), .val (.int ((((own_le b4 b5 b6 b7) * (1540483477 : Int32)) ^^^ (XT.ushr ((own_le b4 b5 b6 b7) * (1540483477 : Int32)) (24 : Int32))) * (1540483477 : Int32)))]) d2_65 rfl rfl (by decide) rfl rfl ?_
  refine s_goto X2 hx hby (n := 17) d2_68 (by decide) (by decide) ?_
  refine s_iload X2 hx hby (n := 19) (x := (8 : Int32)) d2_17 rfl rfl ?_
  refine s_iloadN X2 hx hby (n := 20) (x := (24 : Int32)) d2_19 rfl rfl ?_
  refine s_icmpN X2 hx hby (n := 23) d2_20 (by decide) rfl ?_
  refine s_aloadN X2 hx hby (n := 24) (x := (.ref a)) d2_23 rfl rfl rfl ?_
  refine s_iload X2 hx hby (n := 26) (x := (8 : Int32)) d2_24 rfl rfl ?_
  refine s_callS X2 hx hby hml hZ (n := 29) hown (hw _ (List.mem_of_getElem? (i := 13) rfl)) (hw _ (List.mem_of_getElem? (i := 14) rfl)) (hw _ (List.mem_of_getElem? (i := 7) rfl)) (hw _ (List.mem_of_getElem? (i := 15) rfl)) (by decide) (rmE l Z a0 hw a cl (8 : Int32) b8 b9 b10 b11 8 9 10 11 h0 n0 Ar (by decide) (by decide) (by rw [Sz]; decide) B8 (by decide) (by decide) (by rw [Sz]; decide) B9 (by decide) (by decide) (by rw [Sz]; decide) B10 (by decide) (by decide) (by rw [Sz]; decide) B11) e2 (by decide) 0 (by decide) (by decide) (by decide) pd_0 [(.ref a), (.int (8 : Int32))] [] rfl rfl rfl (Nat.le_of_eq rfl) rfl d2_26 rfl ?_
  intro T3 L3 v3 X3 q3c
  obtain ⟨rfl, e3, N3⟩ := q3c
  show OEnds p e below s _ _ _ T3 (mkF m 29 #[.val (.ref a), .val (.int (26 : Int32)), .val (.int (24 : Int32)), .val (.int (own_stp (own_stp (-1756908906 : Int32) (own_le b0 b1 b2 b3)) (own_le b4 b5 b6 b7))), .val (.int (8 : Int32)), .val (.int ((((own_le b4 b5 b6 b7) * (1540483477 : Int32)) ^^^ (XT.ushr ((own_le b4 b5 b6 b7) * (1540483477 : Int32)) (24 : Int32))) * (1540483477 : Int32)))] [(.int (own_le b8 b9 b10 b11))])
  have M3 := Fr.app M2 N3
  refine s_istore X3 hx hby (n := 31) (L' := #[.val (.ref a), .val (.int (26 : Int32)), .val (.int (24 : Int32)), .val (.int (own_stp (own_stp (-1756908906 : Int32) (own_le b0 b1 b2 b3)) (own_le b4 b5 b6 b7))), .val (.int (8 : Int32)), .val (.int (own_le b8 b9 b10 b11))]) d2_29 rfl rfl ?_
  refine s_iload X3 hx hby (n := 33) (x := (own_le b8 b9 b10 b11)) d2_31 rfl rfl ?_
  refine s_ldcI X3 hx hby hZ (n := 35) hown (hw _ (List.mem_of_getElem? (i := 10) rfl)) d2_33 rfl ?_
  refine s_imul X3 hx hby (n := 36) d2_35 rfl ?_
  refine s_istore X3 hx hby (n := 38) (L' := #[.val (.ref a), .val (.int (26 : Int32)), .val (.int (24 : Int32)), .val (.int (own_stp (own_stp (-1756908906 : Int32) (own_le b0 b1 b2 b3)) (own_le b4 b5 b6 b7))), .val (.int (8 : Int32)), .val (.int ((own_le b8 b9 b10 b11) * (1540483477 : Int32)))]) d2_36 rfl rfl ?_
  refine s_iload X3 hx hby (n := 40) (x := ((own_le b8 b9 b10 b11) * (1540483477 : Int32))) d2_38 rfl rfl ?_
  refine s_iload X3 hx hby (n := 42) (x := ((own_le b8 b9 b10 b11) * (1540483477 : Int32))) d2_40 rfl rfl ?_
  refine s_bipush X3 hx hby (n := 44) (v := (24 : Int32)) d2_42 rfl rfl ?_
  refine s_iushr X3 hx hby (n := 45) d2_44 rfl ?_
  refine s_ixor X3 hx hby (n := 46) d2_45 rfl ?_
  refine s_istore X3 hx hby (n := 48) (L' := #[.val (.ref a), .val (.int (26 : Int32)), .val (.int (24 : Int32)), .val (.int (own_stp (own_stp (-1756908906 : Int32) (own_le b0 b1 b2 b3)) (own_le b4 b5 b6 b7))), .val (.int (8 : Int32)), .val (.int (((own_le b8 b9 b10 b11) * (1540483477 : Int32)) ^^^ (XT.ushr ((own_le b8 b9 b10 b11) * (1540483477 : Int32)) (24 : Int32))))]) d2_46 rfl rfl ?_
  refine s_iload X3 hx hby (n := 50) (x := (((own_le b8 b9 b10 b11) * (1540483477 : Int32)) ^^^ (XT.ushr ((own_le b8 b9 b10 b11) * (1540483477 : Int32)) (24 : Int32)))) d2_48 rfl rfl ?_
  refine s_ldcI X3 hx hby hZ (n := 52) hown (hw _ (List.mem_of_getElem? (i := 10) rfl)) d2_50 rfl ?_
  refine s_imul X3 hx hby (n := 53) d2_52 rfl ?_
  refine s_istore X3 hx hby (n := 55) (L' := #[.val (.ref a), .val (.int (26 : Int32)), .val (.int (24 : Int32)), .val (.int (own_stp (own_stp (-1756908906 : Int32) (own_le b0 b1 b2 b3)) (own_le b4 b5 b6 b7))), .val (.int (8 : Int32)), .val (.int ((((own_le b8 b9 b10 b11) * (1540483477 : Int32)) ^^^ (XT.ushr ((own_le b8 b9 b10 b11) * (1540483477 : Int32)) (24 : Int32))) * (1540483477 : Int32)))]) d2_53 rfl rfl ?_
  refine s_iloadN X3 hx hby (n := 56) (x := (own_stp (own_stp (-1756908906 : Int32) (own_le b0 b1 b2 b3)) (own_le b4 b5 b6 b7))) d2_55 rfl rfl ?_
  refine s_ldcI X3 hx hby hZ (n := 58) hown (hw _ (List.mem_of_getElem? (i := 10) rfl)) d2_56 rfl ?_
  refine s_imul X3 hx hby (n := 59) d2_58 rfl ?_
  refine s_istoreN X3 hx hby (n := 60) (L' := #[.val (.ref a), .val (.int (26 : Int32)), .val (.int (24 : Int32)), .val (.int ((own_stp (own_stp (-1756908906 : Int32) (own_le b0 b1 b2 b3)) (own_le b4 b5 b6 b7)) * (1540483477 : Int32))), .val (.int (8 : Int32)), .val (.int ((((own_le b8 b9 b10 b11) * (1540483477 : Int32)) ^^^ (XT.ushr ((own_le b8 b9 b10 b11) * (1540483477 : Int32)) (24 : Int32))) * (1540483477 : Int32)))]) d2_59 rfl rfl ?_
  refine s_iloadN X3 hx hby (n := 61) (x := ((own_stp (own_stp (-1756908906 : Int32) (own_le b0 b1 b2 b3)) (own_le b4 b5 b6 b7)) * (1540483477 : Int32))) d2_60 rfl rfl ?_
  refine s_iload X3 hx hby (n := 63) (x := ((((own_le b8 b9 b10 b11) * (1540483477 : Int32)) ^^^ (XT.ushr ((own_le b8 b9 b10 b11) * (1540483477 : Int32)) (24 : Int32))) * (1540483477 : Int32))) d2_61 rfl rfl ?_
  refine s_ixor X3 hx hby (n := 64) d2_63 rfl ?_
  refine s_fold (z := (own_stp (own_stp (own_stp (-1756908906 : Int32) (own_le b0 b1 b2 b3)) (own_le b4 b5 b6 b7)) (own_le b8 b9 b10 b11))) rfl ?_
  refine s_istoreN X3 hx hby (n := 65) (L' := #[.val (.ref a), .val (.int (26 : Int32)), .val (.int (24 : Int32)), .val (.int (own_stp (own_stp (own_stp (-1756908906 : Int32) (own_le b0 b1 b2 b3)) (own_le b4 b5 b6 b7)) (own_le b8 b9 b10 b11))), .val (.int (8 : Int32)), .val (.int ((((own_le b8 b9 b10 b11) * (1540483477 : Int32)) ^^^ (XT.ushr ((own_le b8 b9 b10 b11) * (1540483477 : Int32)) (24 : Int32))) * (1540483477 : Int32)))]) d2_64 rfl rfl ?_
  refine s_iincC X3 hx hby (n := 68) (v := (4 : Int32)) (x := (8 : Int32)) (z := (12 : Int32)) (L' := #[.val (.ref a), .val (.int (26 : Int32)), .val (.int (24 : Int32)), .val (.int (own_stp (own_stp (own_stp (-1756908906 : Int32) (own_le b0 b1 b2 b3)) (own_le b4 b5 b6 b7)) (own_le b8 b9 b10 b11))), .val (.int (12 : Int32)), .val (.int ((((own_le b8 b9 b10 b11) * (1540483477 : Int32)) ^^^ (XT.ushr ((own_le b8 b9 b10 b11) * (1540483477 : Int32)) (24 : Int32))) * (1540483477 : Int32)))]) d2_65 rfl rfl (by decide) rfl rfl ?_
  refine s_goto X3 hx hby (n := 17) d2_68 (by decide) (by decide) ?_
  refine s_iload X3 hx hby (n := 19) (x := (12 : Int32)) d2_17 rfl rfl ?_
  refine s_iloadN X3 hx hby (n := 20) (x := (24 : Int32)) d2_19 rfl rfl ?_
  refine s_icmpN X3 hx hby (n := 23) d2_20 (by decide) rfl ?_
  refine s_aloadN X3 hx hby (n := 24) (x := (.ref a)) d2_23 rfl rfl rfl ?_
  refine s_iload X3 hx hby (n := 26) (x := (12 : Int32)) d2_24 rfl rfl ?_
  refine s_callS X3 hx hby hml hZ (n := 29) hown (hw _ (List.mem_of_getElem? (i := 13) rfl)) (hw _ (List.mem_of_getElem? (i := 14) rfl)) (hw _ (List.mem_of_getElem? (i := 7) rfl)) (hw _ (List.mem_of_getElem? (i := 15) rfl)) (by decide) (rmE l Z a0 hw a cl (12 : Int32) b12 b13 b14 b15 12 13 14 15 h0 n0 Ar (by decide) (by decide) (by rw [Sz]; decide) B12 (by decide) (by decide) (by rw [Sz]; decide) B13 (by decide) (by decide) (by rw [Sz]; decide) B14 (by decide) (by decide) (by rw [Sz]; decide) B15) e3 (by decide) 0 (by decide) (by decide) (by decide) pd_0 [(.ref a), (.int (12 : Int32))] [] rfl rfl rfl (Nat.le_of_eq rfl) rfl d2_26 rfl ?_
  intro T4 L4 v4 X4 q4c
  obtain ⟨rfl, e4, N4⟩ := q4c
  show OEnds p e below s _ _ _ T4 (mkF m 29 #[.val (.ref a), .val (.int (26 : Int32)), .val (.int (24 : Int32)), .val (.int (own_stp (own_stp (own_stp (-1756908906 : Int32) (own_le b0 b1 b2 b3)) (own_le b4 b5 b6 b7)) (own_le b8 b9 b10 b11))), .val (.int (12 : Int32)), .val (.int ((((own_le b8 b9 b10 b11) * (1540483477 : Int32)) ^^^ (XT.ushr ((own_le b8 b9 b10 b11) * (1540483477 : Int32)) (24 : Int32))) * (1540483477 : Int32)))] [(.int (own_le b12 b13 b14 b15))])
  have M4 := Fr.app M3 N4
  refine s_istore X4 hx hby (n := 31) (L' := #[.val (.ref a), .val (.int (26 : Int32)), .val (.int (24 : Int32)), .val (.int (own_stp (own_stp (own_stp (-1756908906 : Int32) (own_le b0 b1 b2 b3)) (own_le b4 b5 b6 b7)) (own_le b8 b9 b10 b11))), .val (.int (12 : Int32)), .val (.int (own_le b12 b13 b14 b15))]) d2_29 rfl rfl ?_
  refine s_iload X4 hx hby (n := 33) (x := (own_le b12 b13 b14 b15)) d2_31 rfl rfl ?_
  refine s_ldcI X4 hx hby hZ (n := 35) hown (hw _ (List.mem_of_getElem? (i := 10) rfl)) d2_33 rfl ?_
  refine s_imul X4 hx hby (n := 36) d2_35 rfl ?_
  refine s_istore X4 hx hby (n := 38) (L' := #[.val (.ref a), .val (.int (26 : Int32)), .val (.int (24 : Int32)), .val (.int (own_stp (own_stp (own_stp (-1756908906 : Int32) (own_le b0 b1 b2 b3)) (own_le b4 b5 b6 b7)) (own_le b8 b9 b10 b11))), .val (.int (12 : Int32)), .val (.int ((own_le b12 b13 b14 b15) * (1540483477 : Int32)))]) d2_36 rfl rfl ?_
  refine s_iload X4 hx hby (n := 40) (x := ((own_le b12 b13 b14 b15) * (1540483477 : Int32))) d2_38 rfl rfl ?_
  refine s_iload X4 hx hby (n := 42) (x := ((own_le b12 b13 b14 b15) * (1540483477 : Int32))) d2_40 rfl rfl ?_
  refine s_bipush X4 hx hby (n := 44) (v := (24 : Int32)) d2_42 rfl rfl ?_
  refine s_iushr X4 hx hby (n := 45) d2_44 rfl ?_
  refine s_ixor X4 hx hby (n := 46) d2_45 rfl ?_
  refine s_istore X4 hx hby (n := 48) (L' := #[.val (.ref a), .val (.int (26 : Int32)), .val (.int (24 : Int32)), .val (.int (own_stp (own_stp (own_stp (-1756908906 : Int32) (own_le b0 b1 b2 b3)) (own_le b4 b5 b6 b7)) (own_le b8 b9 b10 b11))), .val (.int (12 : Int32)), .val (.int (((own_le b12 b13 b14 b15) * (1540483477 : Int32)) ^^^ (XT.ushr ((own_le b12 b13 b14 b15) * (1540483477 : Int32)) (24 : Int32))))]) d2_46 rfl rfl ?_
  refine s_iload X4 hx hby (n := 50) (x := (((own_le b12 b13 b14 b15) * (1540483477 : Int32)) ^^^ (XT.ushr ((own_le b12 b13 b14 b15) * (1540483477 : Int32)) (24 : Int32)))) d2_48 rfl rfl ?_
  refine s_ldcI X4 hx hby hZ (n := 52) hown (hw _ (List.mem_of_getElem? (i := 10) rfl)) d2_50 rfl ?_
  refine s_imul X4 hx hby (n := 53) d2_52 rfl ?_
  refine s_istore X4 hx hby (n := 55) (L' := #[.val (.ref a), .val (.int (26 : Int32)), .val (.int (24 : Int32)), .val (.int (own_stp (own_stp (own_stp (-1756908906 : Int32) (own_le b0 b1 b2 b3)) (own_le b4 b5 b6 b7)) (own_le b8 b9 b10 b11))), .val (.int (12 : Int32)), .val (.int ((((own_le b12 b13 b14 b15) * (1540483477 : Int32)) ^^^ (XT.ushr ((own_le b12 b13 b14 b15) * (1540483477 : Int32)) (24 : Int32))) * (1540483477 : Int32)))]) d2_53 rfl rfl ?_
  refine s_iloadN X4 hx hby (n := 56) (x := (own_stp (own_stp (own_stp (-1756908906 : Int32) (own_le b0 b1 b2 b3)) (own_le b4 b5 b6 b7)) (own_le b8 b9 b10 b11))) d2_55 rfl rfl ?_
  refine s_ldcI X4 hx hby hZ (n := 58) hown (hw _ (List.mem_of_getElem? (i := 10) rfl)) d2_56 rfl ?_
  refine s_imul X4 hx hby (n := 59) d2_58 rfl ?_
  refine s_istoreN X4 hx hby (n := 60) (L' := #[.val (.ref a), .val (.int (26 : Int32)), .val (.int (24 : Int32)), .val (.int ((own_stp (own_stp (own_stp (-1756908906 : Int32) (own_le b0 b1 b2 b3)) (own_le b4 b5 b6 b7)) (own_le b8 b9 b10 b11)) * (1540483477 : Int32))), .val (.int (12 : Int32)), .val (.int ((((own_le b12 b13 b14 b15) * (1540483477 : Int32)) ^^^ (XT.ushr ((own_le b12 b13 b14 b15) * (1540483477 : Int32)) (24 : Int32))) * (1540483477 : Int32)))]) d2_59 rfl rfl ?_
  refine s_iloadN X4 hx hby (n := 61) (x := ((own_stp (own_stp (own_stp (-1756908906 : Int32) (own_le b0 b1 b2 b3)) (own_le b4 b5 b6 b7)) (own_le b8 b9 b10 b11)) * (1540483477 : Int32))) d2_60 rfl rfl ?_
  refine s_iload X4 hx hby (n := 63) (x := ((((own_le b12 b13 b14 b15) * (1540483477 : Int32)) ^^^ (XT.ushr ((own_le b12 b13 b14 b15) * (1540483477 : Int32)) (24 : Int32))) * (1540483477 : Int32))) d2_61 rfl rfl ?_
  refine s_ixor X4 hx hby (n := 64) d2_63 rfl ?_
  refine s_fold (z := (own_stp (own_stp (own_stp (own_stp (-1756908906 : Int32) (own_le b0 b1 b2 b3)) (own_le b4 b5 b6 b7)) (own_le b8 b9 b10 b11)) (own_le b12 b13 b14 b15))) rfl ?_
  refine s_istoreN X4 hx hby (n := 65) (L' := #[.val (.ref a), .val (.int (26 : Int32)), .val (.int (24 : Int32)), .val (.int (own_stp (own_stp (own_stp (own_stp (-1756908906 : Int32) (own_le b0 b1 b2 b3)) (own_le b4 b5 b6 b7)) (own_le b8 b9 b10 b11)) (own_le b12 b13 b14 b15))), .val (.int (12 : Int32)), .val (.int ((((own_le b12 b13 b14 b15) * (1540483477 : Int32)) ^^^ (XT.ushr ((own_le b12 b13 b14 b15) * (1540483477 : Int32)) (24 : Int32))) * (1540483477 : Int32)))]) d2_64 rfl rfl ?_
  refine s_iincC X4 hx hby (n := 68) (v := (4 : Int32)) (x := (12 : Int32)) (z := (16 : Int32)) (L' := #[.val (.ref a), .val (.int (26 : Int32)), .val (.int (24 : Int32)), .val (.int (own_stp (own_stp (own_stp (own_stp (-1756908906 : Int32) (own_le b0 b1 b2 b3)) (own_le b4 b5 b6 b7)) (own_le b8 b9 b10 b11)) (own_le b12 b13 b14 b15))), .val (.int (16 : Int32)), .val (.int ((((own_le b12 b13 b14 b15) * (1540483477 : Int32)) ^^^ (XT.ushr ((own_le b12 b13 b14 b15) * (1540483477 : Int32)) (24 : Int32))) * (1540483477 : Int32)))]) d2_65 rfl rfl (by decide) rfl rfl ?_
  refine s_goto X4 hx hby (n := 17) d2_68 (by decide) (by decide) ?_
  refine s_iload X4 hx hby (n := 19) (x := (16 : Int32)) d2_17 rfl rfl ?_
  refine s_iloadN X4 hx hby (n := 20) (x := (24 : Int32)) d2_19 rfl rfl ?_
  refine s_icmpN X4 hx hby (n := 23) d2_20 (by decide) rfl ?_
  refine s_aloadN X4 hx hby (n := 24) (x := (.ref a)) d2_23 rfl rfl rfl ?_
  refine s_iload X4 hx hby (n := 26) (x := (16 : Int32)) d2_24 rfl rfl ?_
  refine s_callS X4 hx hby hml hZ (n := 29) hown (hw _ (List.mem_of_getElem? (i := 13) rfl)) (hw _ (List.mem_of_getElem? (i := 14) rfl)) (hw _ (List.mem_of_getElem? (i := 7) rfl)) (hw _ (List.mem_of_getElem? (i := 15) rfl)) (by decide) (rmE l Z a0 hw a cl (16 : Int32) b16 b17 b18 b19 16 17 18 19 h0 n0 Ar (by decide) (by decide) (by rw [Sz]; decide) B16 (by decide) (by decide) (by rw [Sz]; decide) B17 (by decide) (by decide) (by rw [Sz]; decide) B18 (by decide) (by decide) (by rw [Sz]; decide) B19) e4 (by decide) 0 (by decide) (by decide) (by decide) pd_0 [(.ref a), (.int (16 : Int32))] [] rfl rfl rfl (Nat.le_of_eq rfl) rfl d2_26 rfl ?_
  intro T5 L5 v5 X5 q5c
  obtain ⟨rfl, e5, N5⟩ := q5c
  show OEnds p e below s _ _ _ T5 (mkF m 29 #[.val (.ref a), .val (.int (26 : Int32)), .val (.int (24 : Int32)), .val (.int (own_stp (own_stp (own_stp (own_stp (-1756908906 : Int32) (own_le b0 b1 b2 b3)) (own_le b4 b5 b6 b7)) (own_le b8 b9 b10 b11)) (own_le b12 b13 b14 b15))), .val (.int (16 : Int32)), .val (.int ((((own_le b12 b13 b14 b15) * (1540483477 : Int32)) ^^^ (XT.ushr ((own_le b12 b13 b14 b15) * (1540483477 : Int32)) (24 : Int32))) * (1540483477 : Int32)))] [(.int (own_le b16 b17 b18 b19))])
  have M5 := Fr.app M4 N5
  refine s_istore X5 hx hby (n := 31) (L' := #[.val (.ref a), .val (.int (26 : Int32)), .val (.int (24 : Int32)), .val (.int (own_stp (own_stp (own_stp (own_stp (-1756908906 : Int32) (own_le b0 b1 b2 b3)) (own_le b4 b5 b6 b7)) (own_le b8 b9 b10 b11)) (own_le b12 b13 b14 b15))), .val (.int (16 : Int32)), .val (.int (own_le b16 b17 b18 b19))]) d2_29 rfl rfl ?_
  refine s_iload X5 hx hby (n := 33) (x := (own_le b16 b17 b18 b19)) d2_31 rfl rfl ?_
  refine s_ldcI X5 hx hby hZ (n := 35) hown (hw _ (List.mem_of_getElem? (i := 10) rfl)) d2_33 rfl ?_
  refine s_imul X5 hx hby (n := 36) d2_35 rfl ?_
  refine s_istore X5 hx hby (n := 38) (L' := #[.val (.ref a), .val (.int (26 : Int32)), .val (.int (24 : Int32)), .val (.int (own_stp (own_stp (own_stp (own_stp (-1756908906 : Int32) (own_le b0 b1 b2 b3)) (own_le b4 b5 b6 b7)) (own_le b8 b9 b10 b11)) (own_le b12 b13 b14 b15))), .val (.int (16 : Int32)), .val (.int ((own_le b16 b17 b18 b19) * (1540483477 : Int32)))]) d2_36 rfl rfl ?_
  refine s_iload X5 hx hby (n := 40) (x := ((own_le b16 b17 b18 b19) * (1540483477 : Int32))) d2_38 rfl rfl ?_
  refine s_iload X5 hx hby (n := 42) (x := ((own_le b16 b17 b18 b19) * (1540483477 : Int32))) d2_40 rfl rfl ?_
  refine s_bipush X5 hx hby (n := 44) (v := (24 : Int32)) d2_42 rfl rfl ?_
  refine s_iushr X5 hx hby (n := 45) d2_44 rfl ?_
  refine s_ixor X5 hx hby (n := 46) d2_45 rfl ?_
  refine s_istore X5 hx hby (n := 48) (L' := #[.val (.ref a), .val (.int (26 : Int32)), .val (.int (24 : Int32)), .val (.int (own_stp (own_stp (own_stp (own_stp (-1756908906 : Int32) (own_le b0 b1 b2 b3)) (own_le b4 b5 b6 b7)) (own_le b8 b9 b10 b11)) (own_le b12 b13 b14 b15))), .val (.int (16 : Int32)), .val (.int (((own_le b16 b17 b18 b19) * (1540483477 : Int32)) ^^^ (XT.ushr ((own_le b16 b17 b18 b19) * (1540483477 : Int32)) (24 : Int32))))]) d2_46 rfl rfl ?_
  refine s_iload X5 hx hby (n := 50) (x := (((own_le b16 b17 b18 b19) * (1540483477 : Int32)) ^^^ (XT.ushr ((own_le b16 b17 b18 b19) * (1540483477 : Int32)) (24 : Int32)))) d2_48 rfl rfl ?_
  refine s_ldcI X5 hx hby hZ (n := 52) hown (hw _ (List.mem_of_getElem? (i := 10) rfl)) d2_50 rfl ?_
  refine s_imul X5 hx hby (n := 53) d2_52 rfl ?_
  refine s_istore X5 hx hby (n := 55) (L' := #[.val (.ref a), .val (.int (26 : Int32)), .val (.int (24 : Int32)), .val (.int (own_stp (own_stp (own_stp (own_stp (-1756908906 : Int32) (own_le b0 b1 b2 b3)) (own_le b4 b5 b6 b7)) (own_le b8 b9 b10 b11)) (own_le b12 b13 b14 b15))), .val (.int (16 : Int32)), .val (.int ((((own_le b16 b17 b18 b19) * (1540483477 : Int32)) ^^^ (XT.ushr ((own_le b16 b17 b18 b19) * (1540483477 : Int32)) (24 : Int32))) * (1540483477 : Int32)))]) d2_53 rfl rfl ?_
  refine s_iloadN X5 hx hby (n := 56) (x := (own_stp (own_stp (own_stp (own_stp (-1756908906 : Int32) (own_le b0 b1 b2 b3)) (own_le b4 b5 b6 b7)) (own_le b8 b9 b10 b11)) (own_le b12 b13 b14 b15))) d2_55 rfl rfl ?_
  refine s_ldcI X5 hx hby hZ (n := 58) hown (hw _ (List.mem_of_getElem? (i := 10) rfl)) d2_56 rfl ?_
  refine s_imul X5 hx hby (n := 59) d2_58 rfl ?_
  refine s_istoreN X5 hx hby (n := 60) (L' := #[.val (.ref a), .val (.int (26 : Int32)), .val (.int (24 : Int32)), .val (.int ((own_stp (own_stp (own_stp (own_stp (-1756908906 : Int32) (own_le b0 b1 b2 b3)) (own_le b4 b5 b6 b7)) (own_le b8 b9 b10 b11)) (own_le b12 b13 b14 b15)) * (1540483477 : Int32))), .val (.int (16 : Int32)), .val (.int ((((own_le b16 b17 b18 b19) * (1540483477 : Int32)) ^^^ (XT.ushr ((own_le b16 b17 b18 b19) * (1540483477 : Int32)) (24 : Int32))) * (1540483477 : Int32)))]) d2_59 rfl rfl ?_
  refine s_iloadN X5 hx hby (n := 61) (x := ((own_stp (own_stp (own_stp (own_stp (-1756908906 : Int32) (own_le b0 b1 b2 b3)) (own_le b4 b5 b6 b7)) (own_le b8 b9 b10 b11)) (own_le b12 b13 b14 b15)) * (1540483477 : Int32))) d2_60 rfl rfl ?_
  refine s_iload X5 hx hby (n := 63) (x := ((((own_le b16 b17 b18 b19) * (1540483477 : Int32)) ^^^ (XT.ushr ((own_le b16 b17 b18 b19) * (1540483477 : Int32)) (24 : Int32))) * (1540483477 : Int32))) d2_61 rfl rfl ?_
  refine s_ixor X5 hx hby (n := 64) d2_63 rfl ?_
  refine s_fold (z := (own_stp (own_stp (own_stp (own_stp (own_stp (-1756908906 : Int32) (own_le b0 b1 b2 b3)) (own_le b4 b5 b6 b7)) (own_le b8 b9 b10 b11)) (own_le b12 b13 b14 b15)) (own_le b16 b17 b18 b19))) rfl ?_
  refine s_istoreN X5 hx hby (n := 65) (L' := #[.val (.ref a), .val (.int (26 : Int32)), .val (.int (24 : Int32)), .val (.int (own_stp (own_stp (own_stp (own_stp (own_stp (-1756908906 : Int32) (own_le b0 b1 b2 b3)) (own_le b4 b5 b6 b7)) (own_le b8 b9 b10 b11)) (own_le b12 b13 b14 b15)) (own_le b16 b17 b18 b19))), .val (.int (16 : Int32)), .val (.int ((((own_le b16 b17 b18 b19) * (1540483477 : Int32)) ^^^ (XT.ushr ((own_le b16 b17 b18 b19) * (1540483477 : Int32)) (24 : Int32))) * (1540483477 : Int32)))]) d2_64 rfl rfl ?_
  refine s_iincC X5 hx hby (n := 68) (v := (4 : Int32)) (x := (16 : Int32)) (z := (20 : Int32)) (L' := #[.val (.ref a), .val (.int (26 : Int32)), .val (.int (24 : Int32)), .val (.int (own_stp (own_stp (own_stp (own_stp (own_stp (-1756908906 : Int32) (own_le b0 b1 b2 b3)) (own_le b4 b5 b6 b7)) (own_le b8 b9 b10 b11)) (own_le b12 b13 b14 b15)) (own_le b16 b17 b18 b19))), .val (.int (20 : Int32)), .val (.int ((((own_le b16 b17 b18 b19) * (1540483477 : Int32)) ^^^ (XT.ushr ((own_le b16 b17 b18 b19) * (1540483477 : Int32)) (24 : Int32))) * (1540483477 : Int32)))]) d2_65 rfl rfl (by decide) rfl rfl ?_
  refine s_goto X5 hx hby (n := 17) d2_68 (by decide) (by decide) ?_
  refine s_iload X5 hx hby (n := 19) (x := (20 : Int32)) d2_17 rfl rfl ?_
  refine s_iloadN X5 hx hby (n := 20) (x := (24 : Int32)) d2_19 rfl rfl ?_
  refine s_icmpN X5 hx hby (n := 23) d2_20 (by decide) rfl ?_
  refine s_aloadN X5 hx hby (n := 24) (x := (.ref a)) d2_23 rfl rfl rfl ?_
  refine s_iload X5 hx hby (n := 26) (x := (20 : Int32)) d2_24 rfl rfl ?_
  refine s_callS X5 hx hby hml hZ (n := 29) hown (hw _ (List.mem_of_getElem? (i := 13) rfl)) (hw _ (List.mem_of_getElem? (i := 14) rfl)) (hw _ (List.mem_of_getElem? (i := 7) rfl)) (hw _ (List.mem_of_getElem? (i := 15) rfl)) (by decide) (rmE l Z a0 hw a cl (20 : Int32) b20 b21 b22 b23 20 21 22 23 h0 n0 Ar (by decide) (by decide) (by rw [Sz]; decide) B20 (by decide) (by decide) (by rw [Sz]; decide) B21 (by decide) (by decide) (by rw [Sz]; decide) B22 (by decide) (by decide) (by rw [Sz]; decide) B23) e5 (by decide) 0 (by decide) (by decide) (by decide) pd_0 [(.ref a), (.int (20 : Int32))] [] rfl rfl rfl (Nat.le_of_eq rfl) rfl d2_26 rfl ?_
  intro T6 L6 v6 X6 q6c
  obtain ⟨rfl, e6, N6⟩ := q6c
  show OEnds p e below s _ _ _ T6 (mkF m 29 #[.val (.ref a), .val (.int (26 : Int32)), .val (.int (24 : Int32)), .val (.int (own_stp (own_stp (own_stp (own_stp (own_stp (-1756908906 : Int32) (own_le b0 b1 b2 b3)) (own_le b4 b5 b6 b7)) (own_le b8 b9 b10 b11)) (own_le b12 b13 b14 b15)) (own_le b16 b17 b18 b19))), .val (.int (20 : Int32)), .val (.int ((((own_le b16 b17 b18 b19) * (1540483477 : Int32)) ^^^ (XT.ushr ((own_le b16 b17 b18 b19) * (1540483477 : Int32)) (24 : Int32))) * (1540483477 : Int32)))] [(.int (own_le b20 b21 b22 b23))])
  have M6 := Fr.app M5 N6
  refine s_istore X6 hx hby (n := 31) (L' := #[.val (.ref a), .val (.int (26 : Int32)), .val (.int (24 : Int32)), .val (.int (own_stp (own_stp (own_stp (own_stp (own_stp (-1756908906 : Int32) (own_le b0 b1 b2 b3)) (own_le b4 b5 b6 b7)) (own_le b8 b9 b10 b11)) (own_le b12 b13 b14 b15)) (own_le b16 b17 b18 b19))), .val (.int (20 : Int32)), .val (.int (own_le b20 b21 b22 b23))]) d2_29 rfl rfl ?_
  refine s_iload X6 hx hby (n := 33) (x := (own_le b20 b21 b22 b23)) d2_31 rfl rfl ?_
  refine s_ldcI X6 hx hby hZ (n := 35) hown (hw _ (List.mem_of_getElem? (i := 10) rfl)) d2_33 rfl ?_
  refine s_imul X6 hx hby (n := 36) d2_35 rfl ?_
  refine s_istore X6 hx hby (n := 38) (L' := #[.val (.ref a), .val (.int (26 : Int32)), .val (.int (24 : Int32)), .val (.int (own_stp (own_stp (own_stp (own_stp (own_stp (-1756908906 : Int32) (own_le b0 b1 b2 b3)) (own_le b4 b5 b6 b7)) (own_le b8 b9 b10 b11)) (own_le b12 b13 b14 b15)) (own_le b16 b17 b18 b19))), .val (.int (20 : Int32)), .val (.int ((own_le b20 b21 b22 b23) * (1540483477 : Int32)))]) d2_36 rfl rfl ?_
  refine s_iload X6 hx hby (n := 40) (x := ((own_le b20 b21 b22 b23) * (1540483477 : Int32))) d2_38 rfl rfl ?_
  refine s_iload X6 hx hby (n := 42) (x := ((own_le b20 b21 b22 b23) * (1540483477 : Int32))) d2_40 rfl rfl ?_
  refine s_bipush X6 hx hby (n := 44) (v := (24 : Int32)) d2_42 rfl rfl ?_
  refine s_iushr X6 hx hby (n := 45) d2_44 rfl ?_
  refine s_ixor X6 hx hby (n := 46) d2_45 rfl ?_
  refine s_istore X6 hx hby (n := 48) (L' := #[.val (.ref a), .val (.int (26 : Int32)), .val (.int (24 : Int32)), .val (.int (own_stp (own_stp (own_stp (own_stp (own_stp (-1756908906 : Int32) (own_le b0 b1 b2 b3)) (own_le b4 b5 b6 b7)) (own_le b8 b9 b10 b11)) (own_le b12 b13 b14 b15)) (own_le b16 b17 b18 b19))), .val (.int (20 : Int32)), .val (.int (((own_le b20 b21 b22 b23) * (1540483477 : Int32)) ^^^ (XT.ushr ((own_le b20 b21 b22 b23) * (1540483477 : Int32)) (24 : Int32))))]) d2_46 rfl rfl ?_
  refine s_iload X6 hx hby (n := 50) (x := (((own_le b20 b21 b22 b23) * (1540483477 : Int32)) ^^^ (XT.ushr ((own_le b20 b21 b22 b23) * (1540483477 : Int32)) (24 : Int32)))) d2_48 rfl rfl ?_
  refine s_ldcI X6 hx hby hZ (n := 52) hown (hw _ (List.mem_of_getElem? (i := 10) rfl)) d2_50 rfl ?_
  refine s_imul X6 hx hby (n := 53) d2_52 rfl ?_
  refine s_istore X6 hx hby (n := 55) (L' := #[.val (.ref a), .val (.int (26 : Int32)), .val (.int (24 : Int32)), .val (.int (own_stp (own_stp (own_stp (own_stp (own_stp (-1756908906 : Int32) (own_le b0 b1 b2 b3)) (own_le b4 b5 b6 b7)) (own_le b8 b9 b10 b11)) (own_le b12 b13 b14 b15)) (own_le b16 b17 b18 b19))), .val (.int (20 : Int32)), .val (.int ((((own_le b20 b21 b22 b23) * (1540483477 : Int32)) ^^^ (XT.ushr ((own_le b20 b21 b22 b23) * (1540483477 : Int32)) (24 : Int32))) * (1540483477 : Int32)))]) d2_53 rfl rfl ?_
  refine s_iloadN X6 hx hby (n := 56) (x := (own_stp (own_stp (own_stp (own_stp (own_stp (-1756908906 : Int32) (own_le b0 b1 b2 b3)) (own_le b4 b5 b6 b7)) (own_le b8 b9 b10 b11)) (own_le b12 b13 b14 b15)) (own_le b16 b17 b18 b19))) d2_55 rfl rfl ?_
  refine s_ldcI X6 hx hby hZ (n := 58) hown (hw _ (List.mem_of_getElem? (i := 10) rfl)) d2_56 rfl ?_
  refine s_imul X6 hx hby (n := 59) d2_58 rfl ?_
  refine s_istoreN X6 hx hby (n := 60) (L' := #[.val (.ref a), .val (.int (26 : Int32)), .val (.int (24 : Int32)), .val (.int ((own_stp (own_stp (own_stp (own_stp (own_stp (-1756908906 : Int32) (own_le b0 b1 b2 b3)) (own_le b4 b5 b6 b7)) (own_le b8 b9 b10 b11)) (own_le b12 b13 b14 b15)) (own_le b16 b17 b18 b19)) * (1540483477 : Int32))), .val (.int (20 : Int32)), .val (.int ((((own_le b20 b21 b22 b23) * (1540483477 : Int32)) ^^^ (XT.ushr ((own_le b20 b21 b22 b23) * (1540483477 : Int32)) (24 : Int32))) * (1540483477 : Int32)))]) d2_59 rfl rfl ?_
  refine s_iloadN X6 hx hby (n := 61) (x := ((own_stp (own_stp (own_stp (own_stp (own_stp (-1756908906 : Int32) (own_le b0 b1 b2 b3)) (own_le b4 b5 b6 b7)) (own_le b8 b9 b10 b11)) (own_le b12 b13 b14 b15)) (own_le b16 b17 b18 b19)) * (1540483477 : Int32))) d2_60 rfl rfl ?_
  refine s_iload X6 hx hby (n := 63) (x := ((((own_le b20 b21 b22 b23) * (1540483477 : Int32)) ^^^ (XT.ushr ((own_le b20 b21 b22 b23) * (1540483477 : Int32)) (24 : Int32))) * (1540483477 : Int32))) d2_61 rfl rfl ?_
  refine s_ixor X6 hx hby (n := 64) d2_63 rfl ?_
  refine s_fold (z := (own_stp (own_stp (own_stp (own_stp (own_stp (own_stp (-1756908906 : Int32) (own_le b0 b1 b2 b3)) (own_le b4 b5 b6 b7)) (own_le b8 b9 b10 b11)) (own_le b12 b13 b14 b15)) (own_le b16 b17 b18 b19)) (own_le b20 b21 b22 b23))) rfl ?_
  refine s_istoreN X6 hx hby (n := 65) (L' := #[.val (.ref a), .val (.int (26 : Int32)), .val (.int (24 : Int32)), .val (.int (own_stp (own_stp (own_stp (own_stp (own_stp (own_stp (-1756908906 : Int32) (own_le b0 b1 b2 b3)) (own_le b4 b5 b6 b7)) (own_le b8 b9 b10 b11)) (own_le b12 b13 b14 b15)) (own_le b16 b17 b18 b19)) (own_le b20 b21 b22 b23))), .val (.int (20 : Int32)), .val (.int ((((own_le b20 b21 b22 b23) * (1540483477 : Int32)) ^^^ (XT.ushr ((own_le b20 b21 b22 b23) * (1540483477 : Int32)) (24 : Int32))) * (1540483477 : Int32)))]) d2_64 rfl rfl ?_
  refine s_iincC X6 hx hby (n := 68) (v := (4 : Int32)) (x := (20 : Int32)) (z := (24 : Int32)) (L' := #[.val (.ref a), .val (.int (26 : Int32)), .val (.int (24 : Int32)), .val (.int (own_stp (own_stp (own_stp (own_stp (own_stp (own_stp (-1756908906 : Int32) (own_le b0 b1 b2 b3)) (own_le b4 b5 b6 b7)) (own_le b8 b9 b10 b11)) (own_le b12 b13 b14 b15)) (own_le b16 b17 b18 b19)) (own_le b20 b21 b22 b23))), .val (.int (24 : Int32)), .val (.int ((((own_le b20 b21 b22 b23) * (1540483477 : Int32)) ^^^ (XT.ushr ((own_le b20 b21 b22 b23) * (1540483477 : Int32)) (24 : Int32))) * (1540483477 : Int32)))]) d2_65 rfl rfl (by decide) rfl rfl ?_
  refine s_goto X6 hx hby (n := 17) d2_68 (by decide) (by decide) ?_
  refine s_iload X6 hx hby (n := 19) (x := (24 : Int32)) d2_17 rfl rfl ?_
  refine s_iloadN X6 hx hby (n := 20) (x := (24 : Int32)) d2_19 rfl rfl ?_
  refine s_icmpY X6 hx hby (n := 71) d2_20 (by decide) (by decide) (by decide) ?_
  refine s_iloadN X6 hx hby (n := 72) (x := (24 : Int32)) d2_71 rfl rfl ?_
  refine s_iloadN X6 hx hby (n := 73) (x := (26 : Int32)) d2_72 rfl rfl ?_
  refine s_icmpN X6 hx hby (n := 76) d2_73 (by decide) rfl ?_
  refine s_iloadN X6 hx hby (n := 77) (x := (24 : Int32)) d2_76 rfl rfl ?_
  refine s_istore X6 hx hby (n := 79) (L' := #[.val (.ref a), .val (.int (26 : Int32)), .val (.int (24 : Int32)), .val (.int (own_stp (own_stp (own_stp (own_stp (own_stp (own_stp (-1756908906 : Int32) (own_le b0 b1 b2 b3)) (own_le b4 b5 b6 b7)) (own_le b8 b9 b10 b11)) (own_le b12 b13 b14 b15)) (own_le b16 b17 b18 b19)) (own_le b20 b21 b22 b23))), .val (.int (24 : Int32)), .val (.int ((((own_le b20 b21 b22 b23) * (1540483477 : Int32)) ^^^ (XT.ushr ((own_le b20 b21 b22 b23) * (1540483477 : Int32)) (24 : Int32))) * (1540483477 : Int32)))]) d2_77 rfl rfl ?_
  refine s_iload X6 hx hby (n := 81) (x := (24 : Int32)) d2_79 rfl rfl ?_
  refine s_iloadN X6 hx hby (n := 82) (x := (26 : Int32)) d2_81 rfl rfl ?_
  refine s_icmpN X6 hx hby (n := 85) d2_82 (by decide) rfl ?_
  refine s_iloadN X6 hx hby (n := 86) (x := (own_stp (own_stp (own_stp (own_stp (own_stp (own_stp (-1756908906 : Int32) (own_le b0 b1 b2 b3)) (own_le b4 b5 b6 b7)) (own_le b8 b9 b10 b11)) (own_le b12 b13 b14 b15)) (own_le b16 b17 b18 b19)) (own_le b20 b21 b22 b23))) d2_85 rfl rfl ?_
  refine s_aloadN X6 hx hby (n := 87) (x := (.ref a)) d2_86 rfl rfl rfl ?_
  refine s_iload X6 hx hby (n := 89) (x := (24 : Int32)) d2_87 rfl rfl ?_
  refine s_baloadC X6 hx hby hZ (n := 90) e6 Ar 24 (by decide) (by decide) (by rw [Sz]; decide) B24 d2_89 rfl ?_
  refine s_sipush X6 hx hby (n := 93) (v := (255 : Int32)) d2_90 rfl rfl ?_
  refine s_iand X6 hx hby (n := 94) d2_93 rfl ?_
  refine s_bipush X6 hx hby (n := 96) (v := (8 : Int32)) d2_94 rfl rfl ?_
  refine s_iload X6 hx hby (n := 98) (x := (24 : Int32)) d2_96 rfl rfl ?_
  refine s_iloadN X6 hx hby (n := 99) (x := (24 : Int32)) d2_98 rfl rfl ?_
  refine s_isub X6 hx hby (n := 100) d2_99 rfl ?_
  refine s_fold (z := (0 : Int32)) (by decide) ?_
  refine s_imul X6 hx hby (n := 101) d2_100 rfl ?_
  refine s_fold (z := (0 : Int32)) (by decide) ?_
  refine s_ishl X6 hx hby (n := 102) d2_101 rfl ?_
  refine s_ixor X6 hx hby (n := 103) d2_102 rfl ?_
  refine s_istoreN X6 hx hby (n := 104) (L' := #[.val (.ref a), .val (.int (26 : Int32)), .val (.int (24 : Int32)), .val (.int ((own_stp (own_stp (own_stp (own_stp (own_stp (own_stp (-1756908906 : Int32) (own_le b0 b1 b2 b3)) (own_le b4 b5 b6 b7)) (own_le b8 b9 b10 b11)) (own_le b12 b13 b14 b15)) (own_le b16 b17 b18 b19)) (own_le b20 b21 b22 b23)) ^^^ ((b24 &&& (255 : Int32)) <<< ((0 : Int32) &&& 31)))), .val (.int (24 : Int32)), .val (.int ((((own_le b20 b21 b22 b23) * (1540483477 : Int32)) ^^^ (XT.ushr ((own_le b20 b21 b22 b23) * (1540483477 : Int32)) (24 : Int32))) * (1540483477 : Int32)))]) d2_103 rfl rfl ?_
  refine s_iincC X6 hx hby (n := 107) (v := (1 : Int32)) (x := (24 : Int32)) (z := (25 : Int32)) (L' := #[.val (.ref a), .val (.int (26 : Int32)), .val (.int (24 : Int32)), .val (.int ((own_stp (own_stp (own_stp (own_stp (own_stp (own_stp (-1756908906 : Int32) (own_le b0 b1 b2 b3)) (own_le b4 b5 b6 b7)) (own_le b8 b9 b10 b11)) (own_le b12 b13 b14 b15)) (own_le b16 b17 b18 b19)) (own_le b20 b21 b22 b23)) ^^^ ((b24 &&& (255 : Int32)) <<< ((0 : Int32) &&& 31)))), .val (.int (25 : Int32)), .val (.int ((((own_le b20 b21 b22 b23) * (1540483477 : Int32)) ^^^ (XT.ushr ((own_le b20 b21 b22 b23) * (1540483477 : Int32)) (24 : Int32))) * (1540483477 : Int32)))]) d2_104 rfl rfl (by decide) rfl rfl ?_
  refine s_goto X6 hx hby (n := 79) d2_107 (by decide) (by decide) ?_
  refine s_iload X6 hx hby (n := 81) (x := (25 : Int32)) d2_79 rfl rfl ?_
  refine s_iloadN X6 hx hby (n := 82) (x := (26 : Int32)) d2_81 rfl rfl ?_
  refine s_icmpN X6 hx hby (n := 85) d2_82 (by decide) rfl ?_
  refine s_iloadN X6 hx hby (n := 86) (x := ((own_stp (own_stp (own_stp (own_stp (own_stp (own_stp (-1756908906 : Int32) (own_le b0 b1 b2 b3)) (own_le b4 b5 b6 b7)) (own_le b8 b9 b10 b11)) (own_le b12 b13 b14 b15)) (own_le b16 b17 b18 b19)) (own_le b20 b21 b22 b23)) ^^^ ((b24 &&& (255 : Int32)) <<< ((0 : Int32) &&& 31)))) d2_85 rfl rfl ?_
  refine s_aloadN X6 hx hby (n := 87) (x := (.ref a)) d2_86 rfl rfl rfl ?_
  refine s_iload X6 hx hby (n := 89) (x := (25 : Int32)) d2_87 rfl rfl ?_
  refine s_baloadC X6 hx hby hZ (n := 90) e6 Ar 25 (by decide) (by decide) (by rw [Sz]; decide) B25 d2_89 rfl ?_
  refine s_sipush X6 hx hby (n := 93) (v := (255 : Int32)) d2_90 rfl rfl ?_
  refine s_iand X6 hx hby (n := 94) d2_93 rfl ?_
  refine s_bipush X6 hx hby (n := 96) (v := (8 : Int32)) d2_94 rfl rfl ?_
  refine s_iload X6 hx hby (n := 98) (x := (25 : Int32)) d2_96 rfl rfl ?_
  refine s_iloadN X6 hx hby (n := 99) (x := (24 : Int32)) d2_98 rfl rfl ?_
  refine s_isub X6 hx hby (n := 100) d2_99 rfl ?_
  refine s_fold (z := (1 : Int32)) (by decide) ?_
  refine s_imul X6 hx hby (n := 101) d2_100 rfl ?_
  refine s_fold (z := (8 : Int32)) (by decide) ?_
  refine s_ishl X6 hx hby (n := 102) d2_101 rfl ?_
  refine s_ixor X6 hx hby (n := 103) d2_102 rfl ?_
  refine s_istoreN X6 hx hby (n := 104) (L' := #[.val (.ref a), .val (.int (26 : Int32)), .val (.int (24 : Int32)), .val (.int (((own_stp (own_stp (own_stp (own_stp (own_stp (own_stp (-1756908906 : Int32) (own_le b0 b1 b2 b3)) (own_le b4 b5 b6 b7)) (own_le b8 b9 b10 b11)) (own_le b12 b13 b14 b15)) (own_le b16 b17 b18 b19)) (own_le b20 b21 b22 b23)) ^^^ ((b24 &&& (255 : Int32)) <<< ((0 : Int32) &&& 31))) ^^^ ((b25 &&& (255 : Int32)) <<< ((8 : Int32) &&& 31)))), .val (.int (25 : Int32)), .val (.int ((((own_le b20 b21 b22 b23) * (1540483477 : Int32)) ^^^ (XT.ushr ((own_le b20 b21 b22 b23) * (1540483477 : Int32)) (24 : Int32))) * (1540483477 : Int32)))]) d2_103 rfl rfl ?_
  refine s_iincC X6 hx hby (n := 107) (v := (1 : Int32)) (x := (25 : Int32)) (z := (26 : Int32)) (L' := #[.val (.ref a), .val (.int (26 : Int32)), .val (.int (24 : Int32)), .val (.int (((own_stp (own_stp (own_stp (own_stp (own_stp (own_stp (-1756908906 : Int32) (own_le b0 b1 b2 b3)) (own_le b4 b5 b6 b7)) (own_le b8 b9 b10 b11)) (own_le b12 b13 b14 b15)) (own_le b16 b17 b18 b19)) (own_le b20 b21 b22 b23)) ^^^ ((b24 &&& (255 : Int32)) <<< ((0 : Int32) &&& 31))) ^^^ ((b25 &&& (255 : Int32)) <<< ((8 : Int32) &&& 31)))), .val (.int (26 : Int32)), .val (.int ((((own_le b20 b21 b22 b23) * (1540483477 : Int32)) ^^^ (XT.ushr ((own_le b20 b21 b22 b23) * (1540483477 : Int32)) (24 : Int32))) * (1540483477 : Int32)))]) d2_104 rfl rfl (by decide) rfl rfl ?_
  refine s_goto X6 hx hby (n := 79) d2_107 (by decide) (by decide) ?_
  refine s_iload X6 hx hby (n := 81) (x := (26 : Int32)) d2_79 rfl rfl ?_
  refine s_iloadN X6 hx hby (n := 82) (x := (26 : Int32)) d2_81 rfl rfl ?_
  refine s_icmpY X6 hx hby (n := 110) d2_82 (by decide) (by decide) (by decide) ?_
  refine s_iloadN X6 hx hby (n := 111) (x := (((own_stp (own_stp (own_stp (own_stp (own_stp (own_stp (-1756908906 : Int32) (own_le b0 b1 b2 b3)) (own_le b4 b5 b6 b7)) (own_le b8 b9 b10 b11)) (own_le b12 b13 b14 b15)) (own_le b16 b17 b18 b19)) (own_le b20 b21 b22 b23)) ^^^ ((b24 &&& (255 : Int32)) <<< ((0 : Int32) &&& 31))) ^^^ ((b25 &&& (255 : Int32)) <<< ((8 : Int32) &&& 31)))) d2_110 rfl rfl ?_
  refine s_ldcI X6 hx hby hZ (n := 113) hown (hw _ (List.mem_of_getElem? (i := 10) rfl)) d2_111 rfl ?_
  refine s_imul X6 hx hby (n := 114) d2_113 rfl ?_
  refine s_istoreN X6 hx hby (n := 115) (L' := #[.val (.ref a), .val (.int (26 : Int32)), .val (.int (24 : Int32)), .val (.int ((((own_stp (own_stp (own_stp (own_stp (own_stp (own_stp (-1756908906 : Int32) (own_le b0 b1 b2 b3)) (own_le b4 b5 b6 b7)) (own_le b8 b9 b10 b11)) (own_le b12 b13 b14 b15)) (own_le b16 b17 b18 b19)) (own_le b20 b21 b22 b23)) ^^^ ((b24 &&& (255 : Int32)) <<< ((0 : Int32) &&& 31))) ^^^ ((b25 &&& (255 : Int32)) <<< ((8 : Int32) &&& 31))) * (1540483477 : Int32))), .val (.int (26 : Int32)), .val (.int ((((own_le b20 b21 b22 b23) * (1540483477 : Int32)) ^^^ (XT.ushr ((own_le b20 b21 b22 b23) * (1540483477 : Int32)) (24 : Int32))) * (1540483477 : Int32)))]) d2_114 rfl rfl ?_
  refine s_iloadN X6 hx hby (n := 116) (x := ((((own_stp (own_stp (own_stp (own_stp (own_stp (own_stp (-1756908906 : Int32) (own_le b0 b1 b2 b3)) (own_le b4 b5 b6 b7)) (own_le b8 b9 b10 b11)) (own_le b12 b13 b14 b15)) (own_le b16 b17 b18 b19)) (own_le b20 b21 b22 b23)) ^^^ ((b24 &&& (255 : Int32)) <<< ((0 : Int32) &&& 31))) ^^^ ((b25 &&& (255 : Int32)) <<< ((8 : Int32) &&& 31))) * (1540483477 : Int32))) d2_115 rfl rfl ?_
  refine s_iloadN X6 hx hby (n := 117) (x := ((((own_stp (own_stp (own_stp (own_stp (own_stp (own_stp (-1756908906 : Int32) (own_le b0 b1 b2 b3)) (own_le b4 b5 b6 b7)) (own_le b8 b9 b10 b11)) (own_le b12 b13 b14 b15)) (own_le b16 b17 b18 b19)) (own_le b20 b21 b22 b23)) ^^^ ((b24 &&& (255 : Int32)) <<< ((0 : Int32) &&& 31))) ^^^ ((b25 &&& (255 : Int32)) <<< ((8 : Int32) &&& 31))) * (1540483477 : Int32))) d2_116 rfl rfl ?_
  refine s_bipush X6 hx hby (n := 119) (v := (13 : Int32)) d2_117 rfl rfl ?_
  refine s_iushr X6 hx hby (n := 120) d2_119 rfl ?_
  refine s_ixor X6 hx hby (n := 121) d2_120 rfl ?_
  refine s_fold (z := (own_x13 ((((own_stp (own_stp (own_stp (own_stp (own_stp (own_stp (-1756908906 : Int32) (own_le b0 b1 b2 b3)) (own_le b4 b5 b6 b7)) (own_le b8 b9 b10 b11)) (own_le b12 b13 b14 b15)) (own_le b16 b17 b18 b19)) (own_le b20 b21 b22 b23)) ^^^ ((b24 &&& (255 : Int32)) <<< ((0 : Int32) &&& 31))) ^^^ ((b25 &&& (255 : Int32)) <<< ((8 : Int32) &&& 31))) * (1540483477 : Int32)))) rfl ?_
  refine s_istoreN X6 hx hby (n := 122) (L' := #[.val (.ref a), .val (.int (26 : Int32)), .val (.int (24 : Int32)), .val (.int (own_x13 ((((own_stp (own_stp (own_stp (own_stp (own_stp (own_stp (-1756908906 : Int32) (own_le b0 b1 b2 b3)) (own_le b4 b5 b6 b7)) (own_le b8 b9 b10 b11)) (own_le b12 b13 b14 b15)) (own_le b16 b17 b18 b19)) (own_le b20 b21 b22 b23)) ^^^ ((b24 &&& (255 : Int32)) <<< ((0 : Int32) &&& 31))) ^^^ ((b25 &&& (255 : Int32)) <<< ((8 : Int32) &&& 31))) * (1540483477 : Int32)))), .val (.int (26 : Int32)), .val (.int ((((own_le b20 b21 b22 b23) * (1540483477 : Int32)) ^^^ (XT.ushr ((own_le b20 b21 b22 b23) * (1540483477 : Int32)) (24 : Int32))) * (1540483477 : Int32)))]) d2_121 rfl rfl ?_
  refine s_iloadN X6 hx hby (n := 123) (x := (own_x13 ((((own_stp (own_stp (own_stp (own_stp (own_stp (own_stp (-1756908906 : Int32) (own_le b0 b1 b2 b3)) (own_le b4 b5 b6 b7)) (own_le b8 b9 b10 b11)) (own_le b12 b13 b14 b15)) (own_le b16 b17 b18 b19)) (own_le b20 b21 b22 b23)) ^^^ ((b24 &&& (255 : Int32)) <<< ((0 : Int32) &&& 31))) ^^^ ((b25 &&& (255 : Int32)) <<< ((8 : Int32) &&& 31))) * (1540483477 : Int32)))) d2_122 rfl rfl ?_
  refine s_ldcI X6 hx hby hZ (n := 125) hown (hw _ (List.mem_of_getElem? (i := 10) rfl)) d2_123 rfl ?_
  refine s_imul X6 hx hby (n := 126) d2_125 rfl ?_
  refine s_istoreN X6 hx hby (n := 127) (L' := #[.val (.ref a), .val (.int (26 : Int32)), .val (.int (24 : Int32)), .val (.int ((own_x13 ((((own_stp (own_stp (own_stp (own_stp (own_stp (own_stp (-1756908906 : Int32) (own_le b0 b1 b2 b3)) (own_le b4 b5 b6 b7)) (own_le b8 b9 b10 b11)) (own_le b12 b13 b14 b15)) (own_le b16 b17 b18 b19)) (own_le b20 b21 b22 b23)) ^^^ ((b24 &&& (255 : Int32)) <<< ((0 : Int32) &&& 31))) ^^^ ((b25 &&& (255 : Int32)) <<< ((8 : Int32) &&& 31))) * (1540483477 : Int32))) * (1540483477 : Int32))), .val (.int (26 : Int32)), .val (.int ((((own_le b20 b21 b22 b23) * (1540483477 : Int32)) ^^^ (XT.ushr ((own_le b20 b21 b22 b23) * (1540483477 : Int32)) (24 : Int32))) * (1540483477 : Int32)))]) d2_126 rfl rfl ?_
  refine s_iloadN X6 hx hby (n := 128) (x := ((own_x13 ((((own_stp (own_stp (own_stp (own_stp (own_stp (own_stp (-1756908906 : Int32) (own_le b0 b1 b2 b3)) (own_le b4 b5 b6 b7)) (own_le b8 b9 b10 b11)) (own_le b12 b13 b14 b15)) (own_le b16 b17 b18 b19)) (own_le b20 b21 b22 b23)) ^^^ ((b24 &&& (255 : Int32)) <<< ((0 : Int32) &&& 31))) ^^^ ((b25 &&& (255 : Int32)) <<< ((8 : Int32) &&& 31))) * (1540483477 : Int32))) * (1540483477 : Int32))) d2_127 rfl rfl ?_
  refine s_iloadN X6 hx hby (n := 129) (x := ((own_x13 ((((own_stp (own_stp (own_stp (own_stp (own_stp (own_stp (-1756908906 : Int32) (own_le b0 b1 b2 b3)) (own_le b4 b5 b6 b7)) (own_le b8 b9 b10 b11)) (own_le b12 b13 b14 b15)) (own_le b16 b17 b18 b19)) (own_le b20 b21 b22 b23)) ^^^ ((b24 &&& (255 : Int32)) <<< ((0 : Int32) &&& 31))) ^^^ ((b25 &&& (255 : Int32)) <<< ((8 : Int32) &&& 31))) * (1540483477 : Int32))) * (1540483477 : Int32))) d2_128 rfl rfl ?_
  refine s_bipush X6 hx hby (n := 131) (v := (15 : Int32)) d2_129 rfl rfl ?_
  refine s_iushr X6 hx hby (n := 132) d2_131 rfl ?_
  refine s_ixor X6 hx hby (n := 133) d2_132 rfl ?_
  refine s_fold (z := (own_x15 ((own_x13 ((((own_stp (own_stp (own_stp (own_stp (own_stp (own_stp (-1756908906 : Int32) (own_le b0 b1 b2 b3)) (own_le b4 b5 b6 b7)) (own_le b8 b9 b10 b11)) (own_le b12 b13 b14 b15)) (own_le b16 b17 b18 b19)) (own_le b20 b21 b22 b23)) ^^^ ((b24 &&& (255 : Int32)) <<< ((0 : Int32) &&& 31))) ^^^ ((b25 &&& (255 : Int32)) <<< ((8 : Int32) &&& 31))) * (1540483477 : Int32))) * (1540483477 : Int32)))) rfl ?_
  refine s_istoreN X6 hx hby (n := 134) (L' := #[.val (.ref a), .val (.int (26 : Int32)), .val (.int (24 : Int32)), .val (.int (own_x15 ((own_x13 ((((own_stp (own_stp (own_stp (own_stp (own_stp (own_stp (-1756908906 : Int32) (own_le b0 b1 b2 b3)) (own_le b4 b5 b6 b7)) (own_le b8 b9 b10 b11)) (own_le b12 b13 b14 b15)) (own_le b16 b17 b18 b19)) (own_le b20 b21 b22 b23)) ^^^ ((b24 &&& (255 : Int32)) <<< ((0 : Int32) &&& 31))) ^^^ ((b25 &&& (255 : Int32)) <<< ((8 : Int32) &&& 31))) * (1540483477 : Int32))) * (1540483477 : Int32)))), .val (.int (26 : Int32)), .val (.int ((((own_le b20 b21 b22 b23) * (1540483477 : Int32)) ^^^ (XT.ushr ((own_le b20 b21 b22 b23) * (1540483477 : Int32)) (24 : Int32))) * (1540483477 : Int32)))]) d2_133 rfl rfl ?_
  refine s_iloadN X6 hx hby (n := 135) (x := (own_x15 ((own_x13 ((((own_stp (own_stp (own_stp (own_stp (own_stp (own_stp (-1756908906 : Int32) (own_le b0 b1 b2 b3)) (own_le b4 b5 b6 b7)) (own_le b8 b9 b10 b11)) (own_le b12 b13 b14 b15)) (own_le b16 b17 b18 b19)) (own_le b20 b21 b22 b23)) ^^^ ((b24 &&& (255 : Int32)) <<< ((0 : Int32) &&& 31))) ^^^ ((b25 &&& (255 : Int32)) <<< ((8 : Int32) &&& 31))) * (1540483477 : Int32))) * (1540483477 : Int32)))) d2_134 rfl rfl ?_
  exact s_retI X6 hx hby hlk hret d2_135 (by decide) (by decide) ⟨rfl, e6, M6⟩
set_option maxRecDepth 65536 in
set_option maxHeartbeats 40000000 in
theorem rmB1 (l : Launch) (Z : State) (a0 : Array Value) (hw : ∀ d ∈ tables_1, d.before a0 Z = true) (p1 : Int32) (h0 : Heap) (n0 : Nat) (Z0 : n0 ≤ h0.size) :
    OCon l Z (⟨"com/example/ucoord/ucoord/partition/KeyPartitionerMurmur2PinLaw", "bytesOf", "(II)[B"⟩ : MethodName) method_2_code 2 (some ((.array (.byte)))) [] ({ frames := 0, cells := 1, slots := 4, locals := 0 } : Room) #[(.int p1), (.int (1 : Int32))] h0 (fun v h L => ∃ r cl, v = some (.ref r) ∧ Fr n0 L ∧ Keep h0 h [] ∧ Arr Z h r cl .byte ∧ cl.slots.size = (1 : Int32).toNatClampNeg ∧ cl.slots[0]? = some (.int (nar .byte (p1).toInt8.toInt32))) := by
  refine con (plainFor_of_name pn0) ?_
  intro p e s m below meth c s₁ hx hby hml hZ hown hnm hret hlk X0 e0
  refine entry (efB m p1 (1 : Int32)) ?_
  have M0 := Fr.nil n0
  have K0 := Keep.refl h0 []
  refine s_iloadN X0 hx hby (n := 1) (x := (1 : Int32)) d1_0 rfl rfl ?_
  refine s_iconst X0 hx hby (n := 2) (v := (1 : Int32)) d1_1 rfl rfl ?_
  refine s_icmpN X0 hx hby (n := 5) d1_2 (by decide) rfl ?_
  refine s_iconst X0 hx hby (n := 6) (v := (1 : Int32)) d1_5 rfl rfl ?_
  refine s_newP X0 hx hby hZ (n := 8) (hw _ (List.mem_of_getElem? (i := 4) rfl)) (ty := .byte) rfl e0 (by decide) 4 (by decide) (by decide) (by decide) (by decide) d1_6 rfl ?_
  intro T1 h1 cA1 r hor X1 e1 E1 A1_r
  have S1_r : (newA cA1 .byte (1 : Int32)).slots.size = (1 : Int32).toNatClampNeg := sz_new _ _ _
  have n_r : n0 ≤ r := by rw [hor]; exact Z0
  have Z1 : n0 ≤ h1.size := Nat.le_trans Z0 E1.1
  have K1 := K0.ext E1
  refine s_dup X1 hx hby (n := 9) d1_8 rfl rfl ?_
  refine s_iconst X1 hx hby (n := 10) (v := (0 : Int32)) d1_9 rfl rfl ?_
  refine s_iloadN X1 hx hby (n := 11) (x := p1) d1_10 rfl rfl ?_
  refine s_i2b X1 hx hby (n := 12) d1_11 rfl ?_
  refine s_bastoreC X1 hx hby hZ (n := 13) e1 A1_r 0 (by decide) (by decide) (by rw [S1_r]; decide) d1_12 rfl ?_
  intro T2 h2 X2 e2 W2
  obtain ⟨c2, A2_r, S2_r, B2_r_0⟩ : ∃ cc : Cell, Arr Z h2 r cc .byte ∧ cc.slots.size = (1 : Int32).toNatClampNeg ∧ cc.slots[0]? = some (.int (nar .byte ((p1).toInt8.toInt32))) := ⟨_, A1_r.same W2, (by rw [sz_set]; exact S1_r), set_hit (by rw [S1_r]; decide)⟩
  have M2 := Fr.snoc X2 M0 n_r
  have Z2 : n0 ≤ h2.size := by rw [W2.size]; exact Z1
  have K2 := Keep.wr K1 W2 (Or.inr (Nat.le_of_eq hor.symm))
  exact s_retA X2 hx hby hlk hret rfl rfl d1_13 (by decide) (by decide) ⟨r, c2, rfl, M2, by rw [e2]; exact K2, by rw [e2]; exact A2_r, S2_r, B2_r_0⟩
set_option maxRecDepth 65536 in
set_option maxHeartbeats 40000000 in
theorem rmB2 (l : Launch) (Z : State) (a0 : Array Value) (hw : ∀ d ∈ tables_1, d.before a0 Z = true) (p1 : Int32) (h0 : Heap) (n0 : Nat) (Z0 : n0 ≤ h0.size) :
    OCon l Z (⟨"com/example/ucoord/ucoord/partition/KeyPartitionerMurmur2PinLaw", "bytesOf", "(II)[B"⟩ : MethodName) method_2_code 2 (some ((.array (.byte)))) [] ({ frames := 0, cells := 1, slots := 4, locals := 0 } : Room) #[(.int p1), (.int (2 : Int32))] h0 (fun v h L => ∃ r cl, v = some (.ref r) ∧ Fr n0 L ∧ Keep h0 h [] ∧ Arr Z h r cl .byte ∧ cl.slots.size = (2 : Int32).toNatClampNeg ∧ cl.slots[0]? = some (.int (nar .byte (p1).toInt8.toInt32)) ∧ cl.slots[1]? = some (.int (nar .byte (XT.ushr p1 (8 : Int32)).toInt8.toInt32))) := by
  refine con (plainFor_of_name pn0) ?_
  intro p e s m below meth c s₁ hx hby hml hZ hown hnm hret hlk X0 e0
  refine entry (efB m p1 (2 : Int32)) ?_
  have M0 := Fr.nil n0
  have K0 := Keep.refl h0 []
  refine s_iloadN X0 hx hby (n := 1) (x := (2 : Int32)) d1_0 rfl rfl ?_
  refine s_iconst X0 hx hby (n := 2) (v := (1 : Int32)) d1_1 rfl rfl ?_
  refine s_icmpY X0 hx hby (n := 14) d1_2 (by decide) (by decide) (by decide) ?_
  refine s_iloadN X0 hx hby (n := 15) (x := (2 : Int32)) d1_14 rfl rfl ?_
  refine s_iconst X0 hx hby (n := 16) (v := (2 : Int32)) d1_15 rfl rfl ?_
  refine s_icmpN X0 hx hby (n := 19) d1_16 (by decide) rfl ?_
  refine s_iconst X0 hx hby (n := 20) (v := (2 : Int32)) d1_19 rfl rfl ?_
  refine s_newP X0 hx hby hZ (n := 22) (hw _ (List.mem_of_getElem? (i := 4) rfl)) (ty := .byte) rfl e0 (by decide) 4 (by decide) (by decide) (by decide) (by decide) d1_20 rfl ?_
  intro T1 h1 cA1 r hor X1 e1 E1 A1_r
  have S1_r : (newA cA1 .byte (2 : Int32)).slots.size = (2 : Int32).toNatClampNeg := sz_new _ _ _
  have n_r : n0 ≤ r := by rw [hor]; exact Z0
  have Z1 : n0 ≤ h1.size := Nat.le_trans Z0 E1.1
  have K1 := K0.ext E1
  refine s_dup X1 hx hby (n := 23) d1_22 rfl rfl ?_
  refine s_iconst X1 hx hby (n := 24) (v := (0 : Int32)) d1_23 rfl rfl ?_
  refine s_iloadN X1 hx hby (n := 25) (x := p1) d1_24 rfl rfl ?_
  refine s_i2b X1 hx hby (n := 26) d1_25 rfl ?_
  refine s_bastoreC X1 hx hby hZ (n := 27) e1 A1_r 0 (by decide) (by decide) (by rw [S1_r]; decide) d1_26 rfl ?_
  intro T2 h2 X2 e2 W2
  obtain ⟨c2, A2_r, S2_r, B2_r_0⟩ : ∃ cc : Cell, Arr Z h2 r cc .byte ∧ cc.slots.size = (2 : Int32).toNatClampNeg ∧ cc.slots[0]? = some (.int (nar .byte ((p1).toInt8.toInt32))) := ⟨_, A1_r.same W2, (by rw [sz_set]; exact S1_r), set_hit (by rw [S1_r]; decide)⟩
  have M2 := Fr.snoc X2 M0 n_r
  have Z2 : n0 ≤ h2.size := by rw [W2.size]; exact Z1
  have K2 := Keep.wr K1 W2 (Or.inr (Nat.le_of_eq hor.symm))
  refine s_dup X2 hx hby (n := 28) d1_27 rfl rfl ?_
  refine s_iconst X2 hx hby (n := 29) (v := (1 : Int32)) d1_28 rfl rfl ?_
  refine s_iloadN X2 hx hby (n := 30) (x := p1) d1_29 rfl rfl ?_
  refine s_bipush X2 hx hby (n := 32) (v := (8 : Int32)) d1_30 rfl rfl ?_
  refine s_iushr X2 hx hby (n := 33) d1_32 rfl ?_
  refine s_i2b X2 hx hby (n := 34) d1_33 rfl ?_
  refine s_bastoreC X2 hx hby hZ (n := 35) e2 A2_r 1 (by decide) (by decide) (by rw [S2_r]; decide) d1_34 rfl ?_
  intro T3 h3 X3 e3 W3
  obtain ⟨c3, A3_r, S3_r, B3_r_0, B3_r_1⟩ : ∃ cc : Cell, Arr Z h3 r cc .byte ∧ cc.slots.size = (2 : Int32).toNatClampNeg ∧ cc.slots[0]? = some (.int (nar .byte ((p1).toInt8.toInt32))) ∧ cc.slots[1]? = some (.int (nar .byte (((XT.ushr p1 (8 : Int32))).toInt8.toInt32))) := ⟨_, A2_r.same W3, (by rw [sz_set]; exact S2_r), set_mis B2_r_0 (by decide), set_hit (by rw [S2_r]; decide)⟩
  have M3 := Fr.snoc X3 M2 n_r
  have Z3 : n0 ≤ h3.size := by rw [W3.size]; exact Z2
  have K3 := Keep.wr K2 W3 (Or.inr (Nat.le_of_eq hor.symm))
  exact s_retA X3 hx hby hlk hret rfl rfl d1_35 (by decide) (by decide) ⟨r, c3, rfl, M3, by rw [e3]; exact K3, by rw [e3]; exact A3_r, S3_r, B3_r_0, B3_r_1⟩
set_option maxRecDepth 65536 in
set_option maxHeartbeats 40000000 in
theorem rmB3 (l : Launch) (Z : State) (a0 : Array Value) (hw : ∀ d ∈ tables_1, d.before a0 Z = true) (p1 : Int32) (h0 : Heap) (n0 : Nat) (Z0 : n0 ≤ h0.size) :
    OCon l Z (⟨"com/example/ucoord/ucoord/partition/KeyPartitionerMurmur2PinLaw", "bytesOf", "(II)[B"⟩ : MethodName) method_2_code 2 (some ((.array (.byte)))) [] ({ frames := 0, cells := 1, slots := 4, locals := 0 } : Room) #[(.int p1), (.int (3 : Int32))] h0 (fun v h L => ∃ r cl, v = some (.ref r) ∧ Fr n0 L ∧ Keep h0 h [] ∧ Arr Z h r cl .byte ∧ cl.slots.size = (3 : Int32).toNatClampNeg ∧ cl.slots[0]? = some (.int (nar .byte (p1).toInt8.toInt32)) ∧ cl.slots[1]? = some (.int (nar .byte (XT.ushr p1 (8 : Int32)).toInt8.toInt32)) ∧ cl.slots[2]? = some (.int (nar .byte (XT.ushr p1 (16 : Int32)).toInt8.toInt32))) := by
  refine con (plainFor_of_name pn0) ?_
  intro p e s m below meth c s₁ hx hby hml hZ hown hnm hret hlk X0 e0
  refine entry (efB m p1 (3 : Int32)) ?_
  have M0 := Fr.nil n0
  have K0 := Keep.refl h0 []
  refine s_iloadN X0 hx hby (n := 1) (x := (3 : Int32)) d1_0 rfl rfl ?_
  refine s_iconst X0 hx hby (n := 2) (v := (1 : Int32)) d1_1 rfl rfl ?_
  refine s_icmpY X0 hx hby (n := 14) d1_2 (by decide) (by decide) (by decide) ?_
  refine s_iloadN X0 hx hby (n := 15) (x := (3 : Int32)) d1_14 rfl rfl ?_
  refine s_iconst X0 hx hby (n := 16) (v := (2 : Int32)) d1_15 rfl rfl ?_
  refine s_icmpY X0 hx hby (n := 36) d1_16 (by decide) (by decide) (by decide) ?_
  refine s_iloadN X0 hx hby (n := 37) (x := (3 : Int32)) d1_36 rfl rfl ?_
  refine s_iconst X0 hx hby (n := 38) (v := (3 : Int32)) d1_37 rfl rfl ?_
  refine s_icmpN X0 hx hby (n := 41) d1_38 (by decide) rfl ?_
  refine s_iconst X0 hx hby (n := 42) (v := (3 : Int32)) d1_41 rfl rfl ?_
  refine s_newP X0 hx hby hZ (n := 44) (hw _ (List.mem_of_getElem? (i := 4) rfl)) (ty := .byte) rfl e0 (by decide) 4 (by decide) (by decide) (by decide) (by decide) d1_42 rfl ?_
  intro T1 h1 cA1 r hor X1 e1 E1 A1_r
  have S1_r : (newA cA1 .byte (3 : Int32)).slots.size = (3 : Int32).toNatClampNeg := sz_new _ _ _
  have n_r : n0 ≤ r := by rw [hor]; exact Z0
  have Z1 : n0 ≤ h1.size := Nat.le_trans Z0 E1.1
  have K1 := K0.ext E1
  refine s_dup X1 hx hby (n := 45) d1_44 rfl rfl ?_
  refine s_iconst X1 hx hby (n := 46) (v := (0 : Int32)) d1_45 rfl rfl ?_
  refine s_iloadN X1 hx hby (n := 47) (x := p1) d1_46 rfl rfl ?_
  refine s_i2b X1 hx hby (n := 48) d1_47 rfl ?_
  refine s_bastoreC X1 hx hby hZ (n := 49) e1 A1_r 0 (by decide) (by decide) (by rw [S1_r]; decide) d1_48 rfl ?_
  intro T2 h2 X2 e2 W2
  obtain ⟨c2, A2_r, S2_r, B2_r_0⟩ : ∃ cc : Cell, Arr Z h2 r cc .byte ∧ cc.slots.size = (3 : Int32).toNatClampNeg ∧ cc.slots[0]? = some (.int (nar .byte ((p1).toInt8.toInt32))) := ⟨_, A1_r.same W2, (by rw [sz_set]; exact S1_r), set_hit (by rw [S1_r]; decide)⟩
  have M2 := Fr.snoc X2 M0 n_r
  have Z2 : n0 ≤ h2.size := by rw [W2.size]; exact Z1
  have K2 := Keep.wr K1 W2 (Or.inr (Nat.le_of_eq hor.symm))
  refine s_dup X2 hx hby (n := 50) d1_49 rfl rfl ?_
  refine s_iconst X2 hx hby (n := 51) (v := (1 : Int32)) d1_50 rfl rfl ?_
  refine s_iloadN X2 hx hby (n := 52) (x := p1) d1_51 rfl rfl ?_
  refine s_bipush X2 hx hby (n := 54) (v := (8 : Int32)) d1_52 rfl rfl ?_
  refine s_iushr X2 hx hby (n := 55) d1_54 rfl ?_
  refine s_i2b X2 hx hby (n := 56) d1_55 rfl ?_
  refine s_bastoreC X2 hx hby hZ (n := 57) e2 A2_r 1 (by decide) (by decide) (by rw [S2_r]; decide) d1_56 rfl ?_
  intro T3 h3 X3 e3 W3
  obtain ⟨c3, A3_r, S3_r, B3_r_0, B3_r_1⟩ : ∃ cc : Cell, Arr Z h3 r cc .byte ∧ cc.slots.size = (3 : Int32).toNatClampNeg ∧ cc.slots[0]? = some (.int (nar .byte ((p1).toInt8.toInt32))) ∧ cc.slots[1]? = some (.int (nar .byte (((XT.ushr p1 (8 : Int32))).toInt8.toInt32))) := ⟨_, A2_r.same W3, (by rw [sz_set]; exact S2_r), set_mis B2_r_0 (by decide), set_hit (by rw [S2_r]; decide)⟩
  have M3 := Fr.snoc X3 M2 n_r
  have Z3 : n0 ≤ h3.size := by rw [W3.size]; exact Z2
  have K3 := Keep.wr K2 W3 (Or.inr (Nat.le_of_eq hor.symm))
  refine s_dup X3 hx hby (n := 58) d1_57 rfl rfl ?_
  refine s_iconst X3 hx hby (n := 59) (v := (2 : Int32)) d1_58 rfl rfl ?_
  refine s_iloadN X3 hx hby (n := 60) (x := p1) d1_59 rfl rfl ?_
  refine s_bipush X3 hx hby (n := 62) (v := (16 : Int32)) d1_60 rfl rfl ?_
  refine s_iushr X3 hx hby (n := 63) d1_62 rfl ?_
  refine s_i2b X3 hx hby (n := 64) d1_63 rfl ?_
  refine s_bastoreC X3 hx hby hZ (n := 65) e3 A3_r 2 (by decide) (by decide) (by rw [S3_r]; decide) d1_64 rfl ?_
  intro T4 h4 X4 e4 W4
  obtain ⟨c4, A4_r, S4_r, B4_r_0, B4_r_1, B4_r_2⟩ : ∃ cc : Cell, Arr Z h4 r cc .byte ∧ cc.slots.size = (3 : Int32).toNatClampNeg ∧ cc.slots[0]? = some (.int (nar .byte ((p1).toInt8.toInt32))) ∧ cc.slots[1]? = some (.int (nar .byte (((XT.ushr p1 (8 : Int32))).toInt8.toInt32))) ∧ cc.slots[2]? = some (.int (nar .byte (((XT.ushr p1 (16 : Int32))).toInt8.toInt32))) := ⟨_, A3_r.same W4, (by rw [sz_set]; exact S3_r), set_mis B3_r_0 (by decide), set_mis B3_r_1 (by decide), set_hit (by rw [S3_r]; decide)⟩
  have M4 := Fr.snoc X4 M3 n_r
  have Z4 : n0 ≤ h4.size := by rw [W4.size]; exact Z3
  have K4 := Keep.wr K3 W4 (Or.inr (Nat.le_of_eq hor.symm))
  exact s_retA X4 hx hby hlk hret rfl rfl d1_65 (by decide) (by decide) ⟨r, c4, rfl, M4, by rw [e4]; exact K4, by rw [e4]; exact A4_r, S4_r, B4_r_0, B4_r_1, B4_r_2⟩
set_option maxRecDepth 65536 in
set_option maxHeartbeats 40000000 in
theorem rmB4 (l : Launch) (Z : State) (a0 : Array Value) (hw : ∀ d ∈ tables_1, d.before a0 Z = true) (p1 : Int32) (h0 : Heap) (n0 : Nat) (Z0 : n0 ≤ h0.size) :
    OCon l Z (⟨"com/example/ucoord/ucoord/partition/KeyPartitionerMurmur2PinLaw", "bytesOf", "(II)[B"⟩ : MethodName) method_2_code 2 (some ((.array (.byte)))) [] ({ frames := 0, cells := 1, slots := 4, locals := 0 } : Room) #[(.int p1), (.int (4 : Int32))] h0 (fun v h L => ∃ r cl, v = some (.ref r) ∧ Fr n0 L ∧ Keep h0 h [] ∧ Arr Z h r cl .byte ∧ cl.slots.size = (4 : Int32).toNatClampNeg ∧ cl.slots[0]? = some (.int (nar .byte (p1).toInt8.toInt32)) ∧ cl.slots[1]? = some (.int (nar .byte (XT.ushr p1 (8 : Int32)).toInt8.toInt32)) ∧ cl.slots[2]? = some (.int (nar .byte (XT.ushr p1 (16 : Int32)).toInt8.toInt32)) ∧ cl.slots[3]? = some (.int (nar .byte (XT.ushr p1 (24 : Int32)).toInt8.toInt32))) := by
  refine con (plainFor_of_name pn0) ?_
  intro p e s m below meth c s₁ hx hby hml hZ hown hnm hret hlk X0 e0
  refine entry (efB m p1 (4 : Int32)) ?_
  have M0 := Fr.nil n0
  have K0 := Keep.refl h0 []
  refine s_iloadN X0 hx hby (n := 1) (x := (4 : Int32)) d1_0 rfl rfl ?_
  refine s_iconst X0 hx hby (n := 2) (v := (1 : Int32)) d1_1 rfl rfl ?_
  refine s_icmpY X0 hx hby (n := 14) d1_2 (by decide) (by decide) (by decide) ?_
  refine s_iloadN X0 hx hby (n := 15) (x := (4 : Int32)) d1_14 rfl rfl ?_
  refine s_iconst X0 hx hby (n := 16) (v := (2 : Int32)) d1_15 rfl rfl ?_
  refine s_icmpY X0 hx hby (n := 36) d1_16 (by decide) (by decide) (by decide) ?_
  refine s_iloadN X0 hx hby (n := 37) (x := (4 : Int32)) d1_36 rfl rfl ?_
  refine s_iconst X0 hx hby (n := 38) (v := (3 : Int32)) d1_37 rfl rfl ?_
  refine s_icmpY X0 hx hby (n := 66) d1_38 (by decide) (by decide) (by decide) ?_
  refine s_iconst X0 hx hby (n := 67) (v := (4 : Int32)) d1_66 rfl rfl ?_
  refine s_newP X0 hx hby hZ (n := 69) (hw _ (List.mem_of_getElem? (i := 4) rfl)) (ty := .byte) rfl e0 (by decide) 4 (by decide) (by decide) (by decide) (by decide) d1_67 rfl ?_
  intro T1 h1 cA1 r hor X1 e1 E1 A1_r
  have S1_r : (newA cA1 .byte (4 : Int32)).slots.size = (4 : Int32).toNatClampNeg := sz_new _ _ _
  have n_r : n0 ≤ r := by rw [hor]; exact Z0
  have Z1 : n0 ≤ h1.size := Nat.le_trans Z0 E1.1
  have K1 := K0.ext E1
  refine s_dup X1 hx hby (n := 70) d1_69 rfl rfl ?_
  refine s_iconst X1 hx hby (n := 71) (v := (0 : Int32)) d1_70 rfl rfl ?_
  refine s_iloadN X1 hx hby (n := 72) (x := p1) d1_71 rfl rfl ?_
  refine s_i2b X1 hx hby (n := 73) d1_72 rfl ?_
  refine s_bastoreC X1 hx hby hZ (n := 74) e1 A1_r 0 (by decide) (by decide) (by rw [S1_r]; decide) d1_73 rfl ?_
  intro T2 h2 X2 e2 W2
  obtain ⟨c2, A2_r, S2_r, B2_r_0⟩ : ∃ cc : Cell, Arr Z h2 r cc .byte ∧ cc.slots.size = (4 : Int32).toNatClampNeg ∧ cc.slots[0]? = some (.int (nar .byte ((p1).toInt8.toInt32))) := ⟨_, A1_r.same W2, (by rw [sz_set]; exact S1_r), set_hit (by rw [S1_r]; decide)⟩
  have M2 := Fr.snoc X2 M0 n_r
  have Z2 : n0 ≤ h2.size := by rw [W2.size]; exact Z1
  have K2 := Keep.wr K1 W2 (Or.inr (Nat.le_of_eq hor.symm))
  refine s_dup X2 hx hby (n := 75) d1_74 rfl rfl ?_
  refine s_iconst X2 hx hby (n := 76) (v := (1 : Int32)) d1_75 rfl rfl ?_
  refine s_iloadN X2 hx hby (n := 77) (x := p1) d1_76 rfl rfl ?_
  refine s_bipush X2 hx hby (n := 79) (v := (8 : Int32)) d1_77 rfl rfl ?_
  refine s_iushr X2 hx hby (n := 80) d1_79 rfl ?_
  refine s_i2b X2 hx hby (n := 81) d1_80 rfl ?_
  refine s_bastoreC X2 hx hby hZ (n := 82) e2 A2_r 1 (by decide) (by decide) (by rw [S2_r]; decide) d1_81 rfl ?_
  intro T3 h3 X3 e3 W3
  obtain ⟨c3, A3_r, S3_r, B3_r_0, B3_r_1⟩ : ∃ cc : Cell, Arr Z h3 r cc .byte ∧ cc.slots.size = (4 : Int32).toNatClampNeg ∧ cc.slots[0]? = some (.int (nar .byte ((p1).toInt8.toInt32))) ∧ cc.slots[1]? = some (.int (nar .byte (((XT.ushr p1 (8 : Int32))).toInt8.toInt32))) := ⟨_, A2_r.same W3, (by rw [sz_set]; exact S2_r), set_mis B2_r_0 (by decide), set_hit (by rw [S2_r]; decide)⟩
  have M3 := Fr.snoc X3 M2 n_r
  have Z3 : n0 ≤ h3.size := by rw [W3.size]; exact Z2
  have K3 := Keep.wr K2 W3 (Or.inr (Nat.le_of_eq hor.symm))
  refine s_dup X3 hx hby (n := 83) d1_82 rfl rfl ?_
  refine s_iconst X3 hx hby (n := 84) (v := (2 : Int32)) d1_83 rfl rfl ?_
  refine s_iloadN X3 hx hby (n := 85) (x := p1) d1_84 rfl rfl ?_
  refine s_bipush X3 hx hby (n := 87) (v := (16 : Int32)) d1_85 rfl rfl ?_
  refine s_iushr X3 hx hby (n := 88) d1_87 rfl ?_
  refine s_i2b X3 hx hby (n := 89) d1_88 rfl ?_
  refine s_bastoreC X3 hx hby hZ (n := 90) e3 A3_r 2 (by decide) (by decide) (by rw [S3_r]; decide) d1_89 rfl ?_
  intro T4 h4 X4 e4 W4
  obtain ⟨c4, A4_r, S4_r, B4_r_0, B4_r_1, B4_r_2⟩ : ∃ cc : Cell, Arr Z h4 r cc .byte ∧ cc.slots.size = (4 : Int32).toNatClampNeg ∧ cc.slots[0]? = some (.int (nar .byte ((p1).toInt8.toInt32))) ∧ cc.slots[1]? = some (.int (nar .byte (((XT.ushr p1 (8 : Int32))).toInt8.toInt32))) ∧ cc.slots[2]? = some (.int (nar .byte (((XT.ushr p1 (16 : Int32))).toInt8.toInt32))) := ⟨_, A3_r.same W4, (by rw [sz_set]; exact S3_r), set_mis B3_r_0 (by decide), set_mis B3_r_1 (by decide), set_hit (by rw [S3_r]; decide)⟩
  have M4 := Fr.snoc X4 M3 n_r
  have Z4 : n0 ≤ h4.size := by rw [W4.size]; exact Z3
  have K4 := Keep.wr K3 W4 (Or.inr (Nat.le_of_eq hor.symm))
  refine s_dup X4 hx hby (n := 91) d1_90 rfl rfl ?_
  refine s_iconst X4 hx hby (n := 92) (v := (3 : Int32)) d1_91 rfl rfl ?_
  refine s_iloadN X4 hx hby (n := 93) (x := p1) d1_92 rfl rfl ?_
  refine s_bipush X4 hx hby (n := 95) (v := (24 : Int32)) d1_93 rfl rfl ?_
  refine s_iushr X4 hx hby (n := 96) d1_95 rfl ?_
  refine s_i2b X4 hx hby (n := 97) d1_96 rfl ?_
  refine s_bastoreC X4 hx hby hZ (n := 98) e4 A4_r 3 (by decide) (by decide) (by rw [S4_r]; decide) d1_97 rfl ?_
  intro T5 h5 X5 e5 W5
  obtain ⟨c5, A5_r, S5_r, B5_r_0, B5_r_1, B5_r_2, B5_r_3⟩ : ∃ cc : Cell, Arr Z h5 r cc .byte ∧ cc.slots.size = (4 : Int32).toNatClampNeg ∧ cc.slots[0]? = some (.int (nar .byte ((p1).toInt8.toInt32))) ∧ cc.slots[1]? = some (.int (nar .byte (((XT.ushr p1 (8 : Int32))).toInt8.toInt32))) ∧ cc.slots[2]? = some (.int (nar .byte (((XT.ushr p1 (16 : Int32))).toInt8.toInt32))) ∧ cc.slots[3]? = some (.int (nar .byte (((XT.ushr p1 (24 : Int32))).toInt8.toInt32))) := ⟨_, A4_r.same W5, (by rw [sz_set]; exact S4_r), set_mis B4_r_0 (by decide), set_mis B4_r_1 (by decide), set_mis B4_r_2 (by decide), set_hit (by rw [S4_r]; decide)⟩
  have M5 := Fr.snoc X5 M4 n_r
  have Z5 : n0 ≤ h5.size := by rw [W5.size]; exact Z4
  have K5 := Keep.wr K4 W5 (Or.inr (Nat.le_of_eq hor.symm))
  exact s_retA X5 hx hby hlk hret rfl rfl d1_98 (by decide) (by decide) ⟨r, c5, rfl, M5, by rw [e5]; exact K5, by rw [e5]; exact A5_r, S5_r, B5_r_0, B5_r_1, B5_r_2, B5_r_3⟩
theorem own_word (b0 b1 b2 b3 x : Int32) (h0 : b0.toInt % 256 = x.toInt % 256) (h1 : b1.toInt % 256 = x.toInt / 256 % 256) (h2 : b2.toInt % 256 = x.toInt / 65536 % 256) (h3 : b3.toInt % 256 = x.toInt / 16777216 % 256) :
    ((((b0 &&& (255 : Int32)) ||| ((b1 &&& (255 : Int32)) <<< ((8 : Int32) &&& 31))) ||| ((b2 &&& (255 : Int32)) <<< ((16 : Int32) &&& 31))) ||| ((b3 &&& (255 : Int32)) <<< ((24 : Int32) &&& 31))) = x := by
  have m0 := c_mask b0 255 8 (by decide) (by decide)
  have m1 := c_mask b1 255 8 (by decide) (by decide)
  have m2 := c_mask b2 255 8 (by decide) (by decide)
  have m3 := c_mask b3 255 8 (by decide) (by decide)
  have s1 := c_ishl (b1 &&& 255) 8 8 (by decide)
  have s2 := c_ishl (b2 &&& 255) 16 16 (by decide)
  have s3 := c_ishl (b3 &&& 255) 24 24 (by decide)
  have r1 := rng32 ((b1 &&& (255 : Int32)) <<< ((8 : Int32) &&& 31))
  have r2 := rng32 ((b2 &&& (255 : Int32)) <<< ((16 : Int32) &&& 31))
  have r3 := rng32 ((b3 &&& (255 : Int32)) <<< ((24 : Int32) &&& 31))
  generalize e0 : (b0 &&& (255 : Int32)) = y0 at *
  generalize e1 : ((b1 &&& (255 : Int32)) <<< ((8 : Int32) &&& 31)) = y1 at *
  generalize e2 : ((b2 &&& (255 : Int32)) <<< ((16 : Int32) &&& 31)) = y2 at *
  generalize e3 : ((b3 &&& (255 : Int32)) <<< ((24 : Int32) &&& 31)) = y3 at *
  have o1 := c_or' y0 y1 8 (by decide) 256 (by decide) (by omega) (by omega) (by omega)
  have q1 := rng32 (y0 ||| y1)
  have o2 := c_or' (y0 ||| y1) y2 16 (by decide) 65536 (by decide) (by omega) (by omega) (by omega)
  have q2 := rng32 ((y0 ||| y1) ||| y2)
  have o3 := c_or' ((y0 ||| y1) ||| y2) y3 24 (by decide) 16777216 (by decide) (by omega) (by omega) (by omega)
  have q3 := rng32 (((y0 ||| y1) ||| y2) ||| y3)
  have qx := rng32 x
  apply Int32.toInt_inj.mp
  omega

theorem own_mul_inj {x y : Int32} (h : x * (1540483477 : Int32) = y * (1540483477 : Int32)) : x = y := by
  have k : (1540483477 : Int32) * (-442820163 : Int32) = 1 := by decide
  have h2 : (x * (1540483477 : Int32)) * (-442820163 : Int32) = (y * (1540483477 : Int32)) * (-442820163 : Int32) := by rw [h]
  rw [Int32.mul_assoc, Int32.mul_assoc, k, Int32.mul_one, Int32.mul_one] at h2
  exact h2
theorem own_xor_inj {a x y : Int32} (h : a ^^^ x = a ^^^ y) : x = y := by
  have h2 : a ^^^ (a ^^^ x) = a ^^^ (a ^^^ y) := by rw [h]
  rw [← Int32.xor_assoc, ← Int32.xor_assoc, Int32.xor_self, Int32.zero_xor, Int32.zero_xor] at h2
  exact h2
theorem own_bx13 (z : BitVec 32) : ((z ^^^ (z >>> 13)) ^^^ ((z ^^^ (z >>> 13)) >>> 13)) ^^^ ((z ^^^ (z >>> 13)) >>> 26) = z := by
  apply BitVec.eq_of_getLsbD_eq
  intro i hi
  have h1 : z.getLsbD (13 + (26 + i)) = false := BitVec.getLsbD_of_ge _ _ (by omega)
  have h2 : 13 + (13 + i) = 26 + i := by omega
  simp only [BitVec.getLsbD_xor, BitVec.getLsbD_ushiftRight, h1, h2]
  cases z.getLsbD i <;> cases z.getLsbD (13 + i) <;> cases z.getLsbD (26 + i) <;> rfl
theorem own_bx15 (z : BitVec 32) : ((z ^^^ (z >>> 15)) ^^^ ((z ^^^ (z >>> 15)) >>> 15)) ^^^ ((z ^^^ (z >>> 15)) >>> 30) = z := by
  apply BitVec.eq_of_getLsbD_eq
  intro i hi
  have h1 : z.getLsbD (15 + (30 + i)) = false := BitVec.getLsbD_of_ge _ _ (by omega)
  have h2 : 15 + (15 + i) = 30 + i := by omega
  simp only [BitVec.getLsbD_xor, BitVec.getLsbD_ushiftRight, h1, h2]
  cases z.getLsbD i <;> cases z.getLsbD (15 + i) <;> cases z.getLsbD (30 + i) <;> rfl
theorem own_bx24 (z : BitVec 32) : ((z ^^^ (z >>> 24)) ^^^ ((z ^^^ (z >>> 24)) >>> 24)) = z := by
  apply BitVec.eq_of_getLsbD_eq
  intro i hi
  have h1 : z.getLsbD (24 + (24 + i)) = false := BitVec.getLsbD_of_ge _ _ (by omega)
  simp only [BitVec.getLsbD_xor, BitVec.getLsbD_ushiftRight, h1]
  cases z.getLsbD i <;> cases z.getLsbD (24 + i) <;> rfl
theorem own_tv13 (x : Int32) : (own_x13 x).toBitVec = x.toBitVec ^^^ (x.toBitVec >>> 13) := rfl
theorem own_x13_inj {x y : Int32} (h : own_x13 x = own_x13 y) : x = y := by
  have h2 : (own_x13 x).toBitVec = (own_x13 y).toBitVec := by rw [h]
  rw [own_tv13, own_tv13] at h2
  have h3 := own_bx13 x.toBitVec
  rw [h2, own_bx13 y.toBitVec] at h3
  exact Int32.toBitVec_inj.mp h3.symm
theorem own_tv15 (x : Int32) : (own_x15 x).toBitVec = x.toBitVec ^^^ (x.toBitVec >>> 15) := rfl
theorem own_x15_inj {x y : Int32} (h : own_x15 x = own_x15 y) : x = y := by
  have h2 : (own_x15 x).toBitVec = (own_x15 y).toBitVec := by rw [h]
  rw [own_tv15, own_tv15] at h2
  have h3 := own_bx15 x.toBitVec
  rw [h2, own_bx15 y.toBitVec] at h3
  exact Int32.toBitVec_inj.mp h3.symm
theorem own_tv24 (x : Int32) : (own_x24 x).toBitVec = x.toBitVec ^^^ (x.toBitVec >>> 24) := rfl
theorem own_x24_inj {x y : Int32} (h : own_x24 x = own_x24 y) : x = y := by
  have h2 : (own_x24 x).toBitVec = (own_x24 y).toBitVec := by rw [h]
  rw [own_tv24, own_tv24] at h2
  have h3 := own_bx24 x.toBitVec
  rw [h2, own_bx24 y.toBitVec] at h3
  exact Int32.toBitVec_inj.mp h3.symm
theorem own_fin_inj {x y : Int32} (h : (own_x15 ((own_x13 x) * (1540483477 : Int32))) = (own_x15 ((own_x13 y) * (1540483477 : Int32)))) : x = y := own_x13_inj (own_mul_inj (own_x15_inj h))
theorem own_stp_inj {h x y : Int32} (q : own_stp h x = own_stp h y) : x = y := own_mul_inj (own_x24_inj (own_mul_inj (own_xor_inj q)))
theorem own_andx (a o m : Int32) : (a ^^^ o) &&& m = (a &&& m) ^^^ (o &&& m) := by
  apply Int32.toBitVec_inj.mp
  simp only [Int32.toBitVec_and, Int32.toBitVec_xor]
  apply BitVec.eq_of_getLsbD_eq
  intro i hi
  simp only [BitVec.getLsbD_and, BitVec.getLsbD_xor]
  cases a.toBitVec.getLsbD i <;> cases o.toBitVec.getLsbD i <;> cases m.toBitVec.getLsbD i <;> rfl
theorem own_xz {a o : Int32} : a ^^^ o = 0 ↔ a = o := by
  constructor
  · intro h
    refine (own_xor_inj (a := a) ?_).symm
    rw [h, Int32.xor_self]
  · intro h; rw [h, Int32.xor_self]
theorem own_z32 {x : Int32} : x.toInt = 0 ↔ x = 0 := ⟨fun h => Int32.toInt_inj.mp (by rw [h]; decide), fun h => by rw [h]; decide⟩
theorem own_z64 {x : Int64} : x.toInt = 0 ↔ x = 0 := ⟨fun h => Int64.toInt_inj.mp (by rw [h]; decide), fun h => by rw [h]; decide⟩
theorem own_m4 {a o : Int32} : (((a ^^^ o)).toInt64 &&& (4294967295 : Int64)) = (0 : Int64) ↔ a = o := by
  have h1 := c_maskL ((a ^^^ o)).toInt64 4294967295 32 (by decide) (by decide)
  have h2 := c_i2l (a ^^^ o)
  have h3 := rng32 (a ^^^ o)
  rw [← own_z64, ← own_xz, ← own_z32, h1, h2]
  omega
theorem own_m1 {a o : Int32} : (((a ^^^ o)).toInt64 &&& (255 : Int64)) = (0 : Int64) ↔ (a &&& (255 : Int32)) = (o &&& (255 : Int32)) := by
  have h1 := c_maskL ((a ^^^ o)).toInt64 255 8 (by decide) (by decide)
  have h2 := c_i2l (a ^^^ o)
  have h3 := c_mask (a ^^^ o) 255 8 (by decide) (by decide)
  rw [← own_z64, ← own_xz, ← own_andx, ← own_z32, h1, h2, h3]
theorem own_m2 {a o : Int32} : (((a ^^^ o)).toInt64 &&& (65535 : Int64)) = (0 : Int64) ↔ (a &&& (65535 : Int32)) = (o &&& (65535 : Int32)) := by
  have h1 := c_maskL ((a ^^^ o)).toInt64 65535 16 (by decide) (by decide)
  have h2 := c_i2l (a ^^^ o)
  have h3 := c_mask (a ^^^ o) 65535 16 (by decide) (by decide)
  rw [← own_z64, ← own_xz, ← own_andx, ← own_z32, h1, h2, h3]
theorem own_m3 {a o : Int32} : (((a ^^^ o)).toInt64 &&& (16777215 : Int64)) = (0 : Int64) ↔ (a &&& (16777215 : Int32)) = (o &&& (16777215 : Int32)) := by
  have h1 := c_maskL ((a ^^^ o)).toInt64 16777215 24 (by decide) (by decide)
  have h2 := c_i2l (a ^^^ o)
  have h3 := c_mask (a ^^^ o) 16777215 24 (by decide) (by decide)
  rw [← own_z64, ← own_xz, ← own_andx, ← own_z32, h1, h2, h3]
theorem own_by (v : Int32) : (nar .byte v.toInt8.toInt32).toInt % 256 = v.toInt % 256 := by
  have h2 := c_i2b v
  have h3 := c_i2b v.toInt8.toInt32
  show (v.toInt8.toInt32).toInt8.toInt32.toInt % 256 = _
  omega
theorem own_bm (v : Int32) : ((nar .byte (v).toInt8.toInt32) &&& (255 : Int32)) = v &&& (255 : Int32) := by
  have h1 := c_mask (nar .byte v.toInt8.toInt32) 255 8 (by decide) (by decide)
  have h2 := c_mask v 255 8 (by decide) (by decide)
  have h3 := own_by v
  apply Int32.toInt_inj.mp
  omega
theorem own_sh (v q : Int32) (k : Nat) (hk : q.toBitVec.toNat % 32 = k) (h0 : 0 < k) : (XT.ushr v q).toInt = (v.toInt % 4294967296) / (2 ^ k : Nat) := c_iushr v q k hk h0
theorem own_wp (x : Int32) : own_le (nar .byte (x).toInt8.toInt32) (nar .byte (XT.ushr x (8 : Int32)).toInt8.toInt32) (nar .byte (XT.ushr x (16 : Int32)).toInt8.toInt32) (nar .byte (XT.ushr x (24 : Int32)).toInt8.toInt32) = x := by
  have r := rng32 x
  unfold own_le
  apply own_word
  · rw [own_by]
  · rw [own_by, own_sh _ _ 8 (by decide) (by decide)]; omega
  · rw [own_by, own_sh _ _ 16 (by decide) (by decide)]; omega
  · rw [own_by, own_sh _ _ 24 (by decide) (by decide)]; omega
theorem own_32 {i : Nat} (h : i < 32) : i = 0 ∨ i = 1 ∨ i = 2 ∨ i = 3 ∨ i = 4 ∨ i = 5 ∨ i = 6 ∨ i = 7 ∨ i = 8 ∨ i = 9 ∨ i = 10 ∨ i = 11 ∨ i = 12 ∨ i = 13 ∨ i = 14 ∨ i = 15 ∨ i = 16 ∨ i = 17 ∨ i = 18 ∨ i = 19 ∨ i = 20 ∨ i = 21 ∨ i = 22 ∨ i = 23 ∨ i = 24 ∨ i = 25 ∨ i = 26 ∨ i = 27 ∨ i = 28 ∨ i = 29 ∨ i = 30 ∨ i = 31 := by omega
theorem own_e1 (z : BitVec 32) : (z &&& 255#32) <<< 0 = z &&& 255#32 := by simp
theorem own_e2 (z : BitVec 32) : (z &&& 255#32) <<< 0 ^^^ ((z >>> 8 &&& 255#32) <<< 8) = z &&& 65535#32 := by
  apply BitVec.eq_of_getLsbD_eq
  intro i hi
  rcases own_32 hi with rfl | rfl | rfl | rfl | rfl | rfl | rfl | rfl | rfl | rfl | rfl | rfl | rfl | rfl | rfl | rfl | rfl | rfl | rfl | rfl | rfl | rfl | rfl | rfl | rfl | rfl | rfl | rfl | rfl | rfl | rfl | rfl <;> simp
theorem own_e3 (z : BitVec 32) : ((z &&& 255#32) <<< 0 ^^^ ((z >>> 8 &&& 255#32) <<< 8)) ^^^ ((z >>> 16 &&& 255#32) <<< 16) = z &&& 16777215#32 := by
  apply BitVec.eq_of_getLsbD_eq
  intro i hi
  rcases own_32 hi with rfl | rfl | rfl | rfl | rfl | rfl | rfl | rfl | rfl | rfl | rfl | rfl | rfl | rfl | rfl | rfl | rfl | rfl | rfl | rfl | rfl | rfl | rfl | rfl | rfl | rfl | rfl | rfl | rfl | rfl | rfl | rfl <;> simp
theorem own_d1 (x : Int32) : ((x &&& (255 : Int32)) <<< ((0 : Int32) &&& 31)) = x &&& (255 : Int32) := Int32.toBitVec_inj.mp (own_e1 x.toBitVec)
theorem own_d2 (x : Int32) : ((x &&& (255 : Int32)) <<< ((0 : Int32) &&& 31)) ^^^ (((XT.ushr x (8 : Int32)) &&& (255 : Int32)) <<< ((8 : Int32) &&& 31)) = x &&& (65535 : Int32) := Int32.toBitVec_inj.mp (own_e2 x.toBitVec)
theorem own_d3 (x : Int32) : (((x &&& (255 : Int32)) <<< ((0 : Int32) &&& 31)) ^^^ (((XT.ushr x (8 : Int32)) &&& (255 : Int32)) <<< ((8 : Int32) &&& 31))) ^^^ (((XT.ushr x (16 : Int32)) &&& (255 : Int32)) <<< ((16 : Int32) &&& 31)) = x &&& (16777215 : Int32) := Int32.toBitVec_inj.mp (own_e3 x.toBitVec)
theorem own_c1 (S x : Int32) : (S ^^^ (((nar .byte (x).toInt8.toInt32) &&& (255 : Int32)) <<< ((0 : Int32) &&& 31))) = S ^^^ (x &&& (255 : Int32)) := by
  rw [own_bm, own_d1]
theorem own_c2 (S x : Int32) : ((S ^^^ (((nar .byte (x).toInt8.toInt32) &&& (255 : Int32)) <<< ((0 : Int32) &&& 31))) ^^^ (((nar .byte (XT.ushr x (8 : Int32)).toInt8.toInt32) &&& (255 : Int32)) <<< ((8 : Int32) &&& 31))) = S ^^^ (x &&& (65535 : Int32)) := by
  rw [own_bm, own_bm, Int32.xor_assoc, own_d2]
theorem own_c3 (S x : Int32) : (((S ^^^ (((nar .byte (x).toInt8.toInt32) &&& (255 : Int32)) <<< ((0 : Int32) &&& 31))) ^^^ (((nar .byte (XT.ushr x (8 : Int32)).toInt8.toInt32) &&& (255 : Int32)) <<< ((8 : Int32) &&& 31))) ^^^ (((nar .byte (XT.ushr x (16 : Int32)).toInt8.toInt32) &&& (255 : Int32)) <<< ((16 : Int32) &&& 31))) = S ^^^ (x &&& (16777215 : Int32)) := by
  rw [own_bm, own_bm, own_bm, Int32.xor_assoc, Int32.xor_assoc, ← Int32.xor_assoc (_ <<< _), own_d3]

theorem own_inj1 (a o : Int32) : (((a ^^^ o)).toInt64 &&& (255 : Int64)) = (0 : Int64) ↔ (own_x15 ((own_x13 (((-1756908915 : Int32) ^^^ (((nar .byte (a).toInt8.toInt32) &&& (255 : Int32)) <<< ((0 : Int32) &&& 31))) * (1540483477 : Int32))) * (1540483477 : Int32))) = (own_x15 ((own_x13 (((-1756908915 : Int32) ^^^ (((nar .byte (o).toInt8.toInt32) &&& (255 : Int32)) <<< ((0 : Int32) &&& 31))) * (1540483477 : Int32))) * (1540483477 : Int32))) := by
  rw [own_c1, own_c1]
  exact ⟨fun h => by rw [own_m1.mp h], fun h => own_m1.mpr (own_xor_inj (own_mul_inj (own_fin_inj h)))⟩
theorem own_inj2 (a o : Int32) : (((a ^^^ o)).toInt64 &&& (65535 : Int64)) = (0 : Int64) ↔ (own_x15 ((own_x13 ((((-1756908914 : Int32) ^^^ (((nar .byte (a).toInt8.toInt32) &&& (255 : Int32)) <<< ((0 : Int32) &&& 31))) ^^^ (((nar .byte (XT.ushr a (8 : Int32)).toInt8.toInt32) &&& (255 : Int32)) <<< ((8 : Int32) &&& 31))) * (1540483477 : Int32))) * (1540483477 : Int32))) = (own_x15 ((own_x13 ((((-1756908914 : Int32) ^^^ (((nar .byte (o).toInt8.toInt32) &&& (255 : Int32)) <<< ((0 : Int32) &&& 31))) ^^^ (((nar .byte (XT.ushr o (8 : Int32)).toInt8.toInt32) &&& (255 : Int32)) <<< ((8 : Int32) &&& 31))) * (1540483477 : Int32))) * (1540483477 : Int32))) := by
  rw [own_c2, own_c2]
  exact ⟨fun h => by rw [own_m2.mp h], fun h => own_m2.mpr (own_xor_inj (own_mul_inj (own_fin_inj h)))⟩
theorem own_inj3 (a o : Int32) : (((a ^^^ o)).toInt64 &&& (16777215 : Int64)) = (0 : Int64) ↔ (own_x15 ((own_x13 (((((-1756908913 : Int32) ^^^ (((nar .byte (a).toInt8.toInt32) &&& (255 : Int32)) <<< ((0 : Int32) &&& 31))) ^^^ (((nar .byte (XT.ushr a (8 : Int32)).toInt8.toInt32) &&& (255 : Int32)) <<< ((8 : Int32) &&& 31))) ^^^ (((nar .byte (XT.ushr a (16 : Int32)).toInt8.toInt32) &&& (255 : Int32)) <<< ((16 : Int32) &&& 31))) * (1540483477 : Int32))) * (1540483477 : Int32))) = (own_x15 ((own_x13 (((((-1756908913 : Int32) ^^^ (((nar .byte (o).toInt8.toInt32) &&& (255 : Int32)) <<< ((0 : Int32) &&& 31))) ^^^ (((nar .byte (XT.ushr o (8 : Int32)).toInt8.toInt32) &&& (255 : Int32)) <<< ((8 : Int32) &&& 31))) ^^^ (((nar .byte (XT.ushr o (16 : Int32)).toInt8.toInt32) &&& (255 : Int32)) <<< ((16 : Int32) &&& 31))) * (1540483477 : Int32))) * (1540483477 : Int32))) := by
  rw [own_c3, own_c3]
  exact ⟨fun h => by rw [own_m3.mp h], fun h => own_m3.mpr (own_xor_inj (own_mul_inj (own_fin_inj h)))⟩
theorem own_inj4 (a o : Int32) : (((a ^^^ o)).toInt64 &&& (4294967295 : Int64)) = (0 : Int64) ↔ (own_x15 ((own_x13 (own_stp (-1756908920 : Int32) (own_le (nar .byte (a).toInt8.toInt32) (nar .byte (XT.ushr a (8 : Int32)).toInt8.toInt32) (nar .byte (XT.ushr a (16 : Int32)).toInt8.toInt32) (nar .byte (XT.ushr a (24 : Int32)).toInt8.toInt32)))) * (1540483477 : Int32))) = (own_x15 ((own_x13 (own_stp (-1756908920 : Int32) (own_le (nar .byte (o).toInt8.toInt32) (nar .byte (XT.ushr o (8 : Int32)).toInt8.toInt32) (nar .byte (XT.ushr o (16 : Int32)).toInt8.toInt32) (nar .byte (XT.ushr o (24 : Int32)).toInt8.toInt32)))) * (1540483477 : Int32))) := by
  rw [own_wp a, own_wp o]
  exact ⟨fun h => by rw [own_m4.mp h], fun h => own_m4.mpr (own_stp_inj (own_fin_inj h))⟩
theorem own_four (x : Int32) : ((x &&& (3 : Int32)) + (1 : Int32)) = (1 : Int32) ∨ ((x &&& (3 : Int32)) + (1 : Int32)) = (2 : Int32) ∨ ((x &&& (3 : Int32)) + (1 : Int32)) = (3 : Int32) ∨ ((x &&& (3 : Int32)) + (1 : Int32)) = (4 : Int32) := by
  have h := c_mask x 3 2 (by decide) (by decide)
  have h2 := c_iadd (x &&& (3 : Int32)) 1
  have h3 := rng32 ((x &&& (3 : Int32)) + (1 : Int32))
  have k1 : (1 : Int32).toInt = 1 := by decide
  rw [k1] at h2
  have k : ∀ z : Int32, ((x &&& (3 : Int32)) + (1 : Int32)).toInt = z.toInt → ((x &&& (3 : Int32)) + (1 : Int32)) = z := fun z q => Int32.toInt_inj.mp q
  have hh : ((x &&& (3 : Int32)) + (1 : Int32)).toInt = 1 ∨ ((x &&& (3 : Int32)) + (1 : Int32)).toInt = 2 ∨ ((x &&& (3 : Int32)) + (1 : Int32)).toInt = 3 ∨ ((x &&& (3 : Int32)) + (1 : Int32)).toInt = 4 := by omega
  rcases hh with q | q | q | q
  · exact Or.inl (k 1 (by rw [q]; decide))
  · exact Or.inr (Or.inl (k 2 (by rw [q]; decide)))
  · exact Or.inr (Or.inr (Or.inl (k 3 (by rw [q]; decide))))
  · exact Or.inr (Or.inr (Or.inr (k 4 (by rw [q]; decide))))
set_option maxRecDepth 65536 in
set_option maxHeartbeats 40000000 in
theorem rm0 (l : Launch) (Z : State) (a0 : Array Value) (hw : ∀ d ∈ tables_1, d.before a0 Z = true) (p0 p1 p2 p3 : Int32) (h0 : Heap) (n0 : Nat) (Z0 : n0 ≤ h0.size) :
    OCon l Z x code maxLocals ret tables_1 room_1 #[(.int p0), (.int p1), (.int p2), (.int p3)] h0 (fun v h L => v = some (.int 1) ∧ Fr n0 L) := by
  refine con (plainFor_of_name pn0) ?_
  intro p e s m below meth c s₁ hx hby hml hZ hown hnm hret hlk X0 e0
  refine entry (ef0 m p0 p1 p2 p3) ?_
  have M0 := Fr.nil n0
  have B119 : ∀ (TV : State) (lV : List Loc) (hV : Heap) (ln oo x8 : Int32) (mk : Int64) (r9 r10 : Addr), Stand p l e room_1 s m #[(.int p0), (.int p1), (.int p2), (.int p3)] below meth c TV lV 2 8 → TV.heap = hV → Fr n0 lV → n0 ≤ hV.size → OEnds p e below s room_1.cells room_1.slots (fun v h L => v = some (.int 1) ∧ Fr n0 L) TV (mkF m 119 #[.val (.int p0), .val (.int p1), .val (.int p2), .val (.int p3), .val (.int ln), .val (.int oo), .val (.long mk), .second, .val (.int x8), .val (.ref r9), .val (.ref r10), .val (.int (1 : Int32)), .unset, .unset, .unset, .unset, .unset, .unset] []) := by
    intro TV lV hV ln oo x8 mk r9 r10 XV eV NV ZV
    refine s_iconst XV hx hby (n := 120) (v := (2 : Int32)) at_119 rfl rfl ?_
    refine s_newP XV hx hby hZ (n := 122) (hw _ (List.mem_of_getElem? (i := 4) rfl)) (ty := .byte) rfl eV (by decide) 2 (by decide) (by decide) (by decide) (by decide) at_120 rfl ?_
    intro T1 h1 cA1 u1 hou1 X1 e1 E1 A1_u1
    have S1_u1 : (newA cA1 .byte (2 : Int32)).slots.size = (2 : Int32).toNatClampNeg := sz_new _ _ _
    have n_u1 : n0 ≤ u1 := by rw [hou1]; exact ZV
    have Z1 : n0 ≤ h1.size := Nat.le_trans ZV E1.1
    refine s_dup X1 hx hby (n := 123) at_122 rfl rfl ?_
    refine s_iconst X1 hx hby (n := 124) (v := (0 : Int32)) at_123 rfl rfl ?_
    refine s_bipush X1 hx hby (n := 126) (v := (50 : Int32)) at_124 rfl rfl ?_
    refine s_bastoreC X1 hx hby hZ (n := 127) e1 A1_u1 0 (by decide) (by decide) (by rw [S1_u1]; decide) at_126 rfl ?_
    intro T2 h2 X2 e2 W2
    obtain ⟨c2, A2_u1, S2_u1, B2_u1_0⟩ : ∃ cc : Cell, Arr Z h2 u1 cc .byte ∧ cc.slots.size = (2 : Int32).toNatClampNeg ∧ cc.slots[0]? = some (.int (nar .byte (50 : Int32))) := ⟨_, A1_u1.same W2, (by rw [sz_set]; exact S1_u1), set_hit (by rw [S1_u1]; decide)⟩
    have M2 := Fr.snoc X2 NV n_u1
    have Z2 : n0 ≤ h2.size := by rw [W2.size]; exact Z1
    refine s_dup X2 hx hby (n := 128) at_127 rfl rfl ?_
    refine s_iconst X2 hx hby (n := 129) (v := (1 : Int32)) at_128 rfl rfl ?_
    refine s_bipush X2 hx hby (n := 131) (v := (49 : Int32)) at_129 rfl rfl ?_
    refine s_bastoreC X2 hx hby hZ (n := 132) e2 A2_u1 1 (by decide) (by decide) (by rw [S2_u1]; decide) at_131 rfl ?_
    intro T3 h3 X3 e3 W3
    obtain ⟨c3, A3_u1, S3_u1, B3_u1_0, B3_u1_1⟩ : ∃ cc : Cell, Arr Z h3 u1 cc .byte ∧ cc.slots.size = (2 : Int32).toNatClampNeg ∧ cc.slots[0]? = some (.int (nar .byte (50 : Int32))) ∧ cc.slots[1]? = some (.int (nar .byte (49 : Int32))) := ⟨_, A2_u1.same W3, (by rw [sz_set]; exact S2_u1), set_mis B2_u1_0 (by decide), set_hit (by rw [S2_u1]; decide)⟩
    have M3 := Fr.snoc X3 M2 n_u1
    have Z3 : n0 ≤ h3.size := by rw [W3.size]; exact Z2
    refine s_astore X3 hx hby (n := 134) (L' := #[.val (.int p0), .val (.int p1), .val (.int p2), .val (.int p3), .val (.int ln), .val (.int oo), .val (.long mk), .second, .val (.int x8), .val (.ref r9), .val (.ref r10), .val (.int (1 : Int32)), .val (.ref u1), .unset, .unset, .unset, .unset, .unset]) at_132 rfl rfl rfl ?_
    refine s_iconst X3 hx hby (n := 135) (v := (3 : Int32)) at_134 rfl rfl ?_
    refine s_newP X3 hx hby hZ (n := 137) (hw _ (List.mem_of_getElem? (i := 4) rfl)) (ty := .byte) rfl e3 (by decide) 3 (by decide) (by decide) (by decide) (by decide) at_135 rfl ?_
    intro T4 h4 cA4 u2 hou2 X4 e4 E4 A4_u2
    have S4_u2 : (newA cA4 .byte (3 : Int32)).slots.size = (3 : Int32).toNatClampNeg := sz_new _ _ _
    have n_u2 : n0 ≤ u2 := by rw [hou2]; exact Z3
    have ne_u1_u2 : u1 ≠ u2 := by rw [hou2]; exact Nat.ne_of_lt A3_u1.lt
    have A4_u1 := A3_u1.ext E4
    have Z4 : n0 ≤ h4.size := Nat.le_trans Z3 E4.1
    refine s_dup X4 hx hby (n := 138) at_137 rfl rfl ?_
    refine s_iconst X4 hx hby (n := 139) (v := (0 : Int32)) at_138 rfl rfl ?_
    refine s_bipush X4 hx hby (n := 141) (v := (97 : Int32)) at_139 rfl rfl ?_
    refine s_bastoreC X4 hx hby hZ (n := 142) e4 A4_u2 0 (by decide) (by decide) (by rw [S4_u2]; decide) at_141 rfl ?_
    intro T5 h5 X5 e5 W5
    have A5_u1 := A4_u1.other W5 ne_u1_u2
    obtain ⟨c5, A5_u2, S5_u2, B5_u2_0⟩ : ∃ cc : Cell, Arr Z h5 u2 cc .byte ∧ cc.slots.size = (3 : Int32).toNatClampNeg ∧ cc.slots[0]? = some (.int (nar .byte (97 : Int32))) := ⟨_, A4_u2.same W5, (by rw [sz_set]; exact S4_u2), set_hit (by rw [S4_u2]; decide)⟩
    have M5 := Fr.snoc X5 M3 n_u2
    have Z5 : n0 ≤ h5.size := by rw [W5.size]; exact Z4
    refine s_dup X5 hx hby (n := 143) at_142 rfl rfl ?_
    refine s_iconst X5 hx hby (n := 144) (v := (1 : Int32)) at_143 rfl rfl ?_
    refine s_bipush X5 hx hby (n := 146) (v := (98 : Int32)) at_144 rfl rfl ?_
    refine s_bastoreC X5 hx hby hZ (n := 147) e5 A5_u2 1 (by decide) (by decide) (by rw [S5_u2]; decide) at_146 rfl ?_
    intro T6 h6 X6 e6 W6
    have A6_u1 := A5_u1.other W6 ne_u1_u2
    obtain ⟨c6, A6_u2, S6_u2, B6_u2_0, B6_u2_1⟩ : ∃ cc : Cell, Arr Z h6 u2 cc .byte ∧ cc.slots.size = (3 : Int32).toNatClampNeg ∧ cc.slots[0]? = some (.int (nar .byte (97 : Int32))) ∧ cc.slots[1]? = some (.int (nar .byte (98 : Int32))) := ⟨_, A5_u2.same W6, (by rw [sz_set]; exact S5_u2), set_mis B5_u2_0 (by decide), set_hit (by rw [S5_u2]; decide)⟩
    have M6 := Fr.snoc X6 M5 n_u2
    have Z6 : n0 ≤ h6.size := by rw [W6.size]; exact Z5
    refine s_dup X6 hx hby (n := 148) at_147 rfl rfl ?_
    refine s_iconst X6 hx hby (n := 149) (v := (2 : Int32)) at_148 rfl rfl ?_
    refine s_bipush X6 hx hby (n := 151) (v := (99 : Int32)) at_149 rfl rfl ?_
    refine s_bastoreC X6 hx hby hZ (n := 152) e6 A6_u2 2 (by decide) (by decide) (by rw [S6_u2]; decide) at_151 rfl ?_
    intro T7 h7 X7 e7 W7
    have A7_u1 := A6_u1.other W7 ne_u1_u2
    obtain ⟨c7, A7_u2, S7_u2, B7_u2_0, B7_u2_1, B7_u2_2⟩ : ∃ cc : Cell, Arr Z h7 u2 cc .byte ∧ cc.slots.size = (3 : Int32).toNatClampNeg ∧ cc.slots[0]? = some (.int (nar .byte (97 : Int32))) ∧ cc.slots[1]? = some (.int (nar .byte (98 : Int32))) ∧ cc.slots[2]? = some (.int (nar .byte (99 : Int32))) := ⟨_, A6_u2.same W7, (by rw [sz_set]; exact S6_u2), set_mis B6_u2_0 (by decide), set_mis B6_u2_1 (by decide), set_hit (by rw [S6_u2]; decide)⟩
    have M7 := Fr.snoc X7 M6 n_u2
    have Z7 : n0 ≤ h7.size := by rw [W7.size]; exact Z6
    refine s_astore X7 hx hby (n := 154) (L' := #[.val (.int p0), .val (.int p1), .val (.int p2), .val (.int p3), .val (.int ln), .val (.int oo), .val (.long mk), .second, .val (.int x8), .val (.ref r9), .val (.ref r10), .val (.int (1 : Int32)), .val (.ref u1), .val (.ref u2), .unset, .unset, .unset, .unset]) at_152 rfl rfl rfl ?_
    refine s_bipush X7 hx hby (n := 156) (v := (6 : Int32)) at_154 rfl rfl ?_
    refine s_newP X7 hx hby hZ (n := 158) (hw _ (List.mem_of_getElem? (i := 4) rfl)) (ty := .byte) rfl e7 (by decide) 6 (by decide) (by decide) (by decide) (by decide) at_156 rfl ?_
    intro T8 h8 cA8 u3 hou3 X8 e8 E8 A8_u3
    have S8_u3 : (newA cA8 .byte (6 : Int32)).slots.size = (6 : Int32).toNatClampNeg := sz_new _ _ _
    have n_u3 : n0 ≤ u3 := by rw [hou3]; exact Z7
    have ne_u1_u3 : u1 ≠ u3 := by rw [hou3]; exact Nat.ne_of_lt A7_u1.lt
    have A8_u1 := A7_u1.ext E8
    have ne_u2_u3 : u2 ≠ u3 := by rw [hou3]; exact Nat.ne_of_lt A7_u2.lt
    have A8_u2 := A7_u2.ext E8
    have Z8 : n0 ≤ h8.size := Nat.le_trans Z7 E8.1
    refine s_dup X8 hx hby (n := 159) at_158 rfl rfl ?_
    refine s_iconst X8 hx hby (n := 160) (v := (0 : Int32)) at_159 rfl rfl ?_
    refine s_bipush X8 hx hby (n := 162) (v := (102 : Int32)) at_160 rfl rfl ?_
    refine s_bastoreC X8 hx hby hZ (n := 163) e8 A8_u3 0 (by decide) (by decide) (by rw [S8_u3]; decide) at_162 rfl ?_
    intro T9 h9 X9 e9 W9
    have A9_u1 := A8_u1.other W9 ne_u1_u3
    have A9_u2 := A8_u2.other W9 ne_u2_u3
    obtain ⟨c9, A9_u3, S9_u3, B9_u3_0⟩ : ∃ cc : Cell, Arr Z h9 u3 cc .byte ∧ cc.slots.size = (6 : Int32).toNatClampNeg ∧ cc.slots[0]? = some (.int (nar .byte (102 : Int32))) := ⟨_, A8_u3.same W9, (by rw [sz_set]; exact S8_u3), set_hit (by rw [S8_u3]; decide)⟩
    have M9 := Fr.snoc X9 M7 n_u3
    have Z9 : n0 ≤ h9.size := by rw [W9.size]; exact Z8
    refine s_dup X9 hx hby (n := 164) at_163 rfl rfl ?_
    refine s_iconst X9 hx hby (n := 165) (v := (1 : Int32)) at_164 rfl rfl ?_
    refine s_bipush X9 hx hby (n := 167) (v := (111 : Int32)) at_165 rfl rfl ?_
    refine s_bastoreC X9 hx hby hZ (n := 168) e9 A9_u3 1 (by decide) (by decide) (by rw [S9_u3]; decide) at_167 rfl ?_
    intro T10 h10 X10 e10 W10
    have A10_u1 := A9_u1.other W10 ne_u1_u3
    have A10_u2 := A9_u2.other W10 ne_u2_u3
    obtain ⟨c10, A10_u3, S10_u3, B10_u3_0, B10_u3_1⟩ : ∃ cc : Cell, Arr Z h10 u3 cc .byte ∧ cc.slots.size = (6 : Int32).toNatClampNeg ∧ cc.slots[0]? = some (.int (nar .byte (102 : Int32))) ∧ cc.slots[1]? = some (.int (nar .byte (111 : Int32))) := ⟨_, A9_u3.same W10, (by rw [sz_set]; exact S9_u3), set_mis B9_u3_0 (by decide), set_hit (by rw [S9_u3]; decide)⟩
    have M10 := Fr.snoc X10 M9 n_u3
    have Z10 : n0 ≤ h10.size := by rw [W10.size]; exact Z9
    refine s_dup X10 hx hby (n := 169) at_168 rfl rfl ?_
    refine s_iconst X10 hx hby (n := 170) (v := (2 : Int32)) at_169 rfl rfl ?_
    refine s_bipush X10 hx hby (n := 172) (v := (111 : Int32)) at_170 rfl rfl ?_
    refine s_bastoreC X10 hx hby hZ (n := 173) e10 A10_u3 2 (by decide) (by decide) (by rw [S10_u3]; decide) at_172 rfl ?_
    intro T11 h11 X11 e11 W11
    have A11_u1 := A10_u1.other W11 ne_u1_u3
    have A11_u2 := A10_u2.other W11 ne_u2_u3
    obtain ⟨c11, A11_u3, S11_u3, B11_u3_0, B11_u3_1, B11_u3_2⟩ : ∃ cc : Cell, Arr Z h11 u3 cc .byte ∧ cc.slots.size = (6 : Int32).toNatClampNeg ∧ cc.slots[0]? = some (.int (nar .byte (102 : Int32))) ∧ cc.slots[1]? = some (.int (nar .byte (111 : Int32))) ∧ cc.slots[2]? = some (.int (nar .byte (111 : Int32))) := ⟨_, A10_u3.same W11, (by rw [sz_set]; exact S10_u3), set_mis B10_u3_0 (by decide), set_mis B10_u3_1 (by decide), set_hit (by rw [S10_u3]; decide)⟩
    have M11 := Fr.snoc X11 M10 n_u3
    have Z11 : n0 ≤ h11.size := by rw [W11.size]; exact Z10
    refine s_dup X11 hx hby (n := 174) at_173 rfl rfl ?_
    refine s_iconst X11 hx hby (n := 175) (v := (3 : Int32)) at_174 rfl rfl ?_
    refine s_bipush X11 hx hby (n := 177) (v := (98 : Int32)) at_175 rfl rfl ?_
    refine s_bastoreC X11 hx hby hZ (n := 178) e11 A11_u3 3 (by decide) (by decide) (by rw [S11_u3]; decide) at_177 rfl ?_
    intro T12 h12 X12 e12 W12
    have A12_u1 := A11_u1.other W12 ne_u1_u3
    have A12_u2 := A11_u2.other W12 ne_u2_u3
    obtain ⟨c12, A12_u3, S12_u3, B12_u3_0, B12_u3_1, B12_u3_2, B12_u3_3⟩ : ∃ cc : Cell, Arr Z h12 u3 cc .byte ∧ cc.slots.size = (6 : Int32).toNatClampNeg ∧ cc.slots[0]? = some (.int (nar .byte (102 : Int32))) ∧ cc.slots[1]? = some (.int (nar .byte (111 : Int32))) ∧ cc.slots[2]? = some (.int (nar .byte (111 : Int32))) ∧ cc.slots[3]? = some (.int (nar .byte (98 : Int32))) := ⟨_, A11_u3.same W12, (by rw [sz_set]; exact S11_u3), set_mis B11_u3_0 (by decide), set_mis B11_u3_1 (by decide), set_mis B11_u3_2 (by decide), set_hit (by rw [S11_u3]; decide)⟩
    have M12 := Fr.snoc X12 M11 n_u3
    have Z12 : n0 ≤ h12.size := by rw [W12.size]; exact Z11
    refine s_dup X12 hx hby (n := 179) at_178 rfl rfl ?_
    refine s_iconst X12 hx hby (n := 180) (v := (4 : Int32)) at_179 rfl rfl ?_
    refine s_bipush X12 hx hby (n := 182) (v := (97 : Int32)) at_180 rfl rfl ?_
    refine s_bastoreC X12 hx hby hZ (n := 183) e12 A12_u3 4 (by decide) (by decide) (by rw [S12_u3]; decide) at_182 rfl ?_
    intro T13 h13 X13 e13 W13
    have A13_u1 := A12_u1.other W13 ne_u1_u3
    have A13_u2 := A12_u2.other W13 ne_u2_u3
    obtain ⟨c13, A13_u3, S13_u3, B13_u3_0, B13_u3_1, B13_u3_2, B13_u3_3, B13_u3_4⟩ : ∃ cc : Cell, Arr Z h13 u3 cc .byte ∧ cc.slots.size = (6 : Int32).toNatClampNeg ∧ cc.slots[0]? = some (.int (nar .byte (102 : Int32))) ∧ cc.slots[1]? = some (.int (nar .byte (111 : Int32))) ∧ cc.slots[2]? = some (.int (nar .byte (111 : Int32))) ∧ cc.slots[3]? = some (.int (nar .byte (98 : Int32))) ∧ cc.slots[4]? = some (.int (nar .byte (97 : Int32))) := ⟨_, A12_u3.same W13, (by rw [sz_set]; exact S12_u3), set_mis B12_u3_0 (by decide), set_mis B12_u3_1 (by decide), set_mis B12_u3_2 (by decide), set_mis B12_u3_3 (by decide), set_hit (by rw [S12_u3]; decide)⟩
    have M13 := Fr.snoc X13 M12 n_u3
    have Z13 : n0 ≤ h13.size := by rw [W13.size]; exact Z12
    refine s_dup X13 hx hby (n := 184) at_183 rfl rfl ?_
    refine s_iconst X13 hx hby (n := 185) (v := (5 : Int32)) at_184 rfl rfl ?_
    refine s_bipush X13 hx hby (n := 187) (v := (114 : Int32)) at_185 rfl rfl ?_
    refine s_bastoreC X13 hx hby hZ (n := 188) e13 A13_u3 5 (by decide) (by decide) (by rw [S13_u3]; decide) at_187 rfl ?_
    intro T14 h14 X14 e14 W14
    have A14_u1 := A13_u1.other W14 ne_u1_u3
    have A14_u2 := A13_u2.other W14 ne_u2_u3
    obtain ⟨c14, A14_u3, S14_u3, B14_u3_0, B14_u3_1, B14_u3_2, B14_u3_3, B14_u3_4, B14_u3_5⟩ : ∃ cc : Cell, Arr Z h14 u3 cc .byte ∧ cc.slots.size = (6 : Int32).toNatClampNeg ∧ cc.slots[0]? = some (.int (nar .byte (102 : Int32))) ∧ cc.slots[1]? = some (.int (nar .byte (111 : Int32))) ∧ cc.slots[2]? = some (.int (nar .byte (111 : Int32))) ∧ cc.slots[3]? = some (.int (nar .byte (98 : Int32))) ∧ cc.slots[4]? = some (.int (nar .byte (97 : Int32))) ∧ cc.slots[5]? = some (.int (nar .byte (114 : Int32))) := ⟨_, A13_u3.same W14, (by rw [sz_set]; exact S13_u3), set_mis B13_u3_0 (by decide), set_mis B13_u3_1 (by decide), set_mis B13_u3_2 (by decide), set_mis B13_u3_3 (by decide), set_mis B13_u3_4 (by decide), set_hit (by rw [S13_u3]; decide)⟩
    have M14 := Fr.snoc X14 M13 n_u3
    have Z14 : n0 ≤ h14.size := by rw [W14.size]; exact Z13
    refine s_astore X14 hx hby (n := 190) (L' := #[.val (.int p0), .val (.int p1), .val (.int p2), .val (.int p3), .val (.int ln), .val (.int oo), .val (.long mk), .second, .val (.int x8), .val (.ref r9), .val (.ref r10), .val (.int (1 : Int32)), .val (.ref u1), .val (.ref u2), .val (.ref u3), .unset, .unset, .unset]) at_188 rfl rfl rfl ?_
    refine s_bipush X14 hx hby (n := 192) (v := (24 : Int32)) at_190 rfl rfl ?_
    refine s_newP X14 hx hby hZ (n := 194) (hw _ (List.mem_of_getElem? (i := 4) rfl)) (ty := .byte) rfl e14 (by decide) 24 (by decide) (by decide) (by decide) (by decide) at_192 rfl ?_
    intro T15 h15 cA15 u4 hou4 X15 e15 E15 A15_u4
    have S15_u4 : (newA cA15 .byte (24 : Int32)).slots.size = (24 : Int32).toNatClampNeg := sz_new _ _ _
    have n_u4 : n0 ≤ u4 := by rw [hou4]; exact Z14
    have ne_u1_u4 : u1 ≠ u4 := by rw [hou4]; exact Nat.ne_of_lt A14_u1.lt
    have A15_u1 := A14_u1.ext E15
    have ne_u2_u4 : u2 ≠ u4 := by rw [hou4]; exact Nat.ne_of_lt A14_u2.lt
    have A15_u2 := A14_u2.ext E15
    have ne_u3_u4 : u3 ≠ u4 := by rw [hou4]; exact Nat.ne_of_lt A14_u3.lt
    have A15_u3 := A14_u3.ext E15
    have Z15 : n0 ≤ h15.size := Nat.le_trans Z14 E15.1
    refine s_dup X15 hx hby (n := 195) at_194 rfl rfl ?_
    refine s_iconst X15 hx hby (n := 196) (v := (0 : Int32)) at_195 rfl rfl ?_
    refine s_bipush X15 hx hby (n := 198) (v := (97 : Int32)) at_196 rfl rfl ?_
    refine s_bastoreC X15 hx hby hZ (n := 199) e15 A15_u4 0 (by decide) (by decide) (by rw [S15_u4]; decide) at_198 rfl ?_
    intro T16 h16 X16 e16 W16
    have A16_u1 := A15_u1.other W16 ne_u1_u4
    have A16_u2 := A15_u2.other W16 ne_u2_u4
    have A16_u3 := A15_u3.other W16 ne_u3_u4
    obtain ⟨c16, A16_u4, S16_u4, B16_u4_0⟩ : ∃ cc : Cell, Arr Z h16 u4 cc .byte ∧ cc.slots.size = (24 : Int32).toNatClampNeg ∧ cc.slots[0]? = some (.int (nar .byte (97 : Int32))) := ⟨_, A15_u4.same W16, (by rw [sz_set]; exact S15_u4), set_hit (by rw [S15_u4]; decide)⟩
    have M16 := Fr.snoc X16 M14 n_u4
    have Z16 : n0 ≤ h16.size := by rw [W16.size]; exact Z15
    refine s_dup X16 hx hby (n := 200) at_199 rfl rfl ?_
    refine s_iconst X16 hx hby (n := 201) (v := (1 : Int32)) at_200 rfl rfl ?_
    refine s_bipush X16 hx hby (n := 203) (v := (45 : Int32)) at_201 rfl rfl ?_
    refine s_bastoreC X16 hx hby hZ (n := 204) e16 A16_u4 1 (by decide) (by decide) (by rw [S16_u4]; decide) at_203 rfl ?_
    intro T17 h17 X17 e17 W17
    have A17_u1 := A16_u1.other W17 ne_u1_u4
    have A17_u2 := A16_u2.other W17 ne_u2_u4
    have A17_u3 := A16_u3.other W17 ne_u3_u4
    obtain ⟨c17, A17_u4, S17_u4, B17_u4_0, B17_u4_1⟩ : ∃ cc : Cell, Arr Z h17 u4 cc .byte ∧ cc.slots.size = (24 : Int32).toNatClampNeg ∧ cc.slots[0]? = some (.int (nar .byte (97 : Int32))) ∧ cc.slots[1]? = some (.int (nar .byte (45 : Int32))) := ⟨_, A16_u4.same W17, (by rw [sz_set]; exact S16_u4), set_mis B16_u4_0 (by decide), set_hit (by rw [S16_u4]; decide)⟩
    have M17 := Fr.snoc X17 M16 n_u4
    have Z17 : n0 ≤ h17.size := by rw [W17.size]; exact Z16
    refine s_dup X17 hx hby (n := 205) at_204 rfl rfl ?_
    refine s_iconst X17 hx hby (n := 206) (v := (2 : Int32)) at_205 rfl rfl ?_
    refine s_bipush X17 hx hby (n := 208) (v := (108 : Int32)) at_206 rfl rfl ?_
    refine s_bastoreC X17 hx hby hZ (n := 209) e17 A17_u4 2 (by decide) (by decide) (by rw [S17_u4]; decide) at_208 rfl ?_
    intro T18 h18 X18 e18 W18
    have A18_u1 := A17_u1.other W18 ne_u1_u4
    have A18_u2 := A17_u2.other W18 ne_u2_u4
    have A18_u3 := A17_u3.other W18 ne_u3_u4
    obtain ⟨c18, A18_u4, S18_u4, B18_u4_0, B18_u4_1, B18_u4_2⟩ : ∃ cc : Cell, Arr Z h18 u4 cc .byte ∧ cc.slots.size = (24 : Int32).toNatClampNeg ∧ cc.slots[0]? = some (.int (nar .byte (97 : Int32))) ∧ cc.slots[1]? = some (.int (nar .byte (45 : Int32))) ∧ cc.slots[2]? = some (.int (nar .byte (108 : Int32))) := ⟨_, A17_u4.same W18, (by rw [sz_set]; exact S17_u4), set_mis B17_u4_0 (by decide), set_mis B17_u4_1 (by decide), set_hit (by rw [S17_u4]; decide)⟩
    have M18 := Fr.snoc X18 M17 n_u4
    have Z18 : n0 ≤ h18.size := by rw [W18.size]; exact Z17
    refine s_dup X18 hx hby (n := 210) at_209 rfl rfl ?_
    refine s_iconst X18 hx hby (n := 211) (v := (3 : Int32)) at_210 rfl rfl ?_
    refine s_bipush X18 hx hby (n := 213) (v := (105 : Int32)) at_211 rfl rfl ?_
    refine s_bastoreC X18 hx hby hZ (n := 214) e18 A18_u4 3 (by decide) (by decide) (by rw [S18_u4]; decide) at_213 rfl ?_
    intro T19 h19 X19 e19 W19
    have A19_u1 := A18_u1.other W19 ne_u1_u4
    have A19_u2 := A18_u2.other W19 ne_u2_u4
    have A19_u3 := A18_u3.other W19 ne_u3_u4
    obtain ⟨c19, A19_u4, S19_u4, B19_u4_0, B19_u4_1, B19_u4_2, B19_u4_3⟩ : ∃ cc : Cell, Arr Z h19 u4 cc .byte ∧ cc.slots.size = (24 : Int32).toNatClampNeg ∧ cc.slots[0]? = some (.int (nar .byte (97 : Int32))) ∧ cc.slots[1]? = some (.int (nar .byte (45 : Int32))) ∧ cc.slots[2]? = some (.int (nar .byte (108 : Int32))) ∧ cc.slots[3]? = some (.int (nar .byte (105 : Int32))) := ⟨_, A18_u4.same W19, (by rw [sz_set]; exact S18_u4), set_mis B18_u4_0 (by decide), set_mis B18_u4_1 (by decide), set_mis B18_u4_2 (by decide), set_hit (by rw [S18_u4]; decide)⟩
    have M19 := Fr.snoc X19 M18 n_u4
    have Z19 : n0 ≤ h19.size := by rw [W19.size]; exact Z18
    refine s_dup X19 hx hby (n := 215) at_214 rfl rfl ?_
    refine s_iconst X19 hx hby (n := 216) (v := (4 : Int32)) at_215 rfl rfl ?_
    refine s_bipush X19 hx hby (n := 218) (v := (116 : Int32)) at_216 rfl rfl ?_
    refine s_bastoreC X19 hx hby hZ (n := 219) e19 A19_u4 4 (by decide) (by decide) (by rw [S19_u4]; decide) at_218 rfl ?_
    intro T20 h20 X20 e20 W20
    have A20_u1 := A19_u1.other W20 ne_u1_u4
    have A20_u2 := A19_u2.other W20 ne_u2_u4
    have A20_u3 := A19_u3.other W20 ne_u3_u4
    obtain ⟨c20, A20_u4, S20_u4, B20_u4_0, B20_u4_1, B20_u4_2, B20_u4_3, B20_u4_4⟩ : ∃ cc : Cell, Arr Z h20 u4 cc .byte ∧ cc.slots.size = (24 : Int32).toNatClampNeg ∧ cc.slots[0]? = some (.int (nar .byte (97 : Int32))) ∧ cc.slots[1]? = some (.int (nar .byte (45 : Int32))) ∧ cc.slots[2]? = some (.int (nar .byte (108 : Int32))) ∧ cc.slots[3]? = some (.int (nar .byte (105 : Int32))) ∧ cc.slots[4]? = some (.int (nar .byte (116 : Int32))) := ⟨_, A19_u4.same W20, (by rw [sz_set]; exact S19_u4), set_mis B19_u4_0 (by decide), set_mis B19_u4_1 (by decide), set_mis B19_u4_2 (by decide), set_mis B19_u4_3 (by decide), set_hit (by rw [S19_u4]; decide)⟩
    have M20 := Fr.snoc X20 M19 n_u4
    have Z20 : n0 ≤ h20.size := by rw [W20.size]; exact Z19
    refine s_dup X20 hx hby (n := 220) at_219 rfl rfl ?_
    refine s_iconst X20 hx hby (n := 221) (v := (5 : Int32)) at_220 rfl rfl ?_
    refine s_bipush X20 hx hby (n := 223) (v := (116 : Int32)) at_221 rfl rfl ?_
    refine s_bastoreC X20 hx hby hZ (n := 224) e20 A20_u4 5 (by decide) (by decide) (by rw [S20_u4]; decide) at_223 rfl ?_
    intro T21 h21 X21 e21 W21
    have A21_u1 := A20_u1.other W21 ne_u1_u4
    have A21_u2 := A20_u2.other W21 ne_u2_u4
    have A21_u3 := A20_u3.other W21 ne_u3_u4
    obtain ⟨c21, A21_u4, S21_u4, B21_u4_0, B21_u4_1, B21_u4_2, B21_u4_3, B21_u4_4, B21_u4_5⟩ : ∃ cc : Cell, Arr Z h21 u4 cc .byte ∧ cc.slots.size = (24 : Int32).toNatClampNeg ∧ cc.slots[0]? = some (.int (nar .byte (97 : Int32))) ∧ cc.slots[1]? = some (.int (nar .byte (45 : Int32))) ∧ cc.slots[2]? = some (.int (nar .byte (108 : Int32))) ∧ cc.slots[3]? = some (.int (nar .byte (105 : Int32))) ∧ cc.slots[4]? = some (.int (nar .byte (116 : Int32))) ∧ cc.slots[5]? = some (.int (nar .byte (116 : Int32))) := ⟨_, A20_u4.same W21, (by rw [sz_set]; exact S20_u4), set_mis B20_u4_0 (by decide), set_mis B20_u4_1 (by decide), set_mis B20_u4_2 (by decide), set_mis B20_u4_3 (by decide), set_mis B20_u4_4 (by decide), set_hit (by rw [S20_u4]; decide)⟩
    have M21 := Fr.snoc X21 M20 n_u4
    have Z21 : n0 ≤ h21.size := by rw [W21.size]; exact Z20
    refine s_dup X21 hx hby (n := 225) at_224 rfl rfl ?_
    refine s_bipush X21 hx hby (n := 227) (v := (6 : Int32)) at_225 rfl rfl ?_
    refine s_bipush X21 hx hby (n := 229) (v := (108 : Int32)) at_227 rfl rfl ?_
    refine s_bastoreC X21 hx hby hZ (n := 230) e21 A21_u4 6 (by decide) (by decide) (by rw [S21_u4]; decide) at_229 rfl ?_
    intro T22 h22 X22 e22 W22
    have A22_u1 := A21_u1.other W22 ne_u1_u4
    have A22_u2 := A21_u2.other W22 ne_u2_u4
    have A22_u3 := A21_u3.other W22 ne_u3_u4
    obtain ⟨c22, A22_u4, S22_u4, B22_u4_0, B22_u4_1, B22_u4_2, B22_u4_3, B22_u4_4, B22_u4_5, B22_u4_6⟩ : ∃ cc : Cell, Arr Z h22 u4 cc .byte ∧ cc.slots.size = (24 : Int32).toNatClampNeg ∧ cc.slots[0]? = some (.int (nar .byte (97 : Int32))) ∧ cc.slots[1]? = some (.int (nar .byte (45 : Int32))) ∧ cc.slots[2]? = some (.int (nar .byte (108 : Int32))) ∧ cc.slots[3]? = some (.int (nar .byte (105 : Int32))) ∧ cc.slots[4]? = some (.int (nar .byte (116 : Int32))) ∧ cc.slots[5]? = some (.int (nar .byte (116 : Int32))) ∧ cc.slots[6]? = some (.int (nar .byte (108 : Int32))) := ⟨_, A21_u4.same W22, (by rw [sz_set]; exact S21_u4), set_mis B21_u4_0 (by decide), set_mis B21_u4_1 (by decide), set_mis B21_u4_2 (by decide), set_mis B21_u4_3 (by decide), set_mis B21_u4_4 (by decide), set_mis B21_u4_5 (by decide), set_hit (by rw [S21_u4]; decide)⟩
    have M22 := Fr.snoc X22 M21 n_u4
    have Z22 : n0 ≤ h22.size := by rw [W22.size]; exact Z21
    refine s_dup X22 hx hby (n := 231) at_230 rfl rfl ?_
    refine s_bipush X22 hx hby (n := 233) (v := (7 : Int32)) at_231 rfl rfl ?_
    refine s_bipush X22 hx hby (n := 235) (v := (101 : Int32)) at_233 rfl rfl ?_
    refine s_bastoreC X22 hx hby hZ (n := 236) e22 A22_u4 7 (by decide) (by decide) (by rw [S22_u4]; decide) at_235 rfl ?_
    intro T23 h23 X23 e23 W23
    have A23_u1 := A22_u1.other W23 ne_u1_u4
    have A23_u2 := A22_u2.other W23 ne_u2_u4
    have A23_u3 := A22_u3.other W23 ne_u3_u4
    obtain ⟨c23, A23_u4, S23_u4, B23_u4_0, B23_u4_1, B23_u4_2, B23_u4_3, B23_u4_4, B23_u4_5, B23_u4_6, B23_u4_7⟩ : ∃ cc : Cell, Arr Z h23 u4 cc .byte ∧ cc.slots.size = (24 : Int32).toNatClampNeg ∧ cc.slots[0]? = some (.int (nar .byte (97 : Int32))) ∧ cc.slots[1]? = some (.int (nar .byte (45 : Int32))) ∧ cc.slots[2]? = some (.int (nar .byte (108 : Int32))) ∧ cc.slots[3]? = some (.int (nar .byte (105 : Int32))) ∧ cc.slots[4]? = some (.int (nar .byte (116 : Int32))) ∧ cc.slots[5]? = some (.int (nar .byte (116 : Int32))) ∧ cc.slots[6]? = some (.int (nar .byte (108 : Int32))) ∧ cc.slots[7]? = some (.int (nar .byte (101 : Int32))) := ⟨_, A22_u4.same W23, (by rw [sz_set]; exact S22_u4), set_mis B22_u4_0 (by decide), set_mis B22_u4_1 (by decide), set_mis B22_u4_2 (by decide), set_mis B22_u4_3 (by decide), set_mis B22_u4_4 (by decide), set_mis B22_u4_5 (by decide), set_mis B22_u4_6 (by decide), set_hit (by rw [S22_u4]; decide)⟩
    have M23 := Fr.snoc X23 M22 n_u4
    have Z23 : n0 ≤ h23.size := by rw [W23.size]; exact Z22
    refine s_dup X23 hx hby (n := 237) at_236 rfl rfl ?_
    refine s_bipush X23 hx hby (n := 239) (v := (8 : Int32)) at_237 rfl rfl ?_
    refine s_bipush X23 hx hby (n := 241) (v := (45 : Int32)) at_239 rfl rfl ?_
    refine s_bastoreC X23 hx hby hZ (n := 242) e23 A23_u4 8 (by decide) (by decide) (by rw [S23_u4]; decide) at_241 rfl ?_
    intro T24 h24 X24 e24 W24
    have A24_u1 := A23_u1.other W24 ne_u1_u4
    have A24_u2 := A23_u2.other W24 ne_u2_u4
    have A24_u3 := A23_u3.other W24 ne_u3_u4
    obtain ⟨c24, A24_u4, S24_u4, B24_u4_0, B24_u4_1, B24_u4_2, B24_u4_3, B24_u4_4, B24_u4_5, B24_u4_6, B24_u4_7, B24_u4_8⟩ : ∃ cc : Cell, Arr Z h24 u4 cc .byte ∧ cc.slots.size = (24 : Int32).toNatClampNeg ∧ cc.slots[0]? = some (.int (nar .byte (97 : Int32))) ∧ cc.slots[1]? = some (.int (nar .byte (45 : Int32))) ∧ cc.slots[2]? = some (.int (nar .byte (108 : Int32))) ∧ cc.slots[3]? = some (.int (nar .byte (105 : Int32))) ∧ cc.slots[4]? = some (.int (nar .byte (116 : Int32))) ∧ cc.slots[5]? = some (.int (nar .byte (116 : Int32))) ∧ cc.slots[6]? = some (.int (nar .byte (108 : Int32))) ∧ cc.slots[7]? = some (.int (nar .byte (101 : Int32))) ∧ cc.slots[8]? = some (.int (nar .byte (45 : Int32))) := ⟨_, A23_u4.same W24, (by rw [sz_set]; exact S23_u4), set_mis B23_u4_0 (by decide), set_mis B23_u4_1 (by decide), set_mis B23_u4_2 (by decide), set_mis B23_u4_3 (by decide), set_mis B23_u4_4 (by decide), set_mis B23_u4_5 (by decide), set_mis B23_u4_6 (by decide), set_mis B23_u4_7 (by decide), set_hit (by rw [S23_u4]; decide)⟩
    have M24 := Fr.snoc X24 M23 n_u4
    have Z24 : n0 ≤ h24.size := by rw [W24.size]; exact Z23
    refine s_dup X24 hx hby (n := 243) at_242 rfl rfl ?_
    refine s_bipush X24 hx hby (n := 245) (v := (9 : Int32)) at_243 rfl rfl ?_
    refine s_bipush X24 hx hby (n := 247) (v := (98 : Int32)) at_245 rfl rfl ?_
    refine s_bastoreC X24 hx hby hZ (n := 248) e24 A24_u4 9 (by decide) (by decide) (by rw [S24_u4]; decide) at_247 rfl ?_
    intro T25 h25 X25 e25 W25
    have A25_u1 := A24_u1.other W25 ne_u1_u4
    have A25_u2 := A24_u2.other W25 ne_u2_u4
    have A25_u3 := A24_u3.other W25 ne_u3_u4
    obtain ⟨c25, A25_u4, S25_u4, B25_u4_0, B25_u4_1, B25_u4_2, B25_u4_3, B25_u4_4, B25_u4_5, B25_u4_6, B25_u4_7, B25_u4_8, B25_u4_9⟩ : ∃ cc : Cell, Arr Z h25 u4 cc .byte ∧ cc.slots.size = (24 : Int32).toNatClampNeg ∧ cc.slots[0]? = some (.int (nar .byte (97 : Int32))) ∧ cc.slots[1]? = some (.int (nar .byte (45 : Int32))) ∧ cc.slots[2]? = some (.int (nar .byte (108 : Int32))) ∧ cc.slots[3]? = some (.int (nar .byte (105 : Int32))) ∧ cc.slots[4]? = some (.int (nar .byte (116 : Int32))) ∧ cc.slots[5]? = some (.int (nar .byte (116 : Int32))) ∧ cc.slots[6]? = some (.int (nar .byte (108 : Int32))) ∧ cc.slots[7]? = some (.int (nar .byte (101 : Int32))) ∧ cc.slots[8]? = some (.int (nar .byte (45 : Int32))) ∧ cc.slots[9]? = some (.int (nar .byte (98 : Int32))) := ⟨_, A24_u4.same W25, (by rw [sz_set]; exact S24_u4), set_mis B24_u4_0 (by decide), set_mis B24_u4_1 (by decide), set_mis B24_u4_2 (by decide), set_mis B24_u4_3 (by decide), set_mis B24_u4_4 (by decide), set_mis B24_u4_5 (by decide), set_mis B24_u4_6 (by decide), set_mis B24_u4_7 (by decide), set_mis B24_u4_8 (by decide), set_hit (by rw [S24_u4]; decide)⟩
    have M25 := Fr.snoc X25 M24 n_u4
    have Z25 : n0 ≤ h25.size := by rw [W25.size]; exact Z24
    refine s_dup X25 hx hby (n := 249) at_248 rfl rfl ?_
    refine s_bipush X25 hx hby (n := 251) (v := (10 : Int32)) at_249 rfl rfl ?_
    refine s_bipush X25 hx hby (n := 253) (v := (105 : Int32)) at_251 rfl rfl ?_
    refine s_bastoreC X25 hx hby hZ (n := 254) e25 A25_u4 10 (by decide) (by decide) (by rw [S25_u4]; decide) at_253 rfl ?_
    intro T26 h26 X26 e26 W26
    have A26_u1 := A25_u1.other W26 ne_u1_u4
    have A26_u2 := A25_u2.other W26 ne_u2_u4
    have A26_u3 := A25_u3.other W26 ne_u3_u4
    obtain ⟨c26, A26_u4, S26_u4, B26_u4_0, B26_u4_1, B26_u4_2, B26_u4_3, B26_u4_4, B26_u4_5, B26_u4_6, B26_u4_7, B26_u4_8, B26_u4_9, B26_u4_10⟩ : ∃ cc : Cell, Arr Z h26 u4 cc .byte ∧ cc.slots.size = (24 : Int32).toNatClampNeg ∧ cc.slots[0]? = some (.int (nar .byte (97 : Int32))) ∧ cc.slots[1]? = some (.int (nar .byte (45 : Int32))) ∧ cc.slots[2]? = some (.int (nar .byte (108 : Int32))) ∧ cc.slots[3]? = some (.int (nar .byte (105 : Int32))) ∧ cc.slots[4]? = some (.int (nar .byte (116 : Int32))) ∧ cc.slots[5]? = some (.int (nar .byte (116 : Int32))) ∧ cc.slots[6]? = some (.int (nar .byte (108 : Int32))) ∧ cc.slots[7]? = some (.int (nar .byte (101 : Int32))) ∧ cc.slots[8]? = some (.int (nar .byte (45 : Int32))) ∧ cc.slots[9]? = some (.int (nar .byte (98 : Int32))) ∧ cc.slots[10]? = some (.int (nar .byte (105 : Int32))) := ⟨_, A25_u4.same W26, (by rw [sz_set]; exact S25_u4), set_mis B25_u4_0 (by decide), set_mis B25_u4_1 (by decide), set_mis B25_u4_2 (by decide), set_mis B25_u4_3 (by decide), set_mis B25_u4_4 (by decide), set_mis B25_u4_5 (by decide), set_mis B25_u4_6 (by decide), set_mis B25_u4_7 (by decide), set_mis B25_u4_8 (by decide), set_mis B25_u4_9 (by decide), set_hit (by rw [S25_u4]; decide)⟩
    have M26 := Fr.snoc X26 M25 n_u4
    have Z26 : n0 ≤ h26.size := by rw [W26.size]; exact Z25
    refine s_dup X26 hx hby (n := 255) at_254 rfl rfl ?_
    refine s_bipush X26 hx hby (n := 257) (v := (11 : Int32)) at_255 rfl rfl ?_
    refine s_bipush X26 hx hby (n := 259) (v := (116 : Int32)) at_257 rfl rfl ?_
    refine s_bastoreC X26 hx hby hZ (n := 260) e26 A26_u4 11 (by decide) (by decide) (by rw [S26_u4]; decide) at_259 rfl ?_
    intro T27 h27 X27 e27 W27
    have A27_u1 := A26_u1.other W27 ne_u1_u4
    have A27_u2 := A26_u2.other W27 ne_u2_u4
    have A27_u3 := A26_u3.other W27 ne_u3_u4
    obtain ⟨c27, A27_u4, S27_u4, B27_u4_0, B27_u4_1, B27_u4_2, B27_u4_3, B27_u4_4, B27_u4_5, B27_u4_6, B27_u4_7, B27_u4_8, B27_u4_9, B27_u4_10, B27_u4_11⟩ : ∃ cc : Cell, Arr Z h27 u4 cc .byte ∧ cc.slots.size = (24 : Int32).toNatClampNeg ∧ cc.slots[0]? = some (.int (nar .byte (97 : Int32))) ∧ cc.slots[1]? = some (.int (nar .byte (45 : Int32))) ∧ cc.slots[2]? = some (.int (nar .byte (108 : Int32))) ∧ cc.slots[3]? = some (.int (nar .byte (105 : Int32))) ∧ cc.slots[4]? = some (.int (nar .byte (116 : Int32))) ∧ cc.slots[5]? = some (.int (nar .byte (116 : Int32))) ∧ cc.slots[6]? = some (.int (nar .byte (108 : Int32))) ∧ cc.slots[7]? = some (.int (nar .byte (101 : Int32))) ∧ cc.slots[8]? = some (.int (nar .byte (45 : Int32))) ∧ cc.slots[9]? = some (.int (nar .byte (98 : Int32))) ∧ cc.slots[10]? = some (.int (nar .byte (105 : Int32))) ∧ cc.slots[11]? = some (.int (nar .byte (116 : Int32))) := ⟨_, A26_u4.same W27, (by rw [sz_set]; exact S26_u4), set_mis B26_u4_0 (by decide), set_mis B26_u4_1 (by decide), set_mis B26_u4_2 (by decide), set_mis B26_u4_3 (by decide), set_mis B26_u4_4 (by decide), set_mis B26_u4_5 (by decide), set_mis B26_u4_6 (by decide), set_mis B26_u4_7 (by decide), set_mis B26_u4_8 (by decide), set_mis B26_u4_9 (by decide), set_mis B26_u4_10 (by decide), set_hit (by rw [S26_u4]; decide)⟩
    have M27 := Fr.snoc X27 M26 n_u4
    have Z27 : n0 ≤ h27.size := by rw [W27.size]; exact Z26
    refine s_dup X27 hx hby (n := 261) at_260 rfl rfl ?_
    refine s_bipush X27 hx hby (n := 263) (v := (12 : Int32)) at_261 rfl rfl ?_
    refine s_bipush X27 hx hby (n := 265) (v := (45 : Int32)) at_263 rfl rfl ?_
    refine s_bastoreC X27 hx hby hZ (n := 266) e27 A27_u4 12 (by decide) (by decide) (by rw [S27_u4]; decide) at_265 rfl ?_
    intro T28 h28 X28 e28 W28
    have A28_u1 := A27_u1.other W28 ne_u1_u4
    have A28_u2 := A27_u2.other W28 ne_u2_u4
    have A28_u3 := A27_u3.other W28 ne_u3_u4
    obtain ⟨c28, A28_u4, S28_u4, B28_u4_0, B28_u4_1, B28_u4_2, B28_u4_3, B28_u4_4, B28_u4_5, B28_u4_6, B28_u4_7, B28_u4_8, B28_u4_9, B28_u4_10, B28_u4_11, B28_u4_12⟩ : ∃ cc : Cell, Arr Z h28 u4 cc .byte ∧ cc.slots.size = (24 : Int32).toNatClampNeg ∧ cc.slots[0]? = some (.int (nar .byte (97 : Int32))) ∧ cc.slots[1]? = some (.int (nar .byte (45 : Int32))) ∧ cc.slots[2]? = some (.int (nar .byte (108 : Int32))) ∧ cc.slots[3]? = some (.int (nar .byte (105 : Int32))) ∧ cc.slots[4]? = some (.int (nar .byte (116 : Int32))) ∧ cc.slots[5]? = some (.int (nar .byte (116 : Int32))) ∧ cc.slots[6]? = some (.int (nar .byte (108 : Int32))) ∧ cc.slots[7]? = some (.int (nar .byte (101 : Int32))) ∧ cc.slots[8]? = some (.int (nar .byte (45 : Int32))) ∧ cc.slots[9]? = some (.int (nar .byte (98 : Int32))) ∧ cc.slots[10]? = some (.int (nar .byte (105 : Int32))) ∧ cc.slots[11]? = some (.int (nar .byte (116 : Int32))) ∧ cc.slots[12]? = some (.int (nar .byte (45 : Int32))) := ⟨_, A27_u4.same W28, (by rw [sz_set]; exact S27_u4), set_mis B27_u4_0 (by decide), set_mis B27_u4_1 (by decide), set_mis B27_u4_2 (by decide), set_mis B27_u4_3 (by decide), set_mis B27_u4_4 (by decide), set_mis B27_u4_5 (by decide), set_mis B27_u4_6 (by decide), set_mis B27_u4_7 (by decide), set_mis B27_u4_8 (by decide), set_mis B27_u4_9 (by decide), set_mis B27_u4_10 (by decide), set_mis B27_u4_11 (by decide), set_hit (by rw [S27_u4]; decide)⟩
    have M28 := Fr.snoc X28 M27 n_u4
    have Z28 : n0 ≤ h28.size := by rw [W28.size]; exact Z27
    refine s_dup X28 hx hby (n := 267) at_266 rfl rfl ?_
    refine s_bipush X28 hx hby (n := 269) (v := (13 : Int32)) at_267 rfl rfl ?_
    refine s_bipush X28 hx hby (n := 271) (v := (108 : Int32)) at_269 rfl rfl ?_
    refine s_bastoreC X28 hx hby hZ (n := 272) e28 A28_u4 13 (by decide) (by decide) (by rw [S28_u4]; decide) at_271 rfl ?_
    intro T29 h29 X29 e29 W29
    have A29_u1 := A28_u1.other W29 ne_u1_u4
    have A29_u2 := A28_u2.other W29 ne_u2_u4
    have A29_u3 := A28_u3.other W29 ne_u3_u4
    obtain ⟨c29, A29_u4, S29_u4, B29_u4_0, B29_u4_1, B29_u4_2, B29_u4_3, B29_u4_4, B29_u4_5, B29_u4_6, B29_u4_7, B29_u4_8, B29_u4_9, B29_u4_10, B29_u4_11, B29_u4_12, B29_u4_13⟩ : ∃ cc : Cell, Arr Z h29 u4 cc .byte ∧ cc.slots.size = (24 : Int32).toNatClampNeg ∧ cc.slots[0]? = some (.int (nar .byte (97 : Int32))) ∧ cc.slots[1]? = some (.int (nar .byte (45 : Int32))) ∧ cc.slots[2]? = some (.int (nar .byte (108 : Int32))) ∧ cc.slots[3]? = some (.int (nar .byte (105 : Int32))) ∧ cc.slots[4]? = some (.int (nar .byte (116 : Int32))) ∧ cc.slots[5]? = some (.int (nar .byte (116 : Int32))) ∧ cc.slots[6]? = some (.int (nar .byte (108 : Int32))) ∧ cc.slots[7]? = some (.int (nar .byte (101 : Int32))) ∧ cc.slots[8]? = some (.int (nar .byte (45 : Int32))) ∧ cc.slots[9]? = some (.int (nar .byte (98 : Int32))) ∧ cc.slots[10]? = some (.int (nar .byte (105 : Int32))) ∧ cc.slots[11]? = some (.int (nar .byte (116 : Int32))) ∧ cc.slots[12]? = some (.int (nar .byte (45 : Int32))) ∧ cc.slots[13]? = some (.int (nar .byte (108 : Int32))) := ⟨_, A28_u4.same W29, (by rw [sz_set]; exact S28_u4), set_mis B28_u4_0 (by decide), set_mis B28_u4_1 (by decide), set_mis B28_u4_2 (by decide), set_mis B28_u4_3 (by decide), set_mis B28_u4_4 (by decide), set_mis B28_u4_5 (by decide), set_mis B28_u4_6 (by decide), set_mis B28_u4_7 (by decide), set_mis B28_u4_8 (by decide), set_mis B28_u4_9 (by decide), set_mis B28_u4_10 (by decide), set_mis B28_u4_11 (by decide), set_mis B28_u4_12 (by decide), set_hit (by rw [S28_u4]; decide)⟩
    have M29 := Fr.snoc X29 M28 n_u4
    have Z29 : n0 ≤ h29.size := by rw [W29.size]; exact Z28
    refine s_dup X29 hx hby (n := 273) at_272 rfl rfl ?_
    refine s_bipush X29 hx hby (n := 275) (v := (14 : Int32)) at_273 rfl rfl ?_
    refine s_bipush X29 hx hby (n := 277) (v := (111 : Int32)) at_275 rfl rfl ?_
    refine s_bastoreC X29 hx hby hZ (n := 278) e29 A29_u4 14 (by decide) (by decide) (by rw [S29_u4]; decide) at_277 rfl ?_
    intro T30 h30 X30 e30 W30
    have A30_u1 := A29_u1.other W30 ne_u1_u4
    have A30_u2 := A29_u2.other W30 ne_u2_u4
    have A30_u3 := A29_u3.other W30 ne_u3_u4
    obtain ⟨c30, A30_u4, S30_u4, B30_u4_0, B30_u4_1, B30_u4_2, B30_u4_3, B30_u4_4, B30_u4_5, B30_u4_6, B30_u4_7, B30_u4_8, B30_u4_9, B30_u4_10, B30_u4_11, B30_u4_12, B30_u4_13, B30_u4_14⟩ : ∃ cc : Cell, Arr Z h30 u4 cc .byte ∧ cc.slots.size = (24 : Int32).toNatClampNeg ∧ cc.slots[0]? = some (.int (nar .byte (97 : Int32))) ∧ cc.slots[1]? = some (.int (nar .byte (45 : Int32))) ∧ cc.slots[2]? = some (.int (nar .byte (108 : Int32))) ∧ cc.slots[3]? = some (.int (nar .byte (105 : Int32))) ∧ cc.slots[4]? = some (.int (nar .byte (116 : Int32))) ∧ cc.slots[5]? = some (.int (nar .byte (116 : Int32))) ∧ cc.slots[6]? = some (.int (nar .byte (108 : Int32))) ∧ cc.slots[7]? = some (.int (nar .byte (101 : Int32))) ∧ cc.slots[8]? = some (.int (nar .byte (45 : Int32))) ∧ cc.slots[9]? = some (.int (nar .byte (98 : Int32))) ∧ cc.slots[10]? = some (.int (nar .byte (105 : Int32))) ∧ cc.slots[11]? = some (.int (nar .byte (116 : Int32))) ∧ cc.slots[12]? = some (.int (nar .byte (45 : Int32))) ∧ cc.slots[13]? = some (.int (nar .byte (108 : Int32))) ∧ cc.slots[14]? = some (.int (nar .byte (111 : Int32))) := ⟨_, A29_u4.same W30, (by rw [sz_set]; exact S29_u4), set_mis B29_u4_0 (by decide), set_mis B29_u4_1 (by decide), set_mis B29_u4_2 (by decide), set_mis B29_u4_3 (by decide), set_mis B29_u4_4 (by decide), set_mis B29_u4_5 (by decide), set_mis B29_u4_6 (by decide), set_mis B29_u4_7 (by decide), set_mis B29_u4_8 (by decide), set_mis B29_u4_9 (by decide), set_mis B29_u4_10 (by decide), set_mis B29_u4_11 (by decide), set_mis B29_u4_12 (by decide), set_mis B29_u4_13 (by decide), set_hit (by rw [S29_u4]; decide)⟩
    have M30 := Fr.snoc X30 M29 n_u4
    have Z30 : n0 ≤ h30.size := by rw [W30.size]; exact Z29
    refine s_dup X30 hx hby (n := 279) at_278 rfl rfl ?_
    refine s_bipush X30 hx hby (n := 281) (v := (15 : Int32)) at_279 rfl rfl ?_
    refine s_bipush X30 hx hby (n := 283) (v := (110 : Int32)) at_281 rfl rfl ?_
    refine s_bastoreC X30 hx hby hZ (n := 284) e30 A30_u4 15 (by decide) (by decide) (by rw [S30_u4]; decide) at_283 rfl ?_
    intro T31 h31 X31 e31 W31
    have A31_u1 := A30_u1.other W31 ne_u1_u4
    have A31_u2 := A30_u2.other W31 ne_u2_u4
    have A31_u3 := A30_u3.other W31 ne_u3_u4
    obtain ⟨c31, A31_u4, S31_u4, B31_u4_0, B31_u4_1, B31_u4_2, B31_u4_3, B31_u4_4, B31_u4_5, B31_u4_6, B31_u4_7, B31_u4_8, B31_u4_9, B31_u4_10, B31_u4_11, B31_u4_12, B31_u4_13, B31_u4_14, B31_u4_15⟩ : ∃ cc : Cell, Arr Z h31 u4 cc .byte ∧ cc.slots.size = (24 : Int32).toNatClampNeg ∧ cc.slots[0]? = some (.int (nar .byte (97 : Int32))) ∧ cc.slots[1]? = some (.int (nar .byte (45 : Int32))) ∧ cc.slots[2]? = some (.int (nar .byte (108 : Int32))) ∧ cc.slots[3]? = some (.int (nar .byte (105 : Int32))) ∧ cc.slots[4]? = some (.int (nar .byte (116 : Int32))) ∧ cc.slots[5]? = some (.int (nar .byte (116 : Int32))) ∧ cc.slots[6]? = some (.int (nar .byte (108 : Int32))) ∧ cc.slots[7]? = some (.int (nar .byte (101 : Int32))) ∧ cc.slots[8]? = some (.int (nar .byte (45 : Int32))) ∧ cc.slots[9]? = some (.int (nar .byte (98 : Int32))) ∧ cc.slots[10]? = some (.int (nar .byte (105 : Int32))) ∧ cc.slots[11]? = some (.int (nar .byte (116 : Int32))) ∧ cc.slots[12]? = some (.int (nar .byte (45 : Int32))) ∧ cc.slots[13]? = some (.int (nar .byte (108 : Int32))) ∧ cc.slots[14]? = some (.int (nar .byte (111 : Int32))) ∧ cc.slots[15]? = some (.int (nar .byte (110 : Int32))) := ⟨_, A30_u4.same W31, (by rw [sz_set]; exact S30_u4), set_mis B30_u4_0 (by decide), set_mis B30_u4_1 (by decide), set_mis B30_u4_2 (by decide), set_mis B30_u4_3 (by decide), set_mis B30_u4_4 (by decide), set_mis B30_u4_5 (by decide), set_mis B30_u4_6 (by decide), set_mis B30_u4_7 (by decide), set_mis B30_u4_8 (by decide), set_mis B30_u4_9 (by decide), set_mis B30_u4_10 (by decide), set_mis B30_u4_11 (by decide), set_mis B30_u4_12 (by decide), set_mis B30_u4_13 (by decide), set_mis B30_u4_14 (by decide), set_hit (by rw [S30_u4]; decide)⟩
    have M31 := Fr.snoc X31 M30 n_u4
    have Z31 : n0 ≤ h31.size := by rw [W31.size]; exact Z30
    refine s_dup X31 hx hby (n := 285) at_284 rfl rfl ?_
    refine s_bipush X31 hx hby (n := 287) (v := (16 : Int32)) at_285 rfl rfl ?_
    refine s_bipush X31 hx hby (n := 289) (v := (103 : Int32)) at_287 rfl rfl ?_
    refine s_bastoreC X31 hx hby hZ (n := 290) e31 A31_u4 16 (by decide) (by decide) (by rw [S31_u4]; decide) at_289 rfl ?_
    intro T32 h32 X32 e32 W32
    have A32_u1 := A31_u1.other W32 ne_u1_u4
    have A32_u2 := A31_u2.other W32 ne_u2_u4
    have A32_u3 := A31_u3.other W32 ne_u3_u4
    obtain ⟨c32, A32_u4, S32_u4, B32_u4_0, B32_u4_1, B32_u4_2, B32_u4_3, B32_u4_4, B32_u4_5, B32_u4_6, B32_u4_7, B32_u4_8, B32_u4_9, B32_u4_10, B32_u4_11, B32_u4_12, B32_u4_13, B32_u4_14, B32_u4_15, B32_u4_16⟩ : ∃ cc : Cell, Arr Z h32 u4 cc .byte ∧ cc.slots.size = (24 : Int32).toNatClampNeg ∧ cc.slots[0]? = some (.int (nar .byte (97 : Int32))) ∧ cc.slots[1]? = some (.int (nar .byte (45 : Int32))) ∧ cc.slots[2]? = some (.int (nar .byte (108 : Int32))) ∧ cc.slots[3]? = some (.int (nar .byte (105 : Int32))) ∧ cc.slots[4]? = some (.int (nar .byte (116 : Int32))) ∧ cc.slots[5]? = some (.int (nar .byte (116 : Int32))) ∧ cc.slots[6]? = some (.int (nar .byte (108 : Int32))) ∧ cc.slots[7]? = some (.int (nar .byte (101 : Int32))) ∧ cc.slots[8]? = some (.int (nar .byte (45 : Int32))) ∧ cc.slots[9]? = some (.int (nar .byte (98 : Int32))) ∧ cc.slots[10]? = some (.int (nar .byte (105 : Int32))) ∧ cc.slots[11]? = some (.int (nar .byte (116 : Int32))) ∧ cc.slots[12]? = some (.int (nar .byte (45 : Int32))) ∧ cc.slots[13]? = some (.int (nar .byte (108 : Int32))) ∧ cc.slots[14]? = some (.int (nar .byte (111 : Int32))) ∧ cc.slots[15]? = some (.int (nar .byte (110 : Int32))) ∧ cc.slots[16]? = some (.int (nar .byte (103 : Int32))) := ⟨_, A31_u4.same W32, (by rw [sz_set]; exact S31_u4), set_mis B31_u4_0 (by decide), set_mis B31_u4_1 (by decide), set_mis B31_u4_2 (by decide), set_mis B31_u4_3 (by decide), set_mis B31_u4_4 (by decide), set_mis B31_u4_5 (by decide), set_mis B31_u4_6 (by decide), set_mis B31_u4_7 (by decide), set_mis B31_u4_8 (by decide), set_mis B31_u4_9 (by decide), set_mis B31_u4_10 (by decide), set_mis B31_u4_11 (by decide), set_mis B31_u4_12 (by decide), set_mis B31_u4_13 (by decide), set_mis B31_u4_14 (by decide), set_mis B31_u4_15 (by decide), set_hit (by rw [S31_u4]; decide)⟩
    have M32 := Fr.snoc X32 M31 n_u4
    have Z32 : n0 ≤ h32.size := by rw [W32.size]; exact Z31
    refine s_dup X32 hx hby (n := 291) at_290 rfl rfl ?_
    refine s_bipush X32 hx hby (n := 293) (v := (17 : Int32)) at_291 rfl rfl ?_
    refine s_bipush X32 hx hby (n := 295) (v := (45 : Int32)) at_293 rfl rfl ?_
    refine s_bastoreC X32 hx hby hZ (n := 296) e32 A32_u4 17 (by decide) (by decide) (by rw [S32_u4]; decide) at_295 rfl ?_
    intro T33 h33 X33 e33 W33
    have A33_u1 := A32_u1.other W33 ne_u1_u4
    have A33_u2 := A32_u2.other W33 ne_u2_u4
    have A33_u3 := A32_u3.other W33 ne_u3_u4
    obtain ⟨c33, A33_u4, S33_u4, B33_u4_0, B33_u4_1, B33_u4_2, B33_u4_3, B33_u4_4, B33_u4_5, B33_u4_6, B33_u4_7, B33_u4_8, B33_u4_9, B33_u4_10, B33_u4_11, B33_u4_12, B33_u4_13, B33_u4_14, B33_u4_15, B33_u4_16, B33_u4_17⟩ : ∃ cc : Cell, Arr Z h33 u4 cc .byte ∧ cc.slots.size = (24 : Int32).toNatClampNeg ∧ cc.slots[0]? = some (.int (nar .byte (97 : Int32))) ∧ cc.slots[1]? = some (.int (nar .byte (45 : Int32))) ∧ cc.slots[2]? = some (.int (nar .byte (108 : Int32))) ∧ cc.slots[3]? = some (.int (nar .byte (105 : Int32))) ∧ cc.slots[4]? = some (.int (nar .byte (116 : Int32))) ∧ cc.slots[5]? = some (.int (nar .byte (116 : Int32))) ∧ cc.slots[6]? = some (.int (nar .byte (108 : Int32))) ∧ cc.slots[7]? = some (.int (nar .byte (101 : Int32))) ∧ cc.slots[8]? = some (.int (nar .byte (45 : Int32))) ∧ cc.slots[9]? = some (.int (nar .byte (98 : Int32))) ∧ cc.slots[10]? = some (.int (nar .byte (105 : Int32))) ∧ cc.slots[11]? = some (.int (nar .byte (116 : Int32))) ∧ cc.slots[12]? = some (.int (nar .byte (45 : Int32))) ∧ cc.slots[13]? = some (.int (nar .byte (108 : Int32))) ∧ cc.slots[14]? = some (.int (nar .byte (111 : Int32))) ∧ cc.slots[15]? = some (.int (nar .byte (110 : Int32))) ∧ cc.slots[16]? = some (.int (nar .byte (103 : Int32))) ∧ cc.slots[17]? = some (.int (nar .byte (45 : Int32))) := ⟨_, A32_u4.same W33, (by rw [sz_set]; exact S32_u4), set_mis B32_u4_0 (by decide), set_mis B32_u4_1 (by decide), set_mis B32_u4_2 (by decide), set_mis B32_u4_3 (by decide), set_mis B32_u4_4 (by decide), set_mis B32_u4_5 (by decide), set_mis B32_u4_6 (by decide), set_mis B32_u4_7 (by decide), set_mis B32_u4_8 (by decide), set_mis B32_u4_9 (by decide), set_mis B32_u4_10 (by decide), set_mis B32_u4_11 (by decide), set_mis B32_u4_12 (by decide), set_mis B32_u4_13 (by decide), set_mis B32_u4_14 (by decide), set_mis B32_u4_15 (by decide), set_mis B32_u4_16 (by decide), set_hit (by rw [S32_u4]; decide)⟩
    have M33 := Fr.snoc X33 M32 n_u4
    have Z33 : n0 ≤ h33.size := by rw [W33.size]; exact Z32
    refine s_dup X33 hx hby (n := 297) at_296 rfl rfl ?_
    refine s_bipush X33 hx hby (n := 299) (v := (18 : Int32)) at_297 rfl rfl ?_
    refine s_bipush X33 hx hby (n := 301) (v := (115 : Int32)) at_299 rfl rfl ?_
    refine s_bastoreC X33 hx hby hZ (n := 302) e33 A33_u4 18 (by decide) (by decide) (by rw [S33_u4]; decide) at_301 rfl ?_
    intro T34 h34 X34 e34 W34
    have A34_u1 := A33_u1.other W34 ne_u1_u4
    have A34_u2 := A33_u2.other W34 ne_u2_u4
    have A34_u3 := A33_u3.other W34 ne_u3_u4
    obtain ⟨c34, A34_u4, S34_u4, B34_u4_0, B34_u4_1, B34_u4_2, B34_u4_3, B34_u4_4, B34_u4_5, B34_u4_6, B34_u4_7, B34_u4_8, B34_u4_9, B34_u4_10, B34_u4_11, B34_u4_12, B34_u4_13, B34_u4_14, B34_u4_15, B34_u4_16, B34_u4_17, B34_u4_18⟩ : ∃ cc : Cell, Arr Z h34 u4 cc .byte ∧ cc.slots.size = (24 : Int32).toNatClampNeg ∧ cc.slots[0]? = some (.int (nar .byte (97 : Int32))) ∧ cc.slots[1]? = some (.int (nar .byte (45 : Int32))) ∧ cc.slots[2]? = some (.int (nar .byte (108 : Int32))) ∧ cc.slots[3]? = some (.int (nar .byte (105 : Int32))) ∧ cc.slots[4]? = some (.int (nar .byte (116 : Int32))) ∧ cc.slots[5]? = some (.int (nar .byte (116 : Int32))) ∧ cc.slots[6]? = some (.int (nar .byte (108 : Int32))) ∧ cc.slots[7]? = some (.int (nar .byte (101 : Int32))) ∧ cc.slots[8]? = some (.int (nar .byte (45 : Int32))) ∧ cc.slots[9]? = some (.int (nar .byte (98 : Int32))) ∧ cc.slots[10]? = some (.int (nar .byte (105 : Int32))) ∧ cc.slots[11]? = some (.int (nar .byte (116 : Int32))) ∧ cc.slots[12]? = some (.int (nar .byte (45 : Int32))) ∧ cc.slots[13]? = some (.int (nar .byte (108 : Int32))) ∧ cc.slots[14]? = some (.int (nar .byte (111 : Int32))) ∧ cc.slots[15]? = some (.int (nar .byte (110 : Int32))) ∧ cc.slots[16]? = some (.int (nar .byte (103 : Int32))) ∧ cc.slots[17]? = some (.int (nar .byte (45 : Int32))) ∧ cc.slots[18]? = some (.int (nar .byte (115 : Int32))) := ⟨_, A33_u4.same W34, (by rw [sz_set]; exact S33_u4), set_mis B33_u4_0 (by decide), set_mis B33_u4_1 (by decide), set_mis B33_u4_2 (by decide), set_mis B33_u4_3 (by decide), set_mis B33_u4_4 (by decide), set_mis B33_u4_5 (by decide), set_mis B33_u4_6 (by decide), set_mis B33_u4_7 (by decide), set_mis B33_u4_8 (by decide), set_mis B33_u4_9 (by decide), set_mis B33_u4_10 (by decide), set_mis B33_u4_11 (by decide), set_mis B33_u4_12 (by decide), set_mis B33_u4_13 (by decide), set_mis B33_u4_14 (by decide), set_mis B33_u4_15 (by decide), set_mis B33_u4_16 (by decide), set_mis B33_u4_17 (by decide), set_hit (by rw [S33_u4]; decide)⟩
    have M34 := Fr.snoc X34 M33 n_u4
    have Z34 : n0 ≤ h34.size := by rw [W34.size]; exact Z33
    refine s_dup X34 hx hby (n := 303) at_302 rfl rfl ?_
    refine s_bipush X34 hx hby (n := 305) (v := (19 : Int32)) at_303 rfl rfl ?_
    refine s_bipush X34 hx hby (n := 307) (v := (116 : Int32)) at_305 rfl rfl ?_
    refine s_bastoreC X34 hx hby hZ (n := 308) e34 A34_u4 19 (by decide) (by decide) (by rw [S34_u4]; decide) at_307 rfl ?_
    intro T35 h35 X35 e35 W35
    have A35_u1 := A34_u1.other W35 ne_u1_u4
    have A35_u2 := A34_u2.other W35 ne_u2_u4
    have A35_u3 := A34_u3.other W35 ne_u3_u4
    obtain ⟨c35, A35_u4, S35_u4, B35_u4_0, B35_u4_1, B35_u4_2, B35_u4_3, B35_u4_4, B35_u4_5, B35_u4_6, B35_u4_7, B35_u4_8, B35_u4_9, B35_u4_10, B35_u4_11, B35_u4_12, B35_u4_13, B35_u4_14, B35_u4_15, B35_u4_16, B35_u4_17, B35_u4_18, B35_u4_19⟩ : ∃ cc : Cell, Arr Z h35 u4 cc .byte ∧ cc.slots.size = (24 : Int32).toNatClampNeg ∧ cc.slots[0]? = some (.int (nar .byte (97 : Int32))) ∧ cc.slots[1]? = some (.int (nar .byte (45 : Int32))) ∧ cc.slots[2]? = some (.int (nar .byte (108 : Int32))) ∧ cc.slots[3]? = some (.int (nar .byte (105 : Int32))) ∧ cc.slots[4]? = some (.int (nar .byte (116 : Int32))) ∧ cc.slots[5]? = some (.int (nar .byte (116 : Int32))) ∧ cc.slots[6]? = some (.int (nar .byte (108 : Int32))) ∧ cc.slots[7]? = some (.int (nar .byte (101 : Int32))) ∧ cc.slots[8]? = some (.int (nar .byte (45 : Int32))) ∧ cc.slots[9]? = some (.int (nar .byte (98 : Int32))) ∧ cc.slots[10]? = some (.int (nar .byte (105 : Int32))) ∧ cc.slots[11]? = some (.int (nar .byte (116 : Int32))) ∧ cc.slots[12]? = some (.int (nar .byte (45 : Int32))) ∧ cc.slots[13]? = some (.int (nar .byte (108 : Int32))) ∧ cc.slots[14]? = some (.int (nar .byte (111 : Int32))) ∧ cc.slots[15]? = some (.int (nar .byte (110 : Int32))) ∧ cc.slots[16]? = some (.int (nar .byte (103 : Int32))) ∧ cc.slots[17]? = some (.int (nar .byte (45 : Int32))) ∧ cc.slots[18]? = some (.int (nar .byte (115 : Int32))) ∧ cc.slots[19]? = some (.int (nar .byte (116 : Int32))) := ⟨_, A34_u4.same W35, (by rw [sz_set]; exact S34_u4), set_mis B34_u4_0 (by decide), set_mis B34_u4_1 (by decide), set_mis B34_u4_2 (by decide), set_mis B34_u4_3 (by decide), set_mis B34_u4_4 (by decide), set_mis B34_u4_5 (by decide), set_mis B34_u4_6 (by decide), set_mis B34_u4_7 (by decide), set_mis B34_u4_8 (by decide), set_mis B34_u4_9 (by decide), set_mis B34_u4_10 (by decide), set_mis B34_u4_11 (by decide), set_mis B34_u4_12 (by decide), set_mis B34_u4_13 (by decide), set_mis B34_u4_14 (by decide), set_mis B34_u4_15 (by decide), set_mis B34_u4_16 (by decide), set_mis B34_u4_17 (by decide), set_mis B34_u4_18 (by decide), set_hit (by rw [S34_u4]; decide)⟩
    have M35 := Fr.snoc X35 M34 n_u4
    have Z35 : n0 ≤ h35.size := by rw [W35.size]; exact Z34
    refine s_dup X35 hx hby (n := 309) at_308 rfl rfl ?_
    refine s_bipush X35 hx hby (n := 311) (v := (20 : Int32)) at_309 rfl rfl ?_
    refine s_bipush X35 hx hby (n := 313) (v := (114 : Int32)) at_311 rfl rfl ?_
    refine s_bastoreC X35 hx hby hZ (n := 314) e35 A35_u4 20 (by decide) (by decide) (by rw [S35_u4]; decide) at_313 rfl ?_
    intro T36 h36 X36 e36 W36
    have A36_u1 := A35_u1.other W36 ne_u1_u4
    have A36_u2 := A35_u2.other W36 ne_u2_u4
    have A36_u3 := A35_u3.other W36 ne_u3_u4
    obtain ⟨c36, A36_u4, S36_u4, B36_u4_0, B36_u4_1, B36_u4_2, B36_u4_3, B36_u4_4, B36_u4_5, B36_u4_6, B36_u4_7, B36_u4_8, B36_u4_9, B36_u4_10, B36_u4_11, B36_u4_12, B36_u4_13, B36_u4_14, B36_u4_15, B36_u4_16, B36_u4_17, B36_u4_18, B36_u4_19, B36_u4_20⟩ : ∃ cc : Cell, Arr Z h36 u4 cc .byte ∧ cc.slots.size = (24 : Int32).toNatClampNeg ∧ cc.slots[0]? = some (.int (nar .byte (97 : Int32))) ∧ cc.slots[1]? = some (.int (nar .byte (45 : Int32))) ∧ cc.slots[2]? = some (.int (nar .byte (108 : Int32))) ∧ cc.slots[3]? = some (.int (nar .byte (105 : Int32))) ∧ cc.slots[4]? = some (.int (nar .byte (116 : Int32))) ∧ cc.slots[5]? = some (.int (nar .byte (116 : Int32))) ∧ cc.slots[6]? = some (.int (nar .byte (108 : Int32))) ∧ cc.slots[7]? = some (.int (nar .byte (101 : Int32))) ∧ cc.slots[8]? = some (.int (nar .byte (45 : Int32))) ∧ cc.slots[9]? = some (.int (nar .byte (98 : Int32))) ∧ cc.slots[10]? = some (.int (nar .byte (105 : Int32))) ∧ cc.slots[11]? = some (.int (nar .byte (116 : Int32))) ∧ cc.slots[12]? = some (.int (nar .byte (45 : Int32))) ∧ cc.slots[13]? = some (.int (nar .byte (108 : Int32))) ∧ cc.slots[14]? = some (.int (nar .byte (111 : Int32))) ∧ cc.slots[15]? = some (.int (nar .byte (110 : Int32))) ∧ cc.slots[16]? = some (.int (nar .byte (103 : Int32))) ∧ cc.slots[17]? = some (.int (nar .byte (45 : Int32))) ∧ cc.slots[18]? = some (.int (nar .byte (115 : Int32))) ∧ cc.slots[19]? = some (.int (nar .byte (116 : Int32))) ∧ cc.slots[20]? = some (.int (nar .byte (114 : Int32))) := ⟨_, A35_u4.same W36, (by rw [sz_set]; exact S35_u4), set_mis B35_u4_0 (by decide), set_mis B35_u4_1 (by decide), set_mis B35_u4_2 (by decide), set_mis B35_u4_3 (by decide), set_mis B35_u4_4 (by decide), set_mis B35_u4_5 (by decide), set_mis B35_u4_6 (by decide), set_mis B35_u4_7 (by decide), set_mis B35_u4_8 (by decide), set_mis B35_u4_9 (by decide), set_mis B35_u4_10 (by decide), set_mis B35_u4_11 (by decide), set_mis B35_u4_12 (by decide), set_mis B35_u4_13 (by decide), set_mis B35_u4_14 (by decide), set_mis B35_u4_15 (by decide), set_mis B35_u4_16 (by decide), set_mis B35_u4_17 (by decide), set_mis B35_u4_18 (by decide), set_mis B35_u4_19 (by decide), set_hit (by rw [S35_u4]; decide)⟩
    have M36 := Fr.snoc X36 M35 n_u4
    have Z36 : n0 ≤ h36.size := by rw [W36.size]; exact Z35
    refine s_dup X36 hx hby (n := 315) at_314 rfl rfl ?_
    refine s_bipush X36 hx hby (n := 317) (v := (21 : Int32)) at_315 rfl rfl ?_
    refine s_bipush X36 hx hby (n := 319) (v := (105 : Int32)) at_317 rfl rfl ?_
    refine s_bastoreC X36 hx hby hZ (n := 320) e36 A36_u4 21 (by decide) (by decide) (by rw [S36_u4]; decide) at_319 rfl ?_
    intro T37 h37 X37 e37 W37
    have A37_u1 := A36_u1.other W37 ne_u1_u4
    have A37_u2 := A36_u2.other W37 ne_u2_u4
    have A37_u3 := A36_u3.other W37 ne_u3_u4
    obtain ⟨c37, A37_u4, S37_u4, B37_u4_0, B37_u4_1, B37_u4_2, B37_u4_3, B37_u4_4, B37_u4_5, B37_u4_6, B37_u4_7, B37_u4_8, B37_u4_9, B37_u4_10, B37_u4_11, B37_u4_12, B37_u4_13, B37_u4_14, B37_u4_15, B37_u4_16, B37_u4_17, B37_u4_18, B37_u4_19, B37_u4_20, B37_u4_21⟩ : ∃ cc : Cell, Arr Z h37 u4 cc .byte ∧ cc.slots.size = (24 : Int32).toNatClampNeg ∧ cc.slots[0]? = some (.int (nar .byte (97 : Int32))) ∧ cc.slots[1]? = some (.int (nar .byte (45 : Int32))) ∧ cc.slots[2]? = some (.int (nar .byte (108 : Int32))) ∧ cc.slots[3]? = some (.int (nar .byte (105 : Int32))) ∧ cc.slots[4]? = some (.int (nar .byte (116 : Int32))) ∧ cc.slots[5]? = some (.int (nar .byte (116 : Int32))) ∧ cc.slots[6]? = some (.int (nar .byte (108 : Int32))) ∧ cc.slots[7]? = some (.int (nar .byte (101 : Int32))) ∧ cc.slots[8]? = some (.int (nar .byte (45 : Int32))) ∧ cc.slots[9]? = some (.int (nar .byte (98 : Int32))) ∧ cc.slots[10]? = some (.int (nar .byte (105 : Int32))) ∧ cc.slots[11]? = some (.int (nar .byte (116 : Int32))) ∧ cc.slots[12]? = some (.int (nar .byte (45 : Int32))) ∧ cc.slots[13]? = some (.int (nar .byte (108 : Int32))) ∧ cc.slots[14]? = some (.int (nar .byte (111 : Int32))) ∧ cc.slots[15]? = some (.int (nar .byte (110 : Int32))) ∧ cc.slots[16]? = some (.int (nar .byte (103 : Int32))) ∧ cc.slots[17]? = some (.int (nar .byte (45 : Int32))) ∧ cc.slots[18]? = some (.int (nar .byte (115 : Int32))) ∧ cc.slots[19]? = some (.int (nar .byte (116 : Int32))) ∧ cc.slots[20]? = some (.int (nar .byte (114 : Int32))) ∧ cc.slots[21]? = some (.int (nar .byte (105 : Int32))) := ⟨_, A36_u4.same W37, (by rw [sz_set]; exact S36_u4), set_mis B36_u4_0 (by decide), set_mis B36_u4_1 (by decide), set_mis B36_u4_2 (by decide), set_mis B36_u4_3 (by decide), set_mis B36_u4_4 (by decide), set_mis B36_u4_5 (by decide), set_mis B36_u4_6 (by decide), set_mis B36_u4_7 (by decide), set_mis B36_u4_8 (by decide), set_mis B36_u4_9 (by decide), set_mis B36_u4_10 (by decide), set_mis B36_u4_11 (by decide), set_mis B36_u4_12 (by decide), set_mis B36_u4_13 (by decide), set_mis B36_u4_14 (by decide), set_mis B36_u4_15 (by decide), set_mis B36_u4_16 (by decide), set_mis B36_u4_17 (by decide), set_mis B36_u4_18 (by decide), set_mis B36_u4_19 (by decide), set_mis B36_u4_20 (by decide), set_hit (by rw [S36_u4]; decide)⟩
    have M37 := Fr.snoc X37 M36 n_u4
    have Z37 : n0 ≤ h37.size := by rw [W37.size]; exact Z36
    refine s_dup X37 hx hby (n := 321) at_320 rfl rfl ?_
    refine s_bipush X37 hx hby (n := 323) (v := (22 : Int32)) at_321 rfl rfl ?_
    refine s_bipush X37 hx hby (n := 325) (v := (110 : Int32)) at_323 rfl rfl ?_
    refine s_bastoreC X37 hx hby hZ (n := 326) e37 A37_u4 22 (by decide) (by decide) (by rw [S37_u4]; decide) at_325 rfl ?_
    intro T38 h38 X38 e38 W38
    have A38_u1 := A37_u1.other W38 ne_u1_u4
    have A38_u2 := A37_u2.other W38 ne_u2_u4
    have A38_u3 := A37_u3.other W38 ne_u3_u4
    obtain ⟨c38, A38_u4, S38_u4, B38_u4_0, B38_u4_1, B38_u4_2, B38_u4_3, B38_u4_4, B38_u4_5, B38_u4_6, B38_u4_7, B38_u4_8, B38_u4_9, B38_u4_10, B38_u4_11, B38_u4_12, B38_u4_13, B38_u4_14, B38_u4_15, B38_u4_16, B38_u4_17, B38_u4_18, B38_u4_19, B38_u4_20, B38_u4_21, B38_u4_22⟩ : ∃ cc : Cell, Arr Z h38 u4 cc .byte ∧ cc.slots.size = (24 : Int32).toNatClampNeg ∧ cc.slots[0]? = some (.int (nar .byte (97 : Int32))) ∧ cc.slots[1]? = some (.int (nar .byte (45 : Int32))) ∧ cc.slots[2]? = some (.int (nar .byte (108 : Int32))) ∧ cc.slots[3]? = some (.int (nar .byte (105 : Int32))) ∧ cc.slots[4]? = some (.int (nar .byte (116 : Int32))) ∧ cc.slots[5]? = some (.int (nar .byte (116 : Int32))) ∧ cc.slots[6]? = some (.int (nar .byte (108 : Int32))) ∧ cc.slots[7]? = some (.int (nar .byte (101 : Int32))) ∧ cc.slots[8]? = some (.int (nar .byte (45 : Int32))) ∧ cc.slots[9]? = some (.int (nar .byte (98 : Int32))) ∧ cc.slots[10]? = some (.int (nar .byte (105 : Int32))) ∧ cc.slots[11]? = some (.int (nar .byte (116 : Int32))) ∧ cc.slots[12]? = some (.int (nar .byte (45 : Int32))) ∧ cc.slots[13]? = some (.int (nar .byte (108 : Int32))) ∧ cc.slots[14]? = some (.int (nar .byte (111 : Int32))) ∧ cc.slots[15]? = some (.int (nar .byte (110 : Int32))) ∧ cc.slots[16]? = some (.int (nar .byte (103 : Int32))) ∧ cc.slots[17]? = some (.int (nar .byte (45 : Int32))) ∧ cc.slots[18]? = some (.int (nar .byte (115 : Int32))) ∧ cc.slots[19]? = some (.int (nar .byte (116 : Int32))) ∧ cc.slots[20]? = some (.int (nar .byte (114 : Int32))) ∧ cc.slots[21]? = some (.int (nar .byte (105 : Int32))) ∧ cc.slots[22]? = some (.int (nar .byte (110 : Int32))) := ⟨_, A37_u4.same W38, (by rw [sz_set]; exact S37_u4), set_mis B37_u4_0 (by decide), set_mis B37_u4_1 (by decide), set_mis B37_u4_2 (by decide), set_mis B37_u4_3 (by decide), set_mis B37_u4_4 (by decide), set_mis B37_u4_5 (by decide), set_mis B37_u4_6 (by decide), set_mis B37_u4_7 (by decide), set_mis B37_u4_8 (by decide), set_mis B37_u4_9 (by decide), set_mis B37_u4_10 (by decide), set_mis B37_u4_11 (by decide), set_mis B37_u4_12 (by decide), set_mis B37_u4_13 (by decide), set_mis B37_u4_14 (by decide), set_mis B37_u4_15 (by decide), set_mis B37_u4_16 (by decide), set_mis B37_u4_17 (by decide), set_mis B37_u4_18 (by decide), set_mis B37_u4_19 (by decide), set_mis B37_u4_20 (by decide), set_mis B37_u4_21 (by decide), set_hit (by rw [S37_u4]; decide)⟩
    have M38 := Fr.snoc X38 M37 n_u4
    have Z38 : n0 ≤ h38.size := by rw [W38.size]; exact Z37
    refine s_dup X38 hx hby (n := 327) at_326 rfl rfl ?_
    refine s_bipush X38 hx hby (n := 329) (v := (23 : Int32)) at_327 rfl rfl ?_
    refine s_bipush X38 hx hby (n := 331) (v := (103 : Int32)) at_329 rfl rfl ?_
    refine s_bastoreC X38 hx hby hZ (n := 332) e38 A38_u4 23 (by decide) (by decide) (by rw [S38_u4]; decide) at_331 rfl ?_
    intro T39 h39 X39 e39 W39
    have A39_u1 := A38_u1.other W39 ne_u1_u4
    have A39_u2 := A38_u2.other W39 ne_u2_u4
    have A39_u3 := A38_u3.other W39 ne_u3_u4
    obtain ⟨c39, A39_u4, S39_u4, B39_u4_0, B39_u4_1, B39_u4_2, B39_u4_3, B39_u4_4, B39_u4_5, B39_u4_6, B39_u4_7, B39_u4_8, B39_u4_9, B39_u4_10, B39_u4_11, B39_u4_12, B39_u4_13, B39_u4_14, B39_u4_15, B39_u4_16, B39_u4_17, B39_u4_18, B39_u4_19, B39_u4_20, B39_u4_21, B39_u4_22, B39_u4_23⟩ : ∃ cc : Cell, Arr Z h39 u4 cc .byte ∧ cc.slots.size = (24 : Int32).toNatClampNeg ∧ cc.slots[0]? = some (.int (nar .byte (97 : Int32))) ∧ cc.slots[1]? = some (.int (nar .byte (45 : Int32))) ∧ cc.slots[2]? = some (.int (nar .byte (108 : Int32))) ∧ cc.slots[3]? = some (.int (nar .byte (105 : Int32))) ∧ cc.slots[4]? = some (.int (nar .byte (116 : Int32))) ∧ cc.slots[5]? = some (.int (nar .byte (116 : Int32))) ∧ cc.slots[6]? = some (.int (nar .byte (108 : Int32))) ∧ cc.slots[7]? = some (.int (nar .byte (101 : Int32))) ∧ cc.slots[8]? = some (.int (nar .byte (45 : Int32))) ∧ cc.slots[9]? = some (.int (nar .byte (98 : Int32))) ∧ cc.slots[10]? = some (.int (nar .byte (105 : Int32))) ∧ cc.slots[11]? = some (.int (nar .byte (116 : Int32))) ∧ cc.slots[12]? = some (.int (nar .byte (45 : Int32))) ∧ cc.slots[13]? = some (.int (nar .byte (108 : Int32))) ∧ cc.slots[14]? = some (.int (nar .byte (111 : Int32))) ∧ cc.slots[15]? = some (.int (nar .byte (110 : Int32))) ∧ cc.slots[16]? = some (.int (nar .byte (103 : Int32))) ∧ cc.slots[17]? = some (.int (nar .byte (45 : Int32))) ∧ cc.slots[18]? = some (.int (nar .byte (115 : Int32))) ∧ cc.slots[19]? = some (.int (nar .byte (116 : Int32))) ∧ cc.slots[20]? = some (.int (nar .byte (114 : Int32))) ∧ cc.slots[21]? = some (.int (nar .byte (105 : Int32))) ∧ cc.slots[22]? = some (.int (nar .byte (110 : Int32))) ∧ cc.slots[23]? = some (.int (nar .byte (103 : Int32))) := ⟨_, A38_u4.same W39, (by rw [sz_set]; exact S38_u4), set_mis B38_u4_0 (by decide), set_mis B38_u4_1 (by decide), set_mis B38_u4_2 (by decide), set_mis B38_u4_3 (by decide), set_mis B38_u4_4 (by decide), set_mis B38_u4_5 (by decide), set_mis B38_u4_6 (by decide), set_mis B38_u4_7 (by decide), set_mis B38_u4_8 (by decide), set_mis B38_u4_9 (by decide), set_mis B38_u4_10 (by decide), set_mis B38_u4_11 (by decide), set_mis B38_u4_12 (by decide), set_mis B38_u4_13 (by decide), set_mis B38_u4_14 (by decide), set_mis B38_u4_15 (by decide), set_mis B38_u4_16 (by decide), set_mis B38_u4_17 (by decide), set_mis B38_u4_18 (by decide), set_mis B38_u4_19 (by decide), set_mis B38_u4_20 (by decide), set_mis B38_u4_21 (by decide), set_mis B38_u4_22 (by decide), set_hit (by rw [S38_u4]; decide)⟩
    have M39 := Fr.snoc X39 M38 n_u4
    have Z39 : n0 ≤ h39.size := by rw [W39.size]; exact Z38
    refine s_astore X39 hx hby (n := 334) (L' := #[.val (.int p0), .val (.int p1), .val (.int p2), .val (.int p3), .val (.int ln), .val (.int oo), .val (.long mk), .second, .val (.int x8), .val (.ref r9), .val (.ref r10), .val (.int (1 : Int32)), .val (.ref u1), .val (.ref u2), .val (.ref u3), .val (.ref u4), .unset, .unset]) at_332 rfl rfl rfl ?_
    refine s_bipush X39 hx hby (n := 336) (v := (26 : Int32)) at_334 rfl rfl ?_
    refine s_newP X39 hx hby hZ (n := 338) (hw _ (List.mem_of_getElem? (i := 4) rfl)) (ty := .byte) rfl e39 (by decide) 26 (by decide) (by decide) (by decide) (by decide) at_336 rfl ?_
    intro T40 h40 cA40 u5 hou5 X40 e40 E40 A40_u5
    have S40_u5 : (newA cA40 .byte (26 : Int32)).slots.size = (26 : Int32).toNatClampNeg := sz_new _ _ _
    have n_u5 : n0 ≤ u5 := by rw [hou5]; exact Z39
    have ne_u1_u5 : u1 ≠ u5 := by rw [hou5]; exact Nat.ne_of_lt A39_u1.lt
    have A40_u1 := A39_u1.ext E40
    have ne_u2_u5 : u2 ≠ u5 := by rw [hou5]; exact Nat.ne_of_lt A39_u2.lt
    have A40_u2 := A39_u2.ext E40
    have ne_u3_u5 : u3 ≠ u5 := by rw [hou5]; exact Nat.ne_of_lt A39_u3.lt
    have A40_u3 := A39_u3.ext E40
    have ne_u4_u5 : u4 ≠ u5 := by rw [hou5]; exact Nat.ne_of_lt A39_u4.lt
    have A40_u4 := A39_u4.ext E40
    have Z40 : n0 ≤ h40.size := Nat.le_trans Z39 E40.1
    refine s_dup X40 hx hby (n := 339) at_338 rfl rfl ?_
    refine s_iconst X40 hx hby (n := 340) (v := (0 : Int32)) at_339 rfl rfl ?_
    refine s_bipush X40 hx hby (n := 342) (v := (97 : Int32)) at_340 rfl rfl ?_
    refine s_bastoreC X40 hx hby hZ (n := 343) e40 A40_u5 0 (by decide) (by decide) (by rw [S40_u5]; decide) at_342 rfl ?_
    intro T41 h41 X41 e41 W41
    have A41_u1 := A40_u1.other W41 ne_u1_u5
    have A41_u2 := A40_u2.other W41 ne_u2_u5
    have A41_u3 := A40_u3.other W41 ne_u3_u5
    have A41_u4 := A40_u4.other W41 ne_u4_u5
    obtain ⟨c41, A41_u5, S41_u5, B41_u5_0⟩ : ∃ cc : Cell, Arr Z h41 u5 cc .byte ∧ cc.slots.size = (26 : Int32).toNatClampNeg ∧ cc.slots[0]? = some (.int (nar .byte (97 : Int32))) := ⟨_, A40_u5.same W41, (by rw [sz_set]; exact S40_u5), set_hit (by rw [S40_u5]; decide)⟩
    have M41 := Fr.snoc X41 M39 n_u5
    have Z41 : n0 ≤ h41.size := by rw [W41.size]; exact Z40
    refine s_dup X41 hx hby (n := 344) at_343 rfl rfl ?_
    refine s_iconst X41 hx hby (n := 345) (v := (1 : Int32)) at_344 rfl rfl ?_
    refine s_bipush X41 hx hby (n := 347) (v := (45 : Int32)) at_345 rfl rfl ?_
    refine s_bastoreC X41 hx hby hZ (n := 348) e41 A41_u5 1 (by decide) (by decide) (by rw [S41_u5]; decide) at_347 rfl ?_
    intro T42 h42 X42 e42 W42
    have A42_u1 := A41_u1.other W42 ne_u1_u5
    have A42_u2 := A41_u2.other W42 ne_u2_u5
    have A42_u3 := A41_u3.other W42 ne_u3_u5
    have A42_u4 := A41_u4.other W42 ne_u4_u5
    obtain ⟨c42, A42_u5, S42_u5, B42_u5_0, B42_u5_1⟩ : ∃ cc : Cell, Arr Z h42 u5 cc .byte ∧ cc.slots.size = (26 : Int32).toNatClampNeg ∧ cc.slots[0]? = some (.int (nar .byte (97 : Int32))) ∧ cc.slots[1]? = some (.int (nar .byte (45 : Int32))) := ⟨_, A41_u5.same W42, (by rw [sz_set]; exact S41_u5), set_mis B41_u5_0 (by decide), set_hit (by rw [S41_u5]; decide)⟩
    have M42 := Fr.snoc X42 M41 n_u5
    have Z42 : n0 ≤ h42.size := by rw [W42.size]; exact Z41
    refine s_dup X42 hx hby (n := 349) at_348 rfl rfl ?_
    refine s_iconst X42 hx hby (n := 350) (v := (2 : Int32)) at_349 rfl rfl ?_
    refine s_bipush X42 hx hby (n := 352) (v := (108 : Int32)) at_350 rfl rfl ?_
    refine s_bastoreC X42 hx hby hZ (n := 353) e42 A42_u5 2 (by decide) (by decide) (by rw [S42_u5]; decide) at_352 rfl ?_
    intro T43 h43 X43 e43 W43
    have A43_u1 := A42_u1.other W43 ne_u1_u5
    have A43_u2 := A42_u2.other W43 ne_u2_u5
    have A43_u3 := A42_u3.other W43 ne_u3_u5
    have A43_u4 := A42_u4.other W43 ne_u4_u5
    obtain ⟨c43, A43_u5, S43_u5, B43_u5_0, B43_u5_1, B43_u5_2⟩ : ∃ cc : Cell, Arr Z h43 u5 cc .byte ∧ cc.slots.size = (26 : Int32).toNatClampNeg ∧ cc.slots[0]? = some (.int (nar .byte (97 : Int32))) ∧ cc.slots[1]? = some (.int (nar .byte (45 : Int32))) ∧ cc.slots[2]? = some (.int (nar .byte (108 : Int32))) := ⟨_, A42_u5.same W43, (by rw [sz_set]; exact S42_u5), set_mis B42_u5_0 (by decide), set_mis B42_u5_1 (by decide), set_hit (by rw [S42_u5]; decide)⟩
    have M43 := Fr.snoc X43 M42 n_u5
    have Z43 : n0 ≤ h43.size := by rw [W43.size]; exact Z42
    refine s_dup X43 hx hby (n := 354) at_353 rfl rfl ?_
    refine s_iconst X43 hx hby (n := 355) (v := (3 : Int32)) at_354 rfl rfl ?_
    refine s_bipush X43 hx hby (n := 357) (v := (105 : Int32)) at_355 rfl rfl ?_
    refine s_bastoreC X43 hx hby hZ (n := 358) e43 A43_u5 3 (by decide) (by decide) (by rw [S43_u5]; decide) at_357 rfl ?_
    intro T44 h44 X44 e44 W44
    have A44_u1 := A43_u1.other W44 ne_u1_u5
    have A44_u2 := A43_u2.other W44 ne_u2_u5
    have A44_u3 := A43_u3.other W44 ne_u3_u5
    have A44_u4 := A43_u4.other W44 ne_u4_u5
    obtain ⟨c44, A44_u5, S44_u5, B44_u5_0, B44_u5_1, B44_u5_2, B44_u5_3⟩ : ∃ cc : Cell, Arr Z h44 u5 cc .byte ∧ cc.slots.size = (26 : Int32).toNatClampNeg ∧ cc.slots[0]? = some (.int (nar .byte (97 : Int32))) ∧ cc.slots[1]? = some (.int (nar .byte (45 : Int32))) ∧ cc.slots[2]? = some (.int (nar .byte (108 : Int32))) ∧ cc.slots[3]? = some (.int (nar .byte (105 : Int32))) := ⟨_, A43_u5.same W44, (by rw [sz_set]; exact S43_u5), set_mis B43_u5_0 (by decide), set_mis B43_u5_1 (by decide), set_mis B43_u5_2 (by decide), set_hit (by rw [S43_u5]; decide)⟩
    have M44 := Fr.snoc X44 M43 n_u5
    have Z44 : n0 ≤ h44.size := by rw [W44.size]; exact Z43
    refine s_dup X44 hx hby (n := 359) at_358 rfl rfl ?_
    refine s_iconst X44 hx hby (n := 360) (v := (4 : Int32)) at_359 rfl rfl ?_
    refine s_bipush X44 hx hby (n := 362) (v := (116 : Int32)) at_360 rfl rfl ?_
    refine s_bastoreC X44 hx hby hZ (n := 363) e44 A44_u5 4 (by decide) (by decide) (by rw [S44_u5]; decide) at_362 rfl ?_
    intro T45 h45 X45 e45 W45
    have A45_u1 := A44_u1.other W45 ne_u1_u5
    have A45_u2 := A44_u2.other W45 ne_u2_u5
    have A45_u3 := A44_u3.other W45 ne_u3_u5
    have A45_u4 := A44_u4.other W45 ne_u4_u5
    obtain ⟨c45, A45_u5, S45_u5, B45_u5_0, B45_u5_1, B45_u5_2, B45_u5_3, B45_u5_4⟩ : ∃ cc : Cell, Arr Z h45 u5 cc .byte ∧ cc.slots.size = (26 : Int32).toNatClampNeg ∧ cc.slots[0]? = some (.int (nar .byte (97 : Int32))) ∧ cc.slots[1]? = some (.int (nar .byte (45 : Int32))) ∧ cc.slots[2]? = some (.int (nar .byte (108 : Int32))) ∧ cc.slots[3]? = some (.int (nar .byte (105 : Int32))) ∧ cc.slots[4]? = some (.int (nar .byte (116 : Int32))) := ⟨_, A44_u5.same W45, (by rw [sz_set]; exact S44_u5), set_mis B44_u5_0 (by decide), set_mis B44_u5_1 (by decide), set_mis B44_u5_2 (by decide), set_mis B44_u5_3 (by decide), set_hit (by rw [S44_u5]; decide)⟩
    have M45 := Fr.snoc X45 M44 n_u5
    have Z45 : n0 ≤ h45.size := by rw [W45.size]; exact Z44
    refine s_dup X45 hx hby (n := 364) at_363 rfl rfl ?_
    refine s_iconst X45 hx hby (n := 365) (v := (5 : Int32)) at_364 rfl rfl ?_
    refine s_bipush X45 hx hby (n := 367) (v := (116 : Int32)) at_365 rfl rfl ?_
    refine s_bastoreC X45 hx hby hZ (n := 368) e45 A45_u5 5 (by decide) (by decide) (by rw [S45_u5]; decide) at_367 rfl ?_
    intro T46 h46 X46 e46 W46
    have A46_u1 := A45_u1.other W46 ne_u1_u5
    have A46_u2 := A45_u2.other W46 ne_u2_u5
    have A46_u3 := A45_u3.other W46 ne_u3_u5
    have A46_u4 := A45_u4.other W46 ne_u4_u5
    obtain ⟨c46, A46_u5, S46_u5, B46_u5_0, B46_u5_1, B46_u5_2, B46_u5_3, B46_u5_4, B46_u5_5⟩ : ∃ cc : Cell, Arr Z h46 u5 cc .byte ∧ cc.slots.size = (26 : Int32).toNatClampNeg ∧ cc.slots[0]? = some (.int (nar .byte (97 : Int32))) ∧ cc.slots[1]? = some (.int (nar .byte (45 : Int32))) ∧ cc.slots[2]? = some (.int (nar .byte (108 : Int32))) ∧ cc.slots[3]? = some (.int (nar .byte (105 : Int32))) ∧ cc.slots[4]? = some (.int (nar .byte (116 : Int32))) ∧ cc.slots[5]? = some (.int (nar .byte (116 : Int32))) := ⟨_, A45_u5.same W46, (by rw [sz_set]; exact S45_u5), set_mis B45_u5_0 (by decide), set_mis B45_u5_1 (by decide), set_mis B45_u5_2 (by decide), set_mis B45_u5_3 (by decide), set_mis B45_u5_4 (by decide), set_hit (by rw [S45_u5]; decide)⟩
    have M46 := Fr.snoc X46 M45 n_u5
    have Z46 : n0 ≤ h46.size := by rw [W46.size]; exact Z45
    refine s_dup X46 hx hby (n := 369) at_368 rfl rfl ?_
    refine s_bipush X46 hx hby (n := 371) (v := (6 : Int32)) at_369 rfl rfl ?_
    refine s_bipush X46 hx hby (n := 373) (v := (108 : Int32)) at_371 rfl rfl ?_
    refine s_bastoreC X46 hx hby hZ (n := 374) e46 A46_u5 6 (by decide) (by decide) (by rw [S46_u5]; decide) at_373 rfl ?_
    intro T47 h47 X47 e47 W47
    have A47_u1 := A46_u1.other W47 ne_u1_u5
    have A47_u2 := A46_u2.other W47 ne_u2_u5
    have A47_u3 := A46_u3.other W47 ne_u3_u5
    have A47_u4 := A46_u4.other W47 ne_u4_u5
    obtain ⟨c47, A47_u5, S47_u5, B47_u5_0, B47_u5_1, B47_u5_2, B47_u5_3, B47_u5_4, B47_u5_5, B47_u5_6⟩ : ∃ cc : Cell, Arr Z h47 u5 cc .byte ∧ cc.slots.size = (26 : Int32).toNatClampNeg ∧ cc.slots[0]? = some (.int (nar .byte (97 : Int32))) ∧ cc.slots[1]? = some (.int (nar .byte (45 : Int32))) ∧ cc.slots[2]? = some (.int (nar .byte (108 : Int32))) ∧ cc.slots[3]? = some (.int (nar .byte (105 : Int32))) ∧ cc.slots[4]? = some (.int (nar .byte (116 : Int32))) ∧ cc.slots[5]? = some (.int (nar .byte (116 : Int32))) ∧ cc.slots[6]? = some (.int (nar .byte (108 : Int32))) := ⟨_, A46_u5.same W47, (by rw [sz_set]; exact S46_u5), set_mis B46_u5_0 (by decide), set_mis B46_u5_1 (by decide), set_mis B46_u5_2 (by decide), set_mis B46_u5_3 (by decide), set_mis B46_u5_4 (by decide), set_mis B46_u5_5 (by decide), set_hit (by rw [S46_u5]; decide)⟩
    have M47 := Fr.snoc X47 M46 n_u5
    have Z47 : n0 ≤ h47.size := by rw [W47.size]; exact Z46
    refine s_dup X47 hx hby (n := 375) at_374 rfl rfl ?_
    refine s_bipush X47 hx hby (n := 377) (v := (7 : Int32)) at_375 rfl rfl ?_
    refine s_bipush X47 hx hby (n := 379) (v := (101 : Int32)) at_377 rfl rfl ?_
    refine s_bastoreC X47 hx hby hZ (n := 380) e47 A47_u5 7 (by decide) (by decide) (by rw [S47_u5]; decide) at_379 rfl ?_
    intro T48 h48 X48 e48 W48
    have A48_u1 := A47_u1.other W48 ne_u1_u5
    have A48_u2 := A47_u2.other W48 ne_u2_u5
    have A48_u3 := A47_u3.other W48 ne_u3_u5
    have A48_u4 := A47_u4.other W48 ne_u4_u5
    obtain ⟨c48, A48_u5, S48_u5, B48_u5_0, B48_u5_1, B48_u5_2, B48_u5_3, B48_u5_4, B48_u5_5, B48_u5_6, B48_u5_7⟩ : ∃ cc : Cell, Arr Z h48 u5 cc .byte ∧ cc.slots.size = (26 : Int32).toNatClampNeg ∧ cc.slots[0]? = some (.int (nar .byte (97 : Int32))) ∧ cc.slots[1]? = some (.int (nar .byte (45 : Int32))) ∧ cc.slots[2]? = some (.int (nar .byte (108 : Int32))) ∧ cc.slots[3]? = some (.int (nar .byte (105 : Int32))) ∧ cc.slots[4]? = some (.int (nar .byte (116 : Int32))) ∧ cc.slots[5]? = some (.int (nar .byte (116 : Int32))) ∧ cc.slots[6]? = some (.int (nar .byte (108 : Int32))) ∧ cc.slots[7]? = some (.int (nar .byte (101 : Int32))) := ⟨_, A47_u5.same W48, (by rw [sz_set]; exact S47_u5), set_mis B47_u5_0 (by decide), set_mis B47_u5_1 (by decide), set_mis B47_u5_2 (by decide), set_mis B47_u5_3 (by decide), set_mis B47_u5_4 (by decide), set_mis B47_u5_5 (by decide), set_mis B47_u5_6 (by decide), set_hit (by rw [S47_u5]; decide)⟩
    have M48 := Fr.snoc X48 M47 n_u5
    have Z48 : n0 ≤ h48.size := by rw [W48.size]; exact Z47
    refine s_dup X48 hx hby (n := 381) at_380 rfl rfl ?_
    refine s_bipush X48 hx hby (n := 383) (v := (8 : Int32)) at_381 rfl rfl ?_
    refine s_bipush X48 hx hby (n := 385) (v := (45 : Int32)) at_383 rfl rfl ?_
    refine s_bastoreC X48 hx hby hZ (n := 386) e48 A48_u5 8 (by decide) (by decide) (by rw [S48_u5]; decide) at_385 rfl ?_
    intro T49 h49 X49 e49 W49
    have A49_u1 := A48_u1.other W49 ne_u1_u5
    have A49_u2 := A48_u2.other W49 ne_u2_u5
    have A49_u3 := A48_u3.other W49 ne_u3_u5
    have A49_u4 := A48_u4.other W49 ne_u4_u5
    obtain ⟨c49, A49_u5, S49_u5, B49_u5_0, B49_u5_1, B49_u5_2, B49_u5_3, B49_u5_4, B49_u5_5, B49_u5_6, B49_u5_7, B49_u5_8⟩ : ∃ cc : Cell, Arr Z h49 u5 cc .byte ∧ cc.slots.size = (26 : Int32).toNatClampNeg ∧ cc.slots[0]? = some (.int (nar .byte (97 : Int32))) ∧ cc.slots[1]? = some (.int (nar .byte (45 : Int32))) ∧ cc.slots[2]? = some (.int (nar .byte (108 : Int32))) ∧ cc.slots[3]? = some (.int (nar .byte (105 : Int32))) ∧ cc.slots[4]? = some (.int (nar .byte (116 : Int32))) ∧ cc.slots[5]? = some (.int (nar .byte (116 : Int32))) ∧ cc.slots[6]? = some (.int (nar .byte (108 : Int32))) ∧ cc.slots[7]? = some (.int (nar .byte (101 : Int32))) ∧ cc.slots[8]? = some (.int (nar .byte (45 : Int32))) := ⟨_, A48_u5.same W49, (by rw [sz_set]; exact S48_u5), set_mis B48_u5_0 (by decide), set_mis B48_u5_1 (by decide), set_mis B48_u5_2 (by decide), set_mis B48_u5_3 (by decide), set_mis B48_u5_4 (by decide), set_mis B48_u5_5 (by decide), set_mis B48_u5_6 (by decide), set_mis B48_u5_7 (by decide), set_hit (by rw [S48_u5]; decide)⟩
    have M49 := Fr.snoc X49 M48 n_u5
    have Z49 : n0 ≤ h49.size := by rw [W49.size]; exact Z48
    refine s_dup X49 hx hby (n := 387) at_386 rfl rfl ?_
    refine s_bipush X49 hx hby (n := 389) (v := (9 : Int32)) at_387 rfl rfl ?_
    refine s_bipush X49 hx hby (n := 391) (v := (98 : Int32)) at_389 rfl rfl ?_
    refine s_bastoreC X49 hx hby hZ (n := 392) e49 A49_u5 9 (by decide) (by decide) (by rw [S49_u5]; decide) at_391 rfl ?_
    intro T50 h50 X50 e50 W50
    have A50_u1 := A49_u1.other W50 ne_u1_u5
    have A50_u2 := A49_u2.other W50 ne_u2_u5
    have A50_u3 := A49_u3.other W50 ne_u3_u5
    have A50_u4 := A49_u4.other W50 ne_u4_u5
    obtain ⟨c50, A50_u5, S50_u5, B50_u5_0, B50_u5_1, B50_u5_2, B50_u5_3, B50_u5_4, B50_u5_5, B50_u5_6, B50_u5_7, B50_u5_8, B50_u5_9⟩ : ∃ cc : Cell, Arr Z h50 u5 cc .byte ∧ cc.slots.size = (26 : Int32).toNatClampNeg ∧ cc.slots[0]? = some (.int (nar .byte (97 : Int32))) ∧ cc.slots[1]? = some (.int (nar .byte (45 : Int32))) ∧ cc.slots[2]? = some (.int (nar .byte (108 : Int32))) ∧ cc.slots[3]? = some (.int (nar .byte (105 : Int32))) ∧ cc.slots[4]? = some (.int (nar .byte (116 : Int32))) ∧ cc.slots[5]? = some (.int (nar .byte (116 : Int32))) ∧ cc.slots[6]? = some (.int (nar .byte (108 : Int32))) ∧ cc.slots[7]? = some (.int (nar .byte (101 : Int32))) ∧ cc.slots[8]? = some (.int (nar .byte (45 : Int32))) ∧ cc.slots[9]? = some (.int (nar .byte (98 : Int32))) := ⟨_, A49_u5.same W50, (by rw [sz_set]; exact S49_u5), set_mis B49_u5_0 (by decide), set_mis B49_u5_1 (by decide), set_mis B49_u5_2 (by decide), set_mis B49_u5_3 (by decide), set_mis B49_u5_4 (by decide), set_mis B49_u5_5 (by decide), set_mis B49_u5_6 (by decide), set_mis B49_u5_7 (by decide), set_mis B49_u5_8 (by decide), set_hit (by rw [S49_u5]; decide)⟩
    have M50 := Fr.snoc X50 M49 n_u5
    have Z50 : n0 ≤ h50.size := by rw [W50.size]; exact Z49
    refine s_dup X50 hx hby (n := 393) at_392 rfl rfl ?_
    refine s_bipush X50 hx hby (n := 395) (v := (10 : Int32)) at_393 rfl rfl ?_
    refine s_bipush X50 hx hby (n := 397) (v := (105 : Int32)) at_395 rfl rfl ?_
    refine s_bastoreC X50 hx hby hZ (n := 398) e50 A50_u5 10 (by decide) (by decide) (by rw [S50_u5]; decide) at_397 rfl ?_
    intro T51 h51 X51 e51 W51
    have A51_u1 := A50_u1.other W51 ne_u1_u5
    have A51_u2 := A50_u2.other W51 ne_u2_u5
    have A51_u3 := A50_u3.other W51 ne_u3_u5
    have A51_u4 := A50_u4.other W51 ne_u4_u5
    obtain ⟨c51, A51_u5, S51_u5, B51_u5_0, B51_u5_1, B51_u5_2, B51_u5_3, B51_u5_4, B51_u5_5, B51_u5_6, B51_u5_7, B51_u5_8, B51_u5_9, B51_u5_10⟩ : ∃ cc : Cell, Arr Z h51 u5 cc .byte ∧ cc.slots.size = (26 : Int32).toNatClampNeg ∧ cc.slots[0]? = some (.int (nar .byte (97 : Int32))) ∧ cc.slots[1]? = some (.int (nar .byte (45 : Int32))) ∧ cc.slots[2]? = some (.int (nar .byte (108 : Int32))) ∧ cc.slots[3]? = some (.int (nar .byte (105 : Int32))) ∧ cc.slots[4]? = some (.int (nar .byte (116 : Int32))) ∧ cc.slots[5]? = some (.int (nar .byte (116 : Int32))) ∧ cc.slots[6]? = some (.int (nar .byte (108 : Int32))) ∧ cc.slots[7]? = some (.int (nar .byte (101 : Int32))) ∧ cc.slots[8]? = some (.int (nar .byte (45 : Int32))) ∧ cc.slots[9]? = some (.int (nar .byte (98 : Int32))) ∧ cc.slots[10]? = some (.int (nar .byte (105 : Int32))) := ⟨_, A50_u5.same W51, (by rw [sz_set]; exact S50_u5), set_mis B50_u5_0 (by decide), set_mis B50_u5_1 (by decide), set_mis B50_u5_2 (by decide), set_mis B50_u5_3 (by decide), set_mis B50_u5_4 (by decide), set_mis B50_u5_5 (by decide), set_mis B50_u5_6 (by decide), set_mis B50_u5_7 (by decide), set_mis B50_u5_8 (by decide), set_mis B50_u5_9 (by decide), set_hit (by rw [S50_u5]; decide)⟩
    have M51 := Fr.snoc X51 M50 n_u5
    have Z51 : n0 ≤ h51.size := by rw [W51.size]; exact Z50
    refine s_dup X51 hx hby (n := 399) at_398 rfl rfl ?_
    refine s_bipush X51 hx hby (n := 401) (v := (11 : Int32)) at_399 rfl rfl ?_
    refine s_bipush X51 hx hby (n := 403) (v := (116 : Int32)) at_401 rfl rfl ?_
    refine s_bastoreC X51 hx hby hZ (n := 404) e51 A51_u5 11 (by decide) (by decide) (by rw [S51_u5]; decide) at_403 rfl ?_
    intro T52 h52 X52 e52 W52
    have A52_u1 := A51_u1.other W52 ne_u1_u5
    have A52_u2 := A51_u2.other W52 ne_u2_u5
    have A52_u3 := A51_u3.other W52 ne_u3_u5
    have A52_u4 := A51_u4.other W52 ne_u4_u5
    obtain ⟨c52, A52_u5, S52_u5, B52_u5_0, B52_u5_1, B52_u5_2, B52_u5_3, B52_u5_4, B52_u5_5, B52_u5_6, B52_u5_7, B52_u5_8, B52_u5_9, B52_u5_10, B52_u5_11⟩ : ∃ cc : Cell, Arr Z h52 u5 cc .byte ∧ cc.slots.size = (26 : Int32).toNatClampNeg ∧ cc.slots[0]? = some (.int (nar .byte (97 : Int32))) ∧ cc.slots[1]? = some (.int (nar .byte (45 : Int32))) ∧ cc.slots[2]? = some (.int (nar .byte (108 : Int32))) ∧ cc.slots[3]? = some (.int (nar .byte (105 : Int32))) ∧ cc.slots[4]? = some (.int (nar .byte (116 : Int32))) ∧ cc.slots[5]? = some (.int (nar .byte (116 : Int32))) ∧ cc.slots[6]? = some (.int (nar .byte (108 : Int32))) ∧ cc.slots[7]? = some (.int (nar .byte (101 : Int32))) ∧ cc.slots[8]? = some (.int (nar .byte (45 : Int32))) ∧ cc.slots[9]? = some (.int (nar .byte (98 : Int32))) ∧ cc.slots[10]? = some (.int (nar .byte (105 : Int32))) ∧ cc.slots[11]? = some (.int (nar .byte (116 : Int32))) := ⟨_, A51_u5.same W52, (by rw [sz_set]; exact S51_u5), set_mis B51_u5_0 (by decide), set_mis B51_u5_1 (by decide), set_mis B51_u5_2 (by decide), set_mis B51_u5_3 (by decide), set_mis B51_u5_4 (by decide), set_mis B51_u5_5 (by decide), set_mis B51_u5_6 (by decide), set_mis B51_u5_7 (by decide), set_mis B51_u5_8 (by decide), set_mis B51_u5_9 (by decide), set_mis B51_u5_10 (by decide), set_hit (by rw [S51_u5]; decide)⟩
    have M52 := Fr.snoc X52 M51 n_u5
    have Z52 : n0 ≤ h52.size := by rw [W52.size]; exact Z51
    refine s_dup X52 hx hby (n := 405) at_404 rfl rfl ?_
    refine s_bipush X52 hx hby (n := 407) (v := (12 : Int32)) at_405 rfl rfl ?_
    refine s_bipush X52 hx hby (n := 409) (v := (45 : Int32)) at_407 rfl rfl ?_
    refine s_bastoreC X52 hx hby hZ (n := 410) e52 A52_u5 12 (by decide) (by decide) (by rw [S52_u5]; decide) at_409 rfl ?_
    intro T53 h53 X53 e53 W53
    have A53_u1 := A52_u1.other W53 ne_u1_u5
    have A53_u2 := A52_u2.other W53 ne_u2_u5
    have A53_u3 := A52_u3.other W53 ne_u3_u5
    have A53_u4 := A52_u4.other W53 ne_u4_u5
    obtain ⟨c53, A53_u5, S53_u5, B53_u5_0, B53_u5_1, B53_u5_2, B53_u5_3, B53_u5_4, B53_u5_5, B53_u5_6, B53_u5_7, B53_u5_8, B53_u5_9, B53_u5_10, B53_u5_11, B53_u5_12⟩ : ∃ cc : Cell, Arr Z h53 u5 cc .byte ∧ cc.slots.size = (26 : Int32).toNatClampNeg ∧ cc.slots[0]? = some (.int (nar .byte (97 : Int32))) ∧ cc.slots[1]? = some (.int (nar .byte (45 : Int32))) ∧ cc.slots[2]? = some (.int (nar .byte (108 : Int32))) ∧ cc.slots[3]? = some (.int (nar .byte (105 : Int32))) ∧ cc.slots[4]? = some (.int (nar .byte (116 : Int32))) ∧ cc.slots[5]? = some (.int (nar .byte (116 : Int32))) ∧ cc.slots[6]? = some (.int (nar .byte (108 : Int32))) ∧ cc.slots[7]? = some (.int (nar .byte (101 : Int32))) ∧ cc.slots[8]? = some (.int (nar .byte (45 : Int32))) ∧ cc.slots[9]? = some (.int (nar .byte (98 : Int32))) ∧ cc.slots[10]? = some (.int (nar .byte (105 : Int32))) ∧ cc.slots[11]? = some (.int (nar .byte (116 : Int32))) ∧ cc.slots[12]? = some (.int (nar .byte (45 : Int32))) := ⟨_, A52_u5.same W53, (by rw [sz_set]; exact S52_u5), set_mis B52_u5_0 (by decide), set_mis B52_u5_1 (by decide), set_mis B52_u5_2 (by decide), set_mis B52_u5_3 (by decide), set_mis B52_u5_4 (by decide), set_mis B52_u5_5 (by decide), set_mis B52_u5_6 (by decide), set_mis B52_u5_7 (by decide), set_mis B52_u5_8 (by decide), set_mis B52_u5_9 (by decide), set_mis B52_u5_10 (by decide), set_mis B52_u5_11 (by decide), set_hit (by rw [S52_u5]; decide)⟩
    have M53 := Fr.snoc X53 M52 n_u5
    have Z53 : n0 ≤ h53.size := by rw [W53.size]; exact Z52
    refine s_dup X53 hx hby (n := 411) at_410 rfl rfl ?_
    refine s_bipush X53 hx hby (n := 413) (v := (13 : Int32)) at_411 rfl rfl ?_
    refine s_bipush X53 hx hby (n := 415) (v := (108 : Int32)) at_413 rfl rfl ?_
    refine s_bastoreC X53 hx hby hZ (n := 416) e53 A53_u5 13 (by decide) (by decide) (by rw [S53_u5]; decide) at_415 rfl ?_
    intro T54 h54 X54 e54 W54
    have A54_u1 := A53_u1.other W54 ne_u1_u5
    have A54_u2 := A53_u2.other W54 ne_u2_u5
    have A54_u3 := A53_u3.other W54 ne_u3_u5
    have A54_u4 := A53_u4.other W54 ne_u4_u5
    obtain ⟨c54, A54_u5, S54_u5, B54_u5_0, B54_u5_1, B54_u5_2, B54_u5_3, B54_u5_4, B54_u5_5, B54_u5_6, B54_u5_7, B54_u5_8, B54_u5_9, B54_u5_10, B54_u5_11, B54_u5_12, B54_u5_13⟩ : ∃ cc : Cell, Arr Z h54 u5 cc .byte ∧ cc.slots.size = (26 : Int32).toNatClampNeg ∧ cc.slots[0]? = some (.int (nar .byte (97 : Int32))) ∧ cc.slots[1]? = some (.int (nar .byte (45 : Int32))) ∧ cc.slots[2]? = some (.int (nar .byte (108 : Int32))) ∧ cc.slots[3]? = some (.int (nar .byte (105 : Int32))) ∧ cc.slots[4]? = some (.int (nar .byte (116 : Int32))) ∧ cc.slots[5]? = some (.int (nar .byte (116 : Int32))) ∧ cc.slots[6]? = some (.int (nar .byte (108 : Int32))) ∧ cc.slots[7]? = some (.int (nar .byte (101 : Int32))) ∧ cc.slots[8]? = some (.int (nar .byte (45 : Int32))) ∧ cc.slots[9]? = some (.int (nar .byte (98 : Int32))) ∧ cc.slots[10]? = some (.int (nar .byte (105 : Int32))) ∧ cc.slots[11]? = some (.int (nar .byte (116 : Int32))) ∧ cc.slots[12]? = some (.int (nar .byte (45 : Int32))) ∧ cc.slots[13]? = some (.int (nar .byte (108 : Int32))) := ⟨_, A53_u5.same W54, (by rw [sz_set]; exact S53_u5), set_mis B53_u5_0 (by decide), set_mis B53_u5_1 (by decide), set_mis B53_u5_2 (by decide), set_mis B53_u5_3 (by decide), set_mis B53_u5_4 (by decide), set_mis B53_u5_5 (by decide), set_mis B53_u5_6 (by decide), set_mis B53_u5_7 (by decide), set_mis B53_u5_8 (by decide), set_mis B53_u5_9 (by decide), set_mis B53_u5_10 (by decide), set_mis B53_u5_11 (by decide), set_mis B53_u5_12 (by decide), set_hit (by rw [S53_u5]; decide)⟩
    have M54 := Fr.snoc X54 M53 n_u5
    have Z54 : n0 ≤ h54.size := by rw [W54.size]; exact Z53
    refine s_dup X54 hx hby (n := 417) at_416 rfl rfl ?_
    refine s_bipush X54 hx hby (n := 419) (v := (14 : Int32)) at_417 rfl rfl ?_
    refine s_bipush X54 hx hby (n := 421) (v := (111 : Int32)) at_419 rfl rfl ?_
    refine s_bastoreC X54 hx hby hZ (n := 422) e54 A54_u5 14 (by decide) (by decide) (by rw [S54_u5]; decide) at_421 rfl ?_
    intro T55 h55 X55 e55 W55
    have A55_u1 := A54_u1.other W55 ne_u1_u5
    have A55_u2 := A54_u2.other W55 ne_u2_u5
    have A55_u3 := A54_u3.other W55 ne_u3_u5
    have A55_u4 := A54_u4.other W55 ne_u4_u5
    obtain ⟨c55, A55_u5, S55_u5, B55_u5_0, B55_u5_1, B55_u5_2, B55_u5_3, B55_u5_4, B55_u5_5, B55_u5_6, B55_u5_7, B55_u5_8, B55_u5_9, B55_u5_10, B55_u5_11, B55_u5_12, B55_u5_13, B55_u5_14⟩ : ∃ cc : Cell, Arr Z h55 u5 cc .byte ∧ cc.slots.size = (26 : Int32).toNatClampNeg ∧ cc.slots[0]? = some (.int (nar .byte (97 : Int32))) ∧ cc.slots[1]? = some (.int (nar .byte (45 : Int32))) ∧ cc.slots[2]? = some (.int (nar .byte (108 : Int32))) ∧ cc.slots[3]? = some (.int (nar .byte (105 : Int32))) ∧ cc.slots[4]? = some (.int (nar .byte (116 : Int32))) ∧ cc.slots[5]? = some (.int (nar .byte (116 : Int32))) ∧ cc.slots[6]? = some (.int (nar .byte (108 : Int32))) ∧ cc.slots[7]? = some (.int (nar .byte (101 : Int32))) ∧ cc.slots[8]? = some (.int (nar .byte (45 : Int32))) ∧ cc.slots[9]? = some (.int (nar .byte (98 : Int32))) ∧ cc.slots[10]? = some (.int (nar .byte (105 : Int32))) ∧ cc.slots[11]? = some (.int (nar .byte (116 : Int32))) ∧ cc.slots[12]? = some (.int (nar .byte (45 : Int32))) ∧ cc.slots[13]? = some (.int (nar .byte (108 : Int32))) ∧ cc.slots[14]? = some (.int (nar .byte (111 : Int32))) := ⟨_, A54_u5.same W55, (by rw [sz_set]; exact S54_u5), set_mis B54_u5_0 (by decide), set_mis B54_u5_1 (by decide), set_mis B54_u5_2 (by decide), set_mis B54_u5_3 (by decide), set_mis B54_u5_4 (by decide), set_mis B54_u5_5 (by decide), set_mis B54_u5_6 (by decide), set_mis B54_u5_7 (by decide), set_mis B54_u5_8 (by decide), set_mis B54_u5_9 (by decide), set_mis B54_u5_10 (by decide), set_mis B54_u5_11 (by decide), set_mis B54_u5_12 (by decide), set_mis B54_u5_13 (by decide), set_hit (by rw [S54_u5]; decide)⟩
    have M55 := Fr.snoc X55 M54 n_u5
    have Z55 : n0 ≤ h55.size := by rw [W55.size]; exact Z54
    refine s_dup X55 hx hby (n := 423) at_422 rfl rfl ?_
    refine s_bipush X55 hx hby (n := 425) (v := (15 : Int32)) at_423 rfl rfl ?_
    refine s_bipush X55 hx hby (n := 427) (v := (110 : Int32)) at_425 rfl rfl ?_
    refine s_bastoreC X55 hx hby hZ (n := 428) e55 A55_u5 15 (by decide) (by decide) (by rw [S55_u5]; decide) at_427 rfl ?_
    intro T56 h56 X56 e56 W56
    have A56_u1 := A55_u1.other W56 ne_u1_u5
    have A56_u2 := A55_u2.other W56 ne_u2_u5
    have A56_u3 := A55_u3.other W56 ne_u3_u5
    have A56_u4 := A55_u4.other W56 ne_u4_u5
    obtain ⟨c56, A56_u5, S56_u5, B56_u5_0, B56_u5_1, B56_u5_2, B56_u5_3, B56_u5_4, B56_u5_5, B56_u5_6, B56_u5_7, B56_u5_8, B56_u5_9, B56_u5_10, B56_u5_11, B56_u5_12, B56_u5_13, B56_u5_14, B56_u5_15⟩ : ∃ cc : Cell, Arr Z h56 u5 cc .byte ∧ cc.slots.size = (26 : Int32).toNatClampNeg ∧ cc.slots[0]? = some (.int (nar .byte (97 : Int32))) ∧ cc.slots[1]? = some (.int (nar .byte (45 : Int32))) ∧ cc.slots[2]? = some (.int (nar .byte (108 : Int32))) ∧ cc.slots[3]? = some (.int (nar .byte (105 : Int32))) ∧ cc.slots[4]? = some (.int (nar .byte (116 : Int32))) ∧ cc.slots[5]? = some (.int (nar .byte (116 : Int32))) ∧ cc.slots[6]? = some (.int (nar .byte (108 : Int32))) ∧ cc.slots[7]? = some (.int (nar .byte (101 : Int32))) ∧ cc.slots[8]? = some (.int (nar .byte (45 : Int32))) ∧ cc.slots[9]? = some (.int (nar .byte (98 : Int32))) ∧ cc.slots[10]? = some (.int (nar .byte (105 : Int32))) ∧ cc.slots[11]? = some (.int (nar .byte (116 : Int32))) ∧ cc.slots[12]? = some (.int (nar .byte (45 : Int32))) ∧ cc.slots[13]? = some (.int (nar .byte (108 : Int32))) ∧ cc.slots[14]? = some (.int (nar .byte (111 : Int32))) ∧ cc.slots[15]? = some (.int (nar .byte (110 : Int32))) := ⟨_, A55_u5.same W56, (by rw [sz_set]; exact S55_u5), set_mis B55_u5_0 (by decide), set_mis B55_u5_1 (by decide), set_mis B55_u5_2 (by decide), set_mis B55_u5_3 (by decide), set_mis B55_u5_4 (by decide), set_mis B55_u5_5 (by decide), set_mis B55_u5_6 (by decide), set_mis B55_u5_7 (by decide), set_mis B55_u5_8 (by decide), set_mis B55_u5_9 (by decide), set_mis B55_u5_10 (by decide), set_mis B55_u5_11 (by decide), set_mis B55_u5_12 (by decide), set_mis B55_u5_13 (by decide), set_mis B55_u5_14 (by decide), set_hit (by rw [S55_u5]; decide)⟩
    have M56 := Fr.snoc X56 M55 n_u5
    have Z56 : n0 ≤ h56.size := by rw [W56.size]; exact Z55
    refine s_dup X56 hx hby (n := 429) at_428 rfl rfl ?_
    refine s_bipush X56 hx hby (n := 431) (v := (16 : Int32)) at_429 rfl rfl ?_
    refine s_bipush X56 hx hby (n := 433) (v := (103 : Int32)) at_431 rfl rfl ?_
    refine s_bastoreC X56 hx hby hZ (n := 434) e56 A56_u5 16 (by decide) (by decide) (by rw [S56_u5]; decide) at_433 rfl ?_
    intro T57 h57 X57 e57 W57
    have A57_u1 := A56_u1.other W57 ne_u1_u5
    have A57_u2 := A56_u2.other W57 ne_u2_u5
    have A57_u3 := A56_u3.other W57 ne_u3_u5
    have A57_u4 := A56_u4.other W57 ne_u4_u5
    obtain ⟨c57, A57_u5, S57_u5, B57_u5_0, B57_u5_1, B57_u5_2, B57_u5_3, B57_u5_4, B57_u5_5, B57_u5_6, B57_u5_7, B57_u5_8, B57_u5_9, B57_u5_10, B57_u5_11, B57_u5_12, B57_u5_13, B57_u5_14, B57_u5_15, B57_u5_16⟩ : ∃ cc : Cell, Arr Z h57 u5 cc .byte ∧ cc.slots.size = (26 : Int32).toNatClampNeg ∧ cc.slots[0]? = some (.int (nar .byte (97 : Int32))) ∧ cc.slots[1]? = some (.int (nar .byte (45 : Int32))) ∧ cc.slots[2]? = some (.int (nar .byte (108 : Int32))) ∧ cc.slots[3]? = some (.int (nar .byte (105 : Int32))) ∧ cc.slots[4]? = some (.int (nar .byte (116 : Int32))) ∧ cc.slots[5]? = some (.int (nar .byte (116 : Int32))) ∧ cc.slots[6]? = some (.int (nar .byte (108 : Int32))) ∧ cc.slots[7]? = some (.int (nar .byte (101 : Int32))) ∧ cc.slots[8]? = some (.int (nar .byte (45 : Int32))) ∧ cc.slots[9]? = some (.int (nar .byte (98 : Int32))) ∧ cc.slots[10]? = some (.int (nar .byte (105 : Int32))) ∧ cc.slots[11]? = some (.int (nar .byte (116 : Int32))) ∧ cc.slots[12]? = some (.int (nar .byte (45 : Int32))) ∧ cc.slots[13]? = some (.int (nar .byte (108 : Int32))) ∧ cc.slots[14]? = some (.int (nar .byte (111 : Int32))) ∧ cc.slots[15]? = some (.int (nar .byte (110 : Int32))) ∧ cc.slots[16]? = some (.int (nar .byte (103 : Int32))) := ⟨_, A56_u5.same W57, (by rw [sz_set]; exact S56_u5), set_mis B56_u5_0 (by decide), set_mis B56_u5_1 (by decide), set_mis B56_u5_2 (by decide), set_mis B56_u5_3 (by decide), set_mis B56_u5_4 (by decide), set_mis B56_u5_5 (by decide), set_mis B56_u5_6 (by decide), set_mis B56_u5_7 (by decide), set_mis B56_u5_8 (by decide), set_mis B56_u5_9 (by decide), set_mis B56_u5_10 (by decide), set_mis B56_u5_11 (by decide), set_mis B56_u5_12 (by decide), set_mis B56_u5_13 (by decide), set_mis B56_u5_14 (by decide), set_mis B56_u5_15 (by decide), set_hit (by rw [S56_u5]; decide)⟩
    have M57 := Fr.snoc X57 M56 n_u5
    have Z57 : n0 ≤ h57.size := by rw [W57.size]; exact Z56
    refine s_dup X57 hx hby (n := 435) at_434 rfl rfl ?_
    refine s_bipush X57 hx hby (n := 437) (v := (17 : Int32)) at_435 rfl rfl ?_
    refine s_bipush X57 hx hby (n := 439) (v := (101 : Int32)) at_437 rfl rfl ?_
    refine s_bastoreC X57 hx hby hZ (n := 440) e57 A57_u5 17 (by decide) (by decide) (by rw [S57_u5]; decide) at_439 rfl ?_
    intro T58 h58 X58 e58 W58
    have A58_u1 := A57_u1.other W58 ne_u1_u5
    have A58_u2 := A57_u2.other W58 ne_u2_u5
    have A58_u3 := A57_u3.other W58 ne_u3_u5
    have A58_u4 := A57_u4.other W58 ne_u4_u5
    obtain ⟨c58, A58_u5, S58_u5, B58_u5_0, B58_u5_1, B58_u5_2, B58_u5_3, B58_u5_4, B58_u5_5, B58_u5_6, B58_u5_7, B58_u5_8, B58_u5_9, B58_u5_10, B58_u5_11, B58_u5_12, B58_u5_13, B58_u5_14, B58_u5_15, B58_u5_16, B58_u5_17⟩ : ∃ cc : Cell, Arr Z h58 u5 cc .byte ∧ cc.slots.size = (26 : Int32).toNatClampNeg ∧ cc.slots[0]? = some (.int (nar .byte (97 : Int32))) ∧ cc.slots[1]? = some (.int (nar .byte (45 : Int32))) ∧ cc.slots[2]? = some (.int (nar .byte (108 : Int32))) ∧ cc.slots[3]? = some (.int (nar .byte (105 : Int32))) ∧ cc.slots[4]? = some (.int (nar .byte (116 : Int32))) ∧ cc.slots[5]? = some (.int (nar .byte (116 : Int32))) ∧ cc.slots[6]? = some (.int (nar .byte (108 : Int32))) ∧ cc.slots[7]? = some (.int (nar .byte (101 : Int32))) ∧ cc.slots[8]? = some (.int (nar .byte (45 : Int32))) ∧ cc.slots[9]? = some (.int (nar .byte (98 : Int32))) ∧ cc.slots[10]? = some (.int (nar .byte (105 : Int32))) ∧ cc.slots[11]? = some (.int (nar .byte (116 : Int32))) ∧ cc.slots[12]? = some (.int (nar .byte (45 : Int32))) ∧ cc.slots[13]? = some (.int (nar .byte (108 : Int32))) ∧ cc.slots[14]? = some (.int (nar .byte (111 : Int32))) ∧ cc.slots[15]? = some (.int (nar .byte (110 : Int32))) ∧ cc.slots[16]? = some (.int (nar .byte (103 : Int32))) ∧ cc.slots[17]? = some (.int (nar .byte (101 : Int32))) := ⟨_, A57_u5.same W58, (by rw [sz_set]; exact S57_u5), set_mis B57_u5_0 (by decide), set_mis B57_u5_1 (by decide), set_mis B57_u5_2 (by decide), set_mis B57_u5_3 (by decide), set_mis B57_u5_4 (by decide), set_mis B57_u5_5 (by decide), set_mis B57_u5_6 (by decide), set_mis B57_u5_7 (by decide), set_mis B57_u5_8 (by decide), set_mis B57_u5_9 (by decide), set_mis B57_u5_10 (by decide), set_mis B57_u5_11 (by decide), set_mis B57_u5_12 (by decide), set_mis B57_u5_13 (by decide), set_mis B57_u5_14 (by decide), set_mis B57_u5_15 (by decide), set_mis B57_u5_16 (by decide), set_hit (by rw [S57_u5]; decide)⟩
    have M58 := Fr.snoc X58 M57 n_u5
    have Z58 : n0 ≤ h58.size := by rw [W58.size]; exact Z57
    refine s_dup X58 hx hby (n := 441) at_440 rfl rfl ?_
    refine s_bipush X58 hx hby (n := 443) (v := (18 : Int32)) at_441 rfl rfl ?_
    refine s_bipush X58 hx hby (n := 445) (v := (114 : Int32)) at_443 rfl rfl ?_
    refine s_bastoreC X58 hx hby hZ (n := 446) e58 A58_u5 18 (by decide) (by decide) (by rw [S58_u5]; decide) at_445 rfl ?_
    intro T59 h59 X59 e59 W59
    have A59_u1 := A58_u1.other W59 ne_u1_u5
    have A59_u2 := A58_u2.other W59 ne_u2_u5
    have A59_u3 := A58_u3.other W59 ne_u3_u5
    have A59_u4 := A58_u4.other W59 ne_u4_u5
    obtain ⟨c59, A59_u5, S59_u5, B59_u5_0, B59_u5_1, B59_u5_2, B59_u5_3, B59_u5_4, B59_u5_5, B59_u5_6, B59_u5_7, B59_u5_8, B59_u5_9, B59_u5_10, B59_u5_11, B59_u5_12, B59_u5_13, B59_u5_14, B59_u5_15, B59_u5_16, B59_u5_17, B59_u5_18⟩ : ∃ cc : Cell, Arr Z h59 u5 cc .byte ∧ cc.slots.size = (26 : Int32).toNatClampNeg ∧ cc.slots[0]? = some (.int (nar .byte (97 : Int32))) ∧ cc.slots[1]? = some (.int (nar .byte (45 : Int32))) ∧ cc.slots[2]? = some (.int (nar .byte (108 : Int32))) ∧ cc.slots[3]? = some (.int (nar .byte (105 : Int32))) ∧ cc.slots[4]? = some (.int (nar .byte (116 : Int32))) ∧ cc.slots[5]? = some (.int (nar .byte (116 : Int32))) ∧ cc.slots[6]? = some (.int (nar .byte (108 : Int32))) ∧ cc.slots[7]? = some (.int (nar .byte (101 : Int32))) ∧ cc.slots[8]? = some (.int (nar .byte (45 : Int32))) ∧ cc.slots[9]? = some (.int (nar .byte (98 : Int32))) ∧ cc.slots[10]? = some (.int (nar .byte (105 : Int32))) ∧ cc.slots[11]? = some (.int (nar .byte (116 : Int32))) ∧ cc.slots[12]? = some (.int (nar .byte (45 : Int32))) ∧ cc.slots[13]? = some (.int (nar .byte (108 : Int32))) ∧ cc.slots[14]? = some (.int (nar .byte (111 : Int32))) ∧ cc.slots[15]? = some (.int (nar .byte (110 : Int32))) ∧ cc.slots[16]? = some (.int (nar .byte (103 : Int32))) ∧ cc.slots[17]? = some (.int (nar .byte (101 : Int32))) ∧ cc.slots[18]? = some (.int (nar .byte (114 : Int32))) := ⟨_, A58_u5.same W59, (by rw [sz_set]; exact S58_u5), set_mis B58_u5_0 (by decide), set_mis B58_u5_1 (by decide), set_mis B58_u5_2 (by decide), set_mis B58_u5_3 (by decide), set_mis B58_u5_4 (by decide), set_mis B58_u5_5 (by decide), set_mis B58_u5_6 (by decide), set_mis B58_u5_7 (by decide), set_mis B58_u5_8 (by decide), set_mis B58_u5_9 (by decide), set_mis B58_u5_10 (by decide), set_mis B58_u5_11 (by decide), set_mis B58_u5_12 (by decide), set_mis B58_u5_13 (by decide), set_mis B58_u5_14 (by decide), set_mis B58_u5_15 (by decide), set_mis B58_u5_16 (by decide), set_mis B58_u5_17 (by decide), set_hit (by rw [S58_u5]; decide)⟩
    have M59 := Fr.snoc X59 M58 n_u5
    have Z59 : n0 ≤ h59.size := by rw [W59.size]; exact Z58
    refine s_dup X59 hx hby (n := 447) at_446 rfl rfl ?_
    refine s_bipush X59 hx hby (n := 449) (v := (19 : Int32)) at_447 rfl rfl ?_
    refine s_bipush X59 hx hby (n := 451) (v := (45 : Int32)) at_449 rfl rfl ?_
    refine s_bastoreC X59 hx hby hZ (n := 452) e59 A59_u5 19 (by decide) (by decide) (by rw [S59_u5]; decide) at_451 rfl ?_
    intro T60 h60 X60 e60 W60
    have A60_u1 := A59_u1.other W60 ne_u1_u5
    have A60_u2 := A59_u2.other W60 ne_u2_u5
    have A60_u3 := A59_u3.other W60 ne_u3_u5
    have A60_u4 := A59_u4.other W60 ne_u4_u5
    obtain ⟨c60, A60_u5, S60_u5, B60_u5_0, B60_u5_1, B60_u5_2, B60_u5_3, B60_u5_4, B60_u5_5, B60_u5_6, B60_u5_7, B60_u5_8, B60_u5_9, B60_u5_10, B60_u5_11, B60_u5_12, B60_u5_13, B60_u5_14, B60_u5_15, B60_u5_16, B60_u5_17, B60_u5_18, B60_u5_19⟩ : ∃ cc : Cell, Arr Z h60 u5 cc .byte ∧ cc.slots.size = (26 : Int32).toNatClampNeg ∧ cc.slots[0]? = some (.int (nar .byte (97 : Int32))) ∧ cc.slots[1]? = some (.int (nar .byte (45 : Int32))) ∧ cc.slots[2]? = some (.int (nar .byte (108 : Int32))) ∧ cc.slots[3]? = some (.int (nar .byte (105 : Int32))) ∧ cc.slots[4]? = some (.int (nar .byte (116 : Int32))) ∧ cc.slots[5]? = some (.int (nar .byte (116 : Int32))) ∧ cc.slots[6]? = some (.int (nar .byte (108 : Int32))) ∧ cc.slots[7]? = some (.int (nar .byte (101 : Int32))) ∧ cc.slots[8]? = some (.int (nar .byte (45 : Int32))) ∧ cc.slots[9]? = some (.int (nar .byte (98 : Int32))) ∧ cc.slots[10]? = some (.int (nar .byte (105 : Int32))) ∧ cc.slots[11]? = some (.int (nar .byte (116 : Int32))) ∧ cc.slots[12]? = some (.int (nar .byte (45 : Int32))) ∧ cc.slots[13]? = some (.int (nar .byte (108 : Int32))) ∧ cc.slots[14]? = some (.int (nar .byte (111 : Int32))) ∧ cc.slots[15]? = some (.int (nar .byte (110 : Int32))) ∧ cc.slots[16]? = some (.int (nar .byte (103 : Int32))) ∧ cc.slots[17]? = some (.int (nar .byte (101 : Int32))) ∧ cc.slots[18]? = some (.int (nar .byte (114 : Int32))) ∧ cc.slots[19]? = some (.int (nar .byte (45 : Int32))) := ⟨_, A59_u5.same W60, (by rw [sz_set]; exact S59_u5), set_mis B59_u5_0 (by decide), set_mis B59_u5_1 (by decide), set_mis B59_u5_2 (by decide), set_mis B59_u5_3 (by decide), set_mis B59_u5_4 (by decide), set_mis B59_u5_5 (by decide), set_mis B59_u5_6 (by decide), set_mis B59_u5_7 (by decide), set_mis B59_u5_8 (by decide), set_mis B59_u5_9 (by decide), set_mis B59_u5_10 (by decide), set_mis B59_u5_11 (by decide), set_mis B59_u5_12 (by decide), set_mis B59_u5_13 (by decide), set_mis B59_u5_14 (by decide), set_mis B59_u5_15 (by decide), set_mis B59_u5_16 (by decide), set_mis B59_u5_17 (by decide), set_mis B59_u5_18 (by decide), set_hit (by rw [S59_u5]; decide)⟩
    have M60 := Fr.snoc X60 M59 n_u5
    have Z60 : n0 ≤ h60.size := by rw [W60.size]; exact Z59
    refine s_dup X60 hx hby (n := 453) at_452 rfl rfl ?_
    refine s_bipush X60 hx hby (n := 455) (v := (20 : Int32)) at_453 rfl rfl ?_
    refine s_bipush X60 hx hby (n := 457) (v := (115 : Int32)) at_455 rfl rfl ?_
    refine s_bastoreC X60 hx hby hZ (n := 458) e60 A60_u5 20 (by decide) (by decide) (by rw [S60_u5]; decide) at_457 rfl ?_
    intro T61 h61 X61 e61 W61
    have A61_u1 := A60_u1.other W61 ne_u1_u5
    have A61_u2 := A60_u2.other W61 ne_u2_u5
    have A61_u3 := A60_u3.other W61 ne_u3_u5
    have A61_u4 := A60_u4.other W61 ne_u4_u5
    obtain ⟨c61, A61_u5, S61_u5, B61_u5_0, B61_u5_1, B61_u5_2, B61_u5_3, B61_u5_4, B61_u5_5, B61_u5_6, B61_u5_7, B61_u5_8, B61_u5_9, B61_u5_10, B61_u5_11, B61_u5_12, B61_u5_13, B61_u5_14, B61_u5_15, B61_u5_16, B61_u5_17, B61_u5_18, B61_u5_19, B61_u5_20⟩ : ∃ cc : Cell, Arr Z h61 u5 cc .byte ∧ cc.slots.size = (26 : Int32).toNatClampNeg ∧ cc.slots[0]? = some (.int (nar .byte (97 : Int32))) ∧ cc.slots[1]? = some (.int (nar .byte (45 : Int32))) ∧ cc.slots[2]? = some (.int (nar .byte (108 : Int32))) ∧ cc.slots[3]? = some (.int (nar .byte (105 : Int32))) ∧ cc.slots[4]? = some (.int (nar .byte (116 : Int32))) ∧ cc.slots[5]? = some (.int (nar .byte (116 : Int32))) ∧ cc.slots[6]? = some (.int (nar .byte (108 : Int32))) ∧ cc.slots[7]? = some (.int (nar .byte (101 : Int32))) ∧ cc.slots[8]? = some (.int (nar .byte (45 : Int32))) ∧ cc.slots[9]? = some (.int (nar .byte (98 : Int32))) ∧ cc.slots[10]? = some (.int (nar .byte (105 : Int32))) ∧ cc.slots[11]? = some (.int (nar .byte (116 : Int32))) ∧ cc.slots[12]? = some (.int (nar .byte (45 : Int32))) ∧ cc.slots[13]? = some (.int (nar .byte (108 : Int32))) ∧ cc.slots[14]? = some (.int (nar .byte (111 : Int32))) ∧ cc.slots[15]? = some (.int (nar .byte (110 : Int32))) ∧ cc.slots[16]? = some (.int (nar .byte (103 : Int32))) ∧ cc.slots[17]? = some (.int (nar .byte (101 : Int32))) ∧ cc.slots[18]? = some (.int (nar .byte (114 : Int32))) ∧ cc.slots[19]? = some (.int (nar .byte (45 : Int32))) ∧ cc.slots[20]? = some (.int (nar .byte (115 : Int32))) := ⟨_, A60_u5.same W61, (by rw [sz_set]; exact S60_u5), set_mis B60_u5_0 (by decide), set_mis B60_u5_1 (by decide), set_mis B60_u5_2 (by decide), set_mis B60_u5_3 (by decide), set_mis B60_u5_4 (by decide), set_mis B60_u5_5 (by decide), set_mis B60_u5_6 (by decide), set_mis B60_u5_7 (by decide), set_mis B60_u5_8 (by decide), set_mis B60_u5_9 (by decide), set_mis B60_u5_10 (by decide), set_mis B60_u5_11 (by decide), set_mis B60_u5_12 (by decide), set_mis B60_u5_13 (by decide), set_mis B60_u5_14 (by decide), set_mis B60_u5_15 (by decide), set_mis B60_u5_16 (by decide), set_mis B60_u5_17 (by decide), set_mis B60_u5_18 (by decide), set_mis B60_u5_19 (by decide), set_hit (by rw [S60_u5]; decide)⟩
    have M61 := Fr.snoc X61 M60 n_u5
    have Z61 : n0 ≤ h61.size := by rw [W61.size]; exact Z60
    refine s_dup X61 hx hby (n := 459) at_458 rfl rfl ?_
    refine s_bipush X61 hx hby (n := 461) (v := (21 : Int32)) at_459 rfl rfl ?_
    refine s_bipush X61 hx hby (n := 463) (v := (116 : Int32)) at_461 rfl rfl ?_
    refine s_bastoreC X61 hx hby hZ (n := 464) e61 A61_u5 21 (by decide) (by decide) (by rw [S61_u5]; decide) at_463 rfl ?_
    intro T62 h62 X62 e62 W62
    have A62_u1 := A61_u1.other W62 ne_u1_u5
    have A62_u2 := A61_u2.other W62 ne_u2_u5
    have A62_u3 := A61_u3.other W62 ne_u3_u5
    have A62_u4 := A61_u4.other W62 ne_u4_u5
    obtain ⟨c62, A62_u5, S62_u5, B62_u5_0, B62_u5_1, B62_u5_2, B62_u5_3, B62_u5_4, B62_u5_5, B62_u5_6, B62_u5_7, B62_u5_8, B62_u5_9, B62_u5_10, B62_u5_11, B62_u5_12, B62_u5_13, B62_u5_14, B62_u5_15, B62_u5_16, B62_u5_17, B62_u5_18, B62_u5_19, B62_u5_20, B62_u5_21⟩ : ∃ cc : Cell, Arr Z h62 u5 cc .byte ∧ cc.slots.size = (26 : Int32).toNatClampNeg ∧ cc.slots[0]? = some (.int (nar .byte (97 : Int32))) ∧ cc.slots[1]? = some (.int (nar .byte (45 : Int32))) ∧ cc.slots[2]? = some (.int (nar .byte (108 : Int32))) ∧ cc.slots[3]? = some (.int (nar .byte (105 : Int32))) ∧ cc.slots[4]? = some (.int (nar .byte (116 : Int32))) ∧ cc.slots[5]? = some (.int (nar .byte (116 : Int32))) ∧ cc.slots[6]? = some (.int (nar .byte (108 : Int32))) ∧ cc.slots[7]? = some (.int (nar .byte (101 : Int32))) ∧ cc.slots[8]? = some (.int (nar .byte (45 : Int32))) ∧ cc.slots[9]? = some (.int (nar .byte (98 : Int32))) ∧ cc.slots[10]? = some (.int (nar .byte (105 : Int32))) ∧ cc.slots[11]? = some (.int (nar .byte (116 : Int32))) ∧ cc.slots[12]? = some (.int (nar .byte (45 : Int32))) ∧ cc.slots[13]? = some (.int (nar .byte (108 : Int32))) ∧ cc.slots[14]? = some (.int (nar .byte (111 : Int32))) ∧ cc.slots[15]? = some (.int (nar .byte (110 : Int32))) ∧ cc.slots[16]? = some (.int (nar .byte (103 : Int32))) ∧ cc.slots[17]? = some (.int (nar .byte (101 : Int32))) ∧ cc.slots[18]? = some (.int (nar .byte (114 : Int32))) ∧ cc.slots[19]? = some (.int (nar .byte (45 : Int32))) ∧ cc.slots[20]? = some (.int (nar .byte (115 : Int32))) ∧ cc.slots[21]? = some (.int (nar .byte (116 : Int32))) := ⟨_, A61_u5.same W62, (by rw [sz_set]; exact S61_u5), set_mis B61_u5_0 (by decide), set_mis B61_u5_1 (by decide), set_mis B61_u5_2 (by decide), set_mis B61_u5_3 (by decide), set_mis B61_u5_4 (by decide), set_mis B61_u5_5 (by decide), set_mis B61_u5_6 (by decide), set_mis B61_u5_7 (by decide), set_mis B61_u5_8 (by decide), set_mis B61_u5_9 (by decide), set_mis B61_u5_10 (by decide), set_mis B61_u5_11 (by decide), set_mis B61_u5_12 (by decide), set_mis B61_u5_13 (by decide), set_mis B61_u5_14 (by decide), set_mis B61_u5_15 (by decide), set_mis B61_u5_16 (by decide), set_mis B61_u5_17 (by decide), set_mis B61_u5_18 (by decide), set_mis B61_u5_19 (by decide), set_mis B61_u5_20 (by decide), set_hit (by rw [S61_u5]; decide)⟩
    have M62 := Fr.snoc X62 M61 n_u5
    have Z62 : n0 ≤ h62.size := by rw [W62.size]; exact Z61
    refine s_dup X62 hx hby (n := 465) at_464 rfl rfl ?_
    refine s_bipush X62 hx hby (n := 467) (v := (22 : Int32)) at_465 rfl rfl ?_
    refine s_bipush X62 hx hby (n := 469) (v := (114 : Int32)) at_467 rfl rfl ?_
    refine s_bastoreC X62 hx hby hZ (n := 470) e62 A62_u5 22 (by decide) (by decide) (by rw [S62_u5]; decide) at_469 rfl ?_
    intro T63 h63 X63 e63 W63
    have A63_u1 := A62_u1.other W63 ne_u1_u5
    have A63_u2 := A62_u2.other W63 ne_u2_u5
    have A63_u3 := A62_u3.other W63 ne_u3_u5
    have A63_u4 := A62_u4.other W63 ne_u4_u5
    obtain ⟨c63, A63_u5, S63_u5, B63_u5_0, B63_u5_1, B63_u5_2, B63_u5_3, B63_u5_4, B63_u5_5, B63_u5_6, B63_u5_7, B63_u5_8, B63_u5_9, B63_u5_10, B63_u5_11, B63_u5_12, B63_u5_13, B63_u5_14, B63_u5_15, B63_u5_16, B63_u5_17, B63_u5_18, B63_u5_19, B63_u5_20, B63_u5_21, B63_u5_22⟩ : ∃ cc : Cell, Arr Z h63 u5 cc .byte ∧ cc.slots.size = (26 : Int32).toNatClampNeg ∧ cc.slots[0]? = some (.int (nar .byte (97 : Int32))) ∧ cc.slots[1]? = some (.int (nar .byte (45 : Int32))) ∧ cc.slots[2]? = some (.int (nar .byte (108 : Int32))) ∧ cc.slots[3]? = some (.int (nar .byte (105 : Int32))) ∧ cc.slots[4]? = some (.int (nar .byte (116 : Int32))) ∧ cc.slots[5]? = some (.int (nar .byte (116 : Int32))) ∧ cc.slots[6]? = some (.int (nar .byte (108 : Int32))) ∧ cc.slots[7]? = some (.int (nar .byte (101 : Int32))) ∧ cc.slots[8]? = some (.int (nar .byte (45 : Int32))) ∧ cc.slots[9]? = some (.int (nar .byte (98 : Int32))) ∧ cc.slots[10]? = some (.int (nar .byte (105 : Int32))) ∧ cc.slots[11]? = some (.int (nar .byte (116 : Int32))) ∧ cc.slots[12]? = some (.int (nar .byte (45 : Int32))) ∧ cc.slots[13]? = some (.int (nar .byte (108 : Int32))) ∧ cc.slots[14]? = some (.int (nar .byte (111 : Int32))) ∧ cc.slots[15]? = some (.int (nar .byte (110 : Int32))) ∧ cc.slots[16]? = some (.int (nar .byte (103 : Int32))) ∧ cc.slots[17]? = some (.int (nar .byte (101 : Int32))) ∧ cc.slots[18]? = some (.int (nar .byte (114 : Int32))) ∧ cc.slots[19]? = some (.int (nar .byte (45 : Int32))) ∧ cc.slots[20]? = some (.int (nar .byte (115 : Int32))) ∧ cc.slots[21]? = some (.int (nar .byte (116 : Int32))) ∧ cc.slots[22]? = some (.int (nar .byte (114 : Int32))) := ⟨_, A62_u5.same W63, (by rw [sz_set]; exact S62_u5), set_mis B62_u5_0 (by decide), set_mis B62_u5_1 (by decide), set_mis B62_u5_2 (by decide), set_mis B62_u5_3 (by decide), set_mis B62_u5_4 (by decide), set_mis B62_u5_5 (by decide), set_mis B62_u5_6 (by decide), set_mis B62_u5_7 (by decide), set_mis B62_u5_8 (by decide), set_mis B62_u5_9 (by decide), set_mis B62_u5_10 (by decide), set_mis B62_u5_11 (by decide), set_mis B62_u5_12 (by decide), set_mis B62_u5_13 (by decide), set_mis B62_u5_14 (by decide), set_mis B62_u5_15 (by decide), set_mis B62_u5_16 (by decide), set_mis B62_u5_17 (by decide), set_mis B62_u5_18 (by decide), set_mis B62_u5_19 (by decide), set_mis B62_u5_20 (by decide), set_mis B62_u5_21 (by decide), set_hit (by rw [S62_u5]; decide)⟩
    have M63 := Fr.snoc X63 M62 n_u5
    have Z63 : n0 ≤ h63.size := by rw [W63.size]; exact Z62
    refine s_dup X63 hx hby (n := 471) at_470 rfl rfl ?_
    refine s_bipush X63 hx hby (n := 473) (v := (23 : Int32)) at_471 rfl rfl ?_
    refine s_bipush X63 hx hby (n := 475) (v := (105 : Int32)) at_473 rfl rfl ?_
    refine s_bastoreC X63 hx hby hZ (n := 476) e63 A63_u5 23 (by decide) (by decide) (by rw [S63_u5]; decide) at_475 rfl ?_
    intro T64 h64 X64 e64 W64
    have A64_u1 := A63_u1.other W64 ne_u1_u5
    have A64_u2 := A63_u2.other W64 ne_u2_u5
    have A64_u3 := A63_u3.other W64 ne_u3_u5
    have A64_u4 := A63_u4.other W64 ne_u4_u5
    obtain ⟨c64, A64_u5, S64_u5, B64_u5_0, B64_u5_1, B64_u5_2, B64_u5_3, B64_u5_4, B64_u5_5, B64_u5_6, B64_u5_7, B64_u5_8, B64_u5_9, B64_u5_10, B64_u5_11, B64_u5_12, B64_u5_13, B64_u5_14, B64_u5_15, B64_u5_16, B64_u5_17, B64_u5_18, B64_u5_19, B64_u5_20, B64_u5_21, B64_u5_22, B64_u5_23⟩ : ∃ cc : Cell, Arr Z h64 u5 cc .byte ∧ cc.slots.size = (26 : Int32).toNatClampNeg ∧ cc.slots[0]? = some (.int (nar .byte (97 : Int32))) ∧ cc.slots[1]? = some (.int (nar .byte (45 : Int32))) ∧ cc.slots[2]? = some (.int (nar .byte (108 : Int32))) ∧ cc.slots[3]? = some (.int (nar .byte (105 : Int32))) ∧ cc.slots[4]? = some (.int (nar .byte (116 : Int32))) ∧ cc.slots[5]? = some (.int (nar .byte (116 : Int32))) ∧ cc.slots[6]? = some (.int (nar .byte (108 : Int32))) ∧ cc.slots[7]? = some (.int (nar .byte (101 : Int32))) ∧ cc.slots[8]? = some (.int (nar .byte (45 : Int32))) ∧ cc.slots[9]? = some (.int (nar .byte (98 : Int32))) ∧ cc.slots[10]? = some (.int (nar .byte (105 : Int32))) ∧ cc.slots[11]? = some (.int (nar .byte (116 : Int32))) ∧ cc.slots[12]? = some (.int (nar .byte (45 : Int32))) ∧ cc.slots[13]? = some (.int (nar .byte (108 : Int32))) ∧ cc.slots[14]? = some (.int (nar .byte (111 : Int32))) ∧ cc.slots[15]? = some (.int (nar .byte (110 : Int32))) ∧ cc.slots[16]? = some (.int (nar .byte (103 : Int32))) ∧ cc.slots[17]? = some (.int (nar .byte (101 : Int32))) ∧ cc.slots[18]? = some (.int (nar .byte (114 : Int32))) ∧ cc.slots[19]? = some (.int (nar .byte (45 : Int32))) ∧ cc.slots[20]? = some (.int (nar .byte (115 : Int32))) ∧ cc.slots[21]? = some (.int (nar .byte (116 : Int32))) ∧ cc.slots[22]? = some (.int (nar .byte (114 : Int32))) ∧ cc.slots[23]? = some (.int (nar .byte (105 : Int32))) := ⟨_, A63_u5.same W64, (by rw [sz_set]; exact S63_u5), set_mis B63_u5_0 (by decide), set_mis B63_u5_1 (by decide), set_mis B63_u5_2 (by decide), set_mis B63_u5_3 (by decide), set_mis B63_u5_4 (by decide), set_mis B63_u5_5 (by decide), set_mis B63_u5_6 (by decide), set_mis B63_u5_7 (by decide), set_mis B63_u5_8 (by decide), set_mis B63_u5_9 (by decide), set_mis B63_u5_10 (by decide), set_mis B63_u5_11 (by decide), set_mis B63_u5_12 (by decide), set_mis B63_u5_13 (by decide), set_mis B63_u5_14 (by decide), set_mis B63_u5_15 (by decide), set_mis B63_u5_16 (by decide), set_mis B63_u5_17 (by decide), set_mis B63_u5_18 (by decide), set_mis B63_u5_19 (by decide), set_mis B63_u5_20 (by decide), set_mis B63_u5_21 (by decide), set_mis B63_u5_22 (by decide), set_hit (by rw [S63_u5]; decide)⟩
    have M64 := Fr.snoc X64 M63 n_u5
    have Z64 : n0 ≤ h64.size := by rw [W64.size]; exact Z63
    refine s_dup X64 hx hby (n := 477) at_476 rfl rfl ?_
    refine s_bipush X64 hx hby (n := 479) (v := (24 : Int32)) at_477 rfl rfl ?_
    refine s_bipush X64 hx hby (n := 481) (v := (110 : Int32)) at_479 rfl rfl ?_
    refine s_bastoreC X64 hx hby hZ (n := 482) e64 A64_u5 24 (by decide) (by decide) (by rw [S64_u5]; decide) at_481 rfl ?_
    intro T65 h65 X65 e65 W65
    have A65_u1 := A64_u1.other W65 ne_u1_u5
    have A65_u2 := A64_u2.other W65 ne_u2_u5
    have A65_u3 := A64_u3.other W65 ne_u3_u5
    have A65_u4 := A64_u4.other W65 ne_u4_u5
    obtain ⟨c65, A65_u5, S65_u5, B65_u5_0, B65_u5_1, B65_u5_2, B65_u5_3, B65_u5_4, B65_u5_5, B65_u5_6, B65_u5_7, B65_u5_8, B65_u5_9, B65_u5_10, B65_u5_11, B65_u5_12, B65_u5_13, B65_u5_14, B65_u5_15, B65_u5_16, B65_u5_17, B65_u5_18, B65_u5_19, B65_u5_20, B65_u5_21, B65_u5_22, B65_u5_23, B65_u5_24⟩ : ∃ cc : Cell, Arr Z h65 u5 cc .byte ∧ cc.slots.size = (26 : Int32).toNatClampNeg ∧ cc.slots[0]? = some (.int (nar .byte (97 : Int32))) ∧ cc.slots[1]? = some (.int (nar .byte (45 : Int32))) ∧ cc.slots[2]? = some (.int (nar .byte (108 : Int32))) ∧ cc.slots[3]? = some (.int (nar .byte (105 : Int32))) ∧ cc.slots[4]? = some (.int (nar .byte (116 : Int32))) ∧ cc.slots[5]? = some (.int (nar .byte (116 : Int32))) ∧ cc.slots[6]? = some (.int (nar .byte (108 : Int32))) ∧ cc.slots[7]? = some (.int (nar .byte (101 : Int32))) ∧ cc.slots[8]? = some (.int (nar .byte (45 : Int32))) ∧ cc.slots[9]? = some (.int (nar .byte (98 : Int32))) ∧ cc.slots[10]? = some (.int (nar .byte (105 : Int32))) ∧ cc.slots[11]? = some (.int (nar .byte (116 : Int32))) ∧ cc.slots[12]? = some (.int (nar .byte (45 : Int32))) ∧ cc.slots[13]? = some (.int (nar .byte (108 : Int32))) ∧ cc.slots[14]? = some (.int (nar .byte (111 : Int32))) ∧ cc.slots[15]? = some (.int (nar .byte (110 : Int32))) ∧ cc.slots[16]? = some (.int (nar .byte (103 : Int32))) ∧ cc.slots[17]? = some (.int (nar .byte (101 : Int32))) ∧ cc.slots[18]? = some (.int (nar .byte (114 : Int32))) ∧ cc.slots[19]? = some (.int (nar .byte (45 : Int32))) ∧ cc.slots[20]? = some (.int (nar .byte (115 : Int32))) ∧ cc.slots[21]? = some (.int (nar .byte (116 : Int32))) ∧ cc.slots[22]? = some (.int (nar .byte (114 : Int32))) ∧ cc.slots[23]? = some (.int (nar .byte (105 : Int32))) ∧ cc.slots[24]? = some (.int (nar .byte (110 : Int32))) := ⟨_, A64_u5.same W65, (by rw [sz_set]; exact S64_u5), set_mis B64_u5_0 (by decide), set_mis B64_u5_1 (by decide), set_mis B64_u5_2 (by decide), set_mis B64_u5_3 (by decide), set_mis B64_u5_4 (by decide), set_mis B64_u5_5 (by decide), set_mis B64_u5_6 (by decide), set_mis B64_u5_7 (by decide), set_mis B64_u5_8 (by decide), set_mis B64_u5_9 (by decide), set_mis B64_u5_10 (by decide), set_mis B64_u5_11 (by decide), set_mis B64_u5_12 (by decide), set_mis B64_u5_13 (by decide), set_mis B64_u5_14 (by decide), set_mis B64_u5_15 (by decide), set_mis B64_u5_16 (by decide), set_mis B64_u5_17 (by decide), set_mis B64_u5_18 (by decide), set_mis B64_u5_19 (by decide), set_mis B64_u5_20 (by decide), set_mis B64_u5_21 (by decide), set_mis B64_u5_22 (by decide), set_mis B64_u5_23 (by decide), set_hit (by rw [S64_u5]; decide)⟩
    have M65 := Fr.snoc X65 M64 n_u5
    have Z65 : n0 ≤ h65.size := by rw [W65.size]; exact Z64
    refine s_dup X65 hx hby (n := 483) at_482 rfl rfl ?_
    refine s_bipush X65 hx hby (n := 485) (v := (25 : Int32)) at_483 rfl rfl ?_
    refine s_bipush X65 hx hby (n := 487) (v := (103 : Int32)) at_485 rfl rfl ?_
    refine s_bastoreC X65 hx hby hZ (n := 488) e65 A65_u5 25 (by decide) (by decide) (by rw [S65_u5]; decide) at_487 rfl ?_
    intro T66 h66 X66 e66 W66
    have A66_u1 := A65_u1.other W66 ne_u1_u5
    have A66_u2 := A65_u2.other W66 ne_u2_u5
    have A66_u3 := A65_u3.other W66 ne_u3_u5
    have A66_u4 := A65_u4.other W66 ne_u4_u5
    obtain ⟨c66, A66_u5, S66_u5, B66_u5_0, B66_u5_1, B66_u5_2, B66_u5_3, B66_u5_4, B66_u5_5, B66_u5_6, B66_u5_7, B66_u5_8, B66_u5_9, B66_u5_10, B66_u5_11, B66_u5_12, B66_u5_13, B66_u5_14, B66_u5_15, B66_u5_16, B66_u5_17, B66_u5_18, B66_u5_19, B66_u5_20, B66_u5_21, B66_u5_22, B66_u5_23, B66_u5_24, B66_u5_25⟩ : ∃ cc : Cell, Arr Z h66 u5 cc .byte ∧ cc.slots.size = (26 : Int32).toNatClampNeg ∧ cc.slots[0]? = some (.int (nar .byte (97 : Int32))) ∧ cc.slots[1]? = some (.int (nar .byte (45 : Int32))) ∧ cc.slots[2]? = some (.int (nar .byte (108 : Int32))) ∧ cc.slots[3]? = some (.int (nar .byte (105 : Int32))) ∧ cc.slots[4]? = some (.int (nar .byte (116 : Int32))) ∧ cc.slots[5]? = some (.int (nar .byte (116 : Int32))) ∧ cc.slots[6]? = some (.int (nar .byte (108 : Int32))) ∧ cc.slots[7]? = some (.int (nar .byte (101 : Int32))) ∧ cc.slots[8]? = some (.int (nar .byte (45 : Int32))) ∧ cc.slots[9]? = some (.int (nar .byte (98 : Int32))) ∧ cc.slots[10]? = some (.int (nar .byte (105 : Int32))) ∧ cc.slots[11]? = some (.int (nar .byte (116 : Int32))) ∧ cc.slots[12]? = some (.int (nar .byte (45 : Int32))) ∧ cc.slots[13]? = some (.int (nar .byte (108 : Int32))) ∧ cc.slots[14]? = some (.int (nar .byte (111 : Int32))) ∧ cc.slots[15]? = some (.int (nar .byte (110 : Int32))) ∧ cc.slots[16]? = some (.int (nar .byte (103 : Int32))) ∧ cc.slots[17]? = some (.int (nar .byte (101 : Int32))) ∧ cc.slots[18]? = some (.int (nar .byte (114 : Int32))) ∧ cc.slots[19]? = some (.int (nar .byte (45 : Int32))) ∧ cc.slots[20]? = some (.int (nar .byte (115 : Int32))) ∧ cc.slots[21]? = some (.int (nar .byte (116 : Int32))) ∧ cc.slots[22]? = some (.int (nar .byte (114 : Int32))) ∧ cc.slots[23]? = some (.int (nar .byte (105 : Int32))) ∧ cc.slots[24]? = some (.int (nar .byte (110 : Int32))) ∧ cc.slots[25]? = some (.int (nar .byte (103 : Int32))) := ⟨_, A65_u5.same W66, (by rw [sz_set]; exact S65_u5), set_mis B65_u5_0 (by decide), set_mis B65_u5_1 (by decide), set_mis B65_u5_2 (by decide), set_mis B65_u5_3 (by decide), set_mis B65_u5_4 (by decide), set_mis B65_u5_5 (by decide), set_mis B65_u5_6 (by decide), set_mis B65_u5_7 (by decide), set_mis B65_u5_8 (by decide), set_mis B65_u5_9 (by decide), set_mis B65_u5_10 (by decide), set_mis B65_u5_11 (by decide), set_mis B65_u5_12 (by decide), set_mis B65_u5_13 (by decide), set_mis B65_u5_14 (by decide), set_mis B65_u5_15 (by decide), set_mis B65_u5_16 (by decide), set_mis B65_u5_17 (by decide), set_mis B65_u5_18 (by decide), set_mis B65_u5_19 (by decide), set_mis B65_u5_20 (by decide), set_mis B65_u5_21 (by decide), set_mis B65_u5_22 (by decide), set_mis B65_u5_23 (by decide), set_mis B65_u5_24 (by decide), set_hit (by rw [S65_u5]; decide)⟩
    have M66 := Fr.snoc X66 M65 n_u5
    have Z66 : n0 ≤ h66.size := by rw [W66.size]; exact Z65
    refine s_astore X66 hx hby (n := 490) (L' := #[.val (.int p0), .val (.int p1), .val (.int p2), .val (.int p3), .val (.int ln), .val (.int oo), .val (.long mk), .second, .val (.int x8), .val (.ref r9), .val (.ref r10), .val (.int (1 : Int32)), .val (.ref u1), .val (.ref u2), .val (.ref u3), .val (.ref u4), .val (.ref u5), .unset]) at_488 rfl rfl rfl ?_
    refine s_aload X66 hx hby (n := 492) (x := (.ref u1)) at_490 rfl rfl rfl ?_
    refine s_callS X66 hx hby hml hZ (n := 495) hown (hw _ (List.mem_of_getElem? (i := 5) rfl)) (hw _ (List.mem_of_getElem? (i := 6) rfl)) (hw _ (List.mem_of_getElem? (i := 7) rfl)) (hw _ (List.mem_of_getElem? (i := 8) rfl)) (by decide) (rmH2 l Z a0 hw u1 c3 (nar .byte (50 : Int32)) (nar .byte (49 : Int32)) h66 n0 A66_u1 S3_u1 B3_u1_0 B3_u1_1) e66 (by decide) 0 (by decide) (by decide) (by decide) pd_1 [(.ref u1)] [] rfl rfl rfl (Nat.le_of_eq rfl) rfl at_492 rfl ?_
    intro T67 L67 v67 X67 q67c
    obtain ⟨rfl, e67, N67⟩ := q67c
    show OEnds p e below s _ _ _ T67 (mkF m 495 #[.val (.int p0), .val (.int p1), .val (.int p2), .val (.int p3), .val (.int ln), .val (.int oo), .val (.long mk), .second, .val (.int x8), .val (.ref r9), .val (.ref r10), .val (.int (1 : Int32)), .val (.ref u1), .val (.ref u2), .val (.ref u3), .val (.ref u4), .val (.ref u5), .unset] [(.int (own_x15 ((own_x13 ((((-1756908914 : Int32) ^^^ (((nar .byte (50 : Int32)) &&& (255 : Int32)) <<< ((0 : Int32) &&& 31))) ^^^ (((nar .byte (49 : Int32)) &&& (255 : Int32)) <<< ((8 : Int32) &&& 31))) * (1540483477 : Int32))) * (1540483477 : Int32))))])
    have M67 := Fr.app M66 N67
    refine s_ldcI X67 hx hby hZ (n := 497) hown (hw _ (List.mem_of_getElem? (i := 11) rfl)) at_495 rfl ?_
    refine s_icmpN X67 hx hby (n := 500) at_497 (XT.ii_ne_f (by decide +kernel)) rfl ?_
    refine s_aload X67 hx hby (n := 502) (x := (.ref u2)) at_500 rfl rfl rfl ?_
    refine s_callS X67 hx hby hml hZ (n := 505) hown (hw _ (List.mem_of_getElem? (i := 5) rfl)) (hw _ (List.mem_of_getElem? (i := 6) rfl)) (hw _ (List.mem_of_getElem? (i := 7) rfl)) (hw _ (List.mem_of_getElem? (i := 8) rfl)) (by decide) (rmH3 l Z a0 hw u2 c7 (nar .byte (97 : Int32)) (nar .byte (98 : Int32)) (nar .byte (99 : Int32)) h66 n0 A66_u2 S7_u2 B7_u2_0 B7_u2_1 B7_u2_2) e67 (by decide) 0 (by decide) (by decide) (by decide) pd_1 [(.ref u2)] [] rfl rfl rfl (Nat.le_of_eq rfl) rfl at_502 rfl ?_
    intro T68 L68 v68 X68 q68c
    obtain ⟨rfl, e68, N68⟩ := q68c
    show OEnds p e below s _ _ _ T68 (mkF m 505 #[.val (.int p0), .val (.int p1), .val (.int p2), .val (.int p3), .val (.int ln), .val (.int oo), .val (.long mk), .second, .val (.int x8), .val (.ref r9), .val (.ref r10), .val (.int (1 : Int32)), .val (.ref u1), .val (.ref u2), .val (.ref u3), .val (.ref u4), .val (.ref u5), .unset] [(.int (own_x15 ((own_x13 (((((-1756908913 : Int32) ^^^ (((nar .byte (97 : Int32)) &&& (255 : Int32)) <<< ((0 : Int32) &&& 31))) ^^^ (((nar .byte (98 : Int32)) &&& (255 : Int32)) <<< ((8 : Int32) &&& 31))) ^^^ (((nar .byte (99 : Int32)) &&& (255 : Int32)) <<< ((16 : Int32) &&& 31))) * (1540483477 : Int32))) * (1540483477 : Int32))))])
    have M68 := Fr.app M67 N68
    refine s_ldcI X68 hx hby hZ (n := 507) hown (hw _ (List.mem_of_getElem? (i := 12) rfl)) at_505 rfl ?_
    refine s_icmpN X68 hx hby (n := 510) at_507 (XT.ii_ne_f (by decide +kernel)) rfl ?_
    refine s_aload X68 hx hby (n := 512) (x := (.ref u3)) at_510 rfl rfl rfl ?_
    refine s_callS X68 hx hby hml hZ (n := 515) hown (hw _ (List.mem_of_getElem? (i := 5) rfl)) (hw _ (List.mem_of_getElem? (i := 6) rfl)) (hw _ (List.mem_of_getElem? (i := 7) rfl)) (hw _ (List.mem_of_getElem? (i := 8) rfl)) (by decide) (rmH6 l Z a0 hw u3 c14 (nar .byte (102 : Int32)) (nar .byte (111 : Int32)) (nar .byte (111 : Int32)) (nar .byte (98 : Int32)) (nar .byte (97 : Int32)) (nar .byte (114 : Int32)) h66 n0 A66_u3 S14_u3 B14_u3_0 B14_u3_1 B14_u3_2 B14_u3_3 B14_u3_4 B14_u3_5) e68 (by decide) 0 (by decide) (by decide) (by decide) pd_1 [(.ref u3)] [] rfl rfl rfl (Nat.le_of_eq rfl) rfl at_512 rfl ?_
    intro T69 L69 v69 X69 q69c
    obtain ⟨rfl, e69, N69⟩ := q69c
    show OEnds p e below s _ _ _ T69 (mkF m 515 #[.val (.int p0), .val (.int p1), .val (.int p2), .val (.int p3), .val (.int ln), .val (.int oo), .val (.long mk), .second, .val (.int x8), .val (.ref r9), .val (.ref r10), .val (.int (1 : Int32)), .val (.ref u1), .val (.ref u2), .val (.ref u3), .val (.ref u4), .val (.ref u5), .unset] [(.int (own_x15 ((own_x13 ((((own_stp (-1756908918 : Int32) (own_le (nar .byte (102 : Int32)) (nar .byte (111 : Int32)) (nar .byte (111 : Int32)) (nar .byte (98 : Int32)))) ^^^ (((nar .byte (97 : Int32)) &&& (255 : Int32)) <<< ((0 : Int32) &&& 31))) ^^^ (((nar .byte (114 : Int32)) &&& (255 : Int32)) <<< ((8 : Int32) &&& 31))) * (1540483477 : Int32))) * (1540483477 : Int32))))])
    have M69 := Fr.app M68 N69
    refine s_ldcI X69 hx hby hZ (n := 517) hown (hw _ (List.mem_of_getElem? (i := 16) rfl)) at_515 rfl ?_
    refine s_icmpN X69 hx hby (n := 520) at_517 (XT.ii_ne_f (by decide +kernel)) rfl ?_
    refine s_aload X69 hx hby (n := 522) (x := (.ref u4)) at_520 rfl rfl rfl ?_
    refine s_callS X69 hx hby hml hZ (n := 525) hown (hw _ (List.mem_of_getElem? (i := 5) rfl)) (hw _ (List.mem_of_getElem? (i := 6) rfl)) (hw _ (List.mem_of_getElem? (i := 7) rfl)) (hw _ (List.mem_of_getElem? (i := 8) rfl)) (by decide) (rmH24 l Z a0 hw u4 c39 (nar .byte (97 : Int32)) (nar .byte (45 : Int32)) (nar .byte (108 : Int32)) (nar .byte (105 : Int32)) (nar .byte (116 : Int32)) (nar .byte (116 : Int32)) (nar .byte (108 : Int32)) (nar .byte (101 : Int32)) (nar .byte (45 : Int32)) (nar .byte (98 : Int32)) (nar .byte (105 : Int32)) (nar .byte (116 : Int32)) (nar .byte (45 : Int32)) (nar .byte (108 : Int32)) (nar .byte (111 : Int32)) (nar .byte (110 : Int32)) (nar .byte (103 : Int32)) (nar .byte (45 : Int32)) (nar .byte (115 : Int32)) (nar .byte (116 : Int32)) (nar .byte (114 : Int32)) (nar .byte (105 : Int32)) (nar .byte (110 : Int32)) (nar .byte (103 : Int32)) h66 n0 A66_u4 S39_u4 B39_u4_0 B39_u4_1 B39_u4_2 B39_u4_3 B39_u4_4 B39_u4_5 B39_u4_6 B39_u4_7 B39_u4_8 B39_u4_9 B39_u4_10 B39_u4_11 B39_u4_12 B39_u4_13 B39_u4_14 B39_u4_15 B39_u4_16 B39_u4_17 B39_u4_18 B39_u4_19 B39_u4_20 B39_u4_21 B39_u4_22 B39_u4_23) e69 (by decide) 0 (by decide) (by decide) (by decide) pd_1 [(.ref u4)] [] rfl rfl rfl (Nat.le_of_eq rfl) rfl at_522 rfl ?_
    intro T70 L70 v70 X70 q70c
    obtain ⟨rfl, e70, N70⟩ := q70c
    show OEnds p e below s _ _ _ T70 (mkF m 525 #[.val (.int p0), .val (.int p1), .val (.int p2), .val (.int p3), .val (.int ln), .val (.int oo), .val (.long mk), .second, .val (.int x8), .val (.ref r9), .val (.ref r10), .val (.int (1 : Int32)), .val (.ref u1), .val (.ref u2), .val (.ref u3), .val (.ref u4), .val (.ref u5), .unset] [(.int (own_x15 ((own_x13 (own_stp (own_stp (own_stp (own_stp (own_stp (own_stp (-1756908908 : Int32) (own_le (nar .byte (97 : Int32)) (nar .byte (45 : Int32)) (nar .byte (108 : Int32)) (nar .byte (105 : Int32)))) (own_le (nar .byte (116 : Int32)) (nar .byte (116 : Int32)) (nar .byte (108 : Int32)) (nar .byte (101 : Int32)))) (own_le (nar .byte (45 : Int32)) (nar .byte (98 : Int32)) (nar .byte (105 : Int32)) (nar .byte (116 : Int32)))) (own_le (nar .byte (45 : Int32)) (nar .byte (108 : Int32)) (nar .byte (111 : Int32)) (nar .byte (110 : Int32)))) (own_le (nar .byte (103 : Int32)) (nar .byte (45 : Int32)) (nar .byte (115 : Int32)) (nar .byte (116 : Int32)))) (own_le (nar .byte (114 : Int32)) (nar .byte (105 : Int32)) (nar .byte (110 : Int32)) (nar .byte (103 : Int32))))) * (1540483477 : Int32))))])
    have M70 := Fr.app M69 N70
    refine s_ldcI X70 hx hby hZ (n := 527) hown (hw _ (List.mem_of_getElem? (i := 17) rfl)) at_525 rfl ?_
    refine s_icmpN X70 hx hby (n := 530) at_527 (XT.ii_ne_f (by decide +kernel)) rfl ?_
    refine s_aload X70 hx hby (n := 532) (x := (.ref u5)) at_530 rfl rfl rfl ?_
    refine s_callS X70 hx hby hml hZ (n := 535) hown (hw _ (List.mem_of_getElem? (i := 5) rfl)) (hw _ (List.mem_of_getElem? (i := 6) rfl)) (hw _ (List.mem_of_getElem? (i := 7) rfl)) (hw _ (List.mem_of_getElem? (i := 8) rfl)) (by decide) (rmH26 l Z a0 hw u5 c66 (nar .byte (97 : Int32)) (nar .byte (45 : Int32)) (nar .byte (108 : Int32)) (nar .byte (105 : Int32)) (nar .byte (116 : Int32)) (nar .byte (116 : Int32)) (nar .byte (108 : Int32)) (nar .byte (101 : Int32)) (nar .byte (45 : Int32)) (nar .byte (98 : Int32)) (nar .byte (105 : Int32)) (nar .byte (116 : Int32)) (nar .byte (45 : Int32)) (nar .byte (108 : Int32)) (nar .byte (111 : Int32)) (nar .byte (110 : Int32)) (nar .byte (103 : Int32)) (nar .byte (101 : Int32)) (nar .byte (114 : Int32)) (nar .byte (45 : Int32)) (nar .byte (115 : Int32)) (nar .byte (116 : Int32)) (nar .byte (114 : Int32)) (nar .byte (105 : Int32)) (nar .byte (110 : Int32)) (nar .byte (103 : Int32)) h66 n0 A66_u5 S66_u5 B66_u5_0 B66_u5_1 B66_u5_2 B66_u5_3 B66_u5_4 B66_u5_5 B66_u5_6 B66_u5_7 B66_u5_8 B66_u5_9 B66_u5_10 B66_u5_11 B66_u5_12 B66_u5_13 B66_u5_14 B66_u5_15 B66_u5_16 B66_u5_17 B66_u5_18 B66_u5_19 B66_u5_20 B66_u5_21 B66_u5_22 B66_u5_23 B66_u5_24 B66_u5_25) e70 (by decide) 0 (by decide) (by decide) (by decide) pd_1 [(.ref u5)] [] rfl rfl rfl (Nat.le_of_eq rfl) rfl at_532 rfl ?_
    intro T71 L71 v71 X71 q71c
    obtain ⟨rfl, e71, N71⟩ := q71c
    show OEnds p e below s _ _ _ T71 (mkF m 535 #[.val (.int p0), .val (.int p1), .val (.int p2), .val (.int p3), .val (.int ln), .val (.int oo), .val (.long mk), .second, .val (.int x8), .val (.ref r9), .val (.ref r10), .val (.int (1 : Int32)), .val (.ref u1), .val (.ref u2), .val (.ref u3), .val (.ref u4), .val (.ref u5), .unset] [(.int (own_x15 ((own_x13 ((((own_stp (own_stp (own_stp (own_stp (own_stp (own_stp (-1756908906 : Int32) (own_le (nar .byte (97 : Int32)) (nar .byte (45 : Int32)) (nar .byte (108 : Int32)) (nar .byte (105 : Int32)))) (own_le (nar .byte (116 : Int32)) (nar .byte (116 : Int32)) (nar .byte (108 : Int32)) (nar .byte (101 : Int32)))) (own_le (nar .byte (45 : Int32)) (nar .byte (98 : Int32)) (nar .byte (105 : Int32)) (nar .byte (116 : Int32)))) (own_le (nar .byte (45 : Int32)) (nar .byte (108 : Int32)) (nar .byte (111 : Int32)) (nar .byte (110 : Int32)))) (own_le (nar .byte (103 : Int32)) (nar .byte (101 : Int32)) (nar .byte (114 : Int32)) (nar .byte (45 : Int32)))) (own_le (nar .byte (115 : Int32)) (nar .byte (116 : Int32)) (nar .byte (114 : Int32)) (nar .byte (105 : Int32)))) ^^^ (((nar .byte (110 : Int32)) &&& (255 : Int32)) <<< ((0 : Int32) &&& 31))) ^^^ (((nar .byte (103 : Int32)) &&& (255 : Int32)) <<< ((8 : Int32) &&& 31))) * (1540483477 : Int32))) * (1540483477 : Int32))))])
    have M71 := Fr.app M70 N71
    refine s_ldcI X71 hx hby hZ (n := 537) hown (hw _ (List.mem_of_getElem? (i := 18) rfl)) at_535 rfl ?_
    refine s_icmpN X71 hx hby (n := 540) at_537 (XT.ii_ne_f (by decide +kernel)) rfl ?_
    refine s_iconst X71 hx hby (n := 541) (v := (1 : Int32)) at_540 rfl rfl ?_
    refine s_goto X71 hx hby (n := 545) at_541 (by decide) (by decide) ?_
    refine s_istore X71 hx hby (n := 547) (L' := #[.val (.int p0), .val (.int p1), .val (.int p2), .val (.int p3), .val (.int ln), .val (.int oo), .val (.long mk), .second, .val (.int x8), .val (.ref r9), .val (.ref r10), .val (.int (1 : Int32)), .val (.ref u1), .val (.ref u2), .val (.ref u3), .val (.ref u4), .val (.ref u5), .val (.int (1 : Int32))]) at_545 rfl rfl ?_
    refine s_iload X71 hx hby (n := 549) (x := (1 : Int32)) at_547 rfl rfl ?_
    refine s_ifN X71 hx hby (n := 552) at_549 (by decide) rfl ?_
    refine s_iload X71 hx hby (n := 554) (x := (1 : Int32)) at_552 rfl rfl ?_
    refine s_ifN X71 hx hby (n := 557) at_554 (by decide) rfl ?_
    refine s_iconst X71 hx hby (n := 558) (v := (1 : Int32)) at_557 rfl rfl ?_
    refine s_goto X71 hx hby (n := 562) at_558 (by decide) (by decide) ?_
    exact s_retN X71 hx hby hlk hret (t := .boolean) (by simp) (z' := (1 : Int32)) (by decide) at_562 (by decide) (by decide) ⟨rfl, M71⟩
  have B29_1 : ∀ oo : Int32, OEnds p e below s room_1.cells room_1.slots (fun v h L => v = some (.int 1) ∧ Fr n0 L) s₁ (mkF m 29 #[.val (.int p0), .val (.int p1), .val (.int p2), .val (.int p3), .val (.int (1 : Int32)), .val (.int oo), .unset, .unset, .unset, .unset, .unset, .unset, .unset, .unset, .unset, .unset, .unset, .unset] []) := by
    intro oo
    refine s_iload X0 hx hby (n := 31) (x := (1 : Int32)) at_29 rfl rfl ?_
    refine s_iconst X0 hx hby (n := 32) (v := (4 : Int32)) at_31 rfl rfl ?_
    refine s_icmpY X0 hx hby (n := 41) at_32 (by decide) (by decide) (by decide) ?_
    refine s_lconst X0 hx hby (n := 42) (v := (1 : Int64)) at_41 rfl rfl ?_
    refine s_bipush X0 hx hby (n := 44) (v := (8 : Int32)) at_42 rfl rfl ?_
    refine s_iload X0 hx hby (n := 46) (x := (1 : Int32)) at_44 rfl rfl ?_
    refine s_imul X0 hx hby (n := 47) at_46 rfl ?_
    refine s_fold (z := (8 : Int32)) (by decide) ?_
    refine s_lshl X0 hx hby (n := 48) at_47 rfl ?_
    refine s_foldJ (z := (256 : Int64)) (by decide) ?_
    refine s_lconst X0 hx hby (n := 49) (v := (1 : Int64)) at_48 rfl rfl ?_
    refine s_lsub X0 hx hby (n := 50) at_49 rfl ?_
    refine s_foldJ (z := (255 : Int64)) (by decide) ?_
    refine s_lstore X0 hx hby (n := 52) (L' := #[.val (.int p0), .val (.int p1), .val (.int p2), .val (.int p3), .val (.int (1 : Int32)), .val (.int oo), .val (.long (255 : Int64)), .second, .unset, .unset, .unset, .unset, .unset, .unset, .unset, .unset, .unset, .unset]) at_50 rfl rfl ?_
    refine s_iloadN X0 hx hby (n := 53) (x := p0) at_52 rfl rfl ?_
    refine s_iload X0 hx hby (n := 55) (x := oo) at_53 rfl rfl ?_
    refine s_ixor X0 hx hby (n := 56) at_55 rfl ?_
    refine s_i2l X0 hx hby (n := 57) at_56 rfl ?_
    refine s_lload X0 hx hby (n := 59) (x := (255 : Int64)) at_57 rfl rfl ?_
    refine s_land X0 hx hby (n := 60) at_59 rfl ?_
    refine s_lconst X0 hx hby (n := 61) (v := (0 : Int64)) at_60 rfl rfl ?_
    refine s_lcmp X0 hx hby (n := 62) at_61 rfl ?_
    by_cases c62 : ((((p0 ^^^ oo)).toInt64) &&& (255 : Int64)) = (0 : Int64)
    · refine s_ifN X0 hx hby (n := 65) at_62 (XT.ll_ne_f c62) rfl ?_
      refine s_iconst X0 hx hby (n := 66) (v := (1 : Int32)) at_65 rfl rfl ?_
      refine s_goto X0 hx hby (n := 70) at_66 (by decide) (by decide) ?_
      refine s_istore X0 hx hby (n := 72) (L' := #[.val (.int p0), .val (.int p1), .val (.int p2), .val (.int p3), .val (.int (1 : Int32)), .val (.int oo), .val (.long (255 : Int64)), .second, .val (.int (1 : Int32)), .unset, .unset, .unset, .unset, .unset, .unset, .unset, .unset, .unset]) at_70 rfl rfl ?_
      refine s_iloadN X0 hx hby (n := 73) (x := p0) at_72 rfl rfl ?_
      refine s_iload X0 hx hby (n := 75) (x := (1 : Int32)) at_73 rfl rfl ?_
      refine s_callS X0 hx hby hml hZ (n := 78) hown (hw _ (List.mem_of_getElem? (i := 0) rfl)) (hw _ (List.mem_of_getElem? (i := 1) rfl)) (hw _ (List.mem_of_getElem? (i := 2) rfl)) (hw _ (List.mem_of_getElem? (i := 3) rfl)) (by decide) (rmB1 l Z a0 hw p0 h0 n0 Z0) e0 (by decide) 0 (by decide) (by decide) (by decide) pd_2 [(.int p0), (.int (1 : Int32))] [] rfl rfl rfl (Nat.le_of_eq rfl) rfl at_75 rfl ?_
      intro T1 L1 v1 X1 q1c
      obtain ⟨r9, c1, rfl, N1, K1, A1_r9, S1_r9, B1_r9_0⟩ := q1c
      show OEnds p e below s _ _ _ T1 (mkF m 78 #[.val (.int p0), .val (.int p1), .val (.int p2), .val (.int p3), .val (.int (1 : Int32)), .val (.int oo), .val (.long (255 : Int64)), .second, .val (.int (1 : Int32)), .unset, .unset, .unset, .unset, .unset, .unset, .unset, .unset, .unset] [(.ref r9)])
      have M1 := Fr.app M0 N1
      have Z1 := Nat.le_trans Z0 K1.1
      refine s_astore X1 hx hby (n := 80) (L' := #[.val (.int p0), .val (.int p1), .val (.int p2), .val (.int p3), .val (.int (1 : Int32)), .val (.int oo), .val (.long (255 : Int64)), .second, .val (.int (1 : Int32)), .val (.ref r9), .unset, .unset, .unset, .unset, .unset, .unset, .unset, .unset]) at_78 rfl rfl rfl ?_
      refine s_iload X1 hx hby (n := 82) (x := oo) at_80 rfl rfl ?_
      refine s_iload X1 hx hby (n := 84) (x := (1 : Int32)) at_82 rfl rfl ?_
      refine s_callS X1 hx hby hml hZ (n := 87) hown (hw _ (List.mem_of_getElem? (i := 0) rfl)) (hw _ (List.mem_of_getElem? (i := 1) rfl)) (hw _ (List.mem_of_getElem? (i := 2) rfl)) (hw _ (List.mem_of_getElem? (i := 3) rfl)) (by decide) (rmB1 l Z a0 hw oo T1.heap n0 Z1) rfl (by decide) 0 (by decide) (by decide) (by decide) pd_2 [(.int oo), (.int (1 : Int32))] [] rfl rfl rfl (Nat.le_of_eq rfl) rfl at_84 rfl ?_
      intro T2 L2 v2 X2 q2c
      obtain ⟨r10, c2, rfl, N2, K2, A2_r10, S2_r10, B2_r10_0⟩ := q2c
      show OEnds p e below s _ _ _ T2 (mkF m 87 #[.val (.int p0), .val (.int p1), .val (.int p2), .val (.int p3), .val (.int (1 : Int32)), .val (.int oo), .val (.long (255 : Int64)), .second, .val (.int (1 : Int32)), .val (.ref r9), .unset, .unset, .unset, .unset, .unset, .unset, .unset, .unset] [(.ref r10)])
      have A2_r9 : Arr Z T2.heap r9 c1 .byte := ⟨K2.2.1 _ _ A1_r9.1 nin0, A1_r9.2⟩
      have M2 := Fr.app M1 N2
      have Z2 := Nat.le_trans Z1 K2.1
      refine s_astore X2 hx hby (n := 89) (L' := #[.val (.int p0), .val (.int p1), .val (.int p2), .val (.int p3), .val (.int (1 : Int32)), .val (.int oo), .val (.long (255 : Int64)), .second, .val (.int (1 : Int32)), .val (.ref r9), .val (.ref r10), .unset, .unset, .unset, .unset, .unset, .unset, .unset]) at_87 rfl rfl rfl ?_
      refine s_aload X2 hx hby (n := 91) (x := (.ref r9)) at_89 rfl rfl rfl ?_
      refine s_callS X2 hx hby hml hZ (n := 94) hown (hw _ (List.mem_of_getElem? (i := 5) rfl)) (hw _ (List.mem_of_getElem? (i := 6) rfl)) (hw _ (List.mem_of_getElem? (i := 7) rfl)) (hw _ (List.mem_of_getElem? (i := 8) rfl)) (by decide) (rmH1 l Z a0 hw r9 c1 (nar .byte (p0).toInt8.toInt32) T2.heap n0 A2_r9 S1_r9 B1_r9_0) rfl (by decide) 0 (by decide) (by decide) (by decide) pd_1 [(.ref r9)] [] rfl rfl rfl (Nat.le_of_eq rfl) rfl at_91 rfl ?_
      intro T3 L3 v3 X3 q3c
      obtain ⟨rfl, e3, N3⟩ := q3c
      show OEnds p e below s _ _ _ T3 (mkF m 94 #[.val (.int p0), .val (.int p1), .val (.int p2), .val (.int p3), .val (.int (1 : Int32)), .val (.int oo), .val (.long (255 : Int64)), .second, .val (.int (1 : Int32)), .val (.ref r9), .val (.ref r10), .unset, .unset, .unset, .unset, .unset, .unset, .unset] [(.int (own_x15 ((own_x13 (((-1756908915 : Int32) ^^^ (((nar .byte (p0).toInt8.toInt32) &&& (255 : Int32)) <<< ((0 : Int32) &&& 31))) * (1540483477 : Int32))) * (1540483477 : Int32))))])
      have M3 := Fr.app M2 N3
      refine s_aload X3 hx hby (n := 96) (x := (.ref r10)) at_94 rfl rfl rfl ?_
      refine s_callS X3 hx hby hml hZ (n := 99) hown (hw _ (List.mem_of_getElem? (i := 5) rfl)) (hw _ (List.mem_of_getElem? (i := 6) rfl)) (hw _ (List.mem_of_getElem? (i := 7) rfl)) (hw _ (List.mem_of_getElem? (i := 8) rfl)) (by decide) (rmH1 l Z a0 hw r10 c2 (nar .byte (oo).toInt8.toInt32) T2.heap n0 A2_r10 S2_r10 B2_r10_0) e3 (by decide) 1 (by decide) (by decide) (by decide) pd_1 [(.ref r10)] [(.int (own_x15 ((own_x13 (((-1756908915 : Int32) ^^^ (((nar .byte (p0).toInt8.toInt32) &&& (255 : Int32)) <<< ((0 : Int32) &&& 31))) * (1540483477 : Int32))) * (1540483477 : Int32))))] rfl rfl rfl (Nat.le_of_eq rfl) rfl at_96 rfl ?_
      intro T4 L4 v4 X4 q4c
      obtain ⟨rfl, e4, N4⟩ := q4c
      show OEnds p e below s _ _ _ T4 (mkF m 99 #[.val (.int p0), .val (.int p1), .val (.int p2), .val (.int p3), .val (.int (1 : Int32)), .val (.int oo), .val (.long (255 : Int64)), .second, .val (.int (1 : Int32)), .val (.ref r9), .val (.ref r10), .unset, .unset, .unset, .unset, .unset, .unset, .unset] [(.int (own_x15 ((own_x13 (((-1756908915 : Int32) ^^^ (((nar .byte (oo).toInt8.toInt32) &&& (255 : Int32)) <<< ((0 : Int32) &&& 31))) * (1540483477 : Int32))) * (1540483477 : Int32)))), (.int (own_x15 ((own_x13 (((-1756908915 : Int32) ^^^ (((nar .byte (p0).toInt8.toInt32) &&& (255 : Int32)) <<< ((0 : Int32) &&& 31))) * (1540483477 : Int32))) * (1540483477 : Int32))))])
      have M4 := Fr.app M3 N4
      refine s_icmpN X4 hx hby (n := 102) at_99 (XT.ii_ne_f ((own_inj1 p0 oo).mp c62)) rfl ?_
      refine s_iconst X4 hx hby (n := 103) (v := (1 : Int32)) at_102 rfl rfl ?_
      refine s_goto X4 hx hby (n := 107) at_103 (by decide) (by decide) ?_
      refine s_iload X4 hx hby (n := 109) (x := (1 : Int32)) at_107 rfl rfl ?_
      refine s_icmpN X4 hx hby (n := 112) at_109 (by decide) rfl ?_
      refine s_iconst X4 hx hby (n := 113) (v := (1 : Int32)) at_112 rfl rfl ?_
      refine s_goto X4 hx hby (n := 117) at_113 (by decide) (by decide) ?_
      refine s_istore X4 hx hby (n := 119) (L' := #[.val (.int p0), .val (.int p1), .val (.int p2), .val (.int p3), .val (.int (1 : Int32)), .val (.int oo), .val (.long (255 : Int64)), .second, .val (.int (1 : Int32)), .val (.ref r9), .val (.ref r10), .val (.int (1 : Int32)), .unset, .unset, .unset, .unset, .unset, .unset]) at_117 rfl rfl ?_
      exact B119 _ _ _ _ _ _ _ _ _ X4 e4 M4 Z2
    · refine s_ifY X0 hx hby (n := 69) at_62 (XT.ll_ne_t c62) (by decide) (by decide) ?_
      refine s_iconst X0 hx hby (n := 70) (v := (0 : Int32)) at_69 rfl rfl ?_
      refine s_istore X0 hx hby (n := 72) (L' := #[.val (.int p0), .val (.int p1), .val (.int p2), .val (.int p3), .val (.int (1 : Int32)), .val (.int oo), .val (.long (255 : Int64)), .second, .val (.int (0 : Int32)), .unset, .unset, .unset, .unset, .unset, .unset, .unset, .unset, .unset]) at_70 rfl rfl ?_
      refine s_iloadN X0 hx hby (n := 73) (x := p0) at_72 rfl rfl ?_
      refine s_iload X0 hx hby (n := 75) (x := (1 : Int32)) at_73 rfl rfl ?_
      refine s_callS X0 hx hby hml hZ (n := 78) hown (hw _ (List.mem_of_getElem? (i := 0) rfl)) (hw _ (List.mem_of_getElem? (i := 1) rfl)) (hw _ (List.mem_of_getElem? (i := 2) rfl)) (hw _ (List.mem_of_getElem? (i := 3) rfl)) (by decide) (rmB1 l Z a0 hw p0 h0 n0 Z0) e0 (by decide) 0 (by decide) (by decide) (by decide) pd_2 [(.int p0), (.int (1 : Int32))] [] rfl rfl rfl (Nat.le_of_eq rfl) rfl at_75 rfl ?_
      intro T5 L5 v5 X5 q5c
      obtain ⟨r9, c5, rfl, N5, K5, A5_r9, S5_r9, B5_r9_0⟩ := q5c
      show OEnds p e below s _ _ _ T5 (mkF m 78 #[.val (.int p0), .val (.int p1), .val (.int p2), .val (.int p3), .val (.int (1 : Int32)), .val (.int oo), .val (.long (255 : Int64)), .second, .val (.int (0 : Int32)), .unset, .unset, .unset, .unset, .unset, .unset, .unset, .unset, .unset] [(.ref r9)])
      have M5 := Fr.app M0 N5
      have Z5 := Nat.le_trans Z0 K5.1
      refine s_astore X5 hx hby (n := 80) (L' := #[.val (.int p0), .val (.int p1), .val (.int p2), .val (.int p3), .val (.int (1 : Int32)), .val (.int oo), .val (.long (255 : Int64)), .second, .val (.int (0 : Int32)), .val (.ref r9), .unset, .unset, .unset, .unset, .unset, .unset, .unset, .unset]) at_78 rfl rfl rfl ?_
      refine s_iload X5 hx hby (n := 82) (x := oo) at_80 rfl rfl ?_
      refine s_iload X5 hx hby (n := 84) (x := (1 : Int32)) at_82 rfl rfl ?_
      refine s_callS X5 hx hby hml hZ (n := 87) hown (hw _ (List.mem_of_getElem? (i := 0) rfl)) (hw _ (List.mem_of_getElem? (i := 1) rfl)) (hw _ (List.mem_of_getElem? (i := 2) rfl)) (hw _ (List.mem_of_getElem? (i := 3) rfl)) (by decide) (rmB1 l Z a0 hw oo T5.heap n0 Z5) rfl (by decide) 0 (by decide) (by decide) (by decide) pd_2 [(.int oo), (.int (1 : Int32))] [] rfl rfl rfl (Nat.le_of_eq rfl) rfl at_84 rfl ?_
      intro T6 L6 v6 X6 q6c
      obtain ⟨r10, c6, rfl, N6, K6, A6_r10, S6_r10, B6_r10_0⟩ := q6c
      show OEnds p e below s _ _ _ T6 (mkF m 87 #[.val (.int p0), .val (.int p1), .val (.int p2), .val (.int p3), .val (.int (1 : Int32)), .val (.int oo), .val (.long (255 : Int64)), .second, .val (.int (0 : Int32)), .val (.ref r9), .unset, .unset, .unset, .unset, .unset, .unset, .unset, .unset] [(.ref r10)])
      have A6_r9 : Arr Z T6.heap r9 c5 .byte := ⟨K6.2.1 _ _ A5_r9.1 nin0, A5_r9.2⟩
      have M6 := Fr.app M5 N6
      have Z6 := Nat.le_trans Z5 K6.1
      refine s_astore X6 hx hby (n := 89) (L' := #[.val (.int p0), .val (.int p1), .val (.int p2), .val (.int p3), .val (.int (1 : Int32)), .val (.int oo), .val (.long (255 : Int64)), .second, .val (.int (0 : Int32)), .val (.ref r9), .val (.ref r10), .unset, .unset, .unset, .unset, .unset, .unset, .unset]) at_87 rfl rfl rfl ?_
      refine s_aload X6 hx hby (n := 91) (x := (.ref r9)) at_89 rfl rfl rfl ?_
      refine s_callS X6 hx hby hml hZ (n := 94) hown (hw _ (List.mem_of_getElem? (i := 5) rfl)) (hw _ (List.mem_of_getElem? (i := 6) rfl)) (hw _ (List.mem_of_getElem? (i := 7) rfl)) (hw _ (List.mem_of_getElem? (i := 8) rfl)) (by decide) (rmH1 l Z a0 hw r9 c5 (nar .byte (p0).toInt8.toInt32) T6.heap n0 A6_r9 S5_r9 B5_r9_0) rfl (by decide) 0 (by decide) (by decide) (by decide) pd_1 [(.ref r9)] [] rfl rfl rfl (Nat.le_of_eq rfl) rfl at_91 rfl ?_
      intro T7 L7 v7 X7 q7c
      obtain ⟨rfl, e7, N7⟩ := q7c
      show OEnds p e below s _ _ _ T7 (mkF m 94 #[.val (.int p0), .val (.int p1), .val (.int p2), .val (.int p3), .val (.int (1 : Int32)), .val (.int oo), .val (.long (255 : Int64)), .second, .val (.int (0 : Int32)), .val (.ref r9), .val (.ref r10), .unset, .unset, .unset, .unset, .unset, .unset, .unset] [(.int (own_x15 ((own_x13 (((-1756908915 : Int32) ^^^ (((nar .byte (p0).toInt8.toInt32) &&& (255 : Int32)) <<< ((0 : Int32) &&& 31))) * (1540483477 : Int32))) * (1540483477 : Int32))))])
      have M7 := Fr.app M6 N7
      refine s_aload X7 hx hby (n := 96) (x := (.ref r10)) at_94 rfl rfl rfl ?_
      refine s_callS X7 hx hby hml hZ (n := 99) hown (hw _ (List.mem_of_getElem? (i := 5) rfl)) (hw _ (List.mem_of_getElem? (i := 6) rfl)) (hw _ (List.mem_of_getElem? (i := 7) rfl)) (hw _ (List.mem_of_getElem? (i := 8) rfl)) (by decide) (rmH1 l Z a0 hw r10 c6 (nar .byte (oo).toInt8.toInt32) T6.heap n0 A6_r10 S6_r10 B6_r10_0) e7 (by decide) 1 (by decide) (by decide) (by decide) pd_1 [(.ref r10)] [(.int (own_x15 ((own_x13 (((-1756908915 : Int32) ^^^ (((nar .byte (p0).toInt8.toInt32) &&& (255 : Int32)) <<< ((0 : Int32) &&& 31))) * (1540483477 : Int32))) * (1540483477 : Int32))))] rfl rfl rfl (Nat.le_of_eq rfl) rfl at_96 rfl ?_
      intro T8 L8 v8 X8 q8c
      obtain ⟨rfl, e8, N8⟩ := q8c
      show OEnds p e below s _ _ _ T8 (mkF m 99 #[.val (.int p0), .val (.int p1), .val (.int p2), .val (.int p3), .val (.int (1 : Int32)), .val (.int oo), .val (.long (255 : Int64)), .second, .val (.int (0 : Int32)), .val (.ref r9), .val (.ref r10), .unset, .unset, .unset, .unset, .unset, .unset, .unset] [(.int (own_x15 ((own_x13 (((-1756908915 : Int32) ^^^ (((nar .byte (oo).toInt8.toInt32) &&& (255 : Int32)) <<< ((0 : Int32) &&& 31))) * (1540483477 : Int32))) * (1540483477 : Int32)))), (.int (own_x15 ((own_x13 (((-1756908915 : Int32) ^^^ (((nar .byte (p0).toInt8.toInt32) &&& (255 : Int32)) <<< ((0 : Int32) &&& 31))) * (1540483477 : Int32))) * (1540483477 : Int32))))])
      have M8 := Fr.app M7 N8
      refine s_icmpY X8 hx hby (n := 106) at_99 (XT.ii_ne_t (fun q => c62 ((own_inj1 p0 oo).mpr q))) (by decide) (by decide) ?_
      refine s_iconst X8 hx hby (n := 107) (v := (0 : Int32)) at_106 rfl rfl ?_
      refine s_iload X8 hx hby (n := 109) (x := (0 : Int32)) at_107 rfl rfl ?_
      refine s_icmpN X8 hx hby (n := 112) at_109 (by decide) rfl ?_
      refine s_iconst X8 hx hby (n := 113) (v := (1 : Int32)) at_112 rfl rfl ?_
      refine s_goto X8 hx hby (n := 117) at_113 (by decide) (by decide) ?_
      refine s_istore X8 hx hby (n := 119) (L' := #[.val (.int p0), .val (.int p1), .val (.int p2), .val (.int p3), .val (.int (1 : Int32)), .val (.int oo), .val (.long (255 : Int64)), .second, .val (.int (0 : Int32)), .val (.ref r9), .val (.ref r10), .val (.int (1 : Int32)), .unset, .unset, .unset, .unset, .unset, .unset]) at_117 rfl rfl ?_
      exact B119 _ _ _ _ _ _ _ _ _ X8 e8 M8 Z6
  have B29_2 : ∀ oo : Int32, OEnds p e below s room_1.cells room_1.slots (fun v h L => v = some (.int 1) ∧ Fr n0 L) s₁ (mkF m 29 #[.val (.int p0), .val (.int p1), .val (.int p2), .val (.int p3), .val (.int (2 : Int32)), .val (.int oo), .unset, .unset, .unset, .unset, .unset, .unset, .unset, .unset, .unset, .unset, .unset, .unset] []) := by
    intro oo
    refine s_iload X0 hx hby (n := 31) (x := (2 : Int32)) at_29 rfl rfl ?_
    refine s_iconst X0 hx hby (n := 32) (v := (4 : Int32)) at_31 rfl rfl ?_
    refine s_icmpY X0 hx hby (n := 41) at_32 (by decide) (by decide) (by decide) ?_
    refine s_lconst X0 hx hby (n := 42) (v := (1 : Int64)) at_41 rfl rfl ?_
    refine s_bipush X0 hx hby (n := 44) (v := (8 : Int32)) at_42 rfl rfl ?_
    refine s_iload X0 hx hby (n := 46) (x := (2 : Int32)) at_44 rfl rfl ?_
    refine s_imul X0 hx hby (n := 47) at_46 rfl ?_
    refine s_fold (z := (16 : Int32)) (by decide) ?_
    refine s_lshl X0 hx hby (n := 48) at_47 rfl ?_
    refine s_foldJ (z := (65536 : Int64)) (by decide) ?_
    refine s_lconst X0 hx hby (n := 49) (v := (1 : Int64)) at_48 rfl rfl ?_
    refine s_lsub X0 hx hby (n := 50) at_49 rfl ?_
    refine s_foldJ (z := (65535 : Int64)) (by decide) ?_
    refine s_lstore X0 hx hby (n := 52) (L' := #[.val (.int p0), .val (.int p1), .val (.int p2), .val (.int p3), .val (.int (2 : Int32)), .val (.int oo), .val (.long (65535 : Int64)), .second, .unset, .unset, .unset, .unset, .unset, .unset, .unset, .unset, .unset, .unset]) at_50 rfl rfl ?_
    refine s_iloadN X0 hx hby (n := 53) (x := p0) at_52 rfl rfl ?_
    refine s_iload X0 hx hby (n := 55) (x := oo) at_53 rfl rfl ?_
    refine s_ixor X0 hx hby (n := 56) at_55 rfl ?_
    refine s_i2l X0 hx hby (n := 57) at_56 rfl ?_
    refine s_lload X0 hx hby (n := 59) (x := (65535 : Int64)) at_57 rfl rfl ?_
    refine s_land X0 hx hby (n := 60) at_59 rfl ?_
    refine s_lconst X0 hx hby (n := 61) (v := (0 : Int64)) at_60 rfl rfl ?_
    refine s_lcmp X0 hx hby (n := 62) at_61 rfl ?_
    by_cases c62 : ((((p0 ^^^ oo)).toInt64) &&& (65535 : Int64)) = (0 : Int64)
    · refine s_ifN X0 hx hby (n := 65) at_62 (XT.ll_ne_f c62) rfl ?_
      refine s_iconst X0 hx hby (n := 66) (v := (1 : Int32)) at_65 rfl rfl ?_
      refine s_goto X0 hx hby (n := 70) at_66 (by decide) (by decide) ?_
      refine s_istore X0 hx hby (n := 72) (L' := #[.val (.int p0), .val (.int p1), .val (.int p2), .val (.int p3), .val (.int (2 : Int32)), .val (.int oo), .val (.long (65535 : Int64)), .second, .val (.int (1 : Int32)), .unset, .unset, .unset, .unset, .unset, .unset, .unset, .unset, .unset]) at_70 rfl rfl ?_
      refine s_iloadN X0 hx hby (n := 73) (x := p0) at_72 rfl rfl ?_
      refine s_iload X0 hx hby (n := 75) (x := (2 : Int32)) at_73 rfl rfl ?_
      refine s_callS X0 hx hby hml hZ (n := 78) hown (hw _ (List.mem_of_getElem? (i := 0) rfl)) (hw _ (List.mem_of_getElem? (i := 1) rfl)) (hw _ (List.mem_of_getElem? (i := 2) rfl)) (hw _ (List.mem_of_getElem? (i := 3) rfl)) (by decide) (rmB2 l Z a0 hw p0 h0 n0 Z0) e0 (by decide) 0 (by decide) (by decide) (by decide) pd_2 [(.int p0), (.int (2 : Int32))] [] rfl rfl rfl (Nat.le_of_eq rfl) rfl at_75 rfl ?_
      intro T1 L1 v1 X1 q1c
      obtain ⟨r9, c1, rfl, N1, K1, A1_r9, S1_r9, B1_r9_0, B1_r9_1⟩ := q1c
      show OEnds p e below s _ _ _ T1 (mkF m 78 #[.val (.int p0), .val (.int p1), .val (.int p2), .val (.int p3), .val (.int (2 : Int32)), .val (.int oo), .val (.long (65535 : Int64)), .second, .val (.int (1 : Int32)), .unset, .unset, .unset, .unset, .unset, .unset, .unset, .unset, .unset] [(.ref r9)])
      have M1 := Fr.app M0 N1
      have Z1 := Nat.le_trans Z0 K1.1
      refine s_astore X1 hx hby (n := 80) (L' := #[.val (.int p0), .val (.int p1), .val (.int p2), .val (.int p3), .val (.int (2 : Int32)), .val (.int oo), .val (.long (65535 : Int64)), .second, .val (.int (1 : Int32)), .val (.ref r9), .unset, .unset, .unset, .unset, .unset, .unset, .unset, .unset]) at_78 rfl rfl rfl ?_
      refine s_iload X1 hx hby (n := 82) (x := oo) at_80 rfl rfl ?_
      refine s_iload X1 hx hby (n := 84) (x := (2 : Int32)) at_82 rfl rfl ?_
      refine s_callS X1 hx hby hml hZ (n := 87) hown (hw _ (List.mem_of_getElem? (i := 0) rfl)) (hw _ (List.mem_of_getElem? (i := 1) rfl)) (hw _ (List.mem_of_getElem? (i := 2) rfl)) (hw _ (List.mem_of_getElem? (i := 3) rfl)) (by decide) (rmB2 l Z a0 hw oo T1.heap n0 Z1) rfl (by decide) 0 (by decide) (by decide) (by decide) pd_2 [(.int oo), (.int (2 : Int32))] [] rfl rfl rfl (Nat.le_of_eq rfl) rfl at_84 rfl ?_
      intro T2 L2 v2 X2 q2c
      obtain ⟨r10, c2, rfl, N2, K2, A2_r10, S2_r10, B2_r10_0, B2_r10_1⟩ := q2c
      show OEnds p e below s _ _ _ T2 (mkF m 87 #[.val (.int p0), .val (.int p1), .val (.int p2), .val (.int p3), .val (.int (2 : Int32)), .val (.int oo), .val (.long (65535 : Int64)), .second, .val (.int (1 : Int32)), .val (.ref r9), .unset, .unset, .unset, .unset, .unset, .unset, .unset, .unset] [(.ref r10)])
      have A2_r9 : Arr Z T2.heap r9 c1 .byte := ⟨K2.2.1 _ _ A1_r9.1 nin0, A1_r9.2⟩
      have M2 := Fr.app M1 N2
      have Z2 := Nat.le_trans Z1 K2.1
      refine s_astore X2 hx hby (n := 89) (L' := #[.val (.int p0), .val (.int p1), .val (.int p2), .val (.int p3), .val (.int (2 : Int32)), .val (.int oo), .val (.long (65535 : Int64)), .second, .val (.int (1 : Int32)), .val (.ref r9), .val (.ref r10), .unset, .unset, .unset, .unset, .unset, .unset, .unset]) at_87 rfl rfl rfl ?_
      refine s_aload X2 hx hby (n := 91) (x := (.ref r9)) at_89 rfl rfl rfl ?_
      refine s_callS X2 hx hby hml hZ (n := 94) hown (hw _ (List.mem_of_getElem? (i := 5) rfl)) (hw _ (List.mem_of_getElem? (i := 6) rfl)) (hw _ (List.mem_of_getElem? (i := 7) rfl)) (hw _ (List.mem_of_getElem? (i := 8) rfl)) (by decide) (rmH2 l Z a0 hw r9 c1 (nar .byte (p0).toInt8.toInt32) (nar .byte (XT.ushr p0 (8 : Int32)).toInt8.toInt32) T2.heap n0 A2_r9 S1_r9 B1_r9_0 B1_r9_1) rfl (by decide) 0 (by decide) (by decide) (by decide) pd_1 [(.ref r9)] [] rfl rfl rfl (Nat.le_of_eq rfl) rfl at_91 rfl ?_
      intro T3 L3 v3 X3 q3c
      obtain ⟨rfl, e3, N3⟩ := q3c
      show OEnds p e below s _ _ _ T3 (mkF m 94 #[.val (.int p0), .val (.int p1), .val (.int p2), .val (.int p3), .val (.int (2 : Int32)), .val (.int oo), .val (.long (65535 : Int64)), .second, .val (.int (1 : Int32)), .val (.ref r9), .val (.ref r10), .unset, .unset, .unset, .unset, .unset, .unset, .unset] [(.int (own_x15 ((own_x13 ((((-1756908914 : Int32) ^^^ (((nar .byte (p0).toInt8.toInt32) &&& (255 : Int32)) <<< ((0 : Int32) &&& 31))) ^^^ (((nar .byte (XT.ushr p0 (8 : Int32)).toInt8.toInt32) &&& (255 : Int32)) <<< ((8 : Int32) &&& 31))) * (1540483477 : Int32))) * (1540483477 : Int32))))])
      have M3 := Fr.app M2 N3
      refine s_aload X3 hx hby (n := 96) (x := (.ref r10)) at_94 rfl rfl rfl ?_
      refine s_callS X3 hx hby hml hZ (n := 99) hown (hw _ (List.mem_of_getElem? (i := 5) rfl)) (hw _ (List.mem_of_getElem? (i := 6) rfl)) (hw _ (List.mem_of_getElem? (i := 7) rfl)) (hw _ (List.mem_of_getElem? (i := 8) rfl)) (by decide) (rmH2 l Z a0 hw r10 c2 (nar .byte (oo).toInt8.toInt32) (nar .byte (XT.ushr oo (8 : Int32)).toInt8.toInt32) T2.heap n0 A2_r10 S2_r10 B2_r10_0 B2_r10_1) e3 (by decide) 1 (by decide) (by decide) (by decide) pd_1 [(.ref r10)] [(.int (own_x15 ((own_x13 ((((-1756908914 : Int32) ^^^ (((nar .byte (p0).toInt8.toInt32) &&& (255 : Int32)) <<< ((0 : Int32) &&& 31))) ^^^ (((nar .byte (XT.ushr p0 (8 : Int32)).toInt8.toInt32) &&& (255 : Int32)) <<< ((8 : Int32) &&& 31))) * (1540483477 : Int32))) * (1540483477 : Int32))))] rfl rfl rfl (Nat.le_of_eq rfl) rfl at_96 rfl ?_
      intro T4 L4 v4 X4 q4c
      obtain ⟨rfl, e4, N4⟩ := q4c
      show OEnds p e below s _ _ _ T4 (mkF m 99 #[.val (.int p0), .val (.int p1), .val (.int p2), .val (.int p3), .val (.int (2 : Int32)), .val (.int oo), .val (.long (65535 : Int64)), .second, .val (.int (1 : Int32)), .val (.ref r9), .val (.ref r10), .unset, .unset, .unset, .unset, .unset, .unset, .unset] [(.int (own_x15 ((own_x13 ((((-1756908914 : Int32) ^^^ (((nar .byte (oo).toInt8.toInt32) &&& (255 : Int32)) <<< ((0 : Int32) &&& 31))) ^^^ (((nar .byte (XT.ushr oo (8 : Int32)).toInt8.toInt32) &&& (255 : Int32)) <<< ((8 : Int32) &&& 31))) * (1540483477 : Int32))) * (1540483477 : Int32)))), (.int (own_x15 ((own_x13 ((((-1756908914 : Int32) ^^^ (((nar .byte (p0).toInt8.toInt32) &&& (255 : Int32)) <<< ((0 : Int32) &&& 31))) ^^^ (((nar .byte (XT.ushr p0 (8 : Int32)).toInt8.toInt32) &&& (255 : Int32)) <<< ((8 : Int32) &&& 31))) * (1540483477 : Int32))) * (1540483477 : Int32))))])
      have M4 := Fr.app M3 N4
      refine s_icmpN X4 hx hby (n := 102) at_99 (XT.ii_ne_f ((own_inj2 p0 oo).mp c62)) rfl ?_
      refine s_iconst X4 hx hby (n := 103) (v := (1 : Int32)) at_102 rfl rfl ?_
      refine s_goto X4 hx hby (n := 107) at_103 (by decide) (by decide) ?_
      refine s_iload X4 hx hby (n := 109) (x := (1 : Int32)) at_107 rfl rfl ?_
      refine s_icmpN X4 hx hby (n := 112) at_109 (by decide) rfl ?_
      refine s_iconst X4 hx hby (n := 113) (v := (1 : Int32)) at_112 rfl rfl ?_
      refine s_goto X4 hx hby (n := 117) at_113 (by decide) (by decide) ?_
      refine s_istore X4 hx hby (n := 119) (L' := #[.val (.int p0), .val (.int p1), .val (.int p2), .val (.int p3), .val (.int (2 : Int32)), .val (.int oo), .val (.long (65535 : Int64)), .second, .val (.int (1 : Int32)), .val (.ref r9), .val (.ref r10), .val (.int (1 : Int32)), .unset, .unset, .unset, .unset, .unset, .unset]) at_117 rfl rfl ?_
      exact B119 _ _ _ _ _ _ _ _ _ X4 e4 M4 Z2
    · refine s_ifY X0 hx hby (n := 69) at_62 (XT.ll_ne_t c62) (by decide) (by decide) ?_
      refine s_iconst X0 hx hby (n := 70) (v := (0 : Int32)) at_69 rfl rfl ?_
      refine s_istore X0 hx hby (n := 72) (L' := #[.val (.int p0), .val (.int p1), .val (.int p2), .val (.int p3), .val (.int (2 : Int32)), .val (.int oo), .val (.long (65535 : Int64)), .second, .val (.int (0 : Int32)), .unset, .unset, .unset, .unset, .unset, .unset, .unset, .unset, .unset]) at_70 rfl rfl ?_
      refine s_iloadN X0 hx hby (n := 73) (x := p0) at_72 rfl rfl ?_
      refine s_iload X0 hx hby (n := 75) (x := (2 : Int32)) at_73 rfl rfl ?_
      refine s_callS X0 hx hby hml hZ (n := 78) hown (hw _ (List.mem_of_getElem? (i := 0) rfl)) (hw _ (List.mem_of_getElem? (i := 1) rfl)) (hw _ (List.mem_of_getElem? (i := 2) rfl)) (hw _ (List.mem_of_getElem? (i := 3) rfl)) (by decide) (rmB2 l Z a0 hw p0 h0 n0 Z0) e0 (by decide) 0 (by decide) (by decide) (by decide) pd_2 [(.int p0), (.int (2 : Int32))] [] rfl rfl rfl (Nat.le_of_eq rfl) rfl at_75 rfl ?_
      intro T5 L5 v5 X5 q5c
      obtain ⟨r9, c5, rfl, N5, K5, A5_r9, S5_r9, B5_r9_0, B5_r9_1⟩ := q5c
      show OEnds p e below s _ _ _ T5 (mkF m 78 #[.val (.int p0), .val (.int p1), .val (.int p2), .val (.int p3), .val (.int (2 : Int32)), .val (.int oo), .val (.long (65535 : Int64)), .second, .val (.int (0 : Int32)), .unset, .unset, .unset, .unset, .unset, .unset, .unset, .unset, .unset] [(.ref r9)])
      have M5 := Fr.app M0 N5
      have Z5 := Nat.le_trans Z0 K5.1
      refine s_astore X5 hx hby (n := 80) (L' := #[.val (.int p0), .val (.int p1), .val (.int p2), .val (.int p3), .val (.int (2 : Int32)), .val (.int oo), .val (.long (65535 : Int64)), .second, .val (.int (0 : Int32)), .val (.ref r9), .unset, .unset, .unset, .unset, .unset, .unset, .unset, .unset]) at_78 rfl rfl rfl ?_
      refine s_iload X5 hx hby (n := 82) (x := oo) at_80 rfl rfl ?_
      refine s_iload X5 hx hby (n := 84) (x := (2 : Int32)) at_82 rfl rfl ?_
      refine s_callS X5 hx hby hml hZ (n := 87) hown (hw _ (List.mem_of_getElem? (i := 0) rfl)) (hw _ (List.mem_of_getElem? (i := 1) rfl)) (hw _ (List.mem_of_getElem? (i := 2) rfl)) (hw _ (List.mem_of_getElem? (i := 3) rfl)) (by decide) (rmB2 l Z a0 hw oo T5.heap n0 Z5) rfl (by decide) 0 (by decide) (by decide) (by decide) pd_2 [(.int oo), (.int (2 : Int32))] [] rfl rfl rfl (Nat.le_of_eq rfl) rfl at_84 rfl ?_
      intro T6 L6 v6 X6 q6c
      obtain ⟨r10, c6, rfl, N6, K6, A6_r10, S6_r10, B6_r10_0, B6_r10_1⟩ := q6c
      show OEnds p e below s _ _ _ T6 (mkF m 87 #[.val (.int p0), .val (.int p1), .val (.int p2), .val (.int p3), .val (.int (2 : Int32)), .val (.int oo), .val (.long (65535 : Int64)), .second, .val (.int (0 : Int32)), .val (.ref r9), .unset, .unset, .unset, .unset, .unset, .unset, .unset, .unset] [(.ref r10)])
      have A6_r9 : Arr Z T6.heap r9 c5 .byte := ⟨K6.2.1 _ _ A5_r9.1 nin0, A5_r9.2⟩
      have M6 := Fr.app M5 N6
      have Z6 := Nat.le_trans Z5 K6.1
      refine s_astore X6 hx hby (n := 89) (L' := #[.val (.int p0), .val (.int p1), .val (.int p2), .val (.int p3), .val (.int (2 : Int32)), .val (.int oo), .val (.long (65535 : Int64)), .second, .val (.int (0 : Int32)), .val (.ref r9), .val (.ref r10), .unset, .unset, .unset, .unset, .unset, .unset, .unset]) at_87 rfl rfl rfl ?_
      refine s_aload X6 hx hby (n := 91) (x := (.ref r9)) at_89 rfl rfl rfl ?_
      refine s_callS X6 hx hby hml hZ (n := 94) hown (hw _ (List.mem_of_getElem? (i := 5) rfl)) (hw _ (List.mem_of_getElem? (i := 6) rfl)) (hw _ (List.mem_of_getElem? (i := 7) rfl)) (hw _ (List.mem_of_getElem? (i := 8) rfl)) (by decide) (rmH2 l Z a0 hw r9 c5 (nar .byte (p0).toInt8.toInt32) (nar .byte (XT.ushr p0 (8 : Int32)).toInt8.toInt32) T6.heap n0 A6_r9 S5_r9 B5_r9_0 B5_r9_1) rfl (by decide) 0 (by decide) (by decide) (by decide) pd_1 [(.ref r9)] [] rfl rfl rfl (Nat.le_of_eq rfl) rfl at_91 rfl ?_
      intro T7 L7 v7 X7 q7c
      obtain ⟨rfl, e7, N7⟩ := q7c
      show OEnds p e below s _ _ _ T7 (mkF m 94 #[.val (.int p0), .val (.int p1), .val (.int p2), .val (.int p3), .val (.int (2 : Int32)), .val (.int oo), .val (.long (65535 : Int64)), .second, .val (.int (0 : Int32)), .val (.ref r9), .val (.ref r10), .unset, .unset, .unset, .unset, .unset, .unset, .unset] [(.int (own_x15 ((own_x13 ((((-1756908914 : Int32) ^^^ (((nar .byte (p0).toInt8.toInt32) &&& (255 : Int32)) <<< ((0 : Int32) &&& 31))) ^^^ (((nar .byte (XT.ushr p0 (8 : Int32)).toInt8.toInt32) &&& (255 : Int32)) <<< ((8 : Int32) &&& 31))) * (1540483477 : Int32))) * (1540483477 : Int32))))])
      have M7 := Fr.app M6 N7
      refine s_aload X7 hx hby (n := 96) (x := (.ref r10)) at_94 rfl rfl rfl ?_
      refine s_callS X7 hx hby hml hZ (n := 99) hown (hw _ (List.mem_of_getElem? (i := 5) rfl)) (hw _ (List.mem_of_getElem? (i := 6) rfl)) (hw _ (List.mem_of_getElem? (i := 7) rfl)) (hw _ (List.mem_of_getElem? (i := 8) rfl)) (by decide) (rmH2 l Z a0 hw r10 c6 (nar .byte (oo).toInt8.toInt32) (nar .byte (XT.ushr oo (8 : Int32)).toInt8.toInt32) T6.heap n0 A6_r10 S6_r10 B6_r10_0 B6_r10_1) e7 (by decide) 1 (by decide) (by decide) (by decide) pd_1 [(.ref r10)] [(.int (own_x15 ((own_x13 ((((-1756908914 : Int32) ^^^ (((nar .byte (p0).toInt8.toInt32) &&& (255 : Int32)) <<< ((0 : Int32) &&& 31))) ^^^ (((nar .byte (XT.ushr p0 (8 : Int32)).toInt8.toInt32) &&& (255 : Int32)) <<< ((8 : Int32) &&& 31))) * (1540483477 : Int32))) * (1540483477 : Int32))))] rfl rfl rfl (Nat.le_of_eq rfl) rfl at_96 rfl ?_
      intro T8 L8 v8 X8 q8c
      obtain ⟨rfl, e8, N8⟩ := q8c
      show OEnds p e below s _ _ _ T8 (mkF m 99 #[.val (.int p0), .val (.int p1), .val (.int p2), .val (.int p3), .val (.int (2 : Int32)), .val (.int oo), .val (.long (65535 : Int64)), .second, .val (.int (0 : Int32)), .val (.ref r9), .val (.ref r10), .unset, .unset, .unset, .unset, .unset, .unset, .unset] [(.int (own_x15 ((own_x13 ((((-1756908914 : Int32) ^^^ (((nar .byte (oo).toInt8.toInt32) &&& (255 : Int32)) <<< ((0 : Int32) &&& 31))) ^^^ (((nar .byte (XT.ushr oo (8 : Int32)).toInt8.toInt32) &&& (255 : Int32)) <<< ((8 : Int32) &&& 31))) * (1540483477 : Int32))) * (1540483477 : Int32)))), (.int (own_x15 ((own_x13 ((((-1756908914 : Int32) ^^^ (((nar .byte (p0).toInt8.toInt32) &&& (255 : Int32)) <<< ((0 : Int32) &&& 31))) ^^^ (((nar .byte (XT.ushr p0 (8 : Int32)).toInt8.toInt32) &&& (255 : Int32)) <<< ((8 : Int32) &&& 31))) * (1540483477 : Int32))) * (1540483477 : Int32))))])
      have M8 := Fr.app M7 N8
      refine s_icmpY X8 hx hby (n := 106) at_99 (XT.ii_ne_t (fun q => c62 ((own_inj2 p0 oo).mpr q))) (by decide) (by decide) ?_
      refine s_iconst X8 hx hby (n := 107) (v := (0 : Int32)) at_106 rfl rfl ?_
      refine s_iload X8 hx hby (n := 109) (x := (0 : Int32)) at_107 rfl rfl ?_
      refine s_icmpN X8 hx hby (n := 112) at_109 (by decide) rfl ?_
      refine s_iconst X8 hx hby (n := 113) (v := (1 : Int32)) at_112 rfl rfl ?_
      refine s_goto X8 hx hby (n := 117) at_113 (by decide) (by decide) ?_
      refine s_istore X8 hx hby (n := 119) (L' := #[.val (.int p0), .val (.int p1), .val (.int p2), .val (.int p3), .val (.int (2 : Int32)), .val (.int oo), .val (.long (65535 : Int64)), .second, .val (.int (0 : Int32)), .val (.ref r9), .val (.ref r10), .val (.int (1 : Int32)), .unset, .unset, .unset, .unset, .unset, .unset]) at_117 rfl rfl ?_
      exact B119 _ _ _ _ _ _ _ _ _ X8 e8 M8 Z6
  have B29_3 : ∀ oo : Int32, OEnds p e below s room_1.cells room_1.slots (fun v h L => v = some (.int 1) ∧ Fr n0 L) s₁ (mkF m 29 #[.val (.int p0), .val (.int p1), .val (.int p2), .val (.int p3), .val (.int (3 : Int32)), .val (.int oo), .unset, .unset, .unset, .unset, .unset, .unset, .unset, .unset, .unset, .unset, .unset, .unset] []) := by
    intro oo
    refine s_iload X0 hx hby (n := 31) (x := (3 : Int32)) at_29 rfl rfl ?_
    refine s_iconst X0 hx hby (n := 32) (v := (4 : Int32)) at_31 rfl rfl ?_
    refine s_icmpY X0 hx hby (n := 41) at_32 (by decide) (by decide) (by decide) ?_
    refine s_lconst X0 hx hby (n := 42) (v := (1 : Int64)) at_41 rfl rfl ?_
    refine s_bipush X0 hx hby (n := 44) (v := (8 : Int32)) at_42 rfl rfl ?_
    refine s_iload X0 hx hby (n := 46) (x := (3 : Int32)) at_44 rfl rfl ?_
    refine s_imul X0 hx hby (n := 47) at_46 rfl ?_
    refine s_fold (z := (24 : Int32)) (by decide) ?_
    refine s_lshl X0 hx hby (n := 48) at_47 rfl ?_
    refine s_foldJ (z := (16777216 : Int64)) (by decide) ?_
    refine s_lconst X0 hx hby (n := 49) (v := (1 : Int64)) at_48 rfl rfl ?_
    refine s_lsub X0 hx hby (n := 50) at_49 rfl ?_
    refine s_foldJ (z := (16777215 : Int64)) (by decide) ?_
    refine s_lstore X0 hx hby (n := 52) (L' := #[.val (.int p0), .val (.int p1), .val (.int p2), .val (.int p3), .val (.int (3 : Int32)), .val (.int oo), .val (.long (16777215 : Int64)), .second, .unset, .unset, .unset, .unset, .unset, .unset, .unset, .unset, .unset, .unset]) at_50 rfl rfl ?_
    refine s_iloadN X0 hx hby (n := 53) (x := p0) at_52 rfl rfl ?_
    refine s_iload X0 hx hby (n := 55) (x := oo) at_53 rfl rfl ?_
    refine s_ixor X0 hx hby (n := 56) at_55 rfl ?_
    refine s_i2l X0 hx hby (n := 57) at_56 rfl ?_
    refine s_lload X0 hx hby (n := 59) (x := (16777215 : Int64)) at_57 rfl rfl ?_
    refine s_land X0 hx hby (n := 60) at_59 rfl ?_
    refine s_lconst X0 hx hby (n := 61) (v := (0 : Int64)) at_60 rfl rfl ?_
    refine s_lcmp X0 hx hby (n := 62) at_61 rfl ?_
    by_cases c62 : ((((p0 ^^^ oo)).toInt64) &&& (16777215 : Int64)) = (0 : Int64)
    · refine s_ifN X0 hx hby (n := 65) at_62 (XT.ll_ne_f c62) rfl ?_
      refine s_iconst X0 hx hby (n := 66) (v := (1 : Int32)) at_65 rfl rfl ?_
      refine s_goto X0 hx hby (n := 70) at_66 (by decide) (by decide) ?_
      refine s_istore X0 hx hby (n := 72) (L' := #[.val (.int p0), .val (.int p1), .val (.int p2), .val (.int p3), .val (.int (3 : Int32)), .val (.int oo), .val (.long (16777215 : Int64)), .second, .val (.int (1 : Int32)), .unset, .unset, .unset, .unset, .unset, .unset, .unset, .unset, .unset]) at_70 rfl rfl ?_
      refine s_iloadN X0 hx hby (n := 73) (x := p0) at_72 rfl rfl ?_
      refine s_iload X0 hx hby (n := 75) (x := (3 : Int32)) at_73 rfl rfl ?_
      refine s_callS X0 hx hby hml hZ (n := 78) hown (hw _ (List.mem_of_getElem? (i := 0) rfl)) (hw _ (List.mem_of_getElem? (i := 1) rfl)) (hw _ (List.mem_of_getElem? (i := 2) rfl)) (hw _ (List.mem_of_getElem? (i := 3) rfl)) (by decide) (rmB3 l Z a0 hw p0 h0 n0 Z0) e0 (by decide) 0 (by decide) (by decide) (by decide) pd_2 [(.int p0), (.int (3 : Int32))] [] rfl rfl rfl (Nat.le_of_eq rfl) rfl at_75 rfl ?_
      intro T1 L1 v1 X1 q1c
      obtain ⟨r9, c1, rfl, N1, K1, A1_r9, S1_r9, B1_r9_0, B1_r9_1, B1_r9_2⟩ := q1c
      show OEnds p e below s _ _ _ T1 (mkF m 78 #[.val (.int p0), .val (.int p1), .val (.int p2), .val (.int p3), .val (.int (3 : Int32)), .val (.int oo), .val (.long (16777215 : Int64)), .second, .val (.int (1 : Int32)), .unset, .unset, .unset, .unset, .unset, .unset, .unset, .unset, .unset] [(.ref r9)])
      have M1 := Fr.app M0 N1
      have Z1 := Nat.le_trans Z0 K1.1
      refine s_astore X1 hx hby (n := 80) (L' := #[.val (.int p0), .val (.int p1), .val (.int p2), .val (.int p3), .val (.int (3 : Int32)), .val (.int oo), .val (.long (16777215 : Int64)), .second, .val (.int (1 : Int32)), .val (.ref r9), .unset, .unset, .unset, .unset, .unset, .unset, .unset, .unset]) at_78 rfl rfl rfl ?_
      refine s_iload X1 hx hby (n := 82) (x := oo) at_80 rfl rfl ?_
      refine s_iload X1 hx hby (n := 84) (x := (3 : Int32)) at_82 rfl rfl ?_
      refine s_callS X1 hx hby hml hZ (n := 87) hown (hw _ (List.mem_of_getElem? (i := 0) rfl)) (hw _ (List.mem_of_getElem? (i := 1) rfl)) (hw _ (List.mem_of_getElem? (i := 2) rfl)) (hw _ (List.mem_of_getElem? (i := 3) rfl)) (by decide) (rmB3 l Z a0 hw oo T1.heap n0 Z1) rfl (by decide) 0 (by decide) (by decide) (by decide) pd_2 [(.int oo), (.int (3 : Int32))] [] rfl rfl rfl (Nat.le_of_eq rfl) rfl at_84 rfl ?_
      intro T2 L2 v2 X2 q2c
      obtain ⟨r10, c2, rfl, N2, K2, A2_r10, S2_r10, B2_r10_0, B2_r10_1, B2_r10_2⟩ := q2c
      show OEnds p e below s _ _ _ T2 (mkF m 87 #[.val (.int p0), .val (.int p1), .val (.int p2), .val (.int p3), .val (.int (3 : Int32)), .val (.int oo), .val (.long (16777215 : Int64)), .second, .val (.int (1 : Int32)), .val (.ref r9), .unset, .unset, .unset, .unset, .unset, .unset, .unset, .unset] [(.ref r10)])
      have A2_r9 : Arr Z T2.heap r9 c1 .byte := ⟨K2.2.1 _ _ A1_r9.1 nin0, A1_r9.2⟩
      have M2 := Fr.app M1 N2
      have Z2 := Nat.le_trans Z1 K2.1
      refine s_astore X2 hx hby (n := 89) (L' := #[.val (.int p0), .val (.int p1), .val (.int p2), .val (.int p3), .val (.int (3 : Int32)), .val (.int oo), .val (.long (16777215 : Int64)), .second, .val (.int (1 : Int32)), .val (.ref r9), .val (.ref r10), .unset, .unset, .unset, .unset, .unset, .unset, .unset]) at_87 rfl rfl rfl ?_
      refine s_aload X2 hx hby (n := 91) (x := (.ref r9)) at_89 rfl rfl rfl ?_
      refine s_callS X2 hx hby hml hZ (n := 94) hown (hw _ (List.mem_of_getElem? (i := 5) rfl)) (hw _ (List.mem_of_getElem? (i := 6) rfl)) (hw _ (List.mem_of_getElem? (i := 7) rfl)) (hw _ (List.mem_of_getElem? (i := 8) rfl)) (by decide) (rmH3 l Z a0 hw r9 c1 (nar .byte (p0).toInt8.toInt32) (nar .byte (XT.ushr p0 (8 : Int32)).toInt8.toInt32) (nar .byte (XT.ushr p0 (16 : Int32)).toInt8.toInt32) T2.heap n0 A2_r9 S1_r9 B1_r9_0 B1_r9_1 B1_r9_2) rfl (by decide) 0 (by decide) (by decide) (by decide) pd_1 [(.ref r9)] [] rfl rfl rfl (Nat.le_of_eq rfl) rfl at_91 rfl ?_
      intro T3 L3 v3 X3 q3c
      obtain ⟨rfl, e3, N3⟩ := q3c
      show OEnds p e below s _ _ _ T3 (mkF m 94 #[.val (.int p0), .val (.int p1), .val (.int p2), .val (.int p3), .val (.int (3 : Int32)), .val (.int oo), .val (.long (16777215 : Int64)), .second, .val (.int (1 : Int32)), .val (.ref r9), .val (.ref r10), .unset, .unset, .unset, .unset, .unset, .unset, .unset] [(.int (own_x15 ((own_x13 (((((-1756908913 : Int32) ^^^ (((nar .byte (p0).toInt8.toInt32) &&& (255 : Int32)) <<< ((0 : Int32) &&& 31))) ^^^ (((nar .byte (XT.ushr p0 (8 : Int32)).toInt8.toInt32) &&& (255 : Int32)) <<< ((8 : Int32) &&& 31))) ^^^ (((nar .byte (XT.ushr p0 (16 : Int32)).toInt8.toInt32) &&& (255 : Int32)) <<< ((16 : Int32) &&& 31))) * (1540483477 : Int32))) * (1540483477 : Int32))))])
      have M3 := Fr.app M2 N3
      refine s_aload X3 hx hby (n := 96) (x := (.ref r10)) at_94 rfl rfl rfl ?_
      refine s_callS X3 hx hby hml hZ (n := 99) hown (hw _ (List.mem_of_getElem? (i := 5) rfl)) (hw _ (List.mem_of_getElem? (i := 6) rfl)) (hw _ (List.mem_of_getElem? (i := 7) rfl)) (hw _ (List.mem_of_getElem? (i := 8) rfl)) (by decide) (rmH3 l Z a0 hw r10 c2 (nar .byte (oo).toInt8.toInt32) (nar .byte (XT.ushr oo (8 : Int32)).toInt8.toInt32) (nar .byte (XT.ushr oo (16 : Int32)).toInt8.toInt32) T2.heap n0 A2_r10 S2_r10 B2_r10_0 B2_r10_1 B2_r10_2) e3 (by decide) 1 (by decide) (by decide) (by decide) pd_1 [(.ref r10)] [(.int (own_x15 ((own_x13 (((((-1756908913 : Int32) ^^^ (((nar .byte (p0).toInt8.toInt32) &&& (255 : Int32)) <<< ((0 : Int32) &&& 31))) ^^^ (((nar .byte (XT.ushr p0 (8 : Int32)).toInt8.toInt32) &&& (255 : Int32)) <<< ((8 : Int32) &&& 31))) ^^^ (((nar .byte (XT.ushr p0 (16 : Int32)).toInt8.toInt32) &&& (255 : Int32)) <<< ((16 : Int32) &&& 31))) * (1540483477 : Int32))) * (1540483477 : Int32))))] rfl rfl rfl (Nat.le_of_eq rfl) rfl at_96 rfl ?_
      intro T4 L4 v4 X4 q4c
      obtain ⟨rfl, e4, N4⟩ := q4c
      show OEnds p e below s _ _ _ T4 (mkF m 99 #[.val (.int p0), .val (.int p1), .val (.int p2), .val (.int p3), .val (.int (3 : Int32)), .val (.int oo), .val (.long (16777215 : Int64)), .second, .val (.int (1 : Int32)), .val (.ref r9), .val (.ref r10), .unset, .unset, .unset, .unset, .unset, .unset, .unset] [(.int (own_x15 ((own_x13 (((((-1756908913 : Int32) ^^^ (((nar .byte (oo).toInt8.toInt32) &&& (255 : Int32)) <<< ((0 : Int32) &&& 31))) ^^^ (((nar .byte (XT.ushr oo (8 : Int32)).toInt8.toInt32) &&& (255 : Int32)) <<< ((8 : Int32) &&& 31))) ^^^ (((nar .byte (XT.ushr oo (16 : Int32)).toInt8.toInt32) &&& (255 : Int32)) <<< ((16 : Int32) &&& 31))) * (1540483477 : Int32))) * (1540483477 : Int32)))), (.int (own_x15 ((own_x13 (((((-1756908913 : Int32) ^^^ (((nar .byte (p0).toInt8.toInt32) &&& (255 : Int32)) <<< ((0 : Int32) &&& 31))) ^^^ (((nar .byte (XT.ushr p0 (8 : Int32)).toInt8.toInt32) &&& (255 : Int32)) <<< ((8 : Int32) &&& 31))) ^^^ (((nar .byte (XT.ushr p0 (16 : Int32)).toInt8.toInt32) &&& (255 : Int32)) <<< ((16 : Int32) &&& 31))) * (1540483477 : Int32))) * (1540483477 : Int32))))])
      have M4 := Fr.app M3 N4
      refine s_icmpN X4 hx hby (n := 102) at_99 (XT.ii_ne_f ((own_inj3 p0 oo).mp c62)) rfl ?_
      refine s_iconst X4 hx hby (n := 103) (v := (1 : Int32)) at_102 rfl rfl ?_
      refine s_goto X4 hx hby (n := 107) at_103 (by decide) (by decide) ?_
      refine s_iload X4 hx hby (n := 109) (x := (1 : Int32)) at_107 rfl rfl ?_
      refine s_icmpN X4 hx hby (n := 112) at_109 (by decide) rfl ?_
      refine s_iconst X4 hx hby (n := 113) (v := (1 : Int32)) at_112 rfl rfl ?_
      refine s_goto X4 hx hby (n := 117) at_113 (by decide) (by decide) ?_
      refine s_istore X4 hx hby (n := 119) (L' := #[.val (.int p0), .val (.int p1), .val (.int p2), .val (.int p3), .val (.int (3 : Int32)), .val (.int oo), .val (.long (16777215 : Int64)), .second, .val (.int (1 : Int32)), .val (.ref r9), .val (.ref r10), .val (.int (1 : Int32)), .unset, .unset, .unset, .unset, .unset, .unset]) at_117 rfl rfl ?_
      exact B119 _ _ _ _ _ _ _ _ _ X4 e4 M4 Z2
    · refine s_ifY X0 hx hby (n := 69) at_62 (XT.ll_ne_t c62) (by decide) (by decide) ?_
      refine s_iconst X0 hx hby (n := 70) (v := (0 : Int32)) at_69 rfl rfl ?_
      refine s_istore X0 hx hby (n := 72) (L' := #[.val (.int p0), .val (.int p1), .val (.int p2), .val (.int p3), .val (.int (3 : Int32)), .val (.int oo), .val (.long (16777215 : Int64)), .second, .val (.int (0 : Int32)), .unset, .unset, .unset, .unset, .unset, .unset, .unset, .unset, .unset]) at_70 rfl rfl ?_
      refine s_iloadN X0 hx hby (n := 73) (x := p0) at_72 rfl rfl ?_
      refine s_iload X0 hx hby (n := 75) (x := (3 : Int32)) at_73 rfl rfl ?_
      refine s_callS X0 hx hby hml hZ (n := 78) hown (hw _ (List.mem_of_getElem? (i := 0) rfl)) (hw _ (List.mem_of_getElem? (i := 1) rfl)) (hw _ (List.mem_of_getElem? (i := 2) rfl)) (hw _ (List.mem_of_getElem? (i := 3) rfl)) (by decide) (rmB3 l Z a0 hw p0 h0 n0 Z0) e0 (by decide) 0 (by decide) (by decide) (by decide) pd_2 [(.int p0), (.int (3 : Int32))] [] rfl rfl rfl (Nat.le_of_eq rfl) rfl at_75 rfl ?_
      intro T5 L5 v5 X5 q5c
      obtain ⟨r9, c5, rfl, N5, K5, A5_r9, S5_r9, B5_r9_0, B5_r9_1, B5_r9_2⟩ := q5c
      show OEnds p e below s _ _ _ T5 (mkF m 78 #[.val (.int p0), .val (.int p1), .val (.int p2), .val (.int p3), .val (.int (3 : Int32)), .val (.int oo), .val (.long (16777215 : Int64)), .second, .val (.int (0 : Int32)), .unset, .unset, .unset, .unset, .unset, .unset, .unset, .unset, .unset] [(.ref r9)])
      have M5 := Fr.app M0 N5
      have Z5 := Nat.le_trans Z0 K5.1
      refine s_astore X5 hx hby (n := 80) (L' := #[.val (.int p0), .val (.int p1), .val (.int p2), .val (.int p3), .val (.int (3 : Int32)), .val (.int oo), .val (.long (16777215 : Int64)), .second, .val (.int (0 : Int32)), .val (.ref r9), .unset, .unset, .unset, .unset, .unset, .unset, .unset, .unset]) at_78 rfl rfl rfl ?_
      refine s_iload X5 hx hby (n := 82) (x := oo) at_80 rfl rfl ?_
      refine s_iload X5 hx hby (n := 84) (x := (3 : Int32)) at_82 rfl rfl ?_
      refine s_callS X5 hx hby hml hZ (n := 87) hown (hw _ (List.mem_of_getElem? (i := 0) rfl)) (hw _ (List.mem_of_getElem? (i := 1) rfl)) (hw _ (List.mem_of_getElem? (i := 2) rfl)) (hw _ (List.mem_of_getElem? (i := 3) rfl)) (by decide) (rmB3 l Z a0 hw oo T5.heap n0 Z5) rfl (by decide) 0 (by decide) (by decide) (by decide) pd_2 [(.int oo), (.int (3 : Int32))] [] rfl rfl rfl (Nat.le_of_eq rfl) rfl at_84 rfl ?_
      intro T6 L6 v6 X6 q6c
      obtain ⟨r10, c6, rfl, N6, K6, A6_r10, S6_r10, B6_r10_0, B6_r10_1, B6_r10_2⟩ := q6c
      show OEnds p e below s _ _ _ T6 (mkF m 87 #[.val (.int p0), .val (.int p1), .val (.int p2), .val (.int p3), .val (.int (3 : Int32)), .val (.int oo), .val (.long (16777215 : Int64)), .second, .val (.int (0 : Int32)), .val (.ref r9), .unset, .unset, .unset, .unset, .unset, .unset, .unset, .unset] [(.ref r10)])
      have A6_r9 : Arr Z T6.heap r9 c5 .byte := ⟨K6.2.1 _ _ A5_r9.1 nin0, A5_r9.2⟩
      have M6 := Fr.app M5 N6
      have Z6 := Nat.le_trans Z5 K6.1
      refine s_astore X6 hx hby (n := 89) (L' := #[.val (.int p0), .val (.int p1), .val (.int p2), .val (.int p3), .val (.int (3 : Int32)), .val (.int oo), .val (.long (16777215 : Int64)), .second, .val (.int (0 : Int32)), .val (.ref r9), .val (.ref r10), .unset, .unset, .unset, .unset, .unset, .unset, .unset]) at_87 rfl rfl rfl ?_
      refine s_aload X6 hx hby (n := 91) (x := (.ref r9)) at_89 rfl rfl rfl ?_
      refine s_callS X6 hx hby hml hZ (n := 94) hown (hw _ (List.mem_of_getElem? (i := 5) rfl)) (hw _ (List.mem_of_getElem? (i := 6) rfl)) (hw _ (List.mem_of_getElem? (i := 7) rfl)) (hw _ (List.mem_of_getElem? (i := 8) rfl)) (by decide) (rmH3 l Z a0 hw r9 c5 (nar .byte (p0).toInt8.toInt32) (nar .byte (XT.ushr p0 (8 : Int32)).toInt8.toInt32) (nar .byte (XT.ushr p0 (16 : Int32)).toInt8.toInt32) T6.heap n0 A6_r9 S5_r9 B5_r9_0 B5_r9_1 B5_r9_2) rfl (by decide) 0 (by decide) (by decide) (by decide) pd_1 [(.ref r9)] [] rfl rfl rfl (Nat.le_of_eq rfl) rfl at_91 rfl ?_
      intro T7 L7 v7 X7 q7c
      obtain ⟨rfl, e7, N7⟩ := q7c
      show OEnds p e below s _ _ _ T7 (mkF m 94 #[.val (.int p0), .val (.int p1), .val (.int p2), .val (.int p3), .val (.int (3 : Int32)), .val (.int oo), .val (.long (16777215 : Int64)), .second, .val (.int (0 : Int32)), .val (.ref r9), .val (.ref r10), .unset, .unset, .unset, .unset, .unset, .unset, .unset] [(.int (own_x15 ((own_x13 (((((-1756908913 : Int32) ^^^ (((nar .byte (p0).toInt8.toInt32) &&& (255 : Int32)) <<< ((0 : Int32) &&& 31))) ^^^ (((nar .byte (XT.ushr p0 (8 : Int32)).toInt8.toInt32) &&& (255 : Int32)) <<< ((8 : Int32) &&& 31))) ^^^ (((nar .byte (XT.ushr p0 (16 : Int32)).toInt8.toInt32) &&& (255 : Int32)) <<< ((16 : Int32) &&& 31))) * (1540483477 : Int32))) * (1540483477 : Int32))))])
      have M7 := Fr.app M6 N7
      refine s_aload X7 hx hby (n := 96) (x := (.ref r10)) at_94 rfl rfl rfl ?_
      refine s_callS X7 hx hby hml hZ (n := 99) hown (hw _ (List.mem_of_getElem? (i := 5) rfl)) (hw _ (List.mem_of_getElem? (i := 6) rfl)) (hw _ (List.mem_of_getElem? (i := 7) rfl)) (hw _ (List.mem_of_getElem? (i := 8) rfl)) (by decide) (rmH3 l Z a0 hw r10 c6 (nar .byte (oo).toInt8.toInt32) (nar .byte (XT.ushr oo (8 : Int32)).toInt8.toInt32) (nar .byte (XT.ushr oo (16 : Int32)).toInt8.toInt32) T6.heap n0 A6_r10 S6_r10 B6_r10_0 B6_r10_1 B6_r10_2) e7 (by decide) 1 (by decide) (by decide) (by decide) pd_1 [(.ref r10)] [(.int (own_x15 ((own_x13 (((((-1756908913 : Int32) ^^^ (((nar .byte (p0).toInt8.toInt32) &&& (255 : Int32)) <<< ((0 : Int32) &&& 31))) ^^^ (((nar .byte (XT.ushr p0 (8 : Int32)).toInt8.toInt32) &&& (255 : Int32)) <<< ((8 : Int32) &&& 31))) ^^^ (((nar .byte (XT.ushr p0 (16 : Int32)).toInt8.toInt32) &&& (255 : Int32)) <<< ((16 : Int32) &&& 31))) * (1540483477 : Int32))) * (1540483477 : Int32))))] rfl rfl rfl (Nat.le_of_eq rfl) rfl at_96 rfl ?_
      intro T8 L8 v8 X8 q8c
      obtain ⟨rfl, e8, N8⟩ := q8c
      show OEnds p e below s _ _ _ T8 (mkF m 99 #[.val (.int p0), .val (.int p1), .val (.int p2), .val (.int p3), .val (.int (3 : Int32)), .val (.int oo), .val (.long (16777215 : Int64)), .second, .val (.int (0 : Int32)), .val (.ref r9), .val (.ref r10), .unset, .unset, .unset, .unset, .unset, .unset, .unset] [(.int (own_x15 ((own_x13 (((((-1756908913 : Int32) ^^^ (((nar .byte (oo).toInt8.toInt32) &&& (255 : Int32)) <<< ((0 : Int32) &&& 31))) ^^^ (((nar .byte (XT.ushr oo (8 : Int32)).toInt8.toInt32) &&& (255 : Int32)) <<< ((8 : Int32) &&& 31))) ^^^ (((nar .byte (XT.ushr oo (16 : Int32)).toInt8.toInt32) &&& (255 : Int32)) <<< ((16 : Int32) &&& 31))) * (1540483477 : Int32))) * (1540483477 : Int32)))), (.int (own_x15 ((own_x13 (((((-1756908913 : Int32) ^^^ (((nar .byte (p0).toInt8.toInt32) &&& (255 : Int32)) <<< ((0 : Int32) &&& 31))) ^^^ (((nar .byte (XT.ushr p0 (8 : Int32)).toInt8.toInt32) &&& (255 : Int32)) <<< ((8 : Int32) &&& 31))) ^^^ (((nar .byte (XT.ushr p0 (16 : Int32)).toInt8.toInt32) &&& (255 : Int32)) <<< ((16 : Int32) &&& 31))) * (1540483477 : Int32))) * (1540483477 : Int32))))])
      have M8 := Fr.app M7 N8
      refine s_icmpY X8 hx hby (n := 106) at_99 (XT.ii_ne_t (fun q => c62 ((own_inj3 p0 oo).mpr q))) (by decide) (by decide) ?_
      refine s_iconst X8 hx hby (n := 107) (v := (0 : Int32)) at_106 rfl rfl ?_
      refine s_iload X8 hx hby (n := 109) (x := (0 : Int32)) at_107 rfl rfl ?_
      refine s_icmpN X8 hx hby (n := 112) at_109 (by decide) rfl ?_
      refine s_iconst X8 hx hby (n := 113) (v := (1 : Int32)) at_112 rfl rfl ?_
      refine s_goto X8 hx hby (n := 117) at_113 (by decide) (by decide) ?_
      refine s_istore X8 hx hby (n := 119) (L' := #[.val (.int p0), .val (.int p1), .val (.int p2), .val (.int p3), .val (.int (3 : Int32)), .val (.int oo), .val (.long (16777215 : Int64)), .second, .val (.int (0 : Int32)), .val (.ref r9), .val (.ref r10), .val (.int (1 : Int32)), .unset, .unset, .unset, .unset, .unset, .unset]) at_117 rfl rfl ?_
      exact B119 _ _ _ _ _ _ _ _ _ X8 e8 M8 Z6
  have B29_4 : ∀ oo : Int32, OEnds p e below s room_1.cells room_1.slots (fun v h L => v = some (.int 1) ∧ Fr n0 L) s₁ (mkF m 29 #[.val (.int p0), .val (.int p1), .val (.int p2), .val (.int p3), .val (.int (4 : Int32)), .val (.int oo), .unset, .unset, .unset, .unset, .unset, .unset, .unset, .unset, .unset, .unset, .unset, .unset] []) := by
    intro oo
    refine s_iload X0 hx hby (n := 31) (x := (4 : Int32)) at_29 rfl rfl ?_
    refine s_iconst X0 hx hby (n := 32) (v := (4 : Int32)) at_31 rfl rfl ?_
    refine s_icmpN X0 hx hby (n := 35) at_32 (by decide) rfl ?_
    refine s_ldc2J X0 hx hby hZ (n := 38) hown (hw _ (List.mem_of_getElem? (i := 19) rfl)) at_35 rfl ?_
    refine s_goto X0 hx hby (n := 50) at_38 (by decide) (by decide) ?_
    refine s_lstore X0 hx hby (n := 52) (L' := #[.val (.int p0), .val (.int p1), .val (.int p2), .val (.int p3), .val (.int (4 : Int32)), .val (.int oo), .val (.long (4294967295 : Int64)), .second, .unset, .unset, .unset, .unset, .unset, .unset, .unset, .unset, .unset, .unset]) at_50 rfl rfl ?_
    refine s_iloadN X0 hx hby (n := 53) (x := p0) at_52 rfl rfl ?_
    refine s_iload X0 hx hby (n := 55) (x := oo) at_53 rfl rfl ?_
    refine s_ixor X0 hx hby (n := 56) at_55 rfl ?_
    refine s_i2l X0 hx hby (n := 57) at_56 rfl ?_
    refine s_lload X0 hx hby (n := 59) (x := (4294967295 : Int64)) at_57 rfl rfl ?_
    refine s_land X0 hx hby (n := 60) at_59 rfl ?_
    refine s_lconst X0 hx hby (n := 61) (v := (0 : Int64)) at_60 rfl rfl ?_
    refine s_lcmp X0 hx hby (n := 62) at_61 rfl ?_
    by_cases c62 : ((((p0 ^^^ oo)).toInt64) &&& (4294967295 : Int64)) = (0 : Int64)
    · refine s_ifN X0 hx hby (n := 65) at_62 (XT.ll_ne_f c62) rfl ?_
      refine s_iconst X0 hx hby (n := 66) (v := (1 : Int32)) at_65 rfl rfl ?_
      refine s_goto X0 hx hby (n := 70) at_66 (by decide) (by decide) ?_
      refine s_istore X0 hx hby (n := 72) (L' := #[.val (.int p0), .val (.int p1), .val (.int p2), .val (.int p3), .val (.int (4 : Int32)), .val (.int oo), .val (.long (4294967295 : Int64)), .second, .val (.int (1 : Int32)), .unset, .unset, .unset, .unset, .unset, .unset, .unset, .unset, .unset]) at_70 rfl rfl ?_
      refine s_iloadN X0 hx hby (n := 73) (x := p0) at_72 rfl rfl ?_
      refine s_iload X0 hx hby (n := 75) (x := (4 : Int32)) at_73 rfl rfl ?_
      refine s_callS X0 hx hby hml hZ (n := 78) hown (hw _ (List.mem_of_getElem? (i := 0) rfl)) (hw _ (List.mem_of_getElem? (i := 1) rfl)) (hw _ (List.mem_of_getElem? (i := 2) rfl)) (hw _ (List.mem_of_getElem? (i := 3) rfl)) (by decide) (rmB4 l Z a0 hw p0 h0 n0 Z0) e0 (by decide) 0 (by decide) (by decide) (by decide) pd_2 [(.int p0), (.int (4 : Int32))] [] rfl rfl rfl (Nat.le_of_eq rfl) rfl at_75 rfl ?_
      intro T1 L1 v1 X1 q1c
      obtain ⟨r9, c1, rfl, N1, K1, A1_r9, S1_r9, B1_r9_0, B1_r9_1, B1_r9_2, B1_r9_3⟩ := q1c
      show OEnds p e below s _ _ _ T1 (mkF m 78 #[.val (.int p0), .val (.int p1), .val (.int p2), .val (.int p3), .val (.int (4 : Int32)), .val (.int oo), .val (.long (4294967295 : Int64)), .second, .val (.int (1 : Int32)), .unset, .unset, .unset, .unset, .unset, .unset, .unset, .unset, .unset] [(.ref r9)])
      have M1 := Fr.app M0 N1
      have Z1 := Nat.le_trans Z0 K1.1
      refine s_astore X1 hx hby (n := 80) (L' := #[.val (.int p0), .val (.int p1), .val (.int p2), .val (.int p3), .val (.int (4 : Int32)), .val (.int oo), .val (.long (4294967295 : Int64)), .second, .val (.int (1 : Int32)), .val (.ref r9), .unset, .unset, .unset, .unset, .unset, .unset, .unset, .unset]) at_78 rfl rfl rfl ?_
      refine s_iload X1 hx hby (n := 82) (x := oo) at_80 rfl rfl ?_
      refine s_iload X1 hx hby (n := 84) (x := (4 : Int32)) at_82 rfl rfl ?_
      refine s_callS X1 hx hby hml hZ (n := 87) hown (hw _ (List.mem_of_getElem? (i := 0) rfl)) (hw _ (List.mem_of_getElem? (i := 1) rfl)) (hw _ (List.mem_of_getElem? (i := 2) rfl)) (hw _ (List.mem_of_getElem? (i := 3) rfl)) (by decide) (rmB4 l Z a0 hw oo T1.heap n0 Z1) rfl (by decide) 0 (by decide) (by decide) (by decide) pd_2 [(.int oo), (.int (4 : Int32))] [] rfl rfl rfl (Nat.le_of_eq rfl) rfl at_84 rfl ?_
      intro T2 L2 v2 X2 q2c
      obtain ⟨r10, c2, rfl, N2, K2, A2_r10, S2_r10, B2_r10_0, B2_r10_1, B2_r10_2, B2_r10_3⟩ := q2c
      show OEnds p e below s _ _ _ T2 (mkF m 87 #[.val (.int p0), .val (.int p1), .val (.int p2), .val (.int p3), .val (.int (4 : Int32)), .val (.int oo), .val (.long (4294967295 : Int64)), .second, .val (.int (1 : Int32)), .val (.ref r9), .unset, .unset, .unset, .unset, .unset, .unset, .unset, .unset] [(.ref r10)])
      have A2_r9 : Arr Z T2.heap r9 c1 .byte := ⟨K2.2.1 _ _ A1_r9.1 nin0, A1_r9.2⟩
      have M2 := Fr.app M1 N2
      have Z2 := Nat.le_trans Z1 K2.1
      refine s_astore X2 hx hby (n := 89) (L' := #[.val (.int p0), .val (.int p1), .val (.int p2), .val (.int p3), .val (.int (4 : Int32)), .val (.int oo), .val (.long (4294967295 : Int64)), .second, .val (.int (1 : Int32)), .val (.ref r9), .val (.ref r10), .unset, .unset, .unset, .unset, .unset, .unset, .unset]) at_87 rfl rfl rfl ?_
      refine s_aload X2 hx hby (n := 91) (x := (.ref r9)) at_89 rfl rfl rfl ?_
      refine s_callS X2 hx hby hml hZ (n := 94) hown (hw _ (List.mem_of_getElem? (i := 5) rfl)) (hw _ (List.mem_of_getElem? (i := 6) rfl)) (hw _ (List.mem_of_getElem? (i := 7) rfl)) (hw _ (List.mem_of_getElem? (i := 8) rfl)) (by decide) (rmH4 l Z a0 hw r9 c1 (nar .byte (p0).toInt8.toInt32) (nar .byte (XT.ushr p0 (8 : Int32)).toInt8.toInt32) (nar .byte (XT.ushr p0 (16 : Int32)).toInt8.toInt32) (nar .byte (XT.ushr p0 (24 : Int32)).toInt8.toInt32) T2.heap n0 A2_r9 S1_r9 B1_r9_0 B1_r9_1 B1_r9_2 B1_r9_3) rfl (by decide) 0 (by decide) (by decide) (by decide) pd_1 [(.ref r9)] [] rfl rfl rfl (Nat.le_of_eq rfl) rfl at_91 rfl ?_
      intro T3 L3 v3 X3 q3c
      obtain ⟨rfl, e3, N3⟩ := q3c
      show OEnds p e below s _ _ _ T3 (mkF m 94 #[.val (.int p0), .val (.int p1), .val (.int p2), .val (.int p3), .val (.int (4 : Int32)), .val (.int oo), .val (.long (4294967295 : Int64)), .second, .val (.int (1 : Int32)), .val (.ref r9), .val (.ref r10), .unset, .unset, .unset, .unset, .unset, .unset, .unset] [(.int (own_x15 ((own_x13 (own_stp (-1756908920 : Int32) (own_le (nar .byte (p0).toInt8.toInt32) (nar .byte (XT.ushr p0 (8 : Int32)).toInt8.toInt32) (nar .byte (XT.ushr p0 (16 : Int32)).toInt8.toInt32) (nar .byte (XT.ushr p0 (24 : Int32)).toInt8.toInt32)))) * (1540483477 : Int32))))])
      have M3 := Fr.app M2 N3
      refine s_aload X3 hx hby (n := 96) (x := (.ref r10)) at_94 rfl rfl rfl ?_
      refine s_callS X3 hx hby hml hZ (n := 99) hown (hw _ (List.mem_of_getElem? (i := 5) rfl)) (hw _ (List.mem_of_getElem? (i := 6) rfl)) (hw _ (List.mem_of_getElem? (i := 7) rfl)) (hw _ (List.mem_of_getElem? (i := 8) rfl)) (by decide) (rmH4 l Z a0 hw r10 c2 (nar .byte (oo).toInt8.toInt32) (nar .byte (XT.ushr oo (8 : Int32)).toInt8.toInt32) (nar .byte (XT.ushr oo (16 : Int32)).toInt8.toInt32) (nar .byte (XT.ushr oo (24 : Int32)).toInt8.toInt32) T2.heap n0 A2_r10 S2_r10 B2_r10_0 B2_r10_1 B2_r10_2 B2_r10_3) e3 (by decide) 1 (by decide) (by decide) (by decide) pd_1 [(.ref r10)] [(.int (own_x15 ((own_x13 (own_stp (-1756908920 : Int32) (own_le (nar .byte (p0).toInt8.toInt32) (nar .byte (XT.ushr p0 (8 : Int32)).toInt8.toInt32) (nar .byte (XT.ushr p0 (16 : Int32)).toInt8.toInt32) (nar .byte (XT.ushr p0 (24 : Int32)).toInt8.toInt32)))) * (1540483477 : Int32))))] rfl rfl rfl (Nat.le_of_eq rfl) rfl at_96 rfl ?_
      intro T4 L4 v4 X4 q4c
      obtain ⟨rfl, e4, N4⟩ := q4c
      show OEnds p e below s _ _ _ T4 (mkF m 99 #[.val (.int p0), .val (.int p1), .val (.int p2), .val (.int p3), .val (.int (4 : Int32)), .val (.int oo), .val (.long (4294967295 : Int64)), .second, .val (.int (1 : Int32)), .val (.ref r9), .val (.ref r10), .unset, .unset, .unset, .unset, .unset, .unset, .unset] [(.int (own_x15 ((own_x13 (own_stp (-1756908920 : Int32) (own_le (nar .byte (oo).toInt8.toInt32) (nar .byte (XT.ushr oo (8 : Int32)).toInt8.toInt32) (nar .byte (XT.ushr oo (16 : Int32)).toInt8.toInt32) (nar .byte (XT.ushr oo (24 : Int32)).toInt8.toInt32)))) * (1540483477 : Int32)))), (.int (own_x15 ((own_x13 (own_stp (-1756908920 : Int32) (own_le (nar .byte (p0).toInt8.toInt32) (nar .byte (XT.ushr p0 (8 : Int32)).toInt8.toInt32) (nar .byte (XT.ushr p0 (16 : Int32)).toInt8.toInt32) (nar .byte (XT.ushr p0 (24 : Int32)).toInt8.toInt32)))) * (1540483477 : Int32))))])
      have M4 := Fr.app M3 N4
      refine s_icmpN X4 hx hby (n := 102) at_99 (XT.ii_ne_f ((own_inj4 p0 oo).mp c62)) rfl ?_
      refine s_iconst X4 hx hby (n := 103) (v := (1 : Int32)) at_102 rfl rfl ?_
      refine s_goto X4 hx hby (n := 107) at_103 (by decide) (by decide) ?_
      refine s_iload X4 hx hby (n := 109) (x := (1 : Int32)) at_107 rfl rfl ?_
      refine s_icmpN X4 hx hby (n := 112) at_109 (by decide) rfl ?_
      refine s_iconst X4 hx hby (n := 113) (v := (1 : Int32)) at_112 rfl rfl ?_
      refine s_goto X4 hx hby (n := 117) at_113 (by decide) (by decide) ?_
      refine s_istore X4 hx hby (n := 119) (L' := #[.val (.int p0), .val (.int p1), .val (.int p2), .val (.int p3), .val (.int (4 : Int32)), .val (.int oo), .val (.long (4294967295 : Int64)), .second, .val (.int (1 : Int32)), .val (.ref r9), .val (.ref r10), .val (.int (1 : Int32)), .unset, .unset, .unset, .unset, .unset, .unset]) at_117 rfl rfl ?_
      exact B119 _ _ _ _ _ _ _ _ _ X4 e4 M4 Z2
    · refine s_ifY X0 hx hby (n := 69) at_62 (XT.ll_ne_t c62) (by decide) (by decide) ?_
      refine s_iconst X0 hx hby (n := 70) (v := (0 : Int32)) at_69 rfl rfl ?_
      refine s_istore X0 hx hby (n := 72) (L' := #[.val (.int p0), .val (.int p1), .val (.int p2), .val (.int p3), .val (.int (4 : Int32)), .val (.int oo), .val (.long (4294967295 : Int64)), .second, .val (.int (0 : Int32)), .unset, .unset, .unset, .unset, .unset, .unset, .unset, .unset, .unset]) at_70 rfl rfl ?_
      refine s_iloadN X0 hx hby (n := 73) (x := p0) at_72 rfl rfl ?_
      refine s_iload X0 hx hby (n := 75) (x := (4 : Int32)) at_73 rfl rfl ?_
      refine s_callS X0 hx hby hml hZ (n := 78) hown (hw _ (List.mem_of_getElem? (i := 0) rfl)) (hw _ (List.mem_of_getElem? (i := 1) rfl)) (hw _ (List.mem_of_getElem? (i := 2) rfl)) (hw _ (List.mem_of_getElem? (i := 3) rfl)) (by decide) (rmB4 l Z a0 hw p0 h0 n0 Z0) e0 (by decide) 0 (by decide) (by decide) (by decide) pd_2 [(.int p0), (.int (4 : Int32))] [] rfl rfl rfl (Nat.le_of_eq rfl) rfl at_75 rfl ?_
      intro T5 L5 v5 X5 q5c
      obtain ⟨r9, c5, rfl, N5, K5, A5_r9, S5_r9, B5_r9_0, B5_r9_1, B5_r9_2, B5_r9_3⟩ := q5c
      show OEnds p e below s _ _ _ T5 (mkF m 78 #[.val (.int p0), .val (.int p1), .val (.int p2), .val (.int p3), .val (.int (4 : Int32)), .val (.int oo), .val (.long (4294967295 : Int64)), .second, .val (.int (0 : Int32)), .unset, .unset, .unset, .unset, .unset, .unset, .unset, .unset, .unset] [(.ref r9)])
      have M5 := Fr.app M0 N5
      have Z5 := Nat.le_trans Z0 K5.1
      refine s_astore X5 hx hby (n := 80) (L' := #[.val (.int p0), .val (.int p1), .val (.int p2), .val (.int p3), .val (.int (4 : Int32)), .val (.int oo), .val (.long (4294967295 : Int64)), .second, .val (.int (0 : Int32)), .val (.ref r9), .unset, .unset, .unset, .unset, .unset, .unset, .unset, .unset]) at_78 rfl rfl rfl ?_
      refine s_iload X5 hx hby (n := 82) (x := oo) at_80 rfl rfl ?_
      refine s_iload X5 hx hby (n := 84) (x := (4 : Int32)) at_82 rfl rfl ?_
      refine s_callS X5 hx hby hml hZ (n := 87) hown (hw _ (List.mem_of_getElem? (i := 0) rfl)) (hw _ (List.mem_of_getElem? (i := 1) rfl)) (hw _ (List.mem_of_getElem? (i := 2) rfl)) (hw _ (List.mem_of_getElem? (i := 3) rfl)) (by decide) (rmB4 l Z a0 hw oo T5.heap n0 Z5) rfl (by decide) 0 (by decide) (by decide) (by decide) pd_2 [(.int oo), (.int (4 : Int32))] [] rfl rfl rfl (Nat.le_of_eq rfl) rfl at_84 rfl ?_
      intro T6 L6 v6 X6 q6c
      obtain ⟨r10, c6, rfl, N6, K6, A6_r10, S6_r10, B6_r10_0, B6_r10_1, B6_r10_2, B6_r10_3⟩ := q6c
      show OEnds p e below s _ _ _ T6 (mkF m 87 #[.val (.int p0), .val (.int p1), .val (.int p2), .val (.int p3), .val (.int (4 : Int32)), .val (.int oo), .val (.long (4294967295 : Int64)), .second, .val (.int (0 : Int32)), .val (.ref r9), .unset, .unset, .unset, .unset, .unset, .unset, .unset, .unset] [(.ref r10)])
      have A6_r9 : Arr Z T6.heap r9 c5 .byte := ⟨K6.2.1 _ _ A5_r9.1 nin0, A5_r9.2⟩
      have M6 := Fr.app M5 N6
      have Z6 := Nat.le_trans Z5 K6.1
      refine s_astore X6 hx hby (n := 89) (L' := #[.val (.int p0), .val (.int p1), .val (.int p2), .val (.int p3), .val (.int (4 : Int32)), .val (.int oo), .val (.long (4294967295 : Int64)), .second, .val (.int (0 : Int32)), .val (.ref r9), .val (.ref r10), .unset, .unset, .unset, .unset, .unset, .unset, .unset]) at_87 rfl rfl rfl ?_
      refine s_aload X6 hx hby (n := 91) (x := (.ref r9)) at_89 rfl rfl rfl ?_
      refine s_callS X6 hx hby hml hZ (n := 94) hown (hw _ (List.mem_of_getElem? (i := 5) rfl)) (hw _ (List.mem_of_getElem? (i := 6) rfl)) (hw _ (List.mem_of_getElem? (i := 7) rfl)) (hw _ (List.mem_of_getElem? (i := 8) rfl)) (by decide) (rmH4 l Z a0 hw r9 c5 (nar .byte (p0).toInt8.toInt32) (nar .byte (XT.ushr p0 (8 : Int32)).toInt8.toInt32) (nar .byte (XT.ushr p0 (16 : Int32)).toInt8.toInt32) (nar .byte (XT.ushr p0 (24 : Int32)).toInt8.toInt32) T6.heap n0 A6_r9 S5_r9 B5_r9_0 B5_r9_1 B5_r9_2 B5_r9_3) rfl (by decide) 0 (by decide) (by decide) (by decide) pd_1 [(.ref r9)] [] rfl rfl rfl (Nat.le_of_eq rfl) rfl at_91 rfl ?_
      intro T7 L7 v7 X7 q7c
      obtain ⟨rfl, e7, N7⟩ := q7c
      show OEnds p e below s _ _ _ T7 (mkF m 94 #[.val (.int p0), .val (.int p1), .val (.int p2), .val (.int p3), .val (.int (4 : Int32)), .val (.int oo), .val (.long (4294967295 : Int64)), .second, .val (.int (0 : Int32)), .val (.ref r9), .val (.ref r10), .unset, .unset, .unset, .unset, .unset, .unset, .unset] [(.int (own_x15 ((own_x13 (own_stp (-1756908920 : Int32) (own_le (nar .byte (p0).toInt8.toInt32) (nar .byte (XT.ushr p0 (8 : Int32)).toInt8.toInt32) (nar .byte (XT.ushr p0 (16 : Int32)).toInt8.toInt32) (nar .byte (XT.ushr p0 (24 : Int32)).toInt8.toInt32)))) * (1540483477 : Int32))))])
      have M7 := Fr.app M6 N7
      refine s_aload X7 hx hby (n := 96) (x := (.ref r10)) at_94 rfl rfl rfl ?_
      refine s_callS X7 hx hby hml hZ (n := 99) hown (hw _ (List.mem_of_getElem? (i := 5) rfl)) (hw _ (List.mem_of_getElem? (i := 6) rfl)) (hw _ (List.mem_of_getElem? (i := 7) rfl)) (hw _ (List.mem_of_getElem? (i := 8) rfl)) (by decide) (rmH4 l Z a0 hw r10 c6 (nar .byte (oo).toInt8.toInt32) (nar .byte (XT.ushr oo (8 : Int32)).toInt8.toInt32) (nar .byte (XT.ushr oo (16 : Int32)).toInt8.toInt32) (nar .byte (XT.ushr oo (24 : Int32)).toInt8.toInt32) T6.heap n0 A6_r10 S6_r10 B6_r10_0 B6_r10_1 B6_r10_2 B6_r10_3) e7 (by decide) 1 (by decide) (by decide) (by decide) pd_1 [(.ref r10)] [(.int (own_x15 ((own_x13 (own_stp (-1756908920 : Int32) (own_le (nar .byte (p0).toInt8.toInt32) (nar .byte (XT.ushr p0 (8 : Int32)).toInt8.toInt32) (nar .byte (XT.ushr p0 (16 : Int32)).toInt8.toInt32) (nar .byte (XT.ushr p0 (24 : Int32)).toInt8.toInt32)))) * (1540483477 : Int32))))] rfl rfl rfl (Nat.le_of_eq rfl) rfl at_96 rfl ?_
      intro T8 L8 v8 X8 q8c
      obtain ⟨rfl, e8, N8⟩ := q8c
      show OEnds p e below s _ _ _ T8 (mkF m 99 #[.val (.int p0), .val (.int p1), .val (.int p2), .val (.int p3), .val (.int (4 : Int32)), .val (.int oo), .val (.long (4294967295 : Int64)), .second, .val (.int (0 : Int32)), .val (.ref r9), .val (.ref r10), .unset, .unset, .unset, .unset, .unset, .unset, .unset] [(.int (own_x15 ((own_x13 (own_stp (-1756908920 : Int32) (own_le (nar .byte (oo).toInt8.toInt32) (nar .byte (XT.ushr oo (8 : Int32)).toInt8.toInt32) (nar .byte (XT.ushr oo (16 : Int32)).toInt8.toInt32) (nar .byte (XT.ushr oo (24 : Int32)).toInt8.toInt32)))) * (1540483477 : Int32)))), (.int (own_x15 ((own_x13 (own_stp (-1756908920 : Int32) (own_le (nar .byte (p0).toInt8.toInt32) (nar .byte (XT.ushr p0 (8 : Int32)).toInt8.toInt32) (nar .byte (XT.ushr p0 (16 : Int32)).toInt8.toInt32) (nar .byte (XT.ushr p0 (24 : Int32)).toInt8.toInt32)))) * (1540483477 : Int32))))])
      have M8 := Fr.app M7 N8
      refine s_icmpY X8 hx hby (n := 106) at_99 (XT.ii_ne_t (fun q => c62 ((own_inj4 p0 oo).mpr q))) (by decide) (by decide) ?_
      refine s_iconst X8 hx hby (n := 107) (v := (0 : Int32)) at_106 rfl rfl ?_
      refine s_iload X8 hx hby (n := 109) (x := (0 : Int32)) at_107 rfl rfl ?_
      refine s_icmpN X8 hx hby (n := 112) at_109 (by decide) rfl ?_
      refine s_iconst X8 hx hby (n := 113) (v := (1 : Int32)) at_112 rfl rfl ?_
      refine s_goto X8 hx hby (n := 117) at_113 (by decide) (by decide) ?_
      refine s_istore X8 hx hby (n := 119) (L' := #[.val (.int p0), .val (.int p1), .val (.int p2), .val (.int p3), .val (.int (4 : Int32)), .val (.int oo), .val (.long (4294967295 : Int64)), .second, .val (.int (0 : Int32)), .val (.ref r9), .val (.ref r10), .val (.int (1 : Int32)), .unset, .unset, .unset, .unset, .unset, .unset]) at_117 rfl rfl ?_
      exact B119 _ _ _ _ _ _ _ _ _ X8 e8 M8 Z6
  refine s_iloadN X0 hx hby (n := 1) (x := p2) at_0 rfl rfl ?_
  refine s_iconst X0 hx hby (n := 2) (v := (3 : Int32)) at_1 rfl rfl ?_
  refine s_iand X0 hx hby (n := 3) at_2 rfl ?_
  refine s_iconst X0 hx hby (n := 4) (v := (1 : Int32)) at_3 rfl rfl ?_
  refine s_iadd X0 hx hby (n := 5) at_4 rfl ?_
  rcases own_four p2 with qn | qn | qn | qn
  · refine s_fold (z := (1 : Int32)) qn ?_
    refine s_istore X0 hx hby (n := 7) (L' := #[.val (.int p0), .val (.int p1), .val (.int p2), .val (.int p3), .val (.int (1 : Int32)), .unset, .unset, .unset, .unset, .unset, .unset, .unset, .unset, .unset, .unset, .unset, .unset, .unset]) at_5 rfl rfl ?_
    refine s_iloadN X0 hx hby (n := 8) (x := p3) at_7 rfl rfl ?_
    refine s_iconst X0 hx hby (n := 9) (v := (1 : Int32)) at_8 rfl rfl ?_
    refine s_iand X0 hx hby (n := 10) at_9 rfl ?_
    by_cases c10 : (p3 &&& (1 : Int32)) = (0 : Int32)
    · refine s_ifY X0 hx hby (n := 26) at_10 (XT.i0_eq_t c10) (by decide) (by decide) ?_
      refine s_iloadN X0 hx hby (n := 27) (x := p1) at_26 rfl rfl ?_
      refine s_istore X0 hx hby (n := 29) (L' := #[.val (.int p0), .val (.int p1), .val (.int p2), .val (.int p3), .val (.int (1 : Int32)), .val (.int p1), .unset, .unset, .unset, .unset, .unset, .unset, .unset, .unset, .unset, .unset, .unset, .unset]) at_27 rfl rfl ?_
      exact B29_1 _
    · refine s_ifN X0 hx hby (n := 13) at_10 (XT.i0_eq_f c10) rfl ?_
      refine s_iloadN X0 hx hby (n := 14) (x := p0) at_13 rfl rfl ?_
      refine s_iconst X0 hx hby (n := 15) (v := (1 : Int32)) at_14 rfl rfl ?_
      refine s_iloadN X0 hx hby (n := 16) (x := p3) at_15 rfl rfl ?_
      refine s_iconst X0 hx hby (n := 17) (v := (1 : Int32)) at_16 rfl rfl ?_
      refine s_iushr X0 hx hby (n := 18) at_17 rfl ?_
      refine s_bipush X0 hx hby (n := 20) (v := (31 : Int32)) at_18 rfl rfl ?_
      refine s_iand X0 hx hby (n := 21) at_20 rfl ?_
      refine s_ishl X0 hx hby (n := 22) at_21 rfl ?_
      refine s_ixor X0 hx hby (n := 23) at_22 rfl ?_
      refine s_goto X0 hx hby (n := 27) at_23 (by decide) (by decide) ?_
      refine s_istore X0 hx hby (n := 29) (L' := #[.val (.int p0), .val (.int p1), .val (.int p2), .val (.int p3), .val (.int (1 : Int32)), .val (.int (p0 ^^^ ((1 : Int32) <<< (((XT.ushr p3 (1 : Int32)) &&& (31 : Int32)) &&& 31)))), .unset, .unset, .unset, .unset, .unset, .unset, .unset, .unset, .unset, .unset, .unset, .unset]) at_27 rfl rfl ?_
      exact B29_1 _
  · refine s_fold (z := (2 : Int32)) qn ?_
    refine s_istore X0 hx hby (n := 7) (L' := #[.val (.int p0), .val (.int p1), .val (.int p2), .val (.int p3), .val (.int (2 : Int32)), .unset, .unset, .unset, .unset, .unset, .unset, .unset, .unset, .unset, .unset, .unset, .unset, .unset]) at_5 rfl rfl ?_
    refine s_iloadN X0 hx hby (n := 8) (x := p3) at_7 rfl rfl ?_
    refine s_iconst X0 hx hby (n := 9) (v := (1 : Int32)) at_8 rfl rfl ?_
    refine s_iand X0 hx hby (n := 10) at_9 rfl ?_
    by_cases c10 : (p3 &&& (1 : Int32)) = (0 : Int32)
    · refine s_ifY X0 hx hby (n := 26) at_10 (XT.i0_eq_t c10) (by decide) (by decide) ?_
      refine s_iloadN X0 hx hby (n := 27) (x := p1) at_26 rfl rfl ?_
      refine s_istore X0 hx hby (n := 29) (L' := #[.val (.int p0), .val (.int p1), .val (.int p2), .val (.int p3), .val (.int (2 : Int32)), .val (.int p1), .unset, .unset, .unset, .unset, .unset, .unset, .unset, .unset, .unset, .unset, .unset, .unset]) at_27 rfl rfl ?_
      exact B29_2 _
    · refine s_ifN X0 hx hby (n := 13) at_10 (XT.i0_eq_f c10) rfl ?_
      refine s_iloadN X0 hx hby (n := 14) (x := p0) at_13 rfl rfl ?_
      refine s_iconst X0 hx hby (n := 15) (v := (1 : Int32)) at_14 rfl rfl ?_
      refine s_iloadN X0 hx hby (n := 16) (x := p3) at_15 rfl rfl ?_
      refine s_iconst X0 hx hby (n := 17) (v := (1 : Int32)) at_16 rfl rfl ?_
      refine s_iushr X0 hx hby (n := 18) at_17 rfl ?_
      refine s_bipush X0 hx hby (n := 20) (v := (31 : Int32)) at_18 rfl rfl ?_
      refine s_iand X0 hx hby (n := 21) at_20 rfl ?_
      refine s_ishl X0 hx hby (n := 22) at_21 rfl ?_
      refine s_ixor X0 hx hby (n := 23) at_22 rfl ?_
      refine s_goto X0 hx hby (n := 27) at_23 (by decide) (by decide) ?_
      refine s_istore X0 hx hby (n := 29) (L' := #[.val (.int p0), .val (.int p1), .val (.int p2), .val (.int p3), .val (.int (2 : Int32)), .val (.int (p0 ^^^ ((1 : Int32) <<< (((XT.ushr p3 (1 : Int32)) &&& (31 : Int32)) &&& 31)))), .unset, .unset, .unset, .unset, .unset, .unset, .unset, .unset, .unset, .unset, .unset, .unset]) at_27 rfl rfl ?_
      exact B29_2 _
  · refine s_fold (z := (3 : Int32)) qn ?_
    refine s_istore X0 hx hby (n := 7) (L' := #[.val (.int p0), .val (.int p1), .val (.int p2), .val (.int p3), .val (.int (3 : Int32)), .unset, .unset, .unset, .unset, .unset, .unset, .unset, .unset, .unset, .unset, .unset, .unset, .unset]) at_5 rfl rfl ?_
    refine s_iloadN X0 hx hby (n := 8) (x := p3) at_7 rfl rfl ?_
    refine s_iconst X0 hx hby (n := 9) (v := (1 : Int32)) at_8 rfl rfl ?_
    refine s_iand X0 hx hby (n := 10) at_9 rfl ?_
    by_cases c10 : (p3 &&& (1 : Int32)) = (0 : Int32)
    · refine s_ifY X0 hx hby (n := 26) at_10 (XT.i0_eq_t c10) (by decide) (by decide) ?_
      refine s_iloadN X0 hx hby (n := 27) (x := p1) at_26 rfl rfl ?_
      refine s_istore X0 hx hby (n := 29) (L' := #[.val (.int p0), .val (.int p1), .val (.int p2), .val (.int p3), .val (.int (3 : Int32)), .val (.int p1), .unset, .unset, .unset, .unset, .unset, .unset, .unset, .unset, .unset, .unset, .unset, .unset]) at_27 rfl rfl ?_
      exact B29_3 _
    · refine s_ifN X0 hx hby (n := 13) at_10 (XT.i0_eq_f c10) rfl ?_
      refine s_iloadN X0 hx hby (n := 14) (x := p0) at_13 rfl rfl ?_
      refine s_iconst X0 hx hby (n := 15) (v := (1 : Int32)) at_14 rfl rfl ?_
      refine s_iloadN X0 hx hby (n := 16) (x := p3) at_15 rfl rfl ?_
      refine s_iconst X0 hx hby (n := 17) (v := (1 : Int32)) at_16 rfl rfl ?_
      refine s_iushr X0 hx hby (n := 18) at_17 rfl ?_
      refine s_bipush X0 hx hby (n := 20) (v := (31 : Int32)) at_18 rfl rfl ?_
      refine s_iand X0 hx hby (n := 21) at_20 rfl ?_
      refine s_ishl X0 hx hby (n := 22) at_21 rfl ?_
      refine s_ixor X0 hx hby (n := 23) at_22 rfl ?_
      refine s_goto X0 hx hby (n := 27) at_23 (by decide) (by decide) ?_
      refine s_istore X0 hx hby (n := 29) (L' := #[.val (.int p0), .val (.int p1), .val (.int p2), .val (.int p3), .val (.int (3 : Int32)), .val (.int (p0 ^^^ ((1 : Int32) <<< (((XT.ushr p3 (1 : Int32)) &&& (31 : Int32)) &&& 31)))), .unset, .unset, .unset, .unset, .unset, .unset, .unset, .unset, .unset, .unset, .unset, .unset]) at_27 rfl rfl ?_
      exact B29_3 _
  · refine s_fold (z := (4 : Int32)) qn ?_
    refine s_istore X0 hx hby (n := 7) (L' := #[.val (.int p0), .val (.int p1), .val (.int p2), .val (.int p3), .val (.int (4 : Int32)), .unset, .unset, .unset, .unset, .unset, .unset, .unset, .unset, .unset, .unset, .unset, .unset, .unset]) at_5 rfl rfl ?_
    refine s_iloadN X0 hx hby (n := 8) (x := p3) at_7 rfl rfl ?_
    refine s_iconst X0 hx hby (n := 9) (v := (1 : Int32)) at_8 rfl rfl ?_
    refine s_iand X0 hx hby (n := 10) at_9 rfl ?_
    by_cases c10 : (p3 &&& (1 : Int32)) = (0 : Int32)
    · refine s_ifY X0 hx hby (n := 26) at_10 (XT.i0_eq_t c10) (by decide) (by decide) ?_
      refine s_iloadN X0 hx hby (n := 27) (x := p1) at_26 rfl rfl ?_
      refine s_istore X0 hx hby (n := 29) (L' := #[.val (.int p0), .val (.int p1), .val (.int p2), .val (.int p3), .val (.int (4 : Int32)), .val (.int p1), .unset, .unset, .unset, .unset, .unset, .unset, .unset, .unset, .unset, .unset, .unset, .unset]) at_27 rfl rfl ?_
      exact B29_4 _
    · refine s_ifN X0 hx hby (n := 13) at_10 (XT.i0_eq_f c10) rfl ?_
      refine s_iloadN X0 hx hby (n := 14) (x := p0) at_13 rfl rfl ?_
      refine s_iconst X0 hx hby (n := 15) (v := (1 : Int32)) at_14 rfl rfl ?_
      refine s_iloadN X0 hx hby (n := 16) (x := p3) at_15 rfl rfl ?_
      refine s_iconst X0 hx hby (n := 17) (v := (1 : Int32)) at_16 rfl rfl ?_
      refine s_iushr X0 hx hby (n := 18) at_17 rfl ?_
      refine s_bipush X0 hx hby (n := 20) (v := (31 : Int32)) at_18 rfl rfl ?_
      refine s_iand X0 hx hby (n := 21) at_20 rfl ?_
      refine s_ishl X0 hx hby (n := 22) at_21 rfl ?_
      refine s_ixor X0 hx hby (n := 23) at_22 rfl ?_
      refine s_goto X0 hx hby (n := 27) at_23 (by decide) (by decide) ?_
      refine s_istore X0 hx hby (n := 29) (L' := #[.val (.int p0), .val (.int p1), .val (.int p2), .val (.int p3), .val (.int (4 : Int32)), .val (.int (p0 ^^^ ((1 : Int32) <<< (((XT.ushr p3 (1 : Int32)) &&& (31 : Int32)) &&& 31)))), .unset, .unset, .unset, .unset, .unset, .unset, .unset, .unset, .unset, .unset, .unset, .unset]) at_27 rfl rfl ?_
      exact B29_4 _
set_option maxRecDepth 65536 in
set_option maxHeartbeats 40000000 in
theorem comes_1 {Post : Tables → Env → Array Value → State → Outcome → State → Prop} (hpost : ∀ tb e args s v u, (limb_1_1.after args s (.returned v) u = true ∧ limb_1_2.after args s (.returned v) u = true ∧ True) → FrameEnd s (.returned v) u (Jvm.fieldLocs frame_1_writes args s ++ Jvm.arrayLocs frame_1_arrays args s ++ Jvm.staticLocs frame_1_statics s) room_1.cells room_1.slots → Post tb e args s (.returned v) u) :
    ArmFor flags0 classFile x code maxLocals ret World_1 tables_1 room_1 Calls_1 rest_1 Pre_1 Post := by
  intro l hfl _ _ p e ha hc hk s m args below hf hA hF happ hP
  obtain ⟨hcalls, hrest, hpre⟩ := hP
  obtain ⟨-, -, -, hnamed, -, -, -, hat⟩ := (Spec.applies_iff hf).mp happ
  obtain ⟨hg, hn⟩ := and_e (Cond.before_iff.mp (show (Jvm.Cond.and given_1 narrow_1).before args s = true from hpre))
  obtain ⟨hcount, g0⟩ := and_e hg
  obtain ⟨q0, g1⟩ := and_e g0
  obtain ⟨q1, g2⟩ := and_e g1
  obtain ⟨q2, g3⟩ := and_e g2
  obtain ⟨w0, w1, w2, w3, rfl⟩ : ∃ w0 w1 w2 w3 : Value, args = #[w0, w1, w2, w3] := by
    have hs : args.size = 4 := by simpa [Cond.value, given_1] using hcount
    obtain ⟨L⟩ := args
    match L, hs with
    | [w0, w1, w2, w3], _ => exact ⟨w0, w1, w2, w3, rfl⟩
  have hw := fun d (hd : d ∈ tables_1) => atoms_spec (ws := Jvm.Cond.code x code maxLocals ret :: tables_1) hat d (List.mem_cons_of_mem _ hd)
  have hfit : Fit s := fun {y c} hc i hi => by
    obtain ⟨ha, rfl⟩ := Array.getElem?_eq_some_iff.mp hc
    have q := List.all_eq_true.mp ((Array.all_eq_true_iff_forall_mem.mp hF) _ (Array.getElem_mem ha)) i (List.mem_range.mpr hi)
    simpa [Array.getElem?_eq_getElem hi] using q
  obtain ⟨i0, r0⟩ := is_v q0
  obtain rfl : w0 = (.int i0) := Option.some.inj r0
  obtain ⟨i1, r1⟩ := is_v q1
  obtain rfl : w1 = (.int i1) := Option.some.inj r1
  obtain ⟨i2, r2⟩ := is_v q2
  obtain rfl : w2 = (.int i2) := Option.some.inj r2
  obtain ⟨i3, r3⟩ := is_v g3
  obtain rfl : w3 = (.int i3) := Option.some.inj r3
  obtain ⟨n, o, h1, h2, h3, _, L, rfl, ⟨rfl, N⟩, hq⟩ := rm0 l s _ hw i0 i1 i2 i3 s.heap s.heap.size (Nat.le_refl _) p e ha hc hk s m _ below hf ((Spec.applies_iff_loose hf).mp happ).1 ⟨rfl, State.Warmed39.refl s, rfl⟩ trivial
  refine ⟨n, _, h1, h2, h3, hpost _ _ _ _ _ _ ⟨Cond.after_iff.mpr rfl, Cond.after_iff.mpr (eq_i res_at (Term.int_eval (1)) rfl), trivial⟩ ⟨hq.1, hq.2.1, (hq.2.2.sift fun y hy => Or.inr (N y hy)).mono (by decide) (by decide)⟩⟩
theorem main_1_1 : Claimed_1_1 := comes_1 fun _ _ _ _ _ _ h hF => ⟨h.1, hF⟩
theorem main_1_2 : Claimed_1_2 := comes_1 fun _ _ _ _ _ _ h hF => ⟨h.2.1, hF⟩
end Jvm.Pilot.@@N@@
namespace Jvm.Pilot.@@N@@
open Jvm Jvm.ClassFile Sem Op Lib Jvm.Free Jvm.Stand Jvm.Pilot.@@N@@.Jvm.D
/-! MADE BY PROGRAM (witnessworld.py) out of the Statement's table words and the real class files: 9 classes; the members and pool entries that the words name. The judged class is class 1, her method 2. -/
namespace start1
open Jvm.ClassFile
def u (s : String) : CpInfo := .utf8 (stringToUtf16 s)
/-- a pool by its gaps: so many unusable entries, then the entry; so many at the end -/
def gap : Nat → List CpInfo → List CpInfo
  | 0, r => r
  | n + 1, r => .unusable :: gap n r
def poolList (es : List (Nat × CpInfo)) (last : Nat) : List CpInfo := es.foldr (fun e r => gap e.1 (e.2 :: r)) (gap last [])
def pool (es : List (Nat × CpInfo)) (last : Nat) : Array CpInfo := ⟨poolList es last⟩
def fileOf (pool : Array CpInfo) (this : Nat) (attrs : Array Attribute := #[]) (ms : Array MethodInfo := #[]) (fl : Nat := 33) (sup : Nat := 0) (ifs : Array Nat := #[]) (fds : Array FieldInfo := #[]) : ClassFile where
  minorVersion := 0
  majorVersion := 65
  constantPool := pool
  accessFlags := fl
  thisClass := this
  superClass := sup
  interfaces := ifs
  fields := fds
  methods := ms
  attributes := attrs
def plain (name : String) (sup : Option ClassId) : Class where
  name := name
  kind := .ordinary
  loader := none
  accessFlags := 33
  super := sup
  interfaces := #[]
  cf := none
  fields := #[]
  methods := #[]
  instanceTypes := #[]
  staticTypes := #[]
  resolved := #[]
  callSites := []
  init := .initialized
  statics := none
  mirror := none

def pool0 : Array CpInfo := pool [(5, u "<init>"), (0, u "()V"), (1, .class_ 10), (1, u "java/lang/Object")] 113

def k0m0 : Method := { name := "<init>", desc := "()V", sig := { parameters := [], returnType := none }, accessFlags := 1, code := none }
/-- java/lang/Object -/
def k0 : Class := { plain "java/lang/Object" none with
  accessFlags := 33
  interfaces := #[]
  cf := some (fileOf pool0 8 #[] #[{ accessFlags := 1, nameIndex := 5, descriptorIndex := 6, attributes := #[] }] 33 0 #[] #[])
  fields := #[]
  methods := #[k0m0]
  instanceTypes := #[]
  staticTypes := #[]
  resolved := Array.replicate 124 none
  statics := none }

def pool1 : Array CpInfo := pool [(2, .class_ 4), (1, u "java/lang/Object"), (0, u "<init>"), (0, u "()V"), (0, .long 4294967295), (1, .methodref 10 11), (0, .class_ 12), (0, .nameAndType 13 14), (0, u "com/example/ucoord/ucoord/partition/KeyPartitionerMurmur2PinLaw"), (0, u "bytesOf"), (0, u "(II)[B"), (0, .methodref 16 17), (0, .class_ 18), (0, .nameAndType 19 20), (0, u "com/example/ucoord/ucoord/partition/KeyPartitioner"), (0, u "murmur2"), (0, u "([B)I"), (0, .integer 3321034988), (0, .integer 479470107), (0, .integer 3504634814), (0, .integer 3308985760), (0, .integer 2808662467), (3, u "law"), (0, u "(IIII)Z")] 4

def k1m0 : Method := { name := "<init>", desc := "()V", sig := { parameters := [], returnType := none }, accessFlags := 2, code := none }
def k1c1 : Code := { maxStack := 5, maxLocals := 2, code := method_2_code, exceptionTable := #[], attributes := #[] }
def k1m1 : Method := { name := "bytesOf", desc := "(II)[B", sig := { parameters := [.int, .int], returnType := some (.array .byte) }, accessFlags := 10, code := some k1c1 }
def k1c2 : Code := { maxStack := 4, maxLocals := 18, code := code, exceptionTable := #[], attributes := #[] }
def k1m2 : Method := { name := "law", desc := "(IIII)Z", sig := { parameters := [.int, .int, .int, .int], returnType := some .boolean }, accessFlags := 9, code := some k1c2 }
/-- com/example/ucoord/ucoord/partition/KeyPartitionerMurmur2PinLaw -/
def k1 : Class := { plain "com/example/ucoord/ucoord/partition/KeyPartitionerMurmur2PinLaw" (some 0) with
  accessFlags := 49
  interfaces := #[]
  cf := some (fileOf pool1 10 #[] #[{ accessFlags := 2, nameIndex := 5, descriptorIndex := 6, attributes := #[] }, { accessFlags := 10, nameIndex := 13, descriptorIndex := 14, attributes := #[] }, { accessFlags := 9, nameIndex := 29, descriptorIndex := 30, attributes := #[] }] 49 2 #[] #[])
  fields := #[]
  methods := #[k1m0, k1m1, k1m2]
  instanceTypes := #[]
  staticTypes := #[]
  resolved := Array.replicate 35 none
  statics := none }

def pool2 : Array CpInfo := pool [(2, .class_ 4), (1, u "java/lang/Object"), (0, u "<init>"), (0, u "()V"), (30, .class_ 39), (1, u "com/example/ucoord/ucoord/partition/KeyPartitioner"), (0, u "murmur2"), (0, u "([B)I"), (1, .integer 2538058380), (0, .methodref 37 45), (0, .nameAndType 46 47), (0, u "littleEndianInt"), (0, u "([BI)I"), (0, .integer 1540483477), (0, u "SEED"), (0, u "I"), (1, u "MULTIPLIER")] 24

def k2m0 : Method := { name := "<init>", desc := "()V", sig := { parameters := [], returnType := none }, accessFlags := 2, code := none }
def k2c1 : Code := { maxStack := 5, maxLocals := 6, code := prog_42_method_3_code, exceptionTable := #[], attributes := #[] }
def k2m1 : Method := { name := "murmur2", desc := "([B)I", sig := { parameters := [(.array .byte)], returnType := some .int }, accessFlags := 8, code := some k2c1 }
def k2c2 : Code := { maxStack := 4, maxLocals := 2, code := prog_42_method_4_code, exceptionTable := #[], attributes := #[] }
def k2m2 : Method := { name := "littleEndianInt", desc := "([BI)I", sig := { parameters := [(.array .byte), .int], returnType := some .int }, accessFlags := 10, code := some k2c2 }
/-- com/example/ucoord/ucoord/partition/KeyPartitioner -/
def k2 : Class := { plain "com/example/ucoord/ucoord/partition/KeyPartitioner" (some 0) with
  accessFlags := 33
  interfaces := #[]
  cf := some (fileOf pool2 37 #[] #[{ accessFlags := 2, nameIndex := 5, descriptorIndex := 6, attributes := #[] }, { accessFlags := 8, nameIndex := 40, descriptorIndex := 41, attributes := #[] }, { accessFlags := 10, nameIndex := 46, descriptorIndex := 47, attributes := #[] }] 33 2 #[] #[{ accessFlags := 26, nameIndex := 49, descriptorIndex := 50, attributes := #[] }, { accessFlags := 26, nameIndex := 52, descriptorIndex := 50, attributes := #[] }])
  fields := #[{ name := "SEED", type := .int, accessFlags := 26, slot := 0, constantValue := 0 }, { name := "MULTIPLIER", type := .int, accessFlags := 26, slot := 1, constantValue := 0 }]
  methods := #[k2m0, k2m1, k2m2]
  instanceTypes := #[]
  staticTypes := #[.int, .int]
  resolved := Array.replicate 77 none
  statics := none }

def pool3 : Array CpInfo := pool [(1, u "java/lang/Cloneable"), (0, .class_ 1), (0, u "java/lang/Object"), (0, .class_ 3)] 3

/-- java/lang/Cloneable -/
def k3 : Class := { plain "java/lang/Cloneable" (some 0) with
  accessFlags := 1537
  interfaces := #[]
  cf := some (fileOf pool3 2 #[] #[] 1537 4 #[] #[])
  fields := #[]
  methods := #[]
  instanceTypes := #[]
  staticTypes := #[]
  resolved := Array.replicate 8 none
  statics := none }

def pool4 : Array CpInfo := pool [(1, u "java/io/Serializable"), (0, .class_ 1), (0, u "java/lang/Object"), (0, .class_ 3)] 3

/-- java/io/Serializable -/
def k4 : Class := { plain "java/io/Serializable" (some 0) with
  accessFlags := 1537
  interfaces := #[]
  cf := some (fileOf pool4 2 #[] #[] 1537 4 #[] #[])
  fields := #[]
  methods := #[]
  instanceTypes := #[]
  staticTypes := #[]
  resolved := Array.replicate 8 none
  statics := none }

/-- the primitive byte -/
def k5 : Class := { plain "byte" none with kind := .primitive 'B', accessFlags := 0x411 }
/-- [B -/
def k6 : Class := { plain "[B" (some 0) with kind := .array 5 .byte, interfaces := #[3, 4], accessFlags := 1041 }

/-- the primitive int -/
def k7 : Class := { plain "int" none with kind := .primitive 'I', accessFlags := 0x411 }
/-- [I -/
def k8 : Class := { plain "[I" (some 0) with kind := .array 7 .int, interfaces := #[3, 4], accessFlags := 1041 }

def heap : Heap := #[]
def classes : Array Class := #[k0, k1, k2, k3, k4, k5, k6, k7, k8]
def interned : List (Array UInt16 × Addr) := []
def slotsUsed : Nat := 0
def theMethod : MethodId := ⟨1, 2⟩
def args0 : Array Value := #[.int 5, .int 6, .int 7, .int 8]
def aboutOver (below : List Frame) : State where
  vm := { classes := classes, interned := interned.toArray }
  heap := heap
  slotsUsed := slotsUsed
  threads := #[{ frames := .invoking theMethod args0 :: below }]
def below0 : List Frame := [.native { method := ⟨0, 0⟩, args := #[] }]
def about1 : State := aboutOver below0
def p0 : Program := .bare "" "" ""
def e0 : Env := launch0.env 0 0 0
theorem w_frames : about1.frames = Frame.invoking theMethod args0 :: below0 := rfl
set_option maxRecDepth 65536 in
theorem w_args : argsFit about1.vm theMethod args0 = true := by decide +kernel
set_option maxRecDepth 65536 in
theorem w_heap : heapFits about1 = true := by decide +kernel
set_option maxRecDepth 65536 in
theorem w_runnable : about1.curStatus? = some .runnable := by decide +kernel
set_option maxRecDepth 65536 in
theorem w_alone : about1.alone = true := by decide +kernel
set_option maxRecDepth 65536 in
theorem w_named : about1.methodNamed? x = some theMethod := by decide +kernel
set_option maxRecDepth 65536 in
theorem w_hears : about1.hears theMethod below0 = true := by decide +kernel
set_option maxRecDepth 65536 in
theorem w_ripe : about1.ripe theMethod args0 below0 = true := by decide +kernel
theorem w_running : about1.status = .running := rfl
set_option maxRecDepth 65536 in
theorem w_room : about1.hasRoom e0.platform room_1 = true :=
  launch0.hasRoom_least _ room_1 (by decide +kernel) (by decide +kernel) (by decide +kernel) (by decide +kernel) (by decide +kernel) (by decide +kernel)
theorem allAtoms_all (ts : List Jvm.Cond) (a : Array Jvm.Value) (st : Jvm.State) : (allAtoms ts).before a st = ts.all (fun c => c.before a st) := by
  induction ts with
  | nil => rfl
  | cons c t ih =>
    show (Jvm.Cond.and c (allAtoms t)).before a st = _
    rw [Jvm.Cond.before_and, ih, List.all_cons]
def words1 : List Jvm.Cond := Jvm.Cond.code x code maxLocals ret :: tables_1
/-- a 'code' word, met by the world's own term for the bytes: nothing is compared byte by byte -/
theorem code_word {y : MethodName} {bytes : ByteArray} {mx : Nat} {rt : Option FieldType} {a : Array Value} {s : State} {m : MethodId} {meth : Method} {c : Code} (h1 : s.methodNamed? y = some m) (h2 : s.vm.method? m = some meth) (h3 : meth.code = some c) (h4 : c.code = bytes)
    (h5 : (c.maxLocals == mx && c.exceptionTable.isEmpty && decide (c.maxStack ≤ mostOperands) && decide (meth.sig.returnType = rt) && !meth.locks && decide (parseMethodDescriptor y.desc = some meth.sig)) = true) : (Jvm.Cond.code y bytes mx rt).before a s = true := by
  simp only [Bool.and_eq_true, beq_iff_eq, Bool.not_eq_true', decide_eq_true_eq] at h5
  obtain ⟨⟨⟨⟨⟨g1, g2⟩, g3⟩, g4⟩, g5⟩, g6⟩ := h5
  simp [Cond.before, Cond.holds, Cond.value, h1, h2, h3, h4, g1, g2, g3, g4, g5, g6]
def isCode : Jvm.Cond → Bool
  | .code _ _ _ _ => true
  | _ => false
theorem all_split {L : List Jvm.Cond} {P : Jvm.Cond → Bool} (h1 : L.all (fun c => isCode c || P c) = true) (h2 : ∀ c ∈ L.filter isCode, P c = true) : L.all P = true := by
  refine List.all_eq_true.mpr fun c hc => ?_
  have h := List.all_eq_true.mp h1 c hc
  rcases Bool.eq_false_or_eq_true (isCode c) with hi | hi
  · exact h2 c (List.mem_filter.mpr ⟨hc, hi⟩)
  · simpa [hi] using h
set_option maxRecDepth 65536 in
theorem w_c0 : (Jvm.Cond.code x code maxLocals ret).before args0 about1 = true := code_word (m := ⟨1, 2⟩) (meth := k1m2) (c := k1c2) (by decide +kernel) rfl rfl rfl (by decide +kernel)
set_option maxRecDepth 65536 in
theorem w_c1 : (Jvm.Cond.code ({ cls := "com/example/ucoord/ucoord/partition/KeyPartitionerMurmur2PinLaw", name := "bytesOf", desc := "(II)[B" } : Jvm.MethodName) method_2_code (2 : Nat) (Option.some (Jvm.ClassFile.FieldType.array Jvm.ClassFile.FieldType.byte))).before args0 about1 = true := code_word (m := ⟨1, 1⟩) (meth := k1m1) (c := k1c1) (by decide +kernel) rfl rfl rfl (by decide +kernel)
set_option maxRecDepth 65536 in
theorem w_c2 : (Jvm.Cond.code ({ cls := "com/example/ucoord/ucoord/partition/KeyPartitioner", name := "murmur2", desc := "([B)I" } : Jvm.MethodName) prog_42_method_3_code (6 : Nat) (Option.some Jvm.ClassFile.FieldType.int)).before args0 about1 = true := code_word (m := ⟨2, 1⟩) (meth := k2m1) (c := k2c1) (by decide +kernel) rfl rfl rfl (by decide +kernel)
set_option maxRecDepth 65536 in
theorem w_c3 : (Jvm.Cond.code ({ cls := "com/example/ucoord/ucoord/partition/KeyPartitioner", name := "littleEndianInt", desc := "([BI)I" } : Jvm.MethodName) prog_42_method_4_code (2 : Nat) (Option.some Jvm.ClassFile.FieldType.int)).before args0 about1 = true := code_word (m := ⟨2, 2⟩) (meth := k2m2) (c := k2c2) (by decide +kernel) rfl rfl rfl (by decide +kernel)
def codes1 : List Jvm.Cond := [Jvm.Cond.code x code maxLocals ret, Jvm.Cond.code ({ cls := "com/example/ucoord/ucoord/partition/KeyPartitionerMurmur2PinLaw", name := "bytesOf", desc := "(II)[B" } : Jvm.MethodName) method_2_code (2 : Nat) (Option.some (Jvm.ClassFile.FieldType.array Jvm.ClassFile.FieldType.byte)), Jvm.Cond.code ({ cls := "com/example/ucoord/ucoord/partition/KeyPartitioner", name := "murmur2", desc := "([B)I" } : Jvm.MethodName) prog_42_method_3_code (6 : Nat) (Option.some Jvm.ClassFile.FieldType.int), Jvm.Cond.code ({ cls := "com/example/ucoord/ucoord/partition/KeyPartitioner", name := "littleEndianInt", desc := "([BI)I" } : Jvm.MethodName) prog_42_method_4_code (2 : Nat) (Option.some Jvm.ClassFile.FieldType.int)]
set_option maxRecDepth 65536 in
theorem codes_eq : words1.filter isCode = codes1 := rfl
theorem w_codes : ∀ c ∈ words1.filter isCode, c.before args0 about1 = true := by
  rw [codes_eq]
  intro c hc
  simp only [codes1, List.mem_cons, List.not_mem_nil, or_false] at hc
  rcases hc with rfl | rfl | rfl | rfl
  · exact w_c0
  · exact w_c1
  · exact w_c2
  · exact w_c3
set_option maxRecDepth 65536 in
theorem w_t1 : words1.all (fun c => isCode c || c.before args0 about1) = true := by decide +kernel
theorem w_tables : (allAtoms (Jvm.Cond.code x code maxLocals ret :: tables_1)).before args0 about1 = true := by
  rw [allAtoms_all]
  show words1.all (fun c => c.before args0 about1) = true
  refine all_split ?_ w_codes
  rw [w_t1]
set_option maxRecDepth 65536 in
theorem w_case : (Jvm.Cond.and given_1 narrow_1).before args0 about1 = true := by decide +kernel
theorem w_applies : (headSpec (Jvm.Cond.code x code maxLocals ret :: tables_1) room_1).applies x e0.platform about1 = true :=
  (Spec.applies_iff w_frames).mpr ⟨w_running, w_runnable, w_alone, w_named, w_hears, w_ripe, w_room, w_tables⟩
theorem atStart : AtStart classFile x code maxLocals ret World_1 tables_1 room_1 Calls_1 rest_1 Pre_1 launch0 p0 e0 about1 theMethod args0 below0 :=
  ⟨lists_1, trivial, launch0.admits_env _ _ _, launch0.least_env, fairChoices_fair.cas, fairChoices_fair.clock, w_frames, w_args, w_heap, w_applies, trivial, trivial, w_case⟩
end start1
theorem witness_1 : WitnessClaimed_1 := ⟨start1.p0, start1.e0, start1.about1, start1.theMethod, start1.args0, start1.below0, start1.atStart⟩
end Jvm.Pilot.@@N@@
