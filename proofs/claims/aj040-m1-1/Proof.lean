import JvmDerived
import JvmDerived.Pilot.@@N@@Statement
import JvmDerived.Pilot.@@N@@Code
set_option linter.unusedVariables false
set_option linter.unusedSimpArgs false
namespace Jvm.Own
open Sem ClassFile Op Lib Jvm.Stand Jvm.Free Jvm.LawKit Jvm.RoadKit
/-- the walk that stands in T at the frame g runs to the method's return, and Q is said of what it leaves -/
def OEnds (p : Program) (e : Env) (below : List Frame) (s : State) (C S : Nat) (Q : Option Value → Heap → List Loc → Prop) (T : State) (g : JFrame) : Prop :=
  ∃ (t : State) (v : Option Value) (L : List Loc), Steps p.tables e below (T.setTop g) t ∧ t.status = .running ∧ Ended t below (.returned v) ∧ Q v t.heap L ∧ FrameEnd s (.returned v) t L C S
/-- a callee's contract, at one array of arguments and one heap -/
def OCon (l : Launch) (Z : State) (y : MethodName) (bytes : ByteArray) (maxL : Nat) (ret : Option FieldType) (ws : List Jvm.Cond) (rm : Room) (as' : Array Value) (h : Heap) (Q : Option Value → Heap → List Loc → Prop) : Prop :=
  MetFree l y (head1 (Jvm.Cond.code y bytes maxL ret :: ws) rm) (fun a U => a = as' ∧ Z.Warmed39 U.vm ∧ U.heap = h) (fun _ _ _ _ _ => True) (fun _ U o U' => ∃ v L, o = .returned v ∧ Q v U'.heap L ∧ FrameEnd U o U' L rm.cells rm.slots)
section Walk
variable {p : Program} {l : Launch} {e : Env} {R : Room} {s : State} {m : MethodId} {args : Array Value} {below : List Frame} {meth : Method} {c : Code} {T : State} {locs : List Loc} {cells slots : Nat} {C S : Nat} {Q : Option Value → Heap → List Loc → Prop} {bytes : ByteArray} {pc n : Nat} {L : Array Slot} {st : List Value} {Z : State} {a0 : Array Value} {h : Heap}
theorem OEnds.pre {T' : State} {g g' : JFrame} (k : OEnds p e below s C S Q T' g') (f : ∀ t, Steps p.tables e below (T'.setTop g') t → Steps p.tables e below (T.setTop g) t) : OEnds p e below s C S Q T g := by
  obtain ⟨t, v, L, h1, h2⟩ := k
  exact ⟨t, v, L, f _ h1, h2⟩
theorem OEnds.weaken {Q' : Option Value → Heap → List Loc → Prop} {g : JFrame} (k : OEnds p e below s C S Q T g) (f : ∀ v h L, Q v h L → Q' v h L) : OEnds p e below s C S Q' T g := by
  obtain ⟨t, v, L, h1, h2, h3, h4, h5⟩ := k
  exact ⟨t, v, L, h1, h2, h3, f _ _ _ h4, h5⟩
theorem OCon.weaken {y : MethodName} {maxL : Nat} {ret : Option FieldType} {ws : List Jvm.Cond} {rm : Room} {as' : Array Value} {Q' : Option Value → Heap → List Loc → Prop} (k : OCon l Z y bytes maxL ret ws rm as' h Q) (f : ∀ v h L, Q v h L → Q' v h L) : OCon l Z y bytes maxL ret ws rm as' h Q' := by
  intro p e ha hc hk s m args below hf happ hP hK
  obtain ⟨n, o, h1, h2, h3, v, L, h4, h5, h6⟩ := k p e ha hc hk s m args below hf happ hP hK
  exact ⟨n, o, h1, h2, h3, v, L, h4, f _ _ _ h5, h6⟩
/-- a contract by a walk -/
theorem con {y : MethodName} {maxL : Nat} {ret : Option FieldType} {ws : List Jvm.Cond} {rm : Room} {as' : Array Value} (hp : plainFor y = true)
    (body : ∀ (p : Program) (e : Env) (s : State) (m : MethodId) (below : List Frame) (meth : Method) (c : Code) (s₁ : State), p.tables.exec = Jvm.exec → c.code = bytes → c.maxLocals = maxL → Z.Warmed39 s.vm → s.vm.findClass y.cls = some m.cls → meth.name = y.name → meth.sig.returnType = ret → meth.locks = false →
      Stand p l e rm s m as' below meth c s₁ [] 0 0 → s₁.heap = h → OEnds p e below s rm.cells rm.slots Q s₁ (entryFrame m as' maxL)) : OCon l Z y bytes maxL ret ws rm as' h Q := by
  refine MetFree.of_bodySF hp hisR ?_
  intro p e s m args below meth c s₁ Bd hml hP hK
  obtain ⟨rfl, hZ, hh⟩ := hP
  obtain ⟨t, v, L, h1, h2, h3, h4, h5⟩ := body p e s m below meth c s₁ Bd.exec Bd.bytes hml hZ (findClass_of_methodNamed Bd.named) (name_of_methodNamed Bd.named Bd.method).1 Bd.returns Bd.notSynchronized (Stand.of_body Bd) (by rw [← hh, Bd.state]; rfl)
  exact ⟨t, _, h1, h2, h3, v, L, rfl, h4, h5⟩
theorem entry {mm : MethodId} {as' : Array Value} {maxL : Nat} {g : JFrame} (q : entryFrame mm as' maxL = g) (k : OEnds p e below s C S Q T g) : OEnds p e below s C S Q T (entryFrame mm as' maxL) := q ▸ k
theorem s_iloadN (X : Stand p l e R s m args below meth c T locs cells slots) (hx : p.tables.exec = Jvm.exec) (hby : c.code = bytes) {i : Fin 4} {x : Int32} (hd : decode bytes pc = .ok (.iload_n i, 1)) (hl : L[i.val]? = some (.val (.int x))) (hn : pc + 1 = n) (k : OEnds p e below s C S Q T (mkF m n L (.int x :: st))) : OEnds p e below s C S Q T (mkF m pc L (st)) := by
  subst hn
  exact k.pre fun t r => XS.iloadN X.here hx rfl (hb hby hd) hl r
theorem s_iload (X : Stand p l e R s m args below meth c T locs cells slots) (hx : p.tables.exec = Jvm.exec) (hby : c.code = bytes) {i : Nat} {x : Int32} (hd : decode bytes pc = .ok (.iload i, 2)) (hl : L[i]? = some (.val (.int x))) (hn : pc + 2 = n) (k : OEnds p e below s C S Q T (mkF m n L (.int x :: st))) : OEnds p e below s C S Q T (mkF m pc L (st)) := by
  subst hn
  exact k.pre fun t r => XS.iload X.here hx rfl (hb hby hd) hl r
theorem s_lloadN (X : Stand p l e R s m args below meth c T locs cells slots) (hx : p.tables.exec = Jvm.exec) (hby : c.code = bytes) {i : Fin 4} {x : Int64} (hd : decode bytes pc = .ok (.lload_n i, 1)) (hl : L[i.val]? = some (.val (.long x))) (hn : pc + 1 = n) (k : OEnds p e below s C S Q T (mkF m n L (.long x :: st))) : OEnds p e below s C S Q T (mkF m pc L (st)) := by
  subst hn
  exact k.pre fun t r => XT.lloadN X.here hx rfl (hb hby hd) hl r
theorem s_lload (X : Stand p l e R s m args below meth c T locs cells slots) (hx : p.tables.exec = Jvm.exec) (hby : c.code = bytes) {i : Nat} {x : Int64} (hd : decode bytes pc = .ok (.lload i, 2)) (hl : L[i]? = some (.val (.long x))) (hn : pc + 2 = n) (k : OEnds p e below s C S Q T (mkF m n L (.long x :: st))) : OEnds p e below s C S Q T (mkF m pc L (st)) := by
  subst hn
  exact k.pre fun t r => XT.lload X.here hx rfl (hb hby hd) hl r
theorem s_aloadN (X : Stand p l e R s m args below meth c T locs cells slots) (hx : p.tables.exec = Jvm.exec) (hby : c.code = bytes) {i : Fin 4} {x : Value} (hd : decode bytes pc = .ok (.aload_n i, 1)) (hl : L[i.val]? = some (.val x)) (hv : x.isRef = true) (hn : pc + 1 = n) (k : OEnds p e below s C S Q T (mkF m n L (x :: st))) : OEnds p e below s C S Q T (mkF m pc L (st)) := by
  subst hn
  exact k.pre fun t r => XS.aloadN X.here hx rfl (hb hby hd) hl hv r
theorem s_aload (X : Stand p l e R s m args below meth c T locs cells slots) (hx : p.tables.exec = Jvm.exec) (hby : c.code = bytes) {i : Nat} {x : Value} (hd : decode bytes pc = .ok (.aload i, 2)) (hl : L[i]? = some (.val x)) (hv : x.isRef = true) (hn : pc + 2 = n) (k : OEnds p e below s C S Q T (mkF m n L (x :: st))) : OEnds p e below s C S Q T (mkF m pc L (st)) := by
  subst hn
  exact k.pre fun t r => XS.aload X.here hx rfl (hb hby hd) hl hv r
theorem s_istoreN (X : Stand p l e R s m args below meth c T locs cells slots) (hx : p.tables.exec = Jvm.exec) (hby : c.code = bytes) {i : Fin 4} {x : Int32} {L' : Array Slot} (hd : decode bytes pc = .ok (.istore_n i, 1)) (hl : storeLocals L i.val (.int x) = some L') (hn : pc + 1 = n) (k : OEnds p e below s C S Q T (mkF m n L' (st))) : OEnds p e below s C S Q T (mkF m pc L (.int x :: st)) := by
  subst hn
  exact k.pre fun t r => XS.istoreN X.here hx rfl (hb hby hd) rfl hl r
theorem s_istore (X : Stand p l e R s m args below meth c T locs cells slots) (hx : p.tables.exec = Jvm.exec) (hby : c.code = bytes) {i : Nat} {x : Int32} {L' : Array Slot} (hd : decode bytes pc = .ok (.istore i, 2)) (hl : storeLocals L i (.int x) = some L') (hn : pc + 2 = n) (k : OEnds p e below s C S Q T (mkF m n L' (st))) : OEnds p e below s C S Q T (mkF m pc L (.int x :: st)) := by
  subst hn
  exact k.pre fun t r => XS.istore X.here hx rfl (hb hby hd) rfl hl r
theorem s_lstoreN (X : Stand p l e R s m args below meth c T locs cells slots) (hx : p.tables.exec = Jvm.exec) (hby : c.code = bytes) {i : Fin 4} {x : Int64} {L' : Array Slot} (hd : decode bytes pc = .ok (.lstore_n i, 1)) (hl : storeLocals L i.val (.long x) = some L') (hn : pc + 1 = n) (k : OEnds p e below s C S Q T (mkF m n L' (st))) : OEnds p e below s C S Q T (mkF m pc L (.long x :: st)) := by
  subst hn
  exact k.pre fun t r => XT.lstoreN X.here hx rfl (hb hby hd) rfl hl r
theorem s_lstore (X : Stand p l e R s m args below meth c T locs cells slots) (hx : p.tables.exec = Jvm.exec) (hby : c.code = bytes) {i : Nat} {x : Int64} {L' : Array Slot} (hd : decode bytes pc = .ok (.lstore i, 2)) (hl : storeLocals L i (.long x) = some L') (hn : pc + 2 = n) (k : OEnds p e below s C S Q T (mkF m n L' (st))) : OEnds p e below s C S Q T (mkF m pc L (.long x :: st)) := by
  subst hn
  exact k.pre fun t r => XT.lstore X.here hx rfl (hb hby hd) rfl hl r
theorem s_astoreN (X : Stand p l e R s m args below meth c T locs cells slots) (hx : p.tables.exec = Jvm.exec) (hby : c.code = bytes) {i : Fin 4} {x : Value} {L' : Array Slot} (hd : decode bytes pc = .ok (.astore_n i, 1)) (hv : x.isRef = true) (hl : storeLocals L i.val x = some L') (hn : pc + 1 = n) (k : OEnds p e below s C S Q T (mkF m n L' (st))) : OEnds p e below s C S Q T (mkF m pc L (x :: st)) := by
  subst hn
  exact k.pre fun t r => XS.astoreN X.here hx rfl (hb hby hd) rfl hv hl r
theorem s_astore (X : Stand p l e R s m args below meth c T locs cells slots) (hx : p.tables.exec = Jvm.exec) (hby : c.code = bytes) {i : Nat} {x : Value} {L' : Array Slot} (hd : decode bytes pc = .ok (.astore i, 2)) (hv : x.isRef = true) (hl : storeLocals L i x = some L') (hn : pc + 2 = n) (k : OEnds p e below s C S Q T (mkF m n L' (st))) : OEnds p e below s C S Q T (mkF m pc L (x :: st)) := by
  subst hn
  exact k.pre fun t r => XS.astore X.here hx rfl (hb hby hd) rfl hv hl r
theorem s_iinc (X : Stand p l e R s m args below meth c T locs cells slots) (hx : p.tables.exec = Jvm.exec) (hby : c.code = bytes) {i : Nat} {cst : Int} {x v : Int32} {L' : Array Slot} (hd : decode bytes pc = .ok (.iinc i cst, 3)) (hv : Int32.ofInt cst = v) (hi : L[i]? = some (.val (.int x))) (hl : storeLocals L i (.int (x + v)) = some L') (hn : pc + 3 = n) (k : OEnds p e below s C S Q T (mkF m n L' (st))) : OEnds p e below s C S Q T (mkF m pc L (st)) := by
  subst hn
  exact k.pre fun t r => XT.iincV X.here hx rfl _ (hb hby hd) hv hi hl r
theorem s_iconst (X : Stand p l e R s m args below meth c T locs cells slots) (hx : p.tables.exec = Jvm.exec) (hby : c.code = bytes) {i : Int} {v : Int32} (hd : decode bytes pc = .ok (.iconst i, 1)) (hv : Int32.ofInt i = v) (hn : pc + 1 = n) (k : OEnds p e below s C S Q T (mkF m n L (.int v :: st))) : OEnds p e below s C S Q T (mkF m pc L (st)) := by
  subst hn
  exact k.pre fun t r => XT.iconstV X.here hx rfl _ (hb hby hd) hv r
theorem s_bipush (X : Stand p l e R s m args below meth c T locs cells slots) (hx : p.tables.exec = Jvm.exec) (hby : c.code = bytes) {i : Int} {v : Int32} (hd : decode bytes pc = .ok (.bipush i, 2)) (hv : (Int8.ofInt i).toInt32 = v) (hn : pc + 2 = n) (k : OEnds p e below s C S Q T (mkF m n L (.int v :: st))) : OEnds p e below s C S Q T (mkF m pc L (st)) := by
  subst hn
  exact k.pre fun t r => XT.bipushV X.here hx rfl _ (hb hby hd) hv r
theorem s_sipush (X : Stand p l e R s m args below meth c T locs cells slots) (hx : p.tables.exec = Jvm.exec) (hby : c.code = bytes) {i : Int} {v : Int32} (hd : decode bytes pc = .ok (.sipush i, 3)) (hv : (Int16.ofInt i).toInt32 = v) (hn : pc + 3 = n) (k : OEnds p e below s C S Q T (mkF m n L (.int v :: st))) : OEnds p e below s C S Q T (mkF m pc L (st)) := by
  subst hn
  exact k.pre fun t r => XT.sipushV X.here hx rfl _ (hb hby hd) hv r
theorem s_lconst (X : Stand p l e R s m args below meth c T locs cells slots) (hx : p.tables.exec = Jvm.exec) (hby : c.code = bytes) {i : Fin 2} {v : Int64} (hd : decode bytes pc = .ok (.lconst i, 1)) (hv : Int64.ofNat i = v) (hn : pc + 1 = n) (k : OEnds p e below s C S Q T (mkF m n L (.long v :: st))) : OEnds p e below s C S Q T (mkF m pc L (st)) := by
  subst hn
  exact k.pre fun t r => XT.lconstV X.here hx rfl _ (hb hby hd) hv r
theorem s_aconstNull (X : Stand p l e R s m args below meth c T locs cells slots) (hx : p.tables.exec = Jvm.exec) (hby : c.code = bytes)  (hd : decode bytes pc = .ok (.aconst_null, 1)) (hn : pc + 1 = n) (k : OEnds p e below s C S Q T (mkF m n L (.null :: st))) : OEnds p e below s C S Q T (mkF m pc L (st)) := by
  subst hn
  exact k.pre fun t r => XS.aconstNull X.here hx rfl (hb hby hd)  r
theorem s_iadd (X : Stand p l e R s m args below meth c T locs cells slots) (hx : p.tables.exec = Jvm.exec) (hby : c.code = bytes) {x y : Int32} (hd : decode bytes pc = .ok (.iadd, 1)) (hn : pc + 1 = n) (k : OEnds p e below s C S Q T (mkF m n L (.int (x + y) :: st))) : OEnds p e below s C S Q T (mkF m pc L (.int y :: .int x :: st)) := by
  subst hn
  exact k.pre fun t r => XS.iadd X.here hx rfl (hb hby hd) rfl r
theorem s_isub (X : Stand p l e R s m args below meth c T locs cells slots) (hx : p.tables.exec = Jvm.exec) (hby : c.code = bytes) {x y : Int32} (hd : decode bytes pc = .ok (.isub, 1)) (hn : pc + 1 = n) (k : OEnds p e below s C S Q T (mkF m n L (.int (x - y) :: st))) : OEnds p e below s C S Q T (mkF m pc L (.int y :: .int x :: st)) := by
  subst hn
  exact k.pre fun t r => XS.isub X.here hx rfl (hb hby hd) rfl r
theorem s_iand (X : Stand p l e R s m args below meth c T locs cells slots) (hx : p.tables.exec = Jvm.exec) (hby : c.code = bytes) {x y : Int32} (hd : decode bytes pc = .ok (.iand, 1)) (hn : pc + 1 = n) (k : OEnds p e below s C S Q T (mkF m n L (.int (x &&& y) :: st))) : OEnds p e below s C S Q T (mkF m pc L (.int y :: .int x :: st)) := by
  subst hn
  exact k.pre fun t r => XS.iand X.here hx rfl (hb hby hd) rfl r
theorem s_imul (X : Stand p l e R s m args below meth c T locs cells slots) (hx : p.tables.exec = Jvm.exec) (hby : c.code = bytes) {x y : Int32} (hd : decode bytes pc = .ok (.imul, 1)) (hn : pc + 1 = n) (k : OEnds p e below s C S Q T (mkF m n L (.int (x * y) :: st))) : OEnds p e below s C S Q T (mkF m pc L (.int y :: .int x :: st)) := by
  subst hn
  exact k.pre fun t r => XS.imul X.here hx rfl (hb hby hd) rfl r
theorem s_ixor (X : Stand p l e R s m args below meth c T locs cells slots) (hx : p.tables.exec = Jvm.exec) (hby : c.code = bytes) {x y : Int32} (hd : decode bytes pc = .ok (.ixor, 1)) (hn : pc + 1 = n) (k : OEnds p e below s C S Q T (mkF m n L (.int (x ^^^ y) :: st))) : OEnds p e below s C S Q T (mkF m pc L (.int y :: .int x :: st)) := by
  subst hn
  exact k.pre fun t r => XT.ixor X.here hx rfl (hb hby hd) rfl r
theorem s_ior (X : Stand p l e R s m args below meth c T locs cells slots) (hx : p.tables.exec = Jvm.exec) (hby : c.code = bytes) {x y : Int32} (hd : decode bytes pc = .ok (.ior, 1)) (hn : pc + 1 = n) (k : OEnds p e below s C S Q T (mkF m n L (.int (x ||| y) :: st))) : OEnds p e below s C S Q T (mkF m pc L (.int y :: .int x :: st)) := by
  subst hn
  exact k.pre fun t r => XT.ior X.here hx rfl (hb hby hd) rfl r
theorem s_ishl (X : Stand p l e R s m args below meth c T locs cells slots) (hx : p.tables.exec = Jvm.exec) (hby : c.code = bytes) {x y : Int32} (hd : decode bytes pc = .ok (.ishl, 1)) (hn : pc + 1 = n) (k : OEnds p e below s C S Q T (mkF m n L (.int (x <<< (y &&& 31)) :: st))) : OEnds p e below s C S Q T (mkF m pc L (.int y :: .int x :: st)) := by
  subst hn
  exact k.pre fun t r => XT.ishl X.here hx rfl (hb hby hd) rfl r
theorem s_ishr (X : Stand p l e R s m args below meth c T locs cells slots) (hx : p.tables.exec = Jvm.exec) (hby : c.code = bytes) {x y : Int32} (hd : decode bytes pc = .ok (.ishr, 1)) (hn : pc + 1 = n) (k : OEnds p e below s C S Q T (mkF m n L (.int (x >>> (y &&& 31)) :: st))) : OEnds p e below s C S Q T (mkF m pc L (.int y :: .int x :: st)) := by
  subst hn
  exact k.pre fun t r => XT.ishr X.here hx rfl (hb hby hd) rfl r
theorem s_iushr (X : Stand p l e R s m args below meth c T locs cells slots) (hx : p.tables.exec = Jvm.exec) (hby : c.code = bytes) {x y : Int32} (hd : decode bytes pc = .ok (.iushr, 1)) (hn : pc + 1 = n) (k : OEnds p e below s C S Q T (mkF m n L (.int (XT.ushr x y) :: st))) : OEnds p e below s C S Q T (mkF m pc L (.int y :: .int x :: st)) := by
  subst hn
  exact k.pre fun t r => XT.iushr X.here hx rfl (hb hby hd) rfl r
theorem s_ladd (X : Stand p l e R s m args below meth c T locs cells slots) (hx : p.tables.exec = Jvm.exec) (hby : c.code = bytes) {x y : Int64} (hd : decode bytes pc = .ok (.ladd, 1)) (hn : pc + 1 = n) (k : OEnds p e below s C S Q T (mkF m n L (.long (x + y) :: st))) : OEnds p e below s C S Q T (mkF m pc L (.long y :: .long x :: st)) := by
  subst hn
  exact k.pre fun t r => XT.ladd X.here hx rfl (hb hby hd) rfl r
theorem s_lsub (X : Stand p l e R s m args below meth c T locs cells slots) (hx : p.tables.exec = Jvm.exec) (hby : c.code = bytes) {x y : Int64} (hd : decode bytes pc = .ok (.lsub, 1)) (hn : pc + 1 = n) (k : OEnds p e below s C S Q T (mkF m n L (.long (x - y) :: st))) : OEnds p e below s C S Q T (mkF m pc L (.long y :: .long x :: st)) := by
  subst hn
  exact k.pre fun t r => XT.lsub X.here hx rfl (hb hby hd) rfl r
theorem s_lmul (X : Stand p l e R s m args below meth c T locs cells slots) (hx : p.tables.exec = Jvm.exec) (hby : c.code = bytes) {x y : Int64} (hd : decode bytes pc = .ok (.lmul, 1)) (hn : pc + 1 = n) (k : OEnds p e below s C S Q T (mkF m n L (.long (x * y) :: st))) : OEnds p e below s C S Q T (mkF m pc L (.long y :: .long x :: st)) := by
  subst hn
  exact k.pre fun t r => XT.lmul X.here hx rfl (hb hby hd) rfl r
theorem s_land (X : Stand p l e R s m args below meth c T locs cells slots) (hx : p.tables.exec = Jvm.exec) (hby : c.code = bytes) {x y : Int64} (hd : decode bytes pc = .ok (.land, 1)) (hn : pc + 1 = n) (k : OEnds p e below s C S Q T (mkF m n L (.long (x &&& y) :: st))) : OEnds p e below s C S Q T (mkF m pc L (.long y :: .long x :: st)) := by
  subst hn
  exact k.pre fun t r => XT.land X.here hx rfl (hb hby hd) rfl r
theorem s_lor (X : Stand p l e R s m args below meth c T locs cells slots) (hx : p.tables.exec = Jvm.exec) (hby : c.code = bytes) {x y : Int64} (hd : decode bytes pc = .ok (.lor, 1)) (hn : pc + 1 = n) (k : OEnds p e below s C S Q T (mkF m n L (.long (x ||| y) :: st))) : OEnds p e below s C S Q T (mkF m pc L (.long y :: .long x :: st)) := by
  subst hn
  exact k.pre fun t r => XT.lor X.here hx rfl (hb hby hd) rfl r
theorem s_lxor (X : Stand p l e R s m args below meth c T locs cells slots) (hx : p.tables.exec = Jvm.exec) (hby : c.code = bytes) {x y : Int64} (hd : decode bytes pc = .ok (.lxor, 1)) (hn : pc + 1 = n) (k : OEnds p e below s C S Q T (mkF m n L (.long (x ^^^ y) :: st))) : OEnds p e below s C S Q T (mkF m pc L (.long y :: .long x :: st)) := by
  subst hn
  exact k.pre fun t r => XT.lxor X.here hx rfl (hb hby hd) rfl r
theorem s_lshl (X : Stand p l e R s m args below meth c T locs cells slots) (hx : p.tables.exec = Jvm.exec) (hby : c.code = bytes) {x : Int64} {y : Int32} (hd : decode bytes pc = .ok (.lshl, 1)) (hn : pc + 1 = n) (k : OEnds p e below s C S Q T (mkF m n L (.long (x <<< (y.toInt64 &&& 63)) :: st))) : OEnds p e below s C S Q T (mkF m pc L (.int y :: .long x :: st)) := by
  subst hn
  exact k.pre fun t r => XT.lshl X.here hx rfl (hb hby hd) rfl r
theorem s_lshr (X : Stand p l e R s m args below meth c T locs cells slots) (hx : p.tables.exec = Jvm.exec) (hby : c.code = bytes) {x : Int64} {y : Int32} (hd : decode bytes pc = .ok (.lshr, 1)) (hn : pc + 1 = n) (k : OEnds p e below s C S Q T (mkF m n L (.long (x >>> (y.toInt64 &&& 63)) :: st))) : OEnds p e below s C S Q T (mkF m pc L (.int y :: .long x :: st)) := by
  subst hn
  exact k.pre fun t r => XT.lshr X.here hx rfl (hb hby hd) rfl r
theorem s_lushr (X : Stand p l e R s m args below meth c T locs cells slots) (hx : p.tables.exec = Jvm.exec) (hby : c.code = bytes) {x : Int64} {y : Int32} (hd : decode bytes pc = .ok (.lushr, 1)) (hn : pc + 1 = n) (k : OEnds p e below s C S Q T (mkF m n L (.long (XT.ushrL x y) :: st))) : OEnds p e below s C S Q T (mkF m pc L (.int y :: .long x :: st)) := by
  subst hn
  exact k.pre fun t r => XT.lushr X.here hx rfl (hb hby hd) rfl r
theorem s_idiv (X : Stand p l e R s m args below meth c T locs cells slots) (hx : p.tables.exec = Jvm.exec) (hby : c.code = bytes) {x y : Int32} (hd : decode bytes pc = .ok (.idiv, 1)) (hy : y ≠ 0) (hn : pc + 1 = n) (k : OEnds p e below s C S Q T (mkF m n L (.int (x / y) :: st))) : OEnds p e below s C S Q T (mkF m pc L (.int y :: .int x :: st)) := by
  subst hn
  exact k.pre fun t r => XS.idiv X.here hx rfl (hb hby hd) rfl hy r
theorem s_ldiv (X : Stand p l e R s m args below meth c T locs cells slots) (hx : p.tables.exec = Jvm.exec) (hby : c.code = bytes) {x y : Int64} (hd : decode bytes pc = .ok (.ldiv, 1)) (hy : y ≠ 0) (hn : pc + 1 = n) (k : OEnds p e below s C S Q T (mkF m n L (.long (x / y) :: st))) : OEnds p e below s C S Q T (mkF m pc L (.long y :: .long x :: st)) := by
  subst hn
  exact k.pre fun t r => XT.ldiv X.here hx rfl (hb hby hd) rfl hy r
theorem s_irem (X : Stand p l e R s m args below meth c T locs cells slots) (hx : p.tables.exec = Jvm.exec) (hby : c.code = bytes) {x y : Int32} (hd : decode bytes pc = .ok (.irem, 1)) (hy : y ≠ 0) (hn : pc + 1 = n) (k : OEnds p e below s C S Q T (mkF m n L (.int (x % y) :: st))) : OEnds p e below s C S Q T (mkF m pc L (.int y :: .int x :: st)) := by
  subst hn
  exact k.pre fun t r => iremM X hx rfl (hb hby hd) rfl hy r
theorem s_lrem (X : Stand p l e R s m args below meth c T locs cells slots) (hx : p.tables.exec = Jvm.exec) (hby : c.code = bytes) {x y : Int64} (hd : decode bytes pc = .ok (.lrem, 1)) (hy : y ≠ 0) (hn : pc + 1 = n) (k : OEnds p e below s C S Q T (mkF m n L (.long (x % y) :: st))) : OEnds p e below s C S Q T (mkF m pc L (.long y :: .long x :: st)) := by
  subst hn
  rw [← lrem_mod] at k
  exact k.pre fun t r => XT.lrem X.here hx rfl (hb hby hd) rfl hy r
theorem s_ineg (X : Stand p l e R s m args below meth c T locs cells slots) (hx : p.tables.exec = Jvm.exec) (hby : c.code = bytes) {x : Int32} (hd : decode bytes pc = .ok (.ineg, 1)) (hn : pc + 1 = n) (k : OEnds p e below s C S Q T (mkF m n L (.int (-x) :: st))) : OEnds p e below s C S Q T (mkF m pc L (.int x :: st)) := by
  subst hn
  exact k.pre fun t r => XS.ineg X.here hx rfl (hb hby hd) rfl r
theorem s_lneg (X : Stand p l e R s m args below meth c T locs cells slots) (hx : p.tables.exec = Jvm.exec) (hby : c.code = bytes) {x : Int64} (hd : decode bytes pc = .ok (.lneg, 1)) (hn : pc + 1 = n) (k : OEnds p e below s C S Q T (mkF m n L (.long (-x) :: st))) : OEnds p e below s C S Q T (mkF m pc L (.long x :: st)) := by
  subst hn
  exact k.pre fun t r => XT.lneg X.here hx rfl (hb hby hd) rfl r
theorem s_i2l (X : Stand p l e R s m args below meth c T locs cells slots) (hx : p.tables.exec = Jvm.exec) (hby : c.code = bytes) {x : Int32} (hd : decode bytes pc = .ok (.i2l, 1)) (hn : pc + 1 = n) (k : OEnds p e below s C S Q T (mkF m n L (.long x.toInt64 :: st))) : OEnds p e below s C S Q T (mkF m pc L (.int x :: st)) := by
  subst hn
  exact k.pre fun t r => XT.i2l X.here hx rfl (hb hby hd) rfl r
theorem s_l2i (X : Stand p l e R s m args below meth c T locs cells slots) (hx : p.tables.exec = Jvm.exec) (hby : c.code = bytes) {x : Int64} (hd : decode bytes pc = .ok (.l2i, 1)) (hn : pc + 1 = n) (k : OEnds p e below s C S Q T (mkF m n L (.int x.toInt32 :: st))) : OEnds p e below s C S Q T (mkF m pc L (.long x :: st)) := by
  subst hn
  exact k.pre fun t r => XT.l2i X.here hx rfl (hb hby hd) rfl r
theorem s_i2b (X : Stand p l e R s m args below meth c T locs cells slots) (hx : p.tables.exec = Jvm.exec) (hby : c.code = bytes) {x : Int32} (hd : decode bytes pc = .ok (.i2b, 1)) (hn : pc + 1 = n) (k : OEnds p e below s C S Q T (mkF m n L (.int x.toInt8.toInt32 :: st))) : OEnds p e below s C S Q T (mkF m pc L (.int x :: st)) := by
  subst hn
  exact k.pre fun t r => XT.i2b X.here hx rfl (hb hby hd) rfl r
theorem s_i2c (X : Stand p l e R s m args below meth c T locs cells slots) (hx : p.tables.exec = Jvm.exec) (hby : c.code = bytes) {x : Int32} (hd : decode bytes pc = .ok (.i2c, 1)) (hn : pc + 1 = n) (k : OEnds p e below s C S Q T (mkF m n L (.int x.toUInt32.toUInt16.toUInt32.toInt32 :: st))) : OEnds p e below s C S Q T (mkF m pc L (.int x :: st)) := by
  subst hn
  exact k.pre fun t r => XT.i2c X.here hx rfl (hb hby hd) rfl r
theorem s_i2s (X : Stand p l e R s m args below meth c T locs cells slots) (hx : p.tables.exec = Jvm.exec) (hby : c.code = bytes) {x : Int32} (hd : decode bytes pc = .ok (.i2s, 1)) (hn : pc + 1 = n) (k : OEnds p e below s C S Q T (mkF m n L (.int x.toInt16.toInt32 :: st))) : OEnds p e below s C S Q T (mkF m pc L (.int x :: st)) := by
  subst hn
  exact k.pre fun t r => XT.i2s X.here hx rfl (hb hby hd) rfl r
theorem s_lcmp (X : Stand p l e R s m args below meth c T locs cells slots) (hx : p.tables.exec = Jvm.exec) (hby : c.code = bytes) {x y : Int64} (hd : decode bytes pc = .ok (.lcmp, 1)) (hn : pc + 1 = n) (k : OEnds p e below s C S Q T (mkF m n L (.int (XT.cmpL x y) :: st))) : OEnds p e below s C S Q T (mkF m pc L (.long y :: .long x :: st)) := by
  subst hn
  exact k.pre fun t r => XT.lcmp X.here hx rfl (hb hby hd) rfl r
theorem s_dup (X : Stand p l e R s m args below meth c T locs cells slots) (hx : p.tables.exec = Jvm.exec) (hby : c.code = bytes) {x : Value} (hd : decode bytes pc = .ok (.dup, 1)) (hc : x.category = 1) (hn : pc + 1 = n) (k : OEnds p e below s C S Q T (mkF m n L (x :: x :: st))) : OEnds p e below s C S Q T (mkF m pc L (x :: st)) := by
  subst hn
  exact k.pre fun t r => XS.dup X.here hx rfl (hb hby hd) rfl hc r
theorem s_pop (X : Stand p l e R s m args below meth c T locs cells slots) (hx : p.tables.exec = Jvm.exec) (hby : c.code = bytes) {x : Value} (hd : decode bytes pc = .ok (.pop, 1)) (hc : x.category = 1) (hn : pc + 1 = n) (k : OEnds p e below s C S Q T (mkF m n L (st))) : OEnds p e below s C S Q T (mkF m pc L (x :: st)) := by
  subst hn
  exact k.pre fun t r => XT.pop X.here hx rfl (hb hby hd) rfl hc r
theorem s_dupX1 (X : Stand p l e R s m args below meth c T locs cells slots) (hx : p.tables.exec = Jvm.exec) (hby : c.code = bytes) {x y : Value} (hd : decode bytes pc = .ok (.dup_x1, 1)) (hc : x.category = 1) (hc' : y.category = 1) (hn : pc + 1 = n) (k : OEnds p e below s C S Q T (mkF m n L (x :: y :: x :: st))) : OEnds p e below s C S Q T (mkF m pc L (x :: y :: st)) := by
  subst hn
  exact k.pre fun t r => XT.dupX1 X.here hx rfl (hb hby hd) rfl hc hc' r
theorem s_dup2 (X : Stand p l e R s m args below meth c T locs cells slots) (hx : p.tables.exec = Jvm.exec) (hby : c.code = bytes) {x y : Value} (hd : decode bytes pc = .ok (.dup2, 1)) (hc : x.category = 1) (hc' : y.category = 1) (hn : pc + 1 = n) (k : OEnds p e below s C S Q T (mkF m n L (x :: y :: x :: y :: st))) : OEnds p e below s C S Q T (mkF m pc L (x :: y :: st)) := by
  subst hn
  exact k.pre fun t r => XT.dup2 X.here hx rfl (hb hby hd) rfl hc hc' r
theorem s_dup2L (X : Stand p l e R s m args below meth c T locs cells slots) (hx : p.tables.exec = Jvm.exec) (hby : c.code = bytes) {x : Int64} (hd : decode bytes pc = .ok (.dup2, 1)) (hn : pc + 1 = n) (k : OEnds p e below s C S Q T (mkF m n L (.long x :: .long x :: st))) : OEnds p e below s C S Q T (mkF m pc L (.long x :: st)) := by
  subst hn
  exact k.pre fun t r => XT.dup2L X.here hx rfl (hb hby hd) rfl r
theorem s_goto (X : Stand p l e R s m args below meth c T locs cells slots) (hx : p.tables.exec = Jvm.exec) (hby : c.code = bytes) {o : Int}  (hd : decode bytes pc = .ok (.goto o, 3)) (ho : 0 ≤ (pc : Int) + o) (hn : ((pc : Int) + o).toNat = n) (k : OEnds p e below s C S Q T (mkF m n L st)) : OEnds p e below s C S Q T (mkF m pc L (st)) :=
  k.pre fun t r => XS.goto X.here hx rfl rfl (hb hby hd)  ho hn r
theorem s_ifY (X : Stand p l e R s m args below meth c T locs cells slots) (hx : p.tables.exec = Jvm.exec) (hby : c.code = bytes) {o : Int} {cd : ClassFile.Cond} {x : Int32} (hd : decode bytes pc = .ok (.ifCond cd o, 3)) (hc : ifCond.holds cd x = true) (ho : 0 ≤ (pc : Int) + o) (hn : ((pc : Int) + o).toNat = n) (k : OEnds p e below s C S Q T (mkF m n L st)) : OEnds p e below s C S Q T (mkF m pc L (.int x :: st)) :=
  k.pre fun t r => XS.ifYes X.here hx rfl rfl (hb hby hd) rfl hc ho hn r
theorem s_ifN (X : Stand p l e R s m args below meth c T locs cells slots) (hx : p.tables.exec = Jvm.exec) (hby : c.code = bytes) {o : Int} {cd : ClassFile.Cond} {x : Int32} (hd : decode bytes pc = .ok (.ifCond cd o, 3)) (hc : ifCond.holds cd x = false) (hn : pc + 3 = n) (k : OEnds p e below s C S Q T (mkF m n L st)) : OEnds p e below s C S Q T (mkF m pc L (.int x :: st)) := by
  subst hn
  exact k.pre fun t r => XS.ifNo X.here hx rfl (hb hby hd) rfl hc r
theorem s_icmpY (X : Stand p l e R s m args below meth c T locs cells slots) (hx : p.tables.exec = Jvm.exec) (hby : c.code = bytes) {o : Int} {cd : ClassFile.Cond} {x y : Int32} (hd : decode bytes pc = .ok (.if_icmp cd o, 3)) (hc : if_icmp.holds cd x y = true) (ho : 0 ≤ (pc : Int) + o) (hn : ((pc : Int) + o).toNat = n) (k : OEnds p e below s C S Q T (mkF m n L st)) : OEnds p e below s C S Q T (mkF m pc L (.int y :: .int x :: st)) :=
  k.pre fun t r => XS.icmpYes X.here hx rfl rfl (hb hby hd) rfl hc ho hn r
theorem s_icmpN (X : Stand p l e R s m args below meth c T locs cells slots) (hx : p.tables.exec = Jvm.exec) (hby : c.code = bytes) {o : Int} {cd : ClassFile.Cond} {x y : Int32} (hd : decode bytes pc = .ok (.if_icmp cd o, 3)) (hc : if_icmp.holds cd x y = false) (hn : pc + 3 = n) (k : OEnds p e below s C S Q T (mkF m n L st)) : OEnds p e below s C S Q T (mkF m pc L (.int y :: .int x :: st)) := by
  subst hn
  exact k.pre fun t r => XS.icmpNo X.here hx rfl (hb hby hd) rfl hc r
theorem s_acmpY (X : Stand p l e R s m args below meth c T locs cells slots) (hx : p.tables.exec = Jvm.exec) (hby : c.code = bytes) {o : Int} {cd : ClassFile.ACond} {x y : Value} (hd : decode bytes pc = .ok (.if_acmp cd o, 3)) (h1 : x.isRef = true) (h2 : y.isRef = true) (hc : XT.acmp cd x y = true) (ho : 0 ≤ (pc : Int) + o) (hn : ((pc : Int) + o).toNat = n) (k : OEnds p e below s C S Q T (mkF m n L st)) : OEnds p e below s C S Q T (mkF m pc L (y :: x :: st)) :=
  k.pre fun t r => XT.acmpYes X.here hx rfl rfl (hb hby hd) rfl h1 h2 hc ho hn r
theorem s_acmpN (X : Stand p l e R s m args below meth c T locs cells slots) (hx : p.tables.exec = Jvm.exec) (hby : c.code = bytes) {o : Int} {cd : ClassFile.ACond} {x y : Value} (hd : decode bytes pc = .ok (.if_acmp cd o, 3)) (h1 : x.isRef = true) (h2 : y.isRef = true) (hc : XT.acmp cd x y = false) (hn : pc + 3 = n) (k : OEnds p e below s C S Q T (mkF m n L st)) : OEnds p e below s C S Q T (mkF m pc L (y :: x :: st)) := by
  subst hn
  exact k.pre fun t r => XT.acmpNo X.here hx rfl (hb hby hd) rfl h1 h2 hc r
theorem s_nullY (X : Stand p l e R s m args below meth c T locs cells slots) (hx : p.tables.exec = Jvm.exec) (hby : c.code = bytes) {o : Int} {x : Value} (hd : decode bytes pc = .ok (.ifnull o, 3)) (hv : x = .null) (ho : 0 ≤ (pc : Int) + o) (hn : ((pc : Int) + o).toNat = n) (k : OEnds p e below s C S Q T (mkF m n L st)) : OEnds p e below s C S Q T (mkF m pc L (x :: st)) :=
  k.pre fun t r => XT.nullYes X.here hx rfl rfl (hb hby hd) rfl hv ho hn r
theorem s_nullN (X : Stand p l e R s m args below meth c T locs cells slots) (hx : p.tables.exec = Jvm.exec) (hby : c.code = bytes) {o : Int} {x : Value} (hd : decode bytes pc = .ok (.ifnull o, 3)) (h1 : x.isRef = true) (hv : ¬ x = .null) (hn : pc + 3 = n) (k : OEnds p e below s C S Q T (mkF m n L st)) : OEnds p e below s C S Q T (mkF m pc L (x :: st)) := by
  subst hn
  exact k.pre fun t r => XT.nullNo X.here hx rfl (hb hby hd) rfl h1 hv r
theorem s_nonnullY (X : Stand p l e R s m args below meth c T locs cells slots) (hx : p.tables.exec = Jvm.exec) (hby : c.code = bytes) {o : Int} {x : Value} (hd : decode bytes pc = .ok (.ifnonnull o, 3)) (h1 : x.isRef = true) (hv : ¬ x = .null) (ho : 0 ≤ (pc : Int) + o) (hn : ((pc : Int) + o).toNat = n) (k : OEnds p e below s C S Q T (mkF m n L st)) : OEnds p e below s C S Q T (mkF m pc L (x :: st)) :=
  k.pre fun t r => XT.nonnullYes X.here hx rfl rfl (hb hby hd) rfl h1 hv ho hn r
theorem s_nonnullN (X : Stand p l e R s m args below meth c T locs cells slots) (hx : p.tables.exec = Jvm.exec) (hby : c.code = bytes) {o : Int} {x : Value} (hd : decode bytes pc = .ok (.ifnonnull o, 3)) (hv : x = .null) (hn : pc + 3 = n) (k : OEnds p e below s C S Q T (mkF m n L st)) : OEnds p e below s C S Q T (mkF m pc L (x :: st)) := by
  subst hn
  exact k.pre fun t r => XT.nonnullNo X.here hx rfl (hb hby hd) rfl hv r
theorem s_iincC (X : Stand p l e R s m args below meth c T locs cells slots) (hx : p.tables.exec = Jvm.exec) (hby : c.code = bytes) {i : Nat} {cst : Int} {x v z : Int32} {L' : Array Slot} (hd : decode bytes pc = .ok (.iinc i cst, 3)) (hv : Int32.ofInt cst = v) (hi : L[i]? = some (.val (.int x))) (hz : x + v = z) (hl : storeLocals L i (.int z) = some L') (hn : pc + 3 = n) (k : OEnds p e below s C S Q T (mkF m n L' (st))) : OEnds p e below s C S Q T (mkF m pc L (st)) := by
  subst hn
  exact k.pre fun t r => XT.iincV X.here hx rfl _ (hb hby hd) hv hi (hz ▸ hl) r

theorem s_fold {x z : Int32} (hz : x = z) (k : OEnds p e below s C S Q T (mkF m pc L (.int z :: st))) : OEnds p e below s C S Q T (mkF m pc L (.int x :: st)) := hz ▸ k
theorem s_foldJ {x z : Int64} (hz : x = z) (k : OEnds p e below s C S Q T (mkF m pc L (.long z :: st))) : OEnds p e below s C S Q T (mkF m pc L (.long x :: st)) := hz ▸ k
/-- the constants of the pool -/
theorem s_ldcI (X : Stand p l e R s m args below meth c T locs cells slots) (hx : p.tables.exec = Jvm.exec) (hby : c.code = bytes) (hZ : Z.Warmed39 s.vm) {own : String} {index : Nat} {v : Int32} (hown : s.vm.findClass own = some m.cls) (w : (Jvm.Cond.constant own index v).before a0 Z = true) (hd : decode bytes pc = .ok (.ldc index, 2)) (hn : pc + 2 = n) (k : OEnds p e below s C S Q T (mkF m n L (.int v :: st))) : OEnds p e below s C S Q T (mkF m pc L st) := by
  subst hn
  exact k.pre fun t r => X.ldcI hx hown (mvT hZ w) rfl (hb hby hd) r
theorem s_ldcWI (X : Stand p l e R s m args below meth c T locs cells slots) (hx : p.tables.exec = Jvm.exec) (hby : c.code = bytes) (hZ : Z.Warmed39 s.vm) {own : String} {index : Nat} {v : Int32} (hown : s.vm.findClass own = some m.cls) (w : (Jvm.Cond.constant own index v).before a0 Z = true) (hd : decode bytes pc = .ok (.ldc_w index, 3)) (hn : pc + 3 = n) (k : OEnds p e below s C S Q T (mkF m n L (.int v :: st))) : OEnds p e below s C S Q T (mkF m pc L st) := by
  subst hn
  exact k.pre fun t r => X.ldcWI hx hown (mvT hZ w) rfl (hb hby hd) r
theorem s_ldc2J (X : Stand p l e R s m args below meth c T locs cells slots) (hx : p.tables.exec = Jvm.exec) (hby : c.code = bytes) (hZ : Z.Warmed39 s.vm) {own : String} {index : Nat} {v : Int64} (hown : s.vm.findClass own = some m.cls) (w : (Jvm.Cond.constantLong own index v).before a0 Z = true) (hd : decode bytes pc = .ok (.ldc2_w index, 3)) (hn : pc + 3 = n) (k : OEnds p e below s C S Q T (mkF m n L (.long v :: st))) : OEnds p e below s C S Q T (mkF m pc L st) := by
  subst hn
  exact k.pre fun t r => X.ldc2J hx hown (mvT hZ w) rfl (hb hby hd) r
/-- the returns -/
theorem s_retV (X : Stand p l e R s m args below meth c T locs cells slots) (hx : p.tables.exec = Jvm.exec) (hby : c.code = bytes) (hlk : meth.locks = false) {t : FieldType} (hret : meth.sig.returnType = some t) {w : Value} {i : Instr} (hi : (i = .ireturn ∧ (t = .int ∨ t = .boolean ∨ t = .byte ∨ t = .char ∨ t = .short) ∧ ∃ z, w = .int z) ∨ (i = .lreturn ∧ t = .long ∧ ∃ z, w = .long z) ∨ (i = .dreturn ∧ t = .double ∧ ∃ z, w = .double z) ∨ (i = .freturn ∧ t = .float ∧ ∃ z, w = .float z) ∨ (i = .areturn ∧ t.isReference = true ∧ w.isRef = true))
    (hnw : narrow t w = w) (hd : decode bytes pc = .ok (i, 1)) (hc : cells ≤ C) (hs : slots ≤ S) (q : Q (some w) T.heap locs) : OEnds p e below s C S Q T (mkF m pc L (w :: st)) := by
  obtain ⟨fs, hr, hrun, hended, hW, hsame⟩ := X.leave (v := some w) (fun h => by rw [hret] at h; cases h) hlk
  exact ⟨_, _, _, retOut X hx hret hnw hi (hb hby hd) hr, hrun, hended, q, ⟨_, rfl⟩, hW, hsame.mono hc hs⟩
theorem s_retI (X : Stand p l e R s m args below meth c T locs cells slots) (hx : p.tables.exec = Jvm.exec) (hby : c.code = bytes) (hlk : meth.locks = false) (hret : meth.sig.returnType = some .int) {z : Int32} (hd : decode bytes pc = .ok (.ireturn, 1)) (hc : cells ≤ C) (hs : slots ≤ S) (q : Q (some (.int z)) T.heap locs) : OEnds p e below s C S Q T (mkF m pc L (.int z :: st)) :=
  s_retV X hx hby hlk hret (Or.inl ⟨rfl, Or.inl rfl, _, rfl⟩) rfl hd hc hs q
theorem s_retJ (X : Stand p l e R s m args below meth c T locs cells slots) (hx : p.tables.exec = Jvm.exec) (hby : c.code = bytes) (hlk : meth.locks = false) (hret : meth.sig.returnType = some .long) {z : Int64} (hd : decode bytes pc = .ok (.lreturn, 1)) (hc : cells ≤ C) (hs : slots ≤ S) (q : Q (some (.long z)) T.heap locs) : OEnds p e below s C S Q T (mkF m pc L (.long z :: st)) :=
  s_retV X hx hby hlk hret (Or.inr (Or.inl ⟨rfl, rfl, _, rfl⟩)) rfl hd hc hs q
theorem s_retA (X : Stand p l e R s m args below meth c T locs cells slots) (hx : p.tables.exec = Jvm.exec) (hby : c.code = bytes) (hlk : meth.locks = false) {t : FieldType} (hret : meth.sig.returnType = some t) (ht : t.isReference = true) {w : Value} (hw : w.isRef = true) (hd : decode bytes pc = .ok (.areturn, 1)) (hc : cells ≤ C) (hs : slots ≤ S) (q : Q (some w) T.heap locs) : OEnds p e below s C S Q T (mkF m pc L (w :: st)) :=
  s_retV X hx hby hlk hret (Or.inr (Or.inr (Or.inr (Or.inr ⟨rfl, ht, hw⟩)))) (by cases w <;> cases t <;> simp_all [Value.isRef, FieldType.isReference, narrow]) hd hc hs q
theorem s_retN (X : Stand p l e R s m args below meth c T locs cells slots) (hx : p.tables.exec = Jvm.exec) (hby : c.code = bytes) (hlk : meth.locks = false) {t : FieldType} (hret : meth.sig.returnType = some t) (ht : t = .boolean ∨ t = .byte ∨ t = .char ∨ t = .short) {z z' : Int32} (hz : nar t z = z') (hd : decode bytes pc = .ok (.ireturn, 1)) (hc : cells ≤ C) (hs : slots ≤ S) (q : Q (some (.int z')) T.heap locs) : OEnds p e below s C S Q T (mkF m pc L (.int z :: st)) := by
  subst hz
  obtain ⟨fs, hr, hrun, hended, hW, hsame⟩ := X.leave (v := some (.int (nar t z))) (fun h => by rw [hret] at h; cases h) hlk
  exact ⟨_, _, _, retN X hx hret ht (hb hby hd) hr, hrun, hended, q, ⟨_, rfl⟩, hW, hsame.mono hc hs⟩
theorem s_ret (X : Stand p l e R s m args below meth c T locs cells slots) (hx : p.tables.exec = Jvm.exec) (hby : c.code = bytes) (hlk : meth.locks = false) (hret : meth.sig.returnType = none) (hd : decode bytes pc = .ok (.return_, 1)) (hc : cells ≤ C) (hs : slots ≤ S) (q : Q none T.heap locs) : OEnds p e below s C S Q T (mkF m pc L []) := by
  obtain ⟨fs, hr, hrun, hended, hW, hsame⟩ := X.leave (v := none) (fun _ => rfl) hlk
  exact ⟨_, _, _, X.returnOut hx hret (hb hby hd) hr, hrun, hended, q, ⟨_, rfl⟩, hW, hsame.mono hc hs⟩
/-- the heap: fields -/
theorem s_getF (X : Stand p l e R s m args below meth c T locs cells slots) (hx : p.tables.exec = Jvm.exec) (hby : c.code = bytes) (hZ : Z.Warmed39 s.vm) {own O f d : String} {index : Nat} (hown : s.vm.findClass own = some m.cls) (w : (Jvm.Cond.fieldLink own index O f d).before a0 Z = true) (eT : T.heap = h) {a : Addr} {v : Value} (F : Fld Z h a O f d v) (hd : decode bytes pc = .ok (.getfield index, 3)) (hn : pc + 3 = n)
    (k : ∀ T', Stand p l e R s m args below meth c T' locs cells slots → T'.heap = h → OEnds p e below s C S Q T' (mkF m n L (v :: st))) : OEnds p e below s C S Q T (mkF m pc L (.ref a :: st)) := by
  subst hn
  obtain ⟨T', X', e', f'⟩ := getF X hx hZ hown (host := "") (Or.inl w) Via.refl eT F (g := mkF m pc L (.ref a :: st)) rfl rfl (hb hby hd)
  exact (k T' X' e').pre f'
theorem s_putF (X : Stand p l e R s m args below meth c T locs cells slots) (hx : p.tables.exec = Jvm.exec) (hby : c.code = bytes) (hZ : Z.Warmed39 s.vm) {own O f d K : String} {index kk : Nat} {ty : FieldType} (hown : s.vm.findClass own = some m.cls) (w : (Jvm.Cond.fieldLink own index O f d).before a0 Z = true) (eT : T.heap = h) {a : Addr} {v old : Value} (F : Fld Z h a O f d old) (E : Exa Z h a K)
    (Lw : (Jvm.Cond.lays K O f d).before a0 Z = true ∨ ((Jvm.Cond.laysFinal K O f d).before a0 Z = true ∧ own = O ∧ meth.name = "<init>")) (wi : (Jvm.Cond.instantiable K kk).before a0 Z = true) (hty : parseFieldDescriptor d = some ty) (hnw : narrow ty v = v) (hf : fits ty v = true) (hd : decode bytes pc = .ok (.putfield index, 3)) (hn : pc + 3 = n)
    (k : ∀ T' h', Stand p l e R s m args below meth c T' (locs ++ [⟨a, RoadKit.slotOf Z O f d⟩]) cells slots → T'.heap = h' → Wr h h' a (RoadKit.slotOf Z O f d) v → OEnds p e below s C S Q T' (mkF m n L st)) : OEnds p e below s C S Q T (mkF m pc L (v :: .ref a :: st)) := by
  subst hn
  obtain ⟨T', h', X', e', W', f'⟩ := putF X hx hZ hown (host := "") (Or.inl w) Via.refl eT F E Lw wi hty hnw hf (g := mkF m pc L (v :: .ref a :: st)) rfl rfl (hb hby hd)
  exact (k T' h' X' e' W').pre f'
theorem s_getS (X : Stand p l e R s m args below meth c T locs cells slots) (hx : p.tables.exec = Jvm.exec) (hby : c.code = bytes) (hZ : Z.Warmed39 s.vm) {own O f d : String} {index : Nat} (hown : s.vm.findClass own = some m.cls) (w : (Jvm.Cond.fieldLink own index O f d).before a0 Z = true) (eT : T.heap = h) {v : Value} (F : Sta Z h O f d v) (hd : decode bytes pc = .ok (.getstatic index, 3)) (hn : pc + 3 = n)
    (k : ∀ T', Stand p l e R s m args below meth c T' locs cells slots → T'.heap = h → OEnds p e below s C S Q T' (mkF m n L (v :: st))) : OEnds p e below s C S Q T (mkF m pc L st) := by
  subst hn
  obtain ⟨T', X', e', f'⟩ := getS X hx hZ hown (host := "") w Via.refl eT F (g := mkF m pc L st) rfl (hb hby hd)
  exact (k T' X' e').pre f'
theorem s_newO (X : Stand p l e R s m args below meth c T locs cells slots) (hx : p.tables.exec = Jvm.exec) (hby : c.code = bytes) (hZ : Z.Warmed39 s.vm) {own K : String} {index num : Nat} (hown : s.vm.findClass own = some m.cls) (w : (Jvm.Cond.classLink own index K).before a0 Z = true) (wi : (Jvm.Cond.instantiable K num).before a0 Z = true) (wz : (Jvm.Cond.initialized K).before a0 Z = true) (eT : T.heap = h) (hc : cells + 1 ≤ R.cells) (hl : slots + num ≤ R.slots) (hd : decode bytes pc = .ok (.new index, 3)) (hn : pc + 3 = n)
    (k : ∀ T' h' a, a = h.size → Stand p l e R s m args below meth c T' locs (cells + 1) (slots + num) → T'.heap = h' → Ext h h' → Exa Z h' a K → (∀ {O nm d : String} {ty : FieldType}, Laid Z a0 K O nm d → parseFieldDescriptor d = some ty → Fld Z h' a O nm d (defaultValue ty)) → OEnds p e below s C S Q T' (mkF m n L (.ref a :: st))) : OEnds p e below s C S Q T (mkF m pc L st) := by
  subst hn
  obtain ⟨T', h', X', e', E', A', D', -, f'⟩ := newO X hx hZ hown w wi wz eT (g := mkF m pc L st) rfl (hb hby hd) hc hl
  exact (k T' h' _ rfl X' e' E' A' D').pre f'
theorem s_initO (X : Stand p l e R s m args below meth c T locs cells slots) (hx : p.tables.exec = Jvm.exec) (hby : c.code = bytes) {ml : Nat} (hml : c.maxLocals = ml) (hZ : Z.Warmed39 s.vm) {own : String} {index : Nat} (hown : s.vm.findClass own = some m.cls) (w1 : (Jvm.Cond.methodLink own index Lib.objectInit).before a0 Z = true) (w2 : (Jvm.Cond.instanceMethod Lib.objectInit).before a0 Z = true) (w3 : (Jvm.Cond.code Lib.objectInit ⟨#[0xb1]⟩ 1 none).before a0 Z = true) (eT : T.heap = h) {a : Addr} (hf : 1 ≤ R.frames) (W : Nat) (hW : (st.map fun v => v.category).sum ≤ W) (hl : W + 12 ≤ R.locals) (hsz : L.size = ml) (hd : decode bytes pc = .ok (.invokespecial index, 3)) (hn : pc + 3 = n)
    (k : ∀ T', Stand p l e R s m args below meth c T' locs cells slots → T'.heap = h → OEnds p e below s C S Q T' (mkF m n L st)) : OEnds p e below s C S Q T (mkF m pc L (.ref a :: st)) := by
  subst hn
  obtain ⟨T', X', e', f'⟩ := initO X hx hZ hown w1 w2 w3 eT (g := mkF m pc L (.ref a :: st)) rfl (by rw [hml]; exact hsz) rfl (hb hby hd) hf (W := W) (by show 2 * 0 + _ ≤ _; rw [Nat.mul_zero, Nat.zero_add]; exact hW) hl
  exact (k T' X' e').pre f'
/-- the calls by a contract -/
theorem s_callS (X : Stand p l e R s m args below meth c T locs cells slots) (hx : p.tables.exec = Jvm.exec) (hby : c.code = bytes) {ml : Nat} (hml : c.maxLocals = ml) (hZ : Z.Warmed39 s.vm) {own : String} {index : Nat} {y : MethodName} {yb : ByteArray} {maxL : Nat} {ret : Option FieldType} (hown : s.vm.findClass own = some m.cls) (w1 : (Jvm.Cond.methodLink own index y).before a0 Z = true) (w2 : (Jvm.Cond.static y).before a0 Z = true) (w3 : (Jvm.Cond.initialized y.cls).before a0 Z = true) (w4 : (Jvm.Cond.code y yb maxL ret).before a0 Z = true) (hy : y.cls ≠ "java/lang/invoke/MethodHandle" ∧ y.cls ≠ "java/lang/invoke/VarHandle")
    {rm : Room} {as' : Array Value} {Q' : Option Value → Heap → List Loc → Prop} (K : OCon l Z y yb maxL ret [] rm as' h Q') (eT : T.heap = h) (hf : rm.frames + 1 ≤ R.frames) (W : Nat) (hl : W + (maxL + 11) + rm.locals ≤ R.locals) (hc : cells + rm.cells ≤ R.cells) (hs : slots + rm.slots ≤ R.slots) {ps : List FieldType} {rt : Option FieldType} (pd : parseMethodDescriptor y.desc = some ⟨ps, rt⟩) (argsL rest : List Value) (hlen : argsL.length = ps.length) (has : argsL.toArray = as') (hst : st = argsL.reverse ++ rest) (hW : (rest.map fun v => v.category).sum ≤ W) (hsz : L.size = ml) (hd : decode bytes pc = .ok (.invokestatic index, 3)) (hn : pc + 3 = n)
    (k : ∀ T' L' v, Stand p l e R s m args below meth c T' (locs ++ L') (cells + rm.cells) (slots + rm.slots) → Q' v T'.heap L' → OEnds p e below s C S Q T' (mkF m n L (v.toList ++ rest))) : OEnds p e below s C S Q T (mkF m pc L st) := by
  subst hn has
  obtain ⟨v, _, ⟨T', L', k', n'⟩, -, X', ⟨Lc, hQ, l', y', z'⟩, f'⟩ := Jvm.LawKit.callS X hx (y := y) hown (mvT hZ w1) (mvT hZ w2) (mvT hZ w3) (mvT hZ w4) hy (backOf (W := W) K hZ w4 w3 hf hl) (g := mkF m pc L st) rfl (by rw [hml]; exact hsz) (argsL := argsL) (rest := rest) (lenOf pd hlen) hst (by show 2 * 0 + _ ≤ _; rw [Nat.mul_zero, Nat.zero_add]; exact hW) (hb hby hd) (fun _ _ => ⟨rfl, eT, hc, hs⟩)
  dsimp only [Pt.U, Pt.locs, Pt.cells, Pt.slots] at X' l' y' z' f' hQ
  subst l' y' z'
  exact (k T' Lc v X' hQ).pre f'
theorem s_callI (X : Stand p l e R s m args below meth c T locs cells slots) (hx : p.tables.exec = Jvm.exec) (hby : c.code = bytes) {ml : Nat} (hml : c.maxLocals = ml) (hZ : Z.Warmed39 s.vm) {own : String} {index : Nat} {y : MethodName} {yb : ByteArray} {maxL : Nat} (hy1 : y.name = "<init>") (hown : s.vm.findClass own = some m.cls) (w1 : (Jvm.Cond.methodLink own index y).before a0 Z = true) (w2 : (Jvm.Cond.instanceMethod y).before a0 Z = true) (w3 : (Jvm.Cond.initialized y.cls).before a0 Z = true) (w4 : (Jvm.Cond.code y yb maxL none).before a0 Z = true) (hy : y.cls ≠ "java/lang/invoke/MethodHandle" ∧ y.cls ≠ "java/lang/invoke/VarHandle")
    {rm : Room} {as' : Array Value} {Q' : Option Value → Heap → List Loc → Prop} (K : OCon l Z y yb maxL none [] rm as' h Q') (eT : T.heap = h) (hf : rm.frames + 1 ≤ R.frames) (W : Nat) (hl : W + (maxL + 11) + rm.locals ≤ R.locals) (hc : cells + rm.cells ≤ R.cells) (hs : slots + rm.slots ≤ R.slots) {ps : List FieldType} {rt : Option FieldType} (pd : parseMethodDescriptor y.desc = some ⟨ps, rt⟩) (a : Addr) (argsL rest : List Value) (hlen : argsL.length = ps.length) (has : (Value.ref a :: argsL).toArray = as') (hst : st = argsL.reverse ++ .ref a :: rest) (hW : (rest.map fun v => v.category).sum ≤ W) (hsz : L.size = ml) (hd : decode bytes pc = .ok (.invokespecial index, 3)) (hn : pc + 3 = n)
    (k : ∀ T' L' v, Stand p l e R s m args below meth c T' (locs ++ L') (cells + rm.cells) (slots + rm.slots) → Q' v T'.heap L' → OEnds p e below s C S Q T' (mkF m n L (v.toList ++ rest))) : OEnds p e below s C S Q T (mkF m pc L st) := by
  subst hn has
  obtain ⟨v, _, ⟨T', L', k', n'⟩, -, X', ⟨Lc, hQ, l', y', z'⟩, f'⟩ := X.specialBack hx (y := y) hy1 hown (mvT hZ w1) (mvT hZ w2) (mvT hZ w4) hy (backOf (W := W) K hZ w4 w3 hf hl) (g := mkF m pc L st) rfl (by rw [hml]; exact hsz) (Steps.refl _) (a := a) (argsL := argsL) (rest := rest) (lenOf pd hlen) hst (by show 2 * 0 + _ ≤ _; rw [Nat.mul_zero, Nat.zero_add]; exact hW) (hb hby hd) (fun _ _ => ⟨rfl, eT, hc, hs⟩)
  dsimp only [Pt.U, Pt.locs, Pt.cells, Pt.slots] at X' l' y' z' f' hQ
  subst l' y' z'
  exact (k T' Lc v X' hQ).pre fun t r => f'.trans r
theorem s_callV (X : Stand p l e R s m args below meth c T locs cells slots) (hx : p.tables.exec = Jvm.exec) (hby : c.code = bytes) {ml : Nat} (hml : c.maxLocals = ml) (hZ : Z.Warmed39 s.vm) {own K0 : String} {index : Nat} {y z : MethodName} {yb : ByteArray} {maxL : Nat} {ret : Option FieldType} (hown : s.vm.findClass own = some m.cls) (w1 : (Jvm.Cond.methodLink own index y).before a0 Z = true) (w2 : (Jvm.Cond.declares y).before a0 Z = true) (w5 : NotFace s y) (w6 : (Jvm.Cond.selects K0 y z).before a0 Z = true) (w7 : (Jvm.Cond.instanceMethod z).before a0 Z = true) (w3 : (Jvm.Cond.initialized z.cls).before a0 Z = true) (w4 : (Jvm.Cond.code z yb maxL ret).before a0 Z = true) (hy : y.cls ≠ "java/lang/invoke/MethodHandle" ∧ y.cls ≠ "java/lang/invoke/VarHandle")
    {rm : Room} {as' : Array Value} {Q' : Option Value → Heap → List Loc → Prop} (K : OCon l Z z yb maxL ret [] rm as' h Q') (eT : T.heap = h) (hf : rm.frames + 1 ≤ R.frames) (W : Nat) (hl : W + (maxL + 11) + rm.locals ≤ R.locals) (hc : cells + rm.cells ≤ R.cells) (hs : slots + rm.slots ≤ R.slots) {ps : List FieldType} {rt : Option FieldType} (pd : parseMethodDescriptor y.desc = some ⟨ps, rt⟩) {a : Addr} (E : Exa Z h a K0) (argsL rest : List Value) (hlen : argsL.length = ps.length) (has : (Value.ref a :: argsL).toArray = as') (hst : st = argsL.reverse ++ .ref a :: rest) (hW : (rest.map fun v => v.category).sum ≤ W) (hsz : L.size = ml) (hd : decode bytes pc = .ok (.invokevirtual index, 3)) (hn : pc + 3 = n)
    (k : ∀ T' L' v, Stand p l e R s m args below meth c T' (locs ++ L') (cells + rm.cells) (slots + rm.slots) → Q' v T'.heap L' → OEnds p e below s C S Q T' (mkF m n L (v.toList ++ rest))) : OEnds p e below s C S Q T (mkF m pc L st) := by
  subst hn has
  obtain ⟨cq, kq, qa, qb, qc⟩ := isOf hZ eT E
  obtain ⟨v, _, ⟨T', L', k', n'⟩, -, X', ⟨Lc, hQ, l', y', z'⟩, f'⟩ := X.virtualBack hx (y := y) (z := z) hown (mvT hZ w1) (mvT hZ w2) w5 (mvT hZ w6) (mvT hZ w7) hy (backOf (W := W) K hZ w4 w3 hf hl) qa qc (g := mkF m pc L st) rfl (by rw [hml]; exact hsz) (Steps.refl _) (argsL := argsL) (rest := rest) (lenOf pd hlen) hst (by show 2 * 0 + _ ≤ _; rw [Nat.mul_zero, Nat.zero_add]; exact hW) (hb hby hd) (fun _ _ => ⟨rfl, eT, hc, hs⟩)
  dsimp only [Pt.U, Pt.locs, Pt.cells, Pt.slots] at X' l' y' z' f' hQ
  subst l' y' z'
  exact (k T' Lc v X' hQ).pre fun t r => f'.trans r
/-- arrays -/
theorem s_newP (X : Stand p l e R s m args below meth c T locs cells slots) (hx : p.tables.exec = Jvm.exec) (hby : c.code = bytes) (hZ : Z.Warmed39 s.vm) {aty : ArrayType} (w : (Jvm.Cond.arrayClass (newarray.typeOf aty)).before a0 Z = true) {ty : FieldType} (hty : newarray.typeOf aty = ty) (eT : T.heap = h) {num : Int32} (hnn : ¬ num < 0) (cap : Nat) (hcap : num.toNatClampNeg ≤ cap) (hb8 : cap * 8 ≤ 536870912) (hc : cells + 1 ≤ R.cells) (hl : slots + cap ≤ R.slots) (hd : decode bytes pc = .ok (.newarray aty, 2)) (hn : pc + 2 = n)
    (k : ∀ T' h' cA a, a = h.size → Stand p l e R s m args below meth c T' locs (cells + 1) (slots + cap) → T'.heap = h' → Ext h h' → Arr Z h' a (newA cA ty num) ty → OEnds p e below s C S Q T' (mkF m n L (.ref a :: st))) : OEnds p e below s C S Q T (mkF m pc L (.int num :: st)) := by
  subst hn hty
  obtain ⟨T', h', cA, X', e', E', A', f'⟩ := newP X hx hZ w eT (g := mkF m pc L (.int num :: st)) rfl (hb hby hd) rfl hnn hcap hb8 hc hl
  exact (k T' h' cA _ rfl X' e' E' A').pre f'
theorem s_arraylength (X : Stand p l e R s m args below meth c T locs cells slots) (hx : p.tables.exec = Jvm.exec) (hby : c.code = bytes) (hZ : Z.Warmed39 s.vm) (eT : T.heap = h) {a : Addr} {cl : Cell} {ty : FieldType} (A : Arr Z h a cl ty) {z : Int32} (hsz : cl.slots.size = z.toNatClampNeg) (hz : ¬ z < 0) (hd : decode bytes pc = .ok (.arraylength, 1)) (hn : pc + 1 = n)
    (k : OEnds p e below s C S Q T (mkF m n L (.int z :: st))) : OEnds p e below s C S Q T (mkF m pc L (.ref a :: st)) := by
  subst hn
  rw [← len_of hsz hz] at k
  exact k.pre fun t r => X.arraylength hx (by rw [eT]; exact A.1) (State.isArrayOf_alike hZ.alike A.2.1) (g := mkF m pc L (.ref a :: st)) rfl rfl (hb hby hd) _ r
theorem s_iaload (X : Stand p l e R s m args below meth c T locs cells slots) (hx : p.tables.exec = Jvm.exec) (hby : c.code = bytes) (hZ : Z.Warmed39 s.vm) (eT : T.heap = h) {a : Addr} {cl : Cell} (A : Arr Z h a cl .int) {j : Int32} (hj : ¬ (j < 0 ∨ cl.slots.size ≤ j.toNatClampNeg)) {v : Value} (hv : cl.slots[j.toNatClampNeg]? = some v) (hd : decode bytes pc = .ok (.iaload, 1)) (hn : pc + 1 = n)
    (k : OEnds p e below s C S Q T (mkF m n L (v :: st))) : OEnds p e below s C S Q T (mkF m pc L (.int j :: .ref a :: st)) := by
  subst hn
  exact k.pre fun t r => X.iaload hx (by rw [eT]; exact A.1) (State.isArrayOf_alike hZ.alike A.2.1) A.2.2 hj hv (g := mkF m pc L (.int j :: .ref a :: st)) rfl rfl (hb hby hd) _ r
theorem s_baload (X : Stand p l e R s m args below meth c T locs cells slots) (hx : p.tables.exec = Jvm.exec) (hby : c.code = bytes) (hZ : Z.Warmed39 s.vm) (eT : T.heap = h) {a : Addr} {cl : Cell} (A : Arr Z h a cl .byte) {j : Int32} (hj : ¬ (j < 0 ∨ cl.slots.size ≤ j.toNatClampNeg)) {v : Value} (hv : cl.slots[j.toNatClampNeg]? = some v) (hd : decode bytes pc = .ok (.baload, 1)) (hn : pc + 1 = n)
    (k : OEnds p e below s C S Q T (mkF m n L (v :: st))) : OEnds p e below s C S Q T (mkF m pc L (.int j :: .ref a :: st)) := by
  subst hn
  exact k.pre fun t r => X.baloadBytes hx (by rw [eT]; exact A.1) (State.isArrayOf_alike hZ.alike A.2.1) A.2.2 hj hv (g := mkF m pc L (.int j :: .ref a :: st)) rfl rfl (hb hby hd) _ r
theorem s_caload (X : Stand p l e R s m args below meth c T locs cells slots) (hx : p.tables.exec = Jvm.exec) (hby : c.code = bytes) (hZ : Z.Warmed39 s.vm) (eT : T.heap = h) {a : Addr} {cl : Cell} (A : Arr Z h a cl .char) {j : Int32} (hj : ¬ (j < 0 ∨ cl.slots.size ≤ j.toNatClampNeg)) {v : Value} (hv : cl.slots[j.toNatClampNeg]? = some v) (hd : decode bytes pc = .ok (.caload, 1)) (hn : pc + 1 = n)
    (k : OEnds p e below s C S Q T (mkF m n L (v :: st))) : OEnds p e below s C S Q T (mkF m pc L (.int j :: .ref a :: st)) := by
  subst hn
  exact k.pre fun t r => X.caload hx (by rw [eT]; exact A.1) (State.isArrayOf_alike hZ.alike A.2.1) A.2.2 hj hv (g := mkF m pc L (.int j :: .ref a :: st)) rfl rfl (hb hby hd) _ r
theorem s_iastore (X : Stand p l e R s m args below meth c T locs cells slots) (hx : p.tables.exec = Jvm.exec) (hby : c.code = bytes) (hZ : Z.Warmed39 s.vm) (eT : T.heap = h) {a : Addr} {cl : Cell} (A : Arr Z h a cl .int) {j x : Int32} (hj : ¬ (j < 0 ∨ cl.slots.size ≤ j.toNatClampNeg)) (hd : decode bytes pc = .ok (.iastore, 1)) (hn : pc + 1 = n)
    (k : ∀ T' h', Stand p l e R s m args below meth c T' (locs ++ [⟨a, j.toNatClampNeg⟩]) cells slots → T'.heap = h' → Wr h h' a j.toNatClampNeg (.int x) → OEnds p e below s C S Q T' (mkF m n L st)) : OEnds p e below s C S Q T (mkF m pc L (.int x :: .int j :: .ref a :: st)) := by
  subst hn
  obtain ⟨T', h', X', e', W', f'⟩ := stI X hx hZ eT A hj (g := mkF m pc L (.int x :: .int j :: .ref a :: st)) rfl rfl (hb hby hd)
  exact (k T' h' X' e' W').pre f'
theorem s_bastore (X : Stand p l e R s m args below meth c T locs cells slots) (hx : p.tables.exec = Jvm.exec) (hby : c.code = bytes) (hZ : Z.Warmed39 s.vm) (eT : T.heap = h) {a : Addr} {cl : Cell} (A : Arr Z h a cl .byte) {j x : Int32} (hj : ¬ (j < 0 ∨ cl.slots.size ≤ j.toNatClampNeg)) (hd : decode bytes pc = .ok (.bastore, 1)) (hn : pc + 1 = n)
    (k : ∀ T' h', Stand p l e R s m args below meth c T' (locs ++ [⟨a, j.toNatClampNeg⟩]) cells slots → T'.heap = h' → Wr h h' a j.toNatClampNeg (.int (nar .byte x)) → OEnds p e below s C S Q T' (mkF m n L st)) : OEnds p e below s C S Q T (mkF m pc L (.int x :: .int j :: .ref a :: st)) := by
  subst hn
  obtain ⟨T', h', X', e', W', f'⟩ := stB X hx hZ eT A hj (g := mkF m pc L (.int x :: .int j :: .ref a :: st)) rfl rfl (hb hby hd)
  exact (k T' h' X' e' W').pre f'
theorem s_castore (X : Stand p l e R s m args below meth c T locs cells slots) (hx : p.tables.exec = Jvm.exec) (hby : c.code = bytes) (hZ : Z.Warmed39 s.vm) (eT : T.heap = h) {a : Addr} {cl : Cell} (A : Arr Z h a cl .char) {j x : Int32} (hj : ¬ (j < 0 ∨ cl.slots.size ≤ j.toNatClampNeg)) (hd : decode bytes pc = .ok (.castore, 1)) (hn : pc + 1 = n)
    (k : ∀ T' h', Stand p l e R s m args below meth c T' (locs ++ [⟨a, j.toNatClampNeg⟩]) cells slots → T'.heap = h' → Wr h h' a j.toNatClampNeg (.int (nar .char x)) → OEnds p e below s C S Q T' (mkF m n L st)) : OEnds p e below s C S Q T (mkF m pc L (.int x :: .int j :: .ref a :: st)) := by
  subst hn
  obtain ⟨T', h', X', e', W', f'⟩ := stC X hx hZ eT A hj (g := mkF m pc L (.int x :: .int j :: .ref a :: st)) rfl rfl (hb hby hd)
  exact (k T' h' X' e' W').pre f'
theorem s_bastoreC (X : Stand p l e R s m args below meth c T locs cells slots) (hx : p.tables.exec = Jvm.exec) (hby : c.code = bytes) (hZ : Z.Warmed39 s.vm) (eT : T.heap = h) {a : Addr} {cl : Cell} (A : Arr Z h a cl .byte) {j x : Int32} (i : Nat) (hj : ¬ j < 0) (hi : j.toNatClampNeg = i) (hs : i < cl.slots.size) (hd : decode bytes pc = .ok (.bastore, 1)) (hn : pc + 1 = n)
    (k : ∀ T' h', Stand p l e R s m args below meth c T' (locs ++ [⟨a, i⟩]) cells slots → T'.heap = h' → Wr h h' a i (.int (nar .byte x)) → OEnds p e below s C S Q T' (mkF m n L st)) : OEnds p e below s C S Q T (mkF m pc L (.int x :: .int j :: .ref a :: st)) := by
  subst hi
  exact s_bastore X hx hby hZ eT A (fun q => q.elim hj (Nat.not_le.mpr hs)) hd hn k
theorem s_iastoreC (X : Stand p l e R s m args below meth c T locs cells slots) (hx : p.tables.exec = Jvm.exec) (hby : c.code = bytes) (hZ : Z.Warmed39 s.vm) (eT : T.heap = h) {a : Addr} {cl : Cell} (A : Arr Z h a cl .int) {j x : Int32} (i : Nat) (hj : ¬ j < 0) (hi : j.toNatClampNeg = i) (hs : i < cl.slots.size) (hd : decode bytes pc = .ok (.iastore, 1)) (hn : pc + 1 = n)
    (k : ∀ T' h', Stand p l e R s m args below meth c T' (locs ++ [⟨a, i⟩]) cells slots → T'.heap = h' → Wr h h' a i (.int x) → OEnds p e below s C S Q T' (mkF m n L st)) : OEnds p e below s C S Q T (mkF m pc L (.int x :: .int j :: .ref a :: st)) := by
  subst hi
  exact s_iastore X hx hby hZ eT A (fun q => q.elim hj (Nat.not_le.mpr hs)) hd hn k
theorem s_castoreC (X : Stand p l e R s m args below meth c T locs cells slots) (hx : p.tables.exec = Jvm.exec) (hby : c.code = bytes) (hZ : Z.Warmed39 s.vm) (eT : T.heap = h) {a : Addr} {cl : Cell} (A : Arr Z h a cl .char) {j x : Int32} (i : Nat) (hj : ¬ j < 0) (hi : j.toNatClampNeg = i) (hs : i < cl.slots.size) (hd : decode bytes pc = .ok (.castore, 1)) (hn : pc + 1 = n)
    (k : ∀ T' h', Stand p l e R s m args below meth c T' (locs ++ [⟨a, i⟩]) cells slots → T'.heap = h' → Wr h h' a i (.int (nar .char x)) → OEnds p e below s C S Q T' (mkF m n L st)) : OEnds p e below s C S Q T (mkF m pc L (.int x :: .int j :: .ref a :: st)) := by
  subst hi
  exact s_castore X hx hby hZ eT A (fun q => q.elim hj (Nat.not_le.mpr hs)) hd hn k
theorem s_baloadC (X : Stand p l e R s m args below meth c T locs cells slots) (hx : p.tables.exec = Jvm.exec) (hby : c.code = bytes) (hZ : Z.Warmed39 s.vm) (eT : T.heap = h) {a : Addr} {cl : Cell} (A : Arr Z h a cl .byte) {j : Int32} (i : Nat) (hj : ¬ j < 0) (hi : j.toNatClampNeg = i) (hs : i < cl.slots.size) {v : Value} (hv : cl.slots[i]? = some v) (hd : decode bytes pc = .ok (.baload, 1)) (hn : pc + 1 = n)
    (k : OEnds p e below s C S Q T (mkF m n L (v :: st))) : OEnds p e below s C S Q T (mkF m pc L (.int j :: .ref a :: st)) := by
  subst hi
  exact s_baload X hx hby hZ eT A (fun q => q.elim hj (Nat.not_le.mpr hs)) hv hd hn k
theorem s_caloadC (X : Stand p l e R s m args below meth c T locs cells slots) (hx : p.tables.exec = Jvm.exec) (hby : c.code = bytes) (hZ : Z.Warmed39 s.vm) (eT : T.heap = h) {a : Addr} {cl : Cell} (A : Arr Z h a cl .char) {j : Int32} (i : Nat) (hj : ¬ j < 0) (hi : j.toNatClampNeg = i) (hs : i < cl.slots.size) {v : Value} (hv : cl.slots[i]? = some v) (hd : decode bytes pc = .ok (.caload, 1)) (hn : pc + 1 = n)
    (k : OEnds p e below s C S Q T (mkF m n L (v :: st))) : OEnds p e below s C S Q T (mkF m pc L (.int j :: .ref a :: st)) := by
  subst hi
  exact s_caload X hx hby hZ eT A (fun q => q.elim hj (Nat.not_le.mpr hs)) hv hd hn k
theorem s_ialoadC (X : Stand p l e R s m args below meth c T locs cells slots) (hx : p.tables.exec = Jvm.exec) (hby : c.code = bytes) (hZ : Z.Warmed39 s.vm) (eT : T.heap = h) {a : Addr} {cl : Cell} (A : Arr Z h a cl .int) {j : Int32} (i : Nat) (hj : ¬ j < 0) (hi : j.toNatClampNeg = i) (hs : i < cl.slots.size) {v : Value} (hv : cl.slots[i]? = some v) (hd : decode bytes pc = .ok (.iaload, 1)) (hn : pc + 1 = n)
    (k : OEnds p e below s C S Q T (mkF m n L (v :: st))) : OEnds p e below s C S Q T (mkF m pc L (.int j :: .ref a :: st)) := by
  subst hi
  exact s_iaload X hx hby hZ eT A (fun q => q.elim hj (Nat.not_le.mpr hs)) hv hd hn k
theorem set_hit {cl : Cell} {i : Nat} {v : Value} (hs : i < cl.slots.size) : (cl.setSlot i v).slots[i]? = some v := by simp [Cell.setSlot, hs]
theorem set_mis {cl : Cell} {i j : Nat} {v : Value} {w : Option Value} (hv : cl.slots[j]? = w) (q : i ≠ j) : (cl.setSlot i v).slots[j]? = w := by
  rw [← hv]; exact Array.getElem?_setIfInBounds_ne q
theorem new_at (cA : ClassId) (ty : FieldType) {z : Int32} {i : Nat} (q : i < z.toNatClampNeg) : (newA cA ty z).slots[i]? = some (defaultValue ty) := by simp [newA, q]
/-- instanceof, checkcast, aaload -/
theorem s_instY (X : Stand p l e R s m args below meth c T locs cells slots) (hx : p.tables.exec = Jvm.exec) (hby : c.code = bytes) (hZ : Z.Warmed39 s.vm) {own K : String} {index : Nat} (hown : s.vm.findClass own = some m.cls) (w : (Jvm.Cond.classLink own index K).before a0 Z = true) (eT : T.heap = h) {a : Addr} (F : Ins Z h a K true) (hd : decode bytes pc = .ok (.instanceof index, 3)) (hn : pc + 3 = n)
    (k : ∀ T', Stand p l e R s m args below meth c T' locs cells slots → T'.heap = h → OEnds p e below s C S Q T' (mkF m n L (.int 1 :: st))) : OEnds p e below s C S Q T (mkF m pc L (.ref a :: st)) := by
  subst hn
  obtain ⟨T', X', e', f'⟩ := instY X hx hZ hown w eT F (g := mkF m pc L (.ref a :: st)) rfl rfl (hb hby hd)
  exact (k T' X' e').pre f'
theorem s_instNo (X : Stand p l e R s m args below meth c T locs cells slots) (hx : p.tables.exec = Jvm.exec) (hby : c.code = bytes) (hZ : Z.Warmed39 s.vm) {own K C0 : String} {index : Nat} (hown : s.vm.findClass own = some m.cls) (w : (Jvm.Cond.classLink own index K).before a0 Z = true) (eT : T.heap = h) {a : Addr} (E : Exa Z h a C0) (F : ∃ c t, Z.vm.findClass C0 = some c ∧ Z.vm.findClass K = some t ∧ Z.vm.assignable c t = false) (hd : decode bytes pc = .ok (.instanceof index, 3)) (hn : pc + 3 = n)
    (k : ∀ T', Stand p l e R s m args below meth c T' locs cells slots → T'.heap = h → OEnds p e below s C S Q T' (mkF m n L (.int 0 :: st))) : OEnds p e below s C S Q T (mkF m pc L (.ref a :: st)) := by
  subst hn
  obtain ⟨T', X', e', f'⟩ := instNo X hx hZ hown w eT E F (g := mkF m pc L (.ref a :: st)) rfl rfl (hb hby hd)
  exact (k T' X' e').pre f'
theorem s_instNull (X : Stand p l e R s m args below meth c T locs cells slots) (hx : p.tables.exec = Jvm.exec) (hby : c.code = bytes) {index : Nat} (hd : decode bytes pc = .ok (.instanceof index, 3)) (hn : pc + 3 = n)
    (k : OEnds p e below s C S Q T (mkF m n L (.int 0 :: st))) : OEnds p e below s C S Q T (mkF m pc L (.null :: st)) := by
  subst hn
  exact k.pre fun t r => Stand.instanceofNull X hx (g := mkF m pc L (.null :: st)) rfl rfl (hb hby hd) t r
theorem s_castY (X : Stand p l e R s m args below meth c T locs cells slots) (hx : p.tables.exec = Jvm.exec) (hby : c.code = bytes) (hZ : Z.Warmed39 s.vm) {own K : String} {index : Nat} (hown : s.vm.findClass own = some m.cls) (w : (Jvm.Cond.classLink own index K).before a0 Z = true) (eT : T.heap = h) {a : Addr} (F : Ins Z h a K true) (hd : decode bytes pc = .ok (.checkcast index, 3)) (hn : pc + 3 = n)
    (k : ∀ T', Stand p l e R s m args below meth c T' locs cells slots → T'.heap = h → OEnds p e below s C S Q T' (mkF m n L (.ref a :: st))) : OEnds p e below s C S Q T (mkF m pc L (.ref a :: st)) := by
  subst hn
  obtain ⟨T', X', e', f'⟩ := castY X hx hZ hown w eT F (g := mkF m pc L (.ref a :: st)) rfl rfl (hb hby hd)
  exact (k T' X' e').pre f'
theorem s_aaload (X : Stand p l e R s m args below meth c T locs cells slots) (hx : p.tables.exec = Jvm.exec) (hby : c.code = bytes) (hZ : Z.Warmed39 s.vm) (eT : T.heap = h) {a : Addr} {cl : Cell} {ty : FieldType} (A : Arr Z h a cl ty) (hty : ty.isReference = true) {j : Int32} (hj : ¬ (j < 0 ∨ cl.slots.size ≤ j.toNatClampNeg)) {v : Value} (hv : cl.slots[j.toNatClampNeg]? = some v) (hd : decode bytes pc = .ok (.aaload, 1)) (hn : pc + 1 = n)
    (k : OEnds p e below s C S Q T (mkF m n L (v :: st))) : OEnds p e below s C S Q T (mkF m pc L (.int j :: .ref a :: st)) := by
  subst hn
  exact k.pre fun t r => X.aaload hx (by rw [eT]; exact A.1) (State.isArrayOf_alike hZ.alike A.2.1) hty A.2.2 hj hv (g := mkF m pc L (.int j :: .ref a :: st)) rfl rfl (hb hby hd) _ r
theorem ns_root {O K : String} {num : Nat} (w : (Jvm.Cond.noSuperclass O).before a0 Z = true) (wi : (Jvm.Cond.instantiable K num).before a0 Z = true) (hn : O ≠ K) : NS Z O K := by
  obtain ⟨c, k, h1, h2, h3, -, -⟩ := Cond.noSuperclass_spec w
  obtain ⟨t, kt, g1, -⟩ := Cond.instantiable_spec wi
  have ne := ids_ne h1 g1 hn
  refine ⟨c, t, h1, g1, fun fuel => ?_⟩
  match fuel with
  | 0 => rfl
  | f + 1 => simp [Vm.isSubclassAux, ne, h2, h3]
theorem ns_no {C0 S0 K : String} {num : Nat} (w : (Jvm.Cond.superclass C0 S0).before a0 Z = true) (wi : (Jvm.Cond.instantiable K num).before a0 Z = true) (nn : NS Z C0 K) (hn : C0 ≠ K) : ∃ c t, Z.vm.findClass C0 = some c ∧ Z.vm.findClass K = some t ∧ Z.vm.assignable c t = false := by
  obtain ⟨c, t, q0, g0, n3⟩ := nn
  obtain ⟨p, k, kp, h1, h2, h3, h4, h5, -, h7⟩ := Cond.superclass_spec q0 w
  obtain ⟨t', kt, g1, g2, g3, g4, -⟩ := Cond.instantiable_spec wi
  cases g0.symm.trans g1
  have ne := ids_ne q0 g0 hn
  have g7 : kt.isInterface = false := by simp only [Bool.or_eq_false_iff] at g4; exact g4.1
  refine ⟨c, t, q0, g0, ?_⟩
  show Z.vm.assignableAux (255 + 1) c t = false
  simp [Vm.assignableAux, ne, h2, g2, h5, g3, g7, Vm.isSubclass, n3]
/-- the wide frame: a walk that may have interned -/
def FrameEndW (s : State) (o : Outcome) (t : State) (L : List Loc) (k n : Nat) : Prop :=
  (∃ v : Option Value, o = Outcome.returned v) ∧ s.Warmed39 t.vm ∧ (∀ (j : Nat) (p : Array UInt16 × Addr), s.vm.interned.size ≤ j → t.vm.interned[j]? = some p → s.heap.size ≤ p.2 ∧ p.2 < t.heap.size) ∧ s.sameButNew { t with vm := s.vm } L k n
def OEndsW (p : Program) (e : Env) (below : List Frame) (s : State) (C S : Nat) (Q : Option Value → Heap → List Loc → Prop) (T : State) (g : JFrame) : Prop :=
  ∃ (t : State) (v : Option Value) (L : List Loc), Steps p.tables e below (T.setTop g) t ∧ t.status = .running ∧ Ended t below (.returned v) ∧ Q v t.heap L ∧ FrameEndW s (.returned v) t L C S
def OConW (l : Launch) (Z : State) (y : MethodName) (bytes : ByteArray) (maxL : Nat) (ret : Option FieldType) (ws : List Jvm.Cond) (rm : Room) (as' : Array Value) (s₀ : State) (Q : Option Value → Heap → List Loc → Prop) : Prop :=
  MetFree l y (head1 (Jvm.Cond.code y bytes maxL ret :: ws) rm) (fun a U => a = as' ∧ U = s₀) (fun _ _ _ _ _ => True) (fun _ U o U' => ∃ v L, o = .returned v ∧ Q v U'.heap L ∧ FrameEndW U o U' L rm.cells rm.slots)
theorem OEnds.wide {g : JFrame} (k : OEnds p e below s C S Q T g) : OEndsW p e below s C S Q T g := by
  obtain ⟨t, v, L, h1, h2, h3, h4, h5⟩ := k
  exact ⟨t, v, L, h1, h2, h3, h4, RoadKit.wide h5⟩
theorem OEndsW.pre {T' : State} {g g' : JFrame} (k : OEndsW p e below s C S Q T' g') (f : ∀ t, Steps p.tables e below (T'.setTop g') t → Steps p.tables e below (T.setTop g) t) : OEndsW p e below s C S Q T g := by
  obtain ⟨t, v, L, h1, h2⟩ := k
  exact ⟨t, v, L, f _ h1, h2⟩
theorem OEnds.reb {vm1 : Vm} {k1 : Nat} (hS : s.Since vm1 k1) {g : JFrame} (k : OEnds p e below (s.setVm vm1) C S (fun v h L => Q v h L ∧ k1 ≤ h.size) T g) : OEndsW p e below s C S Q T g := by
  obtain ⟨t, v, L, h1, h2, h3, ⟨h4, h4'⟩, h5, h6, h7⟩ := k
  obtain ⟨q1, q2, q3⟩ := hS.ended h6 h4' h7
  exact ⟨t, v, L, h1, h2, h3, h4, h5, q1, q2, q3⟩
theorem conW {y : MethodName} {maxL : Nat} {ret : Option FieldType} {ws : List Jvm.Cond} {rm : Room} {as' : Array Value} {s₀ : State} (hp : plainFor y = true)
    (body : ∀ (p : Program) (e : Env) (m : MethodId) (below : List Frame) (meth : Method) (c : Code) (s₁ : State), p.tables.exec = Jvm.exec → c.code = bytes → c.maxLocals = maxL → s₀.vm.findClass y.cls = some m.cls → meth.name = y.name → meth.sig.returnType = ret → meth.locks = false →
      Stand p l e rm s₀ m as' below meth c s₁ [] 0 0 → s₁.heap = s₀.heap → OEndsW p e below s₀ rm.cells rm.slots Q s₁ (entryFrame m as' maxL)) : OConW l Z y bytes maxL ret ws rm as' s₀ Q := by
  refine MetFree.of_bodySF hp hisR ?_
  intro p e s m args below meth c s₁ Bd hml hP hK
  obtain ⟨rfl, rfl⟩ := hP
  obtain ⟨t, v, L, h1, h2, h3, h4, h5⟩ := body p e m below meth c s₁ Bd.exec Bd.bytes hml (findClass_of_methodNamed Bd.named) (name_of_methodNamed Bd.named Bd.method).1 Bd.returns Bd.notSynchronized (Stand.of_body Bd) (by rw [Bd.state]; rfl)
  exact ⟨t, _, h1, h2, h3, v, L, rfl, h4, h5⟩
theorem entryW {mm : MethodId} {as' : Array Value} {maxL : Nat} {g : JFrame} (q : entryFrame mm as' maxL = g) (k : OEndsW p e below s C S Q T g) : OEndsW p e below s C S Q T (entryFrame mm as' maxL) := q ▸ k
end Walk
/-- a boolean as an int -/
def b2i (b : Bool) : Int32 := if b = true then 1 else 0
theorem b2i_t : b2i true = 1 := rfl
theorem b2i_f : b2i false = 0 := rfl
theorem nar_b2i (b : Bool) : nar .boolean (b2i b) = b2i b := by cases b <;> decide
theorem ifb_eq_t {b : Bool} (q : b = false) : ifCond.holds .eq (b2i b) = true := by subst q; decide
theorem ifb_eq_f {b : Bool} (q : b = true) : ifCond.holds .eq (b2i b) = false := by subst q; decide
theorem ifb_ne_t {b : Bool} (q : b = true) : ifCond.holds .ne (b2i b) = true := by subst q; decide
theorem ifb_ne_f {b : Bool} (q : b = false) : ifCond.holds .ne (b2i b) = false := by subst q; decide
theorem icb_eq_t {a b : Bool} (q : a = b) : if_icmp.holds .eq (b2i a) (b2i b) = true := by subst q; cases a <;> decide
theorem icb_eq_f {a b : Bool} (q : ¬ a = b) : if_icmp.holds .eq (b2i a) (b2i b) = false := by cases a <;> cases b <;> first | exact absurd rfl q | decide
theorem icb_ne_t {a b : Bool} (q : ¬ a = b) : if_icmp.holds .ne (b2i a) (b2i b) = true := by cases a <;> cases b <;> first | exact absurd rfl q | decide
theorem icb_ne_f {a b : Bool} (q : a = b) : if_icmp.holds .ne (b2i a) (b2i b) = false := by subst q; cases a <;> decide
end Jvm.Own
namespace Jvm.Pilot.@@N@@
open Jvm Jvm.ClassFile Sem Op Lib Jvm.Free Jvm.Stand Jvm.LawKit Jvm.RoadKit Bundle Jvm.Own Jvm.Pilot.@@N@@.Jvm.D
theorem d1_0 : decode method_3_code 0 = .ok (.iload_n 1, 1) := by decide +kernel
theorem d1_1 : decode method_3_code 1 = .ok (.aload_n 0, 1) := by decide +kernel
theorem d1_2 : decode method_3_code 2 = .ok (.arraylength, 1) := by decide +kernel
theorem d1_3 : decode method_3_code 3 = .ok (.if_icmp .ge 8, 3) := by decide +kernel
theorem d1_6 : decode method_3_code 6 = .ok (.aload_n 0, 1) := by decide +kernel
theorem d1_7 : decode method_3_code 7 = .ok (.iload_n 1, 1) := by decide +kernel
theorem d1_8 : decode method_3_code 8 = .ok (.iload_n 2, 1) := by decide +kernel
theorem d1_9 : decode method_3_code 9 = .ok (.i2b, 1) := by decide +kernel
theorem d1_10 : decode method_3_code 10 = .ok (.bastore, 1) := by decide +kernel
theorem d1_11 : decode method_3_code 11 = .ok (.return_, 1) := by decide +kernel
theorem d2_0 : decode method_5_code 0 = .ok (.iload_n 0, 1) := by decide +kernel
theorem d2_1 : decode method_5_code 1 = .ok (.ldc 31, 2) := by decide +kernel
theorem d2_3 : decode method_5_code 3 = .ok (.imul, 1) := by decide +kernel
theorem d2_4 : decode method_5_code 4 = .ok (.bipush 15, 2) := by decide +kernel
theorem d2_6 : decode method_5_code 6 = .ok (.invokestatic 32, 3) := by decide +kernel
theorem d2_9 : decode method_5_code 9 = .ok (.ldc 35, 2) := by decide +kernel
theorem d2_11 : decode method_5_code 11 = .ok (.imul, 1) := by decide +kernel
theorem d2_12 : decode method_5_code 12 = .ok (.ireturn, 1) := by decide +kernel
theorem d3_0 : decode method_4_code 0 = .ok (.iload_n 0, 1) := by decide +kernel
theorem d3_1 : decode method_4_code 1 = .ok (.iload_n 1, 1) := by decide +kernel
theorem d3_2 : decode method_4_code 2 = .ok (.ishl, 1) := by decide +kernel
theorem d3_3 : decode method_4_code 3 = .ok (.iload_n 0, 1) := by decide +kernel
theorem d3_4 : decode method_4_code 4 = .ok (.bipush 32, 2) := by decide +kernel
theorem d3_6 : decode method_4_code 6 = .ok (.iload_n 1, 1) := by decide +kernel
theorem d3_7 : decode method_4_code 7 = .ok (.isub, 1) := by decide +kernel
theorem d3_8 : decode method_4_code 8 = .ok (.iushr, 1) := by decide +kernel
theorem d3_9 : decode method_4_code 9 = .ok (.ior, 1) := by decide +kernel
theorem d3_10 : decode method_4_code 10 = .ok (.ireturn, 1) := by decide +kernel
theorem d4_0 : decode method_7_code 0 = .ok (.iload_n 0, 1) := by decide +kernel
theorem d4_1 : decode method_7_code 1 = .ok (.iload_n 1, 1) := by decide +kernel
theorem d4_2 : decode method_7_code 2 = .ok (.ixor, 1) := by decide +kernel
theorem d4_3 : decode method_7_code 3 = .ok (.istore_n 2, 1) := by decide +kernel
theorem d4_4 : decode method_7_code 4 = .ok (.iload_n 2, 1) := by decide +kernel
theorem d4_5 : decode method_7_code 5 = .ok (.iload_n 2, 1) := by decide +kernel
theorem d4_6 : decode method_7_code 6 = .ok (.bipush 16, 2) := by decide +kernel
theorem d4_8 : decode method_7_code 8 = .ok (.iushr, 1) := by decide +kernel
theorem d4_9 : decode method_7_code 9 = .ok (.ixor, 1) := by decide +kernel
theorem d4_10 : decode method_7_code 10 = .ok (.istore_n 2, 1) := by decide +kernel
theorem d4_11 : decode method_7_code 11 = .ok (.iload_n 2, 1) := by decide +kernel
theorem d4_12 : decode method_7_code 12 = .ok (.ldc 37, 2) := by decide +kernel
theorem d4_14 : decode method_7_code 14 = .ok (.imul, 1) := by decide +kernel
theorem d4_15 : decode method_7_code 15 = .ok (.istore_n 2, 1) := by decide +kernel
theorem d4_16 : decode method_7_code 16 = .ok (.iload_n 2, 1) := by decide +kernel
theorem d4_17 : decode method_7_code 17 = .ok (.iload_n 2, 1) := by decide +kernel
theorem d4_18 : decode method_7_code 18 = .ok (.bipush 13, 2) := by decide +kernel
theorem d4_20 : decode method_7_code 20 = .ok (.iushr, 1) := by decide +kernel
theorem d4_21 : decode method_7_code 21 = .ok (.ixor, 1) := by decide +kernel
theorem d4_22 : decode method_7_code 22 = .ok (.istore_n 2, 1) := by decide +kernel
theorem d4_23 : decode method_7_code 23 = .ok (.iload_n 2, 1) := by decide +kernel
theorem d4_24 : decode method_7_code 24 = .ok (.ldc 38, 2) := by decide +kernel
theorem d4_26 : decode method_7_code 26 = .ok (.imul, 1) := by decide +kernel
theorem d4_27 : decode method_7_code 27 = .ok (.istore_n 2, 1) := by decide +kernel
theorem d4_28 : decode method_7_code 28 = .ok (.iload_n 2, 1) := by decide +kernel
theorem d4_29 : decode method_7_code 29 = .ok (.iload_n 2, 1) := by decide +kernel
theorem d4_30 : decode method_7_code 30 = .ok (.bipush 16, 2) := by decide +kernel
theorem d4_32 : decode method_7_code 32 = .ok (.iushr, 1) := by decide +kernel
theorem d4_33 : decode method_7_code 33 = .ok (.ixor, 1) := by decide +kernel
theorem d4_34 : decode method_7_code 34 = .ok (.ireturn, 1) := by decide +kernel
theorem d5_0 : decode prog_8_method_2_code 0 = .ok (.iconst 0, 1) := by decide +kernel
theorem d5_1 : decode prog_8_method_2_code 1 = .ok (.istore_n 1, 1) := by decide +kernel
theorem d5_2 : decode prog_8_method_2_code 2 = .ok (.aload_n 0, 1) := by decide +kernel
theorem d5_3 : decode prog_8_method_2_code 3 = .ok (.arraylength, 1) := by decide +kernel
theorem d5_4 : decode prog_8_method_2_code 4 = .ok (.bipush (-4), 2) := by decide +kernel
theorem d5_6 : decode prog_8_method_2_code 6 = .ok (.iand, 1) := by decide +kernel
theorem d5_7 : decode prog_8_method_2_code 7 = .ok (.istore_n 2, 1) := by decide +kernel
theorem d5_8 : decode prog_8_method_2_code 8 = .ok (.iconst 0, 1) := by decide +kernel
theorem d5_9 : decode prog_8_method_2_code 9 = .ok (.istore_n 3, 1) := by decide +kernel
theorem d5_10 : decode prog_8_method_2_code 10 = .ok (.iload_n 3, 1) := by decide +kernel
theorem d5_11 : decode prog_8_method_2_code 11 = .ok (.iload_n 2, 1) := by decide +kernel
theorem d5_12 : decode prog_8_method_2_code 12 = .ok (.if_icmp .ge 60, 3) := by decide +kernel
theorem d5_15 : decode prog_8_method_2_code 15 = .ok (.iload_n 1, 1) := by decide +kernel
theorem d5_16 : decode prog_8_method_2_code 16 = .ok (.aload_n 0, 1) := by decide +kernel
theorem d5_17 : decode prog_8_method_2_code 17 = .ok (.iload_n 3, 1) := by decide +kernel
theorem d5_18 : decode prog_8_method_2_code 18 = .ok (.baload, 1) := by decide +kernel
theorem d5_19 : decode prog_8_method_2_code 19 = .ok (.sipush 255, 3) := by decide +kernel
theorem d5_22 : decode prog_8_method_2_code 22 = .ok (.iand, 1) := by decide +kernel
theorem d5_23 : decode prog_8_method_2_code 23 = .ok (.aload_n 0, 1) := by decide +kernel
theorem d5_24 : decode prog_8_method_2_code 24 = .ok (.iload_n 3, 1) := by decide +kernel
theorem d5_25 : decode prog_8_method_2_code 25 = .ok (.iconst 1, 1) := by decide +kernel
theorem d5_26 : decode prog_8_method_2_code 26 = .ok (.iadd, 1) := by decide +kernel
theorem d5_27 : decode prog_8_method_2_code 27 = .ok (.baload, 1) := by decide +kernel
theorem d5_28 : decode prog_8_method_2_code 28 = .ok (.sipush 255, 3) := by decide +kernel
theorem d5_31 : decode prog_8_method_2_code 31 = .ok (.iand, 1) := by decide +kernel
theorem d5_32 : decode prog_8_method_2_code 32 = .ok (.bipush 8, 2) := by decide +kernel
theorem d5_34 : decode prog_8_method_2_code 34 = .ok (.ishl, 1) := by decide +kernel
theorem d5_35 : decode prog_8_method_2_code 35 = .ok (.ior, 1) := by decide +kernel
theorem d5_36 : decode prog_8_method_2_code 36 = .ok (.aload_n 0, 1) := by decide +kernel
theorem d5_37 : decode prog_8_method_2_code 37 = .ok (.iload_n 3, 1) := by decide +kernel
theorem d5_38 : decode prog_8_method_2_code 38 = .ok (.iconst 2, 1) := by decide +kernel
theorem d5_39 : decode prog_8_method_2_code 39 = .ok (.iadd, 1) := by decide +kernel
theorem d5_40 : decode prog_8_method_2_code 40 = .ok (.baload, 1) := by decide +kernel
theorem d5_41 : decode prog_8_method_2_code 41 = .ok (.sipush 255, 3) := by decide +kernel
theorem d5_44 : decode prog_8_method_2_code 44 = .ok (.iand, 1) := by decide +kernel
theorem d5_45 : decode prog_8_method_2_code 45 = .ok (.bipush 16, 2) := by decide +kernel
theorem d5_47 : decode prog_8_method_2_code 47 = .ok (.ishl, 1) := by decide +kernel
theorem d5_48 : decode prog_8_method_2_code 48 = .ok (.ior, 1) := by decide +kernel
theorem d5_49 : decode prog_8_method_2_code 49 = .ok (.aload_n 0, 1) := by decide +kernel
theorem d5_50 : decode prog_8_method_2_code 50 = .ok (.iload_n 3, 1) := by decide +kernel
theorem d5_51 : decode prog_8_method_2_code 51 = .ok (.iconst 3, 1) := by decide +kernel
theorem d5_52 : decode prog_8_method_2_code 52 = .ok (.iadd, 1) := by decide +kernel
theorem d5_53 : decode prog_8_method_2_code 53 = .ok (.baload, 1) := by decide +kernel
theorem d5_54 : decode prog_8_method_2_code 54 = .ok (.sipush 255, 3) := by decide +kernel
theorem d5_57 : decode prog_8_method_2_code 57 = .ok (.iand, 1) := by decide +kernel
theorem d5_58 : decode prog_8_method_2_code 58 = .ok (.bipush 24, 2) := by decide +kernel
theorem d5_60 : decode prog_8_method_2_code 60 = .ok (.ishl, 1) := by decide +kernel
theorem d5_61 : decode prog_8_method_2_code 61 = .ok (.ior, 1) := by decide +kernel
theorem d5_62 : decode prog_8_method_2_code 62 = .ok (.invokestatic 7, 3) := by decide +kernel
theorem d5_65 : decode prog_8_method_2_code 65 = .ok (.istore_n 1, 1) := by decide +kernel
theorem d5_66 : decode prog_8_method_2_code 66 = .ok (.iinc 3 4, 3) := by decide +kernel
theorem d5_69 : decode prog_8_method_2_code 69 = .ok (.goto (-59), 3) := by decide +kernel
theorem d5_72 : decode prog_8_method_2_code 72 = .ok (.iload_n 2, 1) := by decide +kernel
theorem d5_73 : decode prog_8_method_2_code 73 = .ok (.aload_n 0, 1) := by decide +kernel
theorem d5_74 : decode prog_8_method_2_code 74 = .ok (.arraylength, 1) := by decide +kernel
theorem d5_75 : decode prog_8_method_2_code 75 = .ok (.if_icmp .ge 44, 3) := by decide +kernel
theorem d5_78 : decode prog_8_method_2_code 78 = .ok (.iconst 0, 1) := by decide +kernel
theorem d5_79 : decode prog_8_method_2_code 79 = .ok (.istore_n 3, 1) := by decide +kernel
theorem d5_80 : decode prog_8_method_2_code 80 = .ok (.aload_n 0, 1) := by decide +kernel
theorem d5_81 : decode prog_8_method_2_code 81 = .ok (.arraylength, 1) := by decide +kernel
theorem d5_82 : decode prog_8_method_2_code 82 = .ok (.iconst 1, 1) := by decide +kernel
theorem d5_83 : decode prog_8_method_2_code 83 = .ok (.isub, 1) := by decide +kernel
theorem d5_84 : decode prog_8_method_2_code 84 = .ok (.istore 4, 2) := by decide +kernel
theorem d5_86 : decode prog_8_method_2_code 86 = .ok (.iload 4, 2) := by decide +kernel
theorem d5_88 : decode prog_8_method_2_code 88 = .ok (.iload_n 2, 1) := by decide +kernel
theorem d5_89 : decode prog_8_method_2_code 89 = .ok (.if_icmp .lt 23, 3) := by decide +kernel
theorem d5_92 : decode prog_8_method_2_code 92 = .ok (.iload_n 3, 1) := by decide +kernel
theorem d5_93 : decode prog_8_method_2_code 93 = .ok (.bipush 8, 2) := by decide +kernel
theorem d5_95 : decode prog_8_method_2_code 95 = .ok (.ishl, 1) := by decide +kernel
theorem d5_96 : decode prog_8_method_2_code 96 = .ok (.aload_n 0, 1) := by decide +kernel
theorem d5_97 : decode prog_8_method_2_code 97 = .ok (.iload 4, 2) := by decide +kernel
theorem d5_99 : decode prog_8_method_2_code 99 = .ok (.baload, 1) := by decide +kernel
theorem d5_100 : decode prog_8_method_2_code 100 = .ok (.sipush 255, 3) := by decide +kernel
theorem d5_103 : decode prog_8_method_2_code 103 = .ok (.iand, 1) := by decide +kernel
theorem d5_104 : decode prog_8_method_2_code 104 = .ok (.ior, 1) := by decide +kernel
theorem d5_105 : decode prog_8_method_2_code 105 = .ok (.istore_n 3, 1) := by decide +kernel
theorem d5_106 : decode prog_8_method_2_code 106 = .ok (.iinc 4 (-1), 3) := by decide +kernel
theorem d5_109 : decode prog_8_method_2_code 109 = .ok (.goto (-23), 3) := by decide +kernel
theorem d5_112 : decode prog_8_method_2_code 112 = .ok (.iload_n 1, 1) := by decide +kernel
theorem d5_113 : decode prog_8_method_2_code 113 = .ok (.iload_n 3, 1) := by decide +kernel
theorem d5_114 : decode prog_8_method_2_code 114 = .ok (.invokestatic 13, 3) := by decide +kernel
theorem d5_117 : decode prog_8_method_2_code 117 = .ok (.ixor, 1) := by decide +kernel
theorem d5_118 : decode prog_8_method_2_code 118 = .ok (.istore_n 1, 1) := by decide +kernel
theorem d5_119 : decode prog_8_method_2_code 119 = .ok (.iload_n 1, 1) := by decide +kernel
theorem d5_120 : decode prog_8_method_2_code 120 = .ok (.aload_n 0, 1) := by decide +kernel
theorem d5_121 : decode prog_8_method_2_code 121 = .ok (.arraylength, 1) := by decide +kernel
theorem d5_122 : decode prog_8_method_2_code 122 = .ok (.invokestatic 17, 3) := by decide +kernel
theorem d5_125 : decode prog_8_method_2_code 125 = .ok (.ireturn, 1) := by decide +kernel
theorem d6_0 : decode prog_8_method_5_code 0 = .ok (.iload_n 0, 1) := by decide +kernel
theorem d6_1 : decode prog_8_method_5_code 1 = .ok (.ldc 26, 2) := by decide +kernel
theorem d6_3 : decode prog_8_method_5_code 3 = .ok (.imul, 1) := by decide +kernel
theorem d6_4 : decode prog_8_method_5_code 4 = .ok (.bipush 15, 2) := by decide +kernel
theorem d6_6 : decode prog_8_method_5_code 6 = .ok (.invokestatic 20, 3) := by decide +kernel
theorem d6_9 : decode prog_8_method_5_code 9 = .ok (.ldc 27, 2) := by decide +kernel
theorem d6_11 : decode prog_8_method_5_code 11 = .ok (.imul, 1) := by decide +kernel
theorem d6_12 : decode prog_8_method_5_code 12 = .ok (.ireturn, 1) := by decide +kernel
theorem d7_0 : decode jdk_33_method_50_code 0 = .ok (.iload_n 0, 1) := by decide +kernel
theorem d7_1 : decode jdk_33_method_50_code 1 = .ok (.iload_n 1, 1) := by decide +kernel
theorem d7_2 : decode jdk_33_method_50_code 2 = .ok (.ishl, 1) := by decide +kernel
theorem d7_3 : decode jdk_33_method_50_code 3 = .ok (.iload_n 0, 1) := by decide +kernel
theorem d7_4 : decode jdk_33_method_50_code 4 = .ok (.iload_n 1, 1) := by decide +kernel
theorem d7_5 : decode jdk_33_method_50_code 5 = .ok (.ineg, 1) := by decide +kernel
theorem d7_6 : decode jdk_33_method_50_code 6 = .ok (.iushr, 1) := by decide +kernel
theorem d7_7 : decode jdk_33_method_50_code 7 = .ok (.ior, 1) := by decide +kernel
theorem d7_8 : decode jdk_33_method_50_code 8 = .ok (.ireturn, 1) := by decide +kernel
theorem d8_0 : decode prog_8_method_6_code 0 = .ok (.iload_n 0, 1) := by decide +kernel
theorem d8_1 : decode prog_8_method_6_code 1 = .ok (.iload_n 1, 1) := by decide +kernel
theorem d8_2 : decode prog_8_method_6_code 2 = .ok (.ixor, 1) := by decide +kernel
theorem d8_3 : decode prog_8_method_6_code 3 = .ok (.istore_n 2, 1) := by decide +kernel
theorem d8_4 : decode prog_8_method_6_code 4 = .ok (.iload_n 2, 1) := by decide +kernel
theorem d8_5 : decode prog_8_method_6_code 5 = .ok (.iload_n 2, 1) := by decide +kernel
theorem d8_6 : decode prog_8_method_6_code 6 = .ok (.bipush 16, 2) := by decide +kernel
theorem d8_8 : decode prog_8_method_6_code 8 = .ok (.iushr, 1) := by decide +kernel
theorem d8_9 : decode prog_8_method_6_code 9 = .ok (.ixor, 1) := by decide +kernel
theorem d8_10 : decode prog_8_method_6_code 10 = .ok (.istore_n 2, 1) := by decide +kernel
theorem d8_11 : decode prog_8_method_6_code 11 = .ok (.iload_n 2, 1) := by decide +kernel
theorem d8_12 : decode prog_8_method_6_code 12 = .ok (.ldc 28, 2) := by decide +kernel
theorem d8_14 : decode prog_8_method_6_code 14 = .ok (.imul, 1) := by decide +kernel
theorem d8_15 : decode prog_8_method_6_code 15 = .ok (.istore_n 2, 1) := by decide +kernel
theorem d8_16 : decode prog_8_method_6_code 16 = .ok (.iload_n 2, 1) := by decide +kernel
theorem d8_17 : decode prog_8_method_6_code 17 = .ok (.iload_n 2, 1) := by decide +kernel
theorem d8_18 : decode prog_8_method_6_code 18 = .ok (.bipush 13, 2) := by decide +kernel
theorem d8_20 : decode prog_8_method_6_code 20 = .ok (.iushr, 1) := by decide +kernel
theorem d8_21 : decode prog_8_method_6_code 21 = .ok (.ixor, 1) := by decide +kernel
theorem d8_22 : decode prog_8_method_6_code 22 = .ok (.istore_n 2, 1) := by decide +kernel
theorem d8_23 : decode prog_8_method_6_code 23 = .ok (.iload_n 2, 1) := by decide +kernel
theorem d8_24 : decode prog_8_method_6_code 24 = .ok (.ldc 29, 2) := by decide +kernel
theorem d8_26 : decode prog_8_method_6_code 26 = .ok (.imul, 1) := by decide +kernel
theorem d8_27 : decode prog_8_method_6_code 27 = .ok (.istore_n 2, 1) := by decide +kernel
theorem d8_28 : decode prog_8_method_6_code 28 = .ok (.iload_n 2, 1) := by decide +kernel
theorem d8_29 : decode prog_8_method_6_code 29 = .ok (.iload_n 2, 1) := by decide +kernel
theorem d8_30 : decode prog_8_method_6_code 30 = .ok (.bipush 16, 2) := by decide +kernel
theorem d8_32 : decode prog_8_method_6_code 32 = .ok (.iushr, 1) := by decide +kernel
theorem d8_33 : decode prog_8_method_6_code 33 = .ok (.ixor, 1) := by decide +kernel
theorem d8_34 : decode prog_8_method_6_code 34 = .ok (.ireturn, 1) := by decide +kernel
theorem d9_0 : decode method_6_code 0 = .ok (.iload_n 0, 1) := by decide +kernel
theorem d9_1 : decode method_6_code 1 = .ok (.iload_n 1, 1) := by decide +kernel
theorem d9_2 : decode method_6_code 2 = .ok (.invokestatic 18, 3) := by decide +kernel
theorem d9_5 : decode method_6_code 5 = .ok (.ixor, 1) := by decide +kernel
theorem d9_6 : decode method_6_code 6 = .ok (.bipush 13, 2) := by decide +kernel
theorem d9_8 : decode method_6_code 8 = .ok (.invokestatic 32, 3) := by decide +kernel
theorem d9_11 : decode method_6_code 11 = .ok (.iconst 5, 1) := by decide +kernel
theorem d9_12 : decode method_6_code 12 = .ok (.imul, 1) := by decide +kernel
theorem d9_13 : decode method_6_code 13 = .ok (.ldc 36, 2) := by decide +kernel
theorem d9_15 : decode method_6_code 15 = .ok (.iadd, 1) := by decide +kernel
theorem d9_16 : decode method_6_code 16 = .ok (.ireturn, 1) := by decide +kernel
theorem d10_0 : decode prog_8_method_4_code 0 = .ok (.iload_n 0, 1) := by decide +kernel
theorem d10_1 : decode prog_8_method_4_code 1 = .ok (.iload_n 1, 1) := by decide +kernel
theorem d10_2 : decode prog_8_method_4_code 2 = .ok (.invokestatic 13, 3) := by decide +kernel
theorem d10_5 : decode prog_8_method_4_code 5 = .ok (.ixor, 1) := by decide +kernel
theorem d10_6 : decode prog_8_method_4_code 6 = .ok (.bipush 13, 2) := by decide +kernel
theorem d10_8 : decode prog_8_method_4_code 8 = .ok (.invokestatic 20, 3) := by decide +kernel
theorem d10_11 : decode prog_8_method_4_code 11 = .ok (.istore_n 2, 1) := by decide +kernel
theorem d10_12 : decode prog_8_method_4_code 12 = .ok (.iload_n 2, 1) := by decide +kernel
theorem d10_13 : decode prog_8_method_4_code 13 = .ok (.iconst 5, 1) := by decide +kernel
theorem d10_14 : decode prog_8_method_4_code 14 = .ok (.imul, 1) := by decide +kernel
theorem d10_15 : decode prog_8_method_4_code 15 = .ok (.ldc 25, 2) := by decide +kernel
theorem d10_17 : decode prog_8_method_4_code 17 = .ok (.iadd, 1) := by decide +kernel
theorem d10_18 : decode prog_8_method_4_code 18 = .ok (.ireturn, 1) := by decide +kernel
theorem pd_0 : parseMethodDescriptor "(II)I" = some ⟨[.int, .int], some (.int)⟩ := by decide +kernel
theorem pd_1 : parseMethodDescriptor "(I)I" = some ⟨[.int], some (.int)⟩ := by decide +kernel
theorem pd_2 : parseMethodDescriptor "([BII)V" = some ⟨[(.array (.byte)), .int, .int], none⟩ := by decide +kernel
theorem pd_3 : parseMethodDescriptor "([B)I" = some ⟨[(.array (.byte))], some (.int)⟩ := by decide +kernel
theorem pn0 : plainName "com/example/floe/floe/Murmur3HashPinLaw" = true := by first | (simp [plainName, overriddenIn]; done) | decide +kernel
theorem pnI : plainName "java/lang/Integer" = true := by first | (simp [plainName, overriddenIn]; done) | decide +kernel
theorem pnM : plainName "com/example/floe/floe/Murmur3" = true := by first | (simp [plainName, overriddenIn]; done) | decide +kernel
theorem efII2 (m : MethodId) (x0 : Int32) (x1 : Int32) : entryFrame m #[(.int x0), (.int x1)] 2 = mkF m 0 #[.val (.int x0), .val (.int x1)] [] := by first | (simp [entryFrame, mkF, argsToLocals, Value.category, maxLocals]; done) | rfl
theorem efI1 (m : MethodId) (x0 : Int32) : entryFrame m #[(.int x0)] 1 = mkF m 0 #[.val (.int x0)] [] := by first | (simp [entryFrame, mkF, argsToLocals, Value.category, maxLocals]; done) | rfl
theorem efII3 (m : MethodId) (x0 : Int32) (x1 : Int32) : entryFrame m #[(.int x0), (.int x1)] 3 = mkF m 0 #[.val (.int x0), .val (.int x1), .unset] [] := by first | (simp [entryFrame, mkF, argsToLocals, Value.category, maxLocals]; done) | rfl
def own_rotl (x k : Int32) : Int32 := (x <<< (k &&& 31)) ||| (XT.ushr x (-k))
def own_scr (k : Int32) : Int32 := (own_rotl (k * (-862048943 : Int32)) (15 : Int32)) * (461845907 : Int32)
def own_mix (h k : Int32) : Int32 := ((own_rotl (h ^^^ (own_scr k)) (13 : Int32)) * (5 : Int32)) + (-430675100 : Int32)
def own_x16 (h : Int32) : Int32 := h ^^^ (XT.ushr h (16 : Int32))
def own_x13 (h : Int32) : Int32 := h ^^^ (XT.ushr h (13 : Int32))
def own_fin (h n : Int32) : Int32 := own_x16 (own_x13 (own_x16 (h ^^^ n) * (-2048144789 : Int32)) * (-1028477387 : Int32))
set_option maxRecDepth 65536 in
set_option maxHeartbeats 40000000 in
theorem rmRot (l : Launch) (Z : State) (a0 : Array Value) (hw : ∀ d ∈ tables_1, d.before a0 Z = true) (p1 p2 : Int32) (h0 : Heap) (n0 : Nat)  :
    OCon l Z (⟨"java/lang/Integer", "rotateLeft", "(II)I"⟩ : MethodName) jdk_33_method_50_code 2 (some (.int)) [] ({ frames := 0, cells := 0, slots := 0, locals := 0 } : Room) #[(.int p1), (.int p2)] h0 (fun v h L => v = some (.int (own_rotl p1 p2)) ∧ h = h0 ∧ Fr n0 L) := by
  refine con (plainFor_of_name pnI) ?_
  intro p e s m below meth c s₁ hx hby hml hZ hown hnm hret hlk X0 e0
  refine entry (efII2 m p1 p2) ?_
  have M0 := Fr.nil n0
  refine s_iloadN X0 hx hby (n := 1) (x := p1) d7_0 rfl rfl ?_
  refine s_iloadN X0 hx hby (n := 2) (x := p2) d7_1 rfl rfl ?_
  refine s_ishl X0 hx hby (n := 3) d7_2 rfl ?_
  refine s_iloadN X0 hx hby (n := 4) (x := p1) d7_3 rfl rfl ?_
  refine s_iloadN X0 hx hby (n := 5) (x := p2) d7_4 rfl rfl ?_
  refine s_ineg X0 hx hby (n := 6) d7_5 rfl ?_
  refine s_iushr X0 hx hby (n := 7) d7_6 rfl ?_
  refine s_ior X0 hx hby (n := 8) d7_7 rfl ?_
  exact s_retI X0 hx hby hlk hret d7_8 (by decide) (by decide) ⟨rfl, e0, M0⟩
set_option maxRecDepth 65536 in
set_option maxHeartbeats 40000000 in
theorem rmScr (l : Launch) (Z : State) (a0 : Array Value) (hw : ∀ d ∈ tables_1, d.before a0 Z = true) (p1 : Int32) (h0 : Heap) (n0 : Nat)  :
    OCon l Z (⟨"com/example/floe/floe/Murmur3", "scramble", "(I)I"⟩ : MethodName) prog_8_method_5_code 1 (some (.int)) [] ({ frames := 1, cells := 0, slots := 0, locals := 13 } : Room) #[(.int p1)] h0 (fun v h L => v = some (.int (own_scr p1)) ∧ h = h0 ∧ Fr n0 L) := by
  refine con (plainFor_of_name pnM) ?_
  intro p e s m below meth c s₁ hx hby hml hZ hown hnm hret hlk X0 e0
  refine entry (efI1 m p1) ?_
  have M0 := Fr.nil n0
  refine s_iloadN X0 hx hby (n := 1) (x := p1) d6_0 rfl rfl ?_
  refine s_ldcI X0 hx hby hZ (n := 3) hown (hw _ (List.mem_of_getElem? (i := 26) rfl)) d6_1 rfl ?_
  refine s_imul X0 hx hby (n := 4) d6_3 rfl ?_
  refine s_bipush X0 hx hby (n := 6) (v := (15 : Int32)) d6_4 rfl rfl ?_
  refine s_callS X0 hx hby hml hZ (n := 9) hown (hw _ (List.mem_of_getElem? (i := 27) rfl)) (hw _ (List.mem_of_getElem? (i := 28) rfl)) (hw _ (List.mem_of_getElem? (i := 29) rfl)) (hw _ (List.mem_of_getElem? (i := 30) rfl)) (by decide) (rmRot l Z a0 hw (p1 * (-862048943 : Int32)) (15 : Int32) h0 n0) e0 (by decide) 0 (by decide) (by decide) (by decide) pd_0 [(.int (p1 * (-862048943 : Int32))), (.int (15 : Int32))] [] rfl rfl rfl (Nat.le_of_eq rfl) rfl d6_6 rfl ?_
  intro T1 L1 v1 X1 q1c
  obtain ⟨rfl, e1, N1⟩ := q1c
  show OEnds p e below s _ _ _ T1 (mkF m 9 #[.val (.int p1)] [(.int (own_rotl (p1 * (-862048943 : Int32)) (15 : Int32)))])
  have M1 := Fr.app M0 N1
  refine s_ldcI X1 hx hby hZ (n := 11) hown (hw _ (List.mem_of_getElem? (i := 31) rfl)) d6_9 rfl ?_
  refine s_imul X1 hx hby (n := 12) d6_11 rfl ?_
  exact s_retI X1 hx hby hlk hret d6_12 (by decide) (by decide) ⟨rfl, e1, M1⟩
set_option maxRecDepth 65536 in
set_option maxHeartbeats 40000000 in
theorem rmMix (l : Launch) (Z : State) (a0 : Array Value) (hw : ∀ d ∈ tables_1, d.before a0 Z = true) (p1 p2 : Int32) (h0 : Heap) (n0 : Nat)  :
    OCon l Z (⟨"com/example/floe/floe/Murmur3", "mix", "(II)I"⟩ : MethodName) prog_8_method_4_code 3 (some (.int)) [] ({ frames := 2, cells := 0, slots := 0, locals := 26 } : Room) #[(.int p1), (.int p2)] h0 (fun v h L => v = some (.int (own_mix p1 p2)) ∧ h = h0 ∧ Fr n0 L) := by
  refine con (plainFor_of_name pnM) ?_
  intro p e s m below meth c s₁ hx hby hml hZ hown hnm hret hlk X0 e0
  refine entry (efII3 m p1 p2) ?_
  have M0 := Fr.nil n0
  refine s_iloadN X0 hx hby (n := 1) (x := p1) d10_0 rfl rfl ?_
  refine s_iloadN X0 hx hby (n := 2) (x := p2) d10_1 rfl rfl ?_
  refine s_callS X0 hx hby hml hZ (n := 5) hown (hw _ (List.mem_of_getElem? (i := 23) rfl)) (hw _ (List.mem_of_getElem? (i := 24) rfl)) (hw _ (List.mem_of_getElem? (i := 21) rfl)) (hw _ (List.mem_of_getElem? (i := 25) rfl)) (by decide) (rmScr l Z a0 hw p2 h0 n0) e0 (by decide) 1 (by decide) (by decide) (by decide) pd_1 [(.int p2)] [(.int p1)] rfl rfl rfl (Nat.le_of_eq rfl) rfl d10_2 rfl ?_
  intro T1 L1 v1 X1 q1c
  obtain ⟨rfl, e1, N1⟩ := q1c
  show OEnds p e below s _ _ _ T1 (mkF m 5 #[.val (.int p1), .val (.int p2), .unset] [(.int (own_scr p2)), (.int p1)])
  have M1 := Fr.app M0 N1
  refine s_ixor X1 hx hby (n := 6) d10_5 rfl ?_
  refine s_bipush X1 hx hby (n := 8) (v := (13 : Int32)) d10_6 rfl rfl ?_
  refine s_callS X1 hx hby hml hZ (n := 11) hown (hw _ (List.mem_of_getElem? (i := 27) rfl)) (hw _ (List.mem_of_getElem? (i := 28) rfl)) (hw _ (List.mem_of_getElem? (i := 29) rfl)) (hw _ (List.mem_of_getElem? (i := 30) rfl)) (by decide) (rmRot l Z a0 hw (p1 ^^^ (own_scr p2)) (13 : Int32) h0 n0) e1 (by decide) 0 (by decide) (by decide) (by decide) pd_0 [(.int (p1 ^^^ (own_scr p2))), (.int (13 : Int32))] [] rfl rfl rfl (Nat.le_of_eq rfl) rfl d10_8 rfl ?_
  intro T2 L2 v2 X2 q2c
  obtain ⟨rfl, e2, N2⟩ := q2c
  show OEnds p e below s _ _ _ T2 (mkF m 11 #[.val (.int p1), .val (.int p2), .unset] [(.int (own_rotl (p1 ^^^ (own_scr p2)) (13 : Int32)))])
  have M2 := Fr.app M1 N2
  refine s_istoreN X2 hx hby (n := 12) (L' := #[.val (.int p1), .val (.int p2), .val (.int (own_rotl (p1 ^^^ (own_scr p2)) (13 : Int32)))]) d10_11 rfl rfl ?_
  refine s_iloadN X2 hx hby (n := 13) (x := (own_rotl (p1 ^^^ (own_scr p2)) (13 : Int32))) d10_12 rfl rfl ?_
  refine s_iconst X2 hx hby (n := 14) (v := (5 : Int32)) d10_13 rfl rfl ?_
  refine s_imul X2 hx hby (n := 15) d10_14 rfl ?_
  refine s_ldcI X2 hx hby hZ (n := 17) hown (hw _ (List.mem_of_getElem? (i := 44) rfl)) d10_15 rfl ?_
  refine s_iadd X2 hx hby (n := 18) d10_17 rfl ?_
  exact s_retI X2 hx hby hlk hret d10_18 (by decide) (by decide) ⟨rfl, e2, M2⟩
set_option maxRecDepth 65536 in
set_option maxHeartbeats 40000000 in
theorem rmFin (l : Launch) (Z : State) (a0 : Array Value) (hw : ∀ d ∈ tables_1, d.before a0 Z = true) (p1 p2 : Int32) (h0 : Heap) (n0 : Nat)  :
    OCon l Z (⟨"com/example/floe/floe/Murmur3", "finish", "(II)I"⟩ : MethodName) prog_8_method_6_code 3 (some (.int)) [] ({ frames := 0, cells := 0, slots := 0, locals := 0 } : Room) #[(.int p1), (.int p2)] h0 (fun v h L => v = some (.int (own_fin p1 p2)) ∧ h = h0 ∧ Fr n0 L) := by
  refine con (plainFor_of_name pnM) ?_
  intro p e s m below meth c s₁ hx hby hml hZ hown hnm hret hlk X0 e0
  refine entry (efII3 m p1 p2) ?_
  have M0 := Fr.nil n0
  refine s_iloadN X0 hx hby (n := 1) (x := p1) d8_0 rfl rfl ?_
  refine s_iloadN X0 hx hby (n := 2) (x := p2) d8_1 rfl rfl ?_
  refine s_ixor X0 hx hby (n := 3) d8_2 rfl ?_
  refine s_istoreN X0 hx hby (n := 4) (L' := #[.val (.int p1), .val (.int p2), .val (.int (p1 ^^^ p2))]) d8_3 rfl rfl ?_
  refine s_iloadN X0 hx hby (n := 5) (x := (p1 ^^^ p2)) d8_4 rfl rfl ?_
  refine s_iloadN X0 hx hby (n := 6) (x := (p1 ^^^ p2)) d8_5 rfl rfl ?_
  refine s_bipush X0 hx hby (n := 8) (v := (16 : Int32)) d8_6 rfl rfl ?_
  refine s_iushr X0 hx hby (n := 9) d8_8 rfl ?_
  refine s_ixor X0 hx hby (n := 10) d8_9 rfl ?_
  refine s_istoreN X0 hx hby (n := 11) (L' := #[.val (.int p1), .val (.int p2), .val (.int ((p1 ^^^ p2) ^^^ (XT.ushr (p1 ^^^ p2) (16 : Int32))))]) d8_10 rfl rfl ?_
  refine s_iloadN X0 hx hby (n := 12) (x := ((p1 ^^^ p2) ^^^ (XT.ushr (p1 ^^^ p2) (16 : Int32)))) d8_11 rfl rfl ?_
  refine s_ldcI X0 hx hby hZ (n := 14) hown (hw _ (List.mem_of_getElem? (i := 35) rfl)) d8_12 rfl ?_
  refine s_imul X0 hx hby (n := 15) d8_14 rfl ?_
  refine s_istoreN X0 hx hby (n := 16) (L' := #[.val (.int p1), .val (.int p2), .val (.int (((p1 ^^^ p2) ^^^ (XT.ushr (p1 ^^^ p2) (16 : Int32))) * (-2048144789 : Int32)))]) d8_15 rfl rfl ?_
  refine s_iloadN X0 hx hby (n := 17) (x := (((p1 ^^^ p2) ^^^ (XT.ushr (p1 ^^^ p2) (16 : Int32))) * (-2048144789 : Int32))) d8_16 rfl rfl ?_
  refine s_iloadN X0 hx hby (n := 18) (x := (((p1 ^^^ p2) ^^^ (XT.ushr (p1 ^^^ p2) (16 : Int32))) * (-2048144789 : Int32))) d8_17 rfl rfl ?_
  refine s_bipush X0 hx hby (n := 20) (v := (13 : Int32)) d8_18 rfl rfl ?_
  refine s_iushr X0 hx hby (n := 21) d8_20 rfl ?_
  refine s_ixor X0 hx hby (n := 22) d8_21 rfl ?_
  refine s_istoreN X0 hx hby (n := 23) (L' := #[.val (.int p1), .val (.int p2), .val (.int ((((p1 ^^^ p2) ^^^ (XT.ushr (p1 ^^^ p2) (16 : Int32))) * (-2048144789 : Int32)) ^^^ (XT.ushr (((p1 ^^^ p2) ^^^ (XT.ushr (p1 ^^^ p2) (16 : Int32))) * (-2048144789 : Int32)) (13 : Int32))))]) d8_22 rfl rfl ?_
  refine s_iloadN X0 hx hby (n := 24) (x := ((((p1 ^^^ p2) ^^^ (XT.ushr (p1 ^^^ p2) (16 : Int32))) * (-2048144789 : Int32)) ^^^ (XT.ushr (((p1 ^^^ p2) ^^^ (XT.ushr (p1 ^^^ p2) (16 : Int32))) * (-2048144789 : Int32)) (13 : Int32)))) d8_23 rfl rfl ?_
  refine s_ldcI X0 hx hby hZ (n := 26) hown (hw _ (List.mem_of_getElem? (i := 36) rfl)) d8_24 rfl ?_
  refine s_imul X0 hx hby (n := 27) d8_26 rfl ?_
  refine s_istoreN X0 hx hby (n := 28) (L' := #[.val (.int p1), .val (.int p2), .val (.int (((((p1 ^^^ p2) ^^^ (XT.ushr (p1 ^^^ p2) (16 : Int32))) * (-2048144789 : Int32)) ^^^ (XT.ushr (((p1 ^^^ p2) ^^^ (XT.ushr (p1 ^^^ p2) (16 : Int32))) * (-2048144789 : Int32)) (13 : Int32))) * (-1028477387 : Int32)))]) d8_27 rfl rfl ?_
  refine s_iloadN X0 hx hby (n := 29) (x := (((((p1 ^^^ p2) ^^^ (XT.ushr (p1 ^^^ p2) (16 : Int32))) * (-2048144789 : Int32)) ^^^ (XT.ushr (((p1 ^^^ p2) ^^^ (XT.ushr (p1 ^^^ p2) (16 : Int32))) * (-2048144789 : Int32)) (13 : Int32))) * (-1028477387 : Int32))) d8_28 rfl rfl ?_
  refine s_iloadN X0 hx hby (n := 30) (x := (((((p1 ^^^ p2) ^^^ (XT.ushr (p1 ^^^ p2) (16 : Int32))) * (-2048144789 : Int32)) ^^^ (XT.ushr (((p1 ^^^ p2) ^^^ (XT.ushr (p1 ^^^ p2) (16 : Int32))) * (-2048144789 : Int32)) (13 : Int32))) * (-1028477387 : Int32))) d8_29 rfl rfl ?_
  refine s_bipush X0 hx hby (n := 32) (v := (16 : Int32)) d8_30 rfl rfl ?_
  refine s_iushr X0 hx hby (n := 33) d8_32 rfl ?_
  refine s_ixor X0 hx hby (n := 34) d8_33 rfl ?_
  exact s_retI X0 hx hby hlk hret d8_34 (by decide) (by decide) ⟨rfl, e0, M0⟩
theorem efH (m : MethodId) (x0 : Addr) : entryFrame m #[(.ref x0)] 5 = mkF m 0 #[.val (.ref x0), .unset, .unset, .unset, .unset] [] := by first | (simp [entryFrame, mkF, argsToLocals, Value.category, maxLocals]; done) | rfl
theorem efP (m : MethodId) (x0 : Addr) (x1 : Int32) (x2 : Int32) : entryFrame m #[(.ref x0), (.int x1), (.int x2)] 3 = mkF m 0 #[.val (.ref x0), .val (.int x1), .val (.int x2)] [] := by first | (simp [entryFrame, mkF, argsToLocals, Value.category, maxLocals]; done) | rfl
theorem ef0 (m : MethodId) (x0 : Int32) (x1 : Int32) (x2 : Int32) (x3 : Int32) : entryFrame m #[(.int x0), (.int x1), (.int x2), (.int x3)] maxLocals = mkF m 0 #[.val (.int x0), .val (.int x1), .val (.int x2), .val (.int x3), .unset, .unset, .unset, .unset, .unset, .unset, .unset] [] := by first | (simp [entryFrame, mkF, argsToLocals, Value.category, maxLocals]; done) | rfl
def own_rot' (x k : Int32) : Int32 := (x <<< (k &&& 31)) ||| (XT.ushr x ((32 : Int32) - k))
theorem own_r15 (x : Int32) : own_rot' x (15 : Int32) = own_rotl x (15 : Int32) := by
  unfold own_rot' own_rotl XT.ushr
  rw [show (((32 : Int32) - (15 : Int32)) &&& 31) = ((-(15 : Int32)) &&& 31) from by decide]
theorem own_r13 (x : Int32) : own_rot' x (13 : Int32) = own_rotl x (13 : Int32) := by
  unfold own_rot' own_rotl XT.ushr
  rw [show (((32 : Int32) - (13 : Int32)) &&& 31) = ((-(13 : Int32)) &&& 31) from by decide]
set_option maxRecDepth 65536 in
set_option maxHeartbeats 40000000 in
theorem rmRot' (l : Launch) (Z : State) (a0 : Array Value) (hw : ∀ d ∈ tables_1, d.before a0 Z = true) (p1 p2 : Int32) (h0 : Heap) (n0 : Nat)  :
    OCon l Z (⟨"com/example/floe/floe/Murmur3HashPinLaw", "rotl", "(II)I"⟩ : MethodName) method_4_code 2 (some (.int)) [] ({ frames := 0, cells := 0, slots := 0, locals := 0 } : Room) #[(.int p1), (.int p2)] h0 (fun v h L => v = some (.int (own_rot' p1 p2)) ∧ h = h0 ∧ Fr n0 L) := by
  refine con (plainFor_of_name pn0) ?_
  intro p e s m below meth c s₁ hx hby hml hZ hown hnm hret hlk X0 e0
  refine entry (efII2 m p1 p2) ?_
  have M0 := Fr.nil n0
  refine s_iloadN X0 hx hby (n := 1) (x := p1) d3_0 rfl rfl ?_
  refine s_iloadN X0 hx hby (n := 2) (x := p2) d3_1 rfl rfl ?_
  refine s_ishl X0 hx hby (n := 3) d3_2 rfl ?_
  refine s_iloadN X0 hx hby (n := 4) (x := p1) d3_3 rfl rfl ?_
  refine s_bipush X0 hx hby (n := 6) (v := (32 : Int32)) d3_4 rfl rfl ?_
  refine s_iloadN X0 hx hby (n := 7) (x := p2) d3_6 rfl rfl ?_
  refine s_isub X0 hx hby (n := 8) d3_7 rfl ?_
  refine s_iushr X0 hx hby (n := 9) d3_8 rfl ?_
  refine s_ior X0 hx hby (n := 10) d3_9 rfl ?_
  exact s_retI X0 hx hby hlk hret d3_10 (by decide) (by decide) ⟨rfl, e0, M0⟩
set_option maxRecDepth 65536 in
set_option maxHeartbeats 40000000 in
theorem rmScr' (l : Launch) (Z : State) (a0 : Array Value) (hw : ∀ d ∈ tables_1, d.before a0 Z = true) (p1 : Int32) (h0 : Heap) (n0 : Nat)  :
    OCon l Z (⟨"com/example/floe/floe/Murmur3HashPinLaw", "scramble", "(I)I"⟩ : MethodName) method_5_code 1 (some (.int)) [] ({ frames := 1, cells := 0, slots := 0, locals := 13 } : Room) #[(.int p1)] h0 (fun v h L => v = some (.int (own_scr p1)) ∧ h = h0 ∧ Fr n0 L) := by
  refine con (plainFor_of_name pn0) ?_
  intro p e s m below meth c s₁ hx hby hml hZ hown hnm hret hlk X0 e0
  refine entry (efI1 m p1) ?_
  have M0 := Fr.nil n0
  refine s_iloadN X0 hx hby (n := 1) (x := p1) d2_0 rfl rfl ?_
  refine s_ldcI X0 hx hby hZ (n := 3) hown (hw _ (List.mem_of_getElem? (i := 9) rfl)) d2_1 rfl ?_
  refine s_imul X0 hx hby (n := 4) d2_3 rfl ?_
  refine s_bipush X0 hx hby (n := 6) (v := (15 : Int32)) d2_4 rfl rfl ?_
  refine s_callS X0 hx hby hml hZ (n := 9) hown (hw _ (List.mem_of_getElem? (i := 10) rfl)) (hw _ (List.mem_of_getElem? (i := 11) rfl)) (hw _ (List.mem_of_getElem? (i := 4) rfl)) (hw _ (List.mem_of_getElem? (i := 12) rfl)) (by decide) (rmRot' l Z a0 hw (p1 * (-862048943 : Int32)) (15 : Int32) h0 n0) e0 (by decide) 0 (by decide) (by decide) (by decide) pd_0 [(.int (p1 * (-862048943 : Int32))), (.int (15 : Int32))] [] rfl rfl rfl (Nat.le_of_eq rfl) rfl d2_6 rfl ?_
  intro T1 L1 v1 X1 q1c
  obtain ⟨rfl, e1, N1⟩ := q1c
  show OEnds p e below s _ _ _ T1 (mkF m 9 #[.val (.int p1)] [(.int (own_rot' (p1 * (-862048943 : Int32)) (15 : Int32)))])
  have M1 := Fr.app M0 N1
  refine s_ldcI X1 hx hby hZ (n := 11) hown (hw _ (List.mem_of_getElem? (i := 13) rfl)) d2_9 rfl ?_
  refine s_imul X1 hx hby (n := 12) d2_11 rfl ?_
  exact s_retI X1 hx hby hlk hret d2_12 (by decide) (by decide) ⟨(by rw [own_r15]; rfl), e1, M1⟩
set_option maxRecDepth 65536 in
set_option maxHeartbeats 40000000 in
theorem rmMix' (l : Launch) (Z : State) (a0 : Array Value) (hw : ∀ d ∈ tables_1, d.before a0 Z = true) (p1 p2 : Int32) (h0 : Heap) (n0 : Nat)  :
    OCon l Z (⟨"com/example/floe/floe/Murmur3HashPinLaw", "mix", "(II)I"⟩ : MethodName) method_6_code 2 (some (.int)) [] ({ frames := 2, cells := 0, slots := 0, locals := 26 } : Room) #[(.int p1), (.int p2)] h0 (fun v h L => v = some (.int (own_mix p1 p2)) ∧ h = h0 ∧ Fr n0 L) := by
  refine con (plainFor_of_name pn0) ?_
  intro p e s m below meth c s₁ hx hby hml hZ hown hnm hret hlk X0 e0
  refine entry (efII2 m p1 p2) ?_
  have M0 := Fr.nil n0
  refine s_iloadN X0 hx hby (n := 1) (x := p1) d9_0 rfl rfl ?_
  refine s_iloadN X0 hx hby (n := 2) (x := p2) d9_1 rfl rfl ?_
  refine s_callS X0 hx hby hml hZ (n := 5) hown (hw _ (List.mem_of_getElem? (i := 6) rfl)) (hw _ (List.mem_of_getElem? (i := 7) rfl)) (hw _ (List.mem_of_getElem? (i := 4) rfl)) (hw _ (List.mem_of_getElem? (i := 8) rfl)) (by decide) (rmScr' l Z a0 hw p2 h0 n0) e0 (by decide) 1 (by decide) (by decide) (by decide) pd_1 [(.int p2)] [(.int p1)] rfl rfl rfl (Nat.le_of_eq rfl) rfl d9_2 rfl ?_
  intro T1 L1 v1 X1 q1c
  obtain ⟨rfl, e1, N1⟩ := q1c
  show OEnds p e below s _ _ _ T1 (mkF m 5 #[.val (.int p1), .val (.int p2)] [(.int (own_scr p2)), (.int p1)])
  have M1 := Fr.app M0 N1
  refine s_ixor X1 hx hby (n := 6) d9_5 rfl ?_
  refine s_bipush X1 hx hby (n := 8) (v := (13 : Int32)) d9_6 rfl rfl ?_
  refine s_callS X1 hx hby hml hZ (n := 11) hown (hw _ (List.mem_of_getElem? (i := 10) rfl)) (hw _ (List.mem_of_getElem? (i := 11) rfl)) (hw _ (List.mem_of_getElem? (i := 4) rfl)) (hw _ (List.mem_of_getElem? (i := 12) rfl)) (by decide) (rmRot' l Z a0 hw (p1 ^^^ (own_scr p2)) (13 : Int32) h0 n0) e1 (by decide) 0 (by decide) (by decide) (by decide) pd_0 [(.int (p1 ^^^ (own_scr p2))), (.int (13 : Int32))] [] rfl rfl rfl (Nat.le_of_eq rfl) rfl d9_8 rfl ?_
  intro T2 L2 v2 X2 q2c
  obtain ⟨rfl, e2, N2⟩ := q2c
  show OEnds p e below s _ _ _ T2 (mkF m 11 #[.val (.int p1), .val (.int p2)] [(.int (own_rot' (p1 ^^^ (own_scr p2)) (13 : Int32)))])
  have M2 := Fr.app M1 N2
  refine s_iconst X2 hx hby (n := 12) (v := (5 : Int32)) d9_11 rfl rfl ?_
  refine s_imul X2 hx hby (n := 13) d9_12 rfl ?_
  refine s_ldcI X2 hx hby hZ (n := 15) hown (hw _ (List.mem_of_getElem? (i := 40) rfl)) d9_13 rfl ?_
  refine s_iadd X2 hx hby (n := 16) d9_15 rfl ?_
  exact s_retI X2 hx hby hlk hret d9_16 (by decide) (by decide) ⟨(by rw [own_r13]; rfl), e2, M2⟩
set_option maxRecDepth 65536 in
set_option maxHeartbeats 40000000 in
theorem rmFin' (l : Launch) (Z : State) (a0 : Array Value) (hw : ∀ d ∈ tables_1, d.before a0 Z = true) (p1 p2 : Int32) (h0 : Heap) (n0 : Nat)  :
    OCon l Z (⟨"com/example/floe/floe/Murmur3HashPinLaw", "finish", "(II)I"⟩ : MethodName) method_7_code 3 (some (.int)) [] ({ frames := 0, cells := 0, slots := 0, locals := 0 } : Room) #[(.int p1), (.int p2)] h0 (fun v h L => v = some (.int (own_fin p1 p2)) ∧ h = h0 ∧ Fr n0 L) := by
  refine con (plainFor_of_name pn0) ?_
  intro p e s m below meth c s₁ hx hby hml hZ hown hnm hret hlk X0 e0
  refine entry (efII3 m p1 p2) ?_
  have M0 := Fr.nil n0
  refine s_iloadN X0 hx hby (n := 1) (x := p1) d4_0 rfl rfl ?_
  refine s_iloadN X0 hx hby (n := 2) (x := p2) d4_1 rfl rfl ?_
  refine s_ixor X0 hx hby (n := 3) d4_2 rfl ?_
  refine s_istoreN X0 hx hby (n := 4) (L' := #[.val (.int p1), .val (.int p2), .val (.int (p1 ^^^ p2))]) d4_3 rfl rfl ?_
  refine s_iloadN X0 hx hby (n := 5) (x := (p1 ^^^ p2)) d4_4 rfl rfl ?_
  refine s_iloadN X0 hx hby (n := 6) (x := (p1 ^^^ p2)) d4_5 rfl rfl ?_
  refine s_bipush X0 hx hby (n := 8) (v := (16 : Int32)) d4_6 rfl rfl ?_
  refine s_iushr X0 hx hby (n := 9) d4_8 rfl ?_
  refine s_ixor X0 hx hby (n := 10) d4_9 rfl ?_
  refine s_istoreN X0 hx hby (n := 11) (L' := #[.val (.int p1), .val (.int p2), .val (.int ((p1 ^^^ p2) ^^^ (XT.ushr (p1 ^^^ p2) (16 : Int32))))]) d4_10 rfl rfl ?_
  refine s_iloadN X0 hx hby (n := 12) (x := ((p1 ^^^ p2) ^^^ (XT.ushr (p1 ^^^ p2) (16 : Int32)))) d4_11 rfl rfl ?_
  refine s_ldcI X0 hx hby hZ (n := 14) hown (hw _ (List.mem_of_getElem? (i := 17) rfl)) d4_12 rfl ?_
  refine s_imul X0 hx hby (n := 15) d4_14 rfl ?_
  refine s_istoreN X0 hx hby (n := 16) (L' := #[.val (.int p1), .val (.int p2), .val (.int (((p1 ^^^ p2) ^^^ (XT.ushr (p1 ^^^ p2) (16 : Int32))) * (-2048144789 : Int32)))]) d4_15 rfl rfl ?_
  refine s_iloadN X0 hx hby (n := 17) (x := (((p1 ^^^ p2) ^^^ (XT.ushr (p1 ^^^ p2) (16 : Int32))) * (-2048144789 : Int32))) d4_16 rfl rfl ?_
  refine s_iloadN X0 hx hby (n := 18) (x := (((p1 ^^^ p2) ^^^ (XT.ushr (p1 ^^^ p2) (16 : Int32))) * (-2048144789 : Int32))) d4_17 rfl rfl ?_
  refine s_bipush X0 hx hby (n := 20) (v := (13 : Int32)) d4_18 rfl rfl ?_
  refine s_iushr X0 hx hby (n := 21) d4_20 rfl ?_
  refine s_ixor X0 hx hby (n := 22) d4_21 rfl ?_
  refine s_istoreN X0 hx hby (n := 23) (L' := #[.val (.int p1), .val (.int p2), .val (.int ((((p1 ^^^ p2) ^^^ (XT.ushr (p1 ^^^ p2) (16 : Int32))) * (-2048144789 : Int32)) ^^^ (XT.ushr (((p1 ^^^ p2) ^^^ (XT.ushr (p1 ^^^ p2) (16 : Int32))) * (-2048144789 : Int32)) (13 : Int32))))]) d4_22 rfl rfl ?_
  refine s_iloadN X0 hx hby (n := 24) (x := ((((p1 ^^^ p2) ^^^ (XT.ushr (p1 ^^^ p2) (16 : Int32))) * (-2048144789 : Int32)) ^^^ (XT.ushr (((p1 ^^^ p2) ^^^ (XT.ushr (p1 ^^^ p2) (16 : Int32))) * (-2048144789 : Int32)) (13 : Int32)))) d4_23 rfl rfl ?_
  refine s_ldcI X0 hx hby hZ (n := 26) hown (hw _ (List.mem_of_getElem? (i := 18) rfl)) d4_24 rfl ?_
  refine s_imul X0 hx hby (n := 27) d4_26 rfl ?_
  refine s_istoreN X0 hx hby (n := 28) (L' := #[.val (.int p1), .val (.int p2), .val (.int (((((p1 ^^^ p2) ^^^ (XT.ushr (p1 ^^^ p2) (16 : Int32))) * (-2048144789 : Int32)) ^^^ (XT.ushr (((p1 ^^^ p2) ^^^ (XT.ushr (p1 ^^^ p2) (16 : Int32))) * (-2048144789 : Int32)) (13 : Int32))) * (-1028477387 : Int32)))]) d4_27 rfl rfl ?_
  refine s_iloadN X0 hx hby (n := 29) (x := (((((p1 ^^^ p2) ^^^ (XT.ushr (p1 ^^^ p2) (16 : Int32))) * (-2048144789 : Int32)) ^^^ (XT.ushr (((p1 ^^^ p2) ^^^ (XT.ushr (p1 ^^^ p2) (16 : Int32))) * (-2048144789 : Int32)) (13 : Int32))) * (-1028477387 : Int32))) d4_28 rfl rfl ?_
  refine s_iloadN X0 hx hby (n := 30) (x := (((((p1 ^^^ p2) ^^^ (XT.ushr (p1 ^^^ p2) (16 : Int32))) * (-2048144789 : Int32)) ^^^ (XT.ushr (((p1 ^^^ p2) ^^^ (XT.ushr (p1 ^^^ p2) (16 : Int32))) * (-2048144789 : Int32)) (13 : Int32))) * (-1028477387 : Int32))) d4_29 rfl rfl ?_
  refine s_bipush X0 hx hby (n := 32) (v := (16 : Int32)) d4_30 rfl rfl ?_
  refine s_iushr X0 hx hby (n := 33) d4_32 rfl ?_
  refine s_ixor X0 hx hby (n := 34) d4_33 rfl ?_
  exact s_retI X0 hx hby hlk hret d4_34 (by decide) (by decide) ⟨rfl, e0, M0⟩
set_option maxRecDepth 65536 in
set_option maxHeartbeats 40000000 in
theorem rmIn (l : Launch) (Z : State) (a0 : Array Value) (hw : ∀ d ∈ tables_1, d.before a0 Z = true) (a : Addr) (cl : Cell) (z p1 p2 : Int32) (i : Nat) (h0 : Heap) (n0 : Nat) (Ar : Arr Z h0 a cl .byte) (Sz : cl.slots.size = z.toNatClampNeg) (hz : ¬ z < 0) (hlt : p1 < z) (hj : ¬ p1 < 0) (hi : p1.toNatClampNeg = i) (hs : i < cl.slots.size) (no : n0 ≤ a) :
    OCon l Z (⟨"com/example/floe/floe/Murmur3HashPinLaw", "put", "([BII)V"⟩ : MethodName) method_3_code 3 (none) [] ({ frames := 0, cells := 0, slots := 0, locals := 0 } : Room) #[(.ref a), (.int p1), (.int p2)] h0 (fun v h L => v = none ∧ Fr n0 L ∧ Wr h0 h a i (.int (nar .byte p2.toInt8.toInt32))) := by
  refine con (plainFor_of_name pn0) ?_
  intro p e s m below meth c s₁ hx hby hml hZ hown hnm hret hlk X0 e0
  refine entry (efP m a p1 p2) ?_
  have M0 := Fr.nil n0
  refine s_iloadN X0 hx hby (n := 1) (x := p1) d1_0 rfl rfl ?_
  refine s_aloadN X0 hx hby (n := 2) (x := (.ref a)) d1_1 rfl rfl rfl ?_
  refine s_arraylength X0 hx hby hZ (n := 3) e0 Ar (z := z) Sz hz d1_2 rfl ?_
  refine s_icmpN X0 hx hby (n := 6) d1_3 (XT.ii_ge_f hlt) rfl ?_
  refine s_aloadN X0 hx hby (n := 7) (x := (.ref a)) d1_6 rfl rfl rfl ?_
  refine s_iloadN X0 hx hby (n := 8) (x := p1) d1_7 rfl rfl ?_
  refine s_iloadN X0 hx hby (n := 9) (x := p2) d1_8 rfl rfl ?_
  refine s_i2b X0 hx hby (n := 10) d1_9 rfl ?_
  refine s_bastoreC X0 hx hby hZ (n := 11) e0 Ar i hj hi hs d1_10 rfl ?_
  intro T1 h1 X1 e1 W1
  have M1 := Fr.snoc X1 M0 no
  exact s_ret X1 hx hby hlk hret d1_11 (by decide) (by decide) ⟨rfl, M1, by rw [e1]; exact W1⟩
set_option maxRecDepth 65536 in
set_option maxHeartbeats 40000000 in
theorem rmOut (l : Launch) (Z : State) (a0 : Array Value) (hw : ∀ d ∈ tables_1, d.before a0 Z = true) (a : Addr) (cl : Cell) (z p1 p2 : Int32) (h0 : Heap) (n0 : Nat) (Ar : Arr Z h0 a cl .byte) (Sz : cl.slots.size = z.toNatClampNeg) (hz : ¬ z < 0) (hlt : ¬ p1 < z) :
    OCon l Z (⟨"com/example/floe/floe/Murmur3HashPinLaw", "put", "([BII)V"⟩ : MethodName) method_3_code 3 (none) [] ({ frames := 0, cells := 0, slots := 0, locals := 0 } : Room) #[(.ref a), (.int p1), (.int p2)] h0 (fun v h L => v = none ∧ h = h0 ∧ Fr n0 L) := by
  refine con (plainFor_of_name pn0) ?_
  intro p e s m below meth c s₁ hx hby hml hZ hown hnm hret hlk X0 e0
  refine entry (efP m a p1 p2) ?_
  have M0 := Fr.nil n0
  refine s_iloadN X0 hx hby (n := 1) (x := p1) d1_0 rfl rfl ?_
  refine s_aloadN X0 hx hby (n := 2) (x := (.ref a)) d1_1 rfl rfl rfl ?_
  refine s_arraylength X0 hx hby hZ (n := 3) e0 Ar (z := z) Sz hz d1_2 rfl ?_
  refine s_icmpY X0 hx hby (n := 11) d1_3 (XT.ii_ge_t hlt) (by decide) (by decide) ?_
  exact s_ret X0 hx hby hlk hret d1_11 (by decide) (by decide) ⟨rfl, e0, M0⟩
set_option maxRecDepth 65536 in
set_option maxHeartbeats 40000000 in
theorem rmH0 (l : Launch) (Z : State) (a0 : Array Value) (hw : ∀ d ∈ tables_1, d.before a0 Z = true) (a : Addr) (cl : Cell) (h0 : Heap) (n0 : Nat) (Ar : Arr Z h0 a cl .byte) (Sz : cl.slots.size = (0 : Int32).toNatClampNeg) :
    OCon l Z (⟨"com/example/floe/floe/Murmur3", "hash", "([B)I"⟩ : MethodName) prog_8_method_2_code 5 (some (.int)) [] ({ frames := 3, cells := 0, slots := 0, locals := 43 } : Room) #[(.ref a)] h0 (fun v h L => v = some (.int (own_fin (0 : Int32) (0 : Int32))) ∧ h = h0 ∧ Fr n0 L) := by
  refine con (plainFor_of_name pnM) ?_
  intro p e s m below meth c s₁ hx hby hml hZ hown hnm hret hlk X0 e0
  refine entry (efH m a) ?_
  have M0 := Fr.nil n0
  refine s_iconst X0 hx hby (n := 1) (v := (0 : Int32)) d5_0 rfl rfl ?_
  refine s_istoreN X0 hx hby (n := 2) (L' := #[.val (.ref a), .val (.int (0 : Int32)), .unset, .unset, .unset]) d5_1 rfl rfl ?_
  refine s_aloadN X0 hx hby (n := 3) (x := (.ref a)) d5_2 rfl rfl rfl ?_
  refine s_arraylength X0 hx hby hZ (n := 4) e0 Ar (z := (0 : Int32)) Sz (by decide) d5_3 rfl ?_
  refine s_bipush X0 hx hby (n := 6) (v := (-4 : Int32)) d5_4 rfl rfl ?_
  refine s_iand X0 hx hby (n := 7) d5_6 rfl ?_
  refine s_fold (z := (0 : Int32)) (by decide) ?_
  refine s_istoreN X0 hx hby (n := 8) (L' := #[.val (.ref a), .val (.int (0 : Int32)), .val (.int (0 : Int32)), .unset, .unset]) d5_7 rfl rfl ?_
  refine s_iconst X0 hx hby (n := 9) (v := (0 : Int32)) d5_8 rfl rfl ?_
  refine s_istoreN X0 hx hby (n := 10) (L' := #[.val (.ref a), .val (.int (0 : Int32)), .val (.int (0 : Int32)), .val (.int (0 : Int32)), .unset]) d5_9 rfl rfl ?_
  refine s_iloadN X0 hx hby (n := 11) (x := (0 : Int32)) d5_10 rfl rfl ?_
  refine s_iloadN X0 hx hby (n := 12) (x := (0 : Int32)) d5_11 rfl rfl ?_
  refine s_icmpY X0 hx hby (n := 72) d5_12 (by decide) (by decide) (by decide) ?_
  refine s_iloadN X0 hx hby (n := 73) (x := (0 : Int32)) d5_72 rfl rfl ?_
  refine s_aloadN X0 hx hby (n := 74) (x := (.ref a)) d5_73 rfl rfl rfl ?_
  refine s_arraylength X0 hx hby hZ (n := 75) e0 Ar (z := (0 : Int32)) Sz (by decide) d5_74 rfl ?_
  refine s_icmpY X0 hx hby (n := 119) d5_75 (by decide) (by decide) (by decide) ?_
  refine s_iloadN X0 hx hby (n := 120) (x := (0 : Int32)) d5_119 rfl rfl ?_
  refine s_aloadN X0 hx hby (n := 121) (x := (.ref a)) d5_120 rfl rfl rfl ?_
  refine s_arraylength X0 hx hby hZ (n := 122) e0 Ar (z := (0 : Int32)) Sz (by decide) d5_121 rfl ?_
  refine s_callS X0 hx hby hml hZ (n := 125) hown (hw _ (List.mem_of_getElem? (i := 32) rfl)) (hw _ (List.mem_of_getElem? (i := 33) rfl)) (hw _ (List.mem_of_getElem? (i := 21) rfl)) (hw _ (List.mem_of_getElem? (i := 34) rfl)) (by decide) (rmFin l Z a0 hw (0 : Int32) (0 : Int32) h0 n0) e0 (by decide) 0 (by decide) (by decide) (by decide) pd_0 [(.int (0 : Int32)), (.int (0 : Int32))] [] rfl rfl rfl (Nat.le_of_eq rfl) rfl d5_122 rfl ?_
  intro T1 L1 v1 X1 q1c
  obtain ⟨rfl, e1, N1⟩ := q1c
  show OEnds p e below s _ _ _ T1 (mkF m 125 #[.val (.ref a), .val (.int (0 : Int32)), .val (.int (0 : Int32)), .val (.int (0 : Int32)), .unset] [(.int (own_fin (0 : Int32) (0 : Int32)))])
  have M1 := Fr.app M0 N1
  exact s_retI X1 hx hby hlk hret d5_125 (by decide) (by decide) ⟨rfl, e1, M1⟩
set_option maxRecDepth 65536 in
set_option maxHeartbeats 40000000 in
theorem rmH1 (l : Launch) (Z : State) (a0 : Array Value) (hw : ∀ d ∈ tables_1, d.before a0 Z = true) (a : Addr) (cl : Cell) (b0 : Int32) (h0 : Heap) (n0 : Nat) (Ar : Arr Z h0 a cl .byte) (Sz : cl.slots.size = (1 : Int32).toNatClampNeg) (B0 : cl.slots[0]? = some (.int b0)) :
    OCon l Z (⟨"com/example/floe/floe/Murmur3", "hash", "([B)I"⟩ : MethodName) prog_8_method_2_code 5 (some (.int)) [] ({ frames := 3, cells := 0, slots := 0, locals := 43 } : Room) #[(.ref a)] h0 (fun v h L => v = some (.int (own_fin ((0 : Int32) ^^^ (own_scr ((0 : Int32) ||| (b0 &&& (255 : Int32))))) (1 : Int32))) ∧ h = h0 ∧ Fr n0 L) := by
  refine con (plainFor_of_name pnM) ?_
  intro p e s m below meth c s₁ hx hby hml hZ hown hnm hret hlk X0 e0
  refine entry (efH m a) ?_
  have M0 := Fr.nil n0
  refine s_iconst X0 hx hby (n := 1) (v := (0 : Int32)) d5_0 rfl rfl ?_
  refine s_istoreN X0 hx hby (n := 2) (L' := #[.val (.ref a), .val (.int (0 : Int32)), .unset, .unset, .unset]) d5_1 rfl rfl ?_
  refine s_aloadN X0 hx hby (n := 3) (x := (.ref a)) d5_2 rfl rfl rfl ?_
  refine s_arraylength X0 hx hby hZ (n := 4) e0 Ar (z := (1 : Int32)) Sz (by decide) d5_3 rfl ?_
  refine s_bipush X0 hx hby (n := 6) (v := (-4 : Int32)) d5_4 rfl rfl ?_
  refine s_iand X0 hx hby (n := 7) d5_6 rfl ?_
  refine s_fold (z := (0 : Int32)) (by decide) ?_
  refine s_istoreN X0 hx hby (n := 8) (L' := #[.val (.ref a), .val (.int (0 : Int32)), .val (.int (0 : Int32)), .unset, .unset]) d5_7 rfl rfl ?_
  refine s_iconst X0 hx hby (n := 9) (v := (0 : Int32)) d5_8 rfl rfl ?_
  refine s_istoreN X0 hx hby (n := 10) (L' := #[.val (.ref a), .val (.int (0 : Int32)), .val (.int (0 : Int32)), .val (.int (0 : Int32)), .unset]) d5_9 rfl rfl ?_
  refine s_iloadN X0 hx hby (n := 11) (x := (0 : Int32)) d5_10 rfl rfl ?_
  refine s_iloadN X0 hx hby (n := 12) (x := (0 : Int32)) d5_11 rfl rfl ?_
  refine s_icmpY X0 hx hby (n := 72) d5_12 (by decide) (by decide) (by decide) ?_
  refine s_iloadN X0 hx hby (n := 73) (x := (0 : Int32)) d5_72 rfl rfl ?_
  refine s_aloadN X0 hx hby (n := 74) (x := (.ref a)) d5_73 rfl rfl rfl ?_
  refine s_arraylength X0 hx hby hZ (n := 75) e0 Ar (z := (1 : Int32)) Sz (by decide) d5_74 rfl ?_
  refine s_icmpN X0 hx hby (n := 78) d5_75 (by decide) rfl ?_
  refine s_iconst X0 hx hby (n := 79) (v := (0 : Int32)) d5_78 rfl rfl ?_
  refine s_istoreN X0 hx hby (n := 80) (L' := #[.val (.ref a), .val (.int (0 : Int32)), .val (.int (0 : Int32)), .val (.int (0 : Int32)), .unset]) d5_79 rfl rfl ?_
  refine s_aloadN X0 hx hby (n := 81) (x := (.ref a)) d5_80 rfl rfl rfl ?_
  refine s_arraylength X0 hx hby hZ (n := 82) e0 Ar (z := (1 : Int32)) Sz (by decide) d5_81 rfl ?_
  refine s_iconst X0 hx hby (n := 83) (v := (1 : Int32)) d5_82 rfl rfl ?_
  refine s_isub X0 hx hby (n := 84) d5_83 rfl ?_
  refine s_fold (z := (0 : Int32)) (by decide) ?_
  refine s_istore X0 hx hby (n := 86) (L' := #[.val (.ref a), .val (.int (0 : Int32)), .val (.int (0 : Int32)), .val (.int (0 : Int32)), .val (.int (0 : Int32))]) d5_84 rfl rfl ?_
  refine s_iload X0 hx hby (n := 88) (x := (0 : Int32)) d5_86 rfl rfl ?_
  refine s_iloadN X0 hx hby (n := 89) (x := (0 : Int32)) d5_88 rfl rfl ?_
  refine s_icmpN X0 hx hby (n := 92) d5_89 (by decide) rfl ?_
  refine s_iloadN X0 hx hby (n := 93) (x := (0 : Int32)) d5_92 rfl rfl ?_
  refine s_bipush X0 hx hby (n := 95) (v := (8 : Int32)) d5_93 rfl rfl ?_
  refine s_ishl X0 hx hby (n := 96) d5_95 rfl ?_
  refine s_fold (z := (0 : Int32)) (by decide) ?_
  refine s_aloadN X0 hx hby (n := 97) (x := (.ref a)) d5_96 rfl rfl rfl ?_
  refine s_iload X0 hx hby (n := 99) (x := (0 : Int32)) d5_97 rfl rfl ?_
  refine s_baloadC X0 hx hby hZ (n := 100) e0 Ar 0 (by decide) (by decide) (by rw [Sz]; decide) B0 d5_99 rfl ?_
  refine s_sipush X0 hx hby (n := 103) (v := (255 : Int32)) d5_100 rfl rfl ?_
  refine s_iand X0 hx hby (n := 104) d5_103 rfl ?_
  refine s_ior X0 hx hby (n := 105) d5_104 rfl ?_
  refine s_istoreN X0 hx hby (n := 106) (L' := #[.val (.ref a), .val (.int (0 : Int32)), .val (.int (0 : Int32)), .val (.int ((0 : Int32) ||| (b0 &&& (255 : Int32)))), .val (.int (0 : Int32))]) d5_105 rfl rfl ?_
  refine s_iincC X0 hx hby (n := 109) (v := (-1 : Int32)) (x := (0 : Int32)) (z := (-1 : Int32)) (L' := #[.val (.ref a), .val (.int (0 : Int32)), .val (.int (0 : Int32)), .val (.int ((0 : Int32) ||| (b0 &&& (255 : Int32)))), .val (.int (-1 : Int32))]) d5_106 rfl rfl (by decide) rfl rfl ?_
  refine s_goto X0 hx hby (n := 86) d5_109 (by decide) (by decide) ?_
  refine s_iload X0 hx hby (n := 88) (x := (-1 : Int32)) d5_86 rfl rfl ?_
  refine s_iloadN X0 hx hby (n := 89) (x := (0 : Int32)) d5_88 rfl rfl ?_
  refine s_icmpY X0 hx hby (n := 112) d5_89 (by decide) (by decide) (by decide) ?_
  refine s_iloadN X0 hx hby (n := 113) (x := (0 : Int32)) d5_112 rfl rfl ?_
  refine s_iloadN X0 hx hby (n := 114) (x := ((0 : Int32) ||| (b0 &&& (255 : Int32)))) d5_113 rfl rfl ?_
  refine s_callS X0 hx hby hml hZ (n := 117) hown (hw _ (List.mem_of_getElem? (i := 23) rfl)) (hw _ (List.mem_of_getElem? (i := 24) rfl)) (hw _ (List.mem_of_getElem? (i := 21) rfl)) (hw _ (List.mem_of_getElem? (i := 25) rfl)) (by decide) (rmScr l Z a0 hw ((0 : Int32) ||| (b0 &&& (255 : Int32))) h0 n0) e0 (by decide) 1 (by decide) (by decide) (by decide) pd_1 [(.int ((0 : Int32) ||| (b0 &&& (255 : Int32))))] [(.int (0 : Int32))] rfl rfl rfl (Nat.le_of_eq rfl) rfl d5_114 rfl ?_
  intro T1 L1 v1 X1 q1c
  obtain ⟨rfl, e1, N1⟩ := q1c
  show OEnds p e below s _ _ _ T1 (mkF m 117 #[.val (.ref a), .val (.int (0 : Int32)), .val (.int (0 : Int32)), .val (.int ((0 : Int32) ||| (b0 &&& (255 : Int32)))), .val (.int (-1 : Int32))] [(.int (own_scr ((0 : Int32) ||| (b0 &&& (255 : Int32))))), (.int (0 : Int32))])
  have M1 := Fr.app M0 N1
  refine s_ixor X1 hx hby (n := 118) d5_117 rfl ?_
  refine s_istoreN X1 hx hby (n := 119) (L' := #[.val (.ref a), .val (.int ((0 : Int32) ^^^ (own_scr ((0 : Int32) ||| (b0 &&& (255 : Int32)))))), .val (.int (0 : Int32)), .val (.int ((0 : Int32) ||| (b0 &&& (255 : Int32)))), .val (.int (-1 : Int32))]) d5_118 rfl rfl ?_
  refine s_iloadN X1 hx hby (n := 120) (x := ((0 : Int32) ^^^ (own_scr ((0 : Int32) ||| (b0 &&& (255 : Int32)))))) d5_119 rfl rfl ?_
  refine s_aloadN X1 hx hby (n := 121) (x := (.ref a)) d5_120 rfl rfl rfl ?_
  refine s_arraylength X1 hx hby hZ (n := 122) e1 Ar (z := (1 : Int32)) Sz (by decide) d5_121 rfl ?_
  refine s_callS X1 hx hby hml hZ (n := 125) hown (hw _ (List.mem_of_getElem? (i := 32) rfl)) (hw _ (List.mem_of_getElem? (i := 33) rfl)) (hw _ (List.mem_of_getElem? (i := 21) rfl)) (hw _ (List.mem_of_getElem? (i := 34) rfl)) (by decide) (rmFin l Z a0 hw ((0 : Int32) ^^^ (own_scr ((0 : Int32) ||| (b0 &&& (255 : Int32))))) (1 : Int32) h0 n0) e1 (by decide) 0 (by decide) (by decide) (by decide) pd_0 [(.int ((0 : Int32) ^^^ (own_scr ((0 : Int32) ||| (b0 &&& (255 : Int32)))))), (.int (1 : Int32))] [] rfl rfl rfl (Nat.le_of_eq rfl) rfl d5_122 rfl ?_
  intro T2 L2 v2 X2 q2c
  obtain ⟨rfl, e2, N2⟩ := q2c
  show OEnds p e below s _ _ _ T2 (mkF m 125 #[.val (.ref a), .val (.int ((0 : Int32) ^^^ (own_scr ((0 : Int32) ||| (b0 &&& (255 : Int32)))))), .val (.int (0 : Int32)), .val (.int ((0 : Int32) ||| (b0 &&& (255 : Int32)))), .val (.int (-1 : Int32))] [(.int (own_fin ((0 : Int32) ^^^ (own_scr ((0 : Int32) ||| (b0 &&& (255 : Int32))))) (1 : Int32)))])
  have M2 := Fr.app M1 N2
  exact s_retI X2 hx hby hlk hret d5_125 (by decide) (by decide) ⟨rfl, e2, M2⟩
set_option maxRecDepth 65536 in
set_option maxHeartbeats 40000000 in
theorem rmH2 (l : Launch) (Z : State) (a0 : Array Value) (hw : ∀ d ∈ tables_1, d.before a0 Z = true) (a : Addr) (cl : Cell) (b0 b1 : Int32) (h0 : Heap) (n0 : Nat) (Ar : Arr Z h0 a cl .byte) (Sz : cl.slots.size = (2 : Int32).toNatClampNeg) (B0 : cl.slots[0]? = some (.int b0)) (B1 : cl.slots[1]? = some (.int b1)) :
    OCon l Z (⟨"com/example/floe/floe/Murmur3", "hash", "([B)I"⟩ : MethodName) prog_8_method_2_code 5 (some (.int)) [] ({ frames := 3, cells := 0, slots := 0, locals := 43 } : Room) #[(.ref a)] h0 (fun v h L => v = some (.int (own_fin ((0 : Int32) ^^^ (own_scr ((((0 : Int32) ||| (b1 &&& (255 : Int32))) <<< ((8 : Int32) &&& 31)) ||| (b0 &&& (255 : Int32))))) (2 : Int32))) ∧ h = h0 ∧ Fr n0 L) := by
  refine con (plainFor_of_name pnM) ?_
  intro p e s m below meth c s₁ hx hby hml hZ hown hnm hret hlk X0 e0
  refine entry (efH m a) ?_
  have M0 := Fr.nil n0
  refine s_iconst X0 hx hby (n := 1) (v := (0 : Int32)) d5_0 rfl rfl ?_
  refine s_istoreN X0 hx hby (n := 2) (L' := #[.val (.ref a), .val (.int (0 : Int32)), .unset, .unset, .unset]) d5_1 rfl rfl ?_
  refine s_aloadN X0 hx hby (n := 3) (x := (.ref a)) d5_2 rfl rfl rfl ?_
  refine s_arraylength X0 hx hby hZ (n := 4) e0 Ar (z := (2 : Int32)) Sz (by decide) d5_3 rfl ?_
  refine s_bipush X0 hx hby (n := 6) (v := (-4 : Int32)) d5_4 rfl rfl ?_
  refine s_iand X0 hx hby (n := 7) d5_6 rfl ?_
  refine s_fold (z := (0 : Int32)) (by decide) ?_
  refine s_istoreN X0 hx hby (n := 8) (L' := #[.val (.ref a), .val (.int (0 : Int32)), .val (.int (0 : Int32)), .unset, .unset]) d5_7 rfl rfl ?_
  refine s_iconst X0 hx hby (n := 9) (v := (0 : Int32)) d5_8 rfl rfl ?_
  refine s_istoreN X0 hx hby (n := 10) (L' := #[.val (.ref a), .val (.int (0 : Int32)), .val (.int (0 : Int32)), .val (.int (0 : Int32)), .unset]) d5_9 rfl rfl ?_
  refine s_iloadN X0 hx hby (n := 11) (x := (0 : Int32)) d5_10 rfl rfl ?_
  refine s_iloadN X0 hx hby (n := 12) (x := (0 : Int32)) d5_11 rfl rfl ?_
  refine s_icmpY X0 hx hby (n := 72) d5_12 (by decide) (by decide) (by decide) ?_
  refine s_iloadN X0 hx hby (n := 73) (x := (0 : Int32)) d5_72 rfl rfl ?_
  refine s_aloadN X0 hx hby (n := 74) (x := (.ref a)) d5_73 rfl rfl rfl ?_
  refine s_arraylength X0 hx hby hZ (n := 75) e0 Ar (z := (2 : Int32)) Sz (by decide) d5_74 rfl ?_
  refine s_icmpN X0 hx hby (n := 78) d5_75 (by decide) rfl ?_
  refine s_iconst X0 hx hby (n := 79) (v := (0 : Int32)) d5_78 rfl rfl ?_
  refine s_istoreN X0 hx hby (n := 80) (L' := #[.val (.ref a), .val (.int (0 : Int32)), .val (.int (0 : Int32)), .val (.int (0 : Int32)), .unset]) d5_79 rfl rfl ?_
  refine s_aloadN X0 hx hby (n := 81) (x := (.ref a)) d5_80 rfl rfl rfl ?_
  refine s_arraylength X0 hx hby hZ (n := 82) e0 Ar (z := (2 : Int32)) Sz (by decide) d5_81 rfl ?_
  refine s_iconst X0 hx hby (n := 83) (v := (1 : Int32)) d5_82 rfl rfl ?_
  refine s_isub X0 hx hby (n := 84) d5_83 rfl ?_
  refine s_fold (z := (1 : Int32)) (by decide) ?_
  refine s_istore X0 hx hby (n := 86) (L' := #[.val (.ref a), .val (.int (0 : Int32)), .val (.int (0 : Int32)), .val (.int (0 : Int32)), .val (.int (1 : Int32))]) d5_84 rfl rfl ?_
  refine s_iload X0 hx hby (n := 88) (x := (1 : Int32)) d5_86 rfl rfl ?_
  refine s_iloadN X0 hx hby (n := 89) (x := (0 : Int32)) d5_88 rfl rfl ?_
  refine s_icmpN X0 hx hby (n := 92) d5_89 (by decide) rfl ?_
  refine s_iloadN X0 hx hby (n := 93) (x := (0 : Int32)) d5_92 rfl rfl ?_
  refine s_bipush X0 hx hby (n := 95) (v := (8 : Int32)) d5_93 rfl rfl ?_
  refine s_ishl X0 hx hby (n := 96) d5_95 rfl ?_
  refine s_fold (z := (0 : Int32)) (by decide) ?_
  refine s_aloadN X0 hx hby (n := 97) (x := (.ref a)) d5_96 rfl rfl rfl ?_
  refine s_iload X0 hx hby (n := 99) (x := (1 : Int32)) d5_97 rfl rfl ?_
  refine s_baloadC X0 hx hby hZ (n := 100) e0 Ar 1 (by decide) (by decide) (by rw [Sz]; decide) B1 d5_99 rfl ?_
  refine s_sipush X0 hx hby (n := 103) (v := (255 : Int32)) d5_100 rfl rfl ?_
  refine s_iand X0 hx hby (n := 104) d5_103 rfl ?_
  refine s_ior X0 hx hby (n := 105) d5_104 rfl ?_
  refine s_istoreN X0 hx hby (n := 106) (L' := #[.val (.ref a), .val (.int (0 : Int32)), .val (.int (0 : Int32)), .val (.int ((0 : Int32) ||| (b1 &&& (255 : Int32)))), .val (.int (1 : Int32))]) d5_105 rfl rfl ?_
  refine s_iincC X0 hx hby (n := 109) (v := (-1 : Int32)) (x := (1 : Int32)) (z := (0 : Int32)) (L' := #[.val (.ref a), .val (.int (0 : Int32)), .val (.int (0 : Int32)), .val (.int ((0 : Int32) ||| (b1 &&& (255 : Int32)))), .val (.int (0 : Int32))]) d5_106 rfl rfl (by decide) rfl rfl ?_
  refine s_goto X0 hx hby (n := 86) d5_109 (by decide) (by decide) ?_
  refine s_iload X0 hx hby (n := 88) (x := (0 : Int32)) d5_86 rfl rfl ?_
  refine s_iloadN X0 hx hby (n := 89) (x := (0 : Int32)) d5_88 rfl rfl ?_
  refine s_icmpN X0 hx hby (n := 92) d5_89 (by decide) rfl ?_
  refine s_iloadN X0 hx hby (n := 93) (x := ((0 : Int32) ||| (b1 &&& (255 : Int32)))) d5_92 rfl rfl ?_
  refine s_bipush X0 hx hby (n := 95) (v := (8 : Int32)) d5_93 rfl rfl ?_
  refine s_ishl X0 hx hby (n := 96) d5_95 rfl ?_
  refine s_aloadN X0 hx hby (n := 97) (x := (.ref a)) d5_96 rfl rfl rfl ?_
  refine s_iload X0 hx hby (n := 99) (x := (0 : Int32)) d5_97 rfl rfl ?_
  refine s_baloadC X0 hx hby hZ (n := 100) e0 Ar 0 (by decide) (by decide) (by rw [Sz]; decide) B0 d5_99 rfl ?_
  refine s_sipush X0 hx hby (n := 103) (v := (255 : Int32)) d5_100 rfl rfl ?_
  refine s_iand X0 hx hby (n := 104) d5_103 rfl ?_
  refine s_ior X0 hx hby (n := 105) d5_104 rfl ?_
  refine s_istoreN X0 hx hby (n := 106) (L' := #[.val (.ref a), .val (.int (0 : Int32)), .val (.int (0 : Int32)), .val (.int ((((0 : Int32) ||| (b1 &&& (255 : Int32))) <<< ((8 : Int32) &&& 31)) ||| (b0 &&& (255 : Int32)))), .val (.int (0 : Int32))]) d5_105 rfl rfl ?_
  refine s_iincC X0 hx hby (n := 109) (v := (-1 : Int32)) (x := (0 : Int32)) (z := (-1 : Int32)) (L' := #[.val (.ref a), .val (.int (0 : Int32)), .val (.int (0 : Int32)), .val (.int ((((0 : Int32) ||| (b1 &&& (255 : Int32))) <<< ((8 : Int32) &&& 31)) ||| (b0 &&& (255 : Int32)))), .val (.int (-1 : Int32))]) d5_106 rfl rfl (by decide) rfl rfl ?_
  refine s_goto X0 hx hby (n := 86) d5_109 (by decide) (by decide) ?_
  refine s_iload X0 hx hby (n := 88) (x := (-1 : Int32)) d5_86 rfl rfl ?_
  refine s_iloadN X0 hx hby (n := 89) (x := (0 : Int32)) d5_88 rfl rfl ?_
  refine s_icmpY X0 hx hby (n := 112) d5_89 (by decide) (by decide) (by decide) ?_
  refine s_iloadN X0 hx hby (n := 113) (x := (0 : Int32)) d5_112 rfl rfl ?_
  refine s_iloadN X0 hx hby (n := 114) (x := ((((0 : Int32) ||| (b1 &&& (255 : Int32))) <<< ((8 : Int32) &&& 31)) ||| (b0 &&& (255 : Int32)))) d5_113 rfl rfl ?_
  refine s_callS X0 hx hby hml hZ (n := 117) hown (hw _ (List.mem_of_getElem? (i := 23) rfl)) (hw _ (List.mem_of_getElem? (i := 24) rfl)) (hw _ (List.mem_of_getElem? (i := 21) rfl)) (hw _ (List.mem_of_getElem? (i := 25) rfl)) (by decide) (rmScr l Z a0 hw ((((0 : Int32) ||| (b1 &&& (255 : Int32))) <<< ((8 : Int32) &&& 31)) ||| (b0 &&& (255 : Int32))) h0 n0) e0 (by decide) 1 (by decide) (by decide) (by decide) pd_1 [(.int ((((0 : Int32) ||| (b1 &&& (255 : Int32))) <<< ((8 : Int32) &&& 31)) ||| (b0 &&& (255 : Int32))))] [(.int (0 : Int32))] rfl rfl rfl (Nat.le_of_eq rfl) rfl d5_114 rfl ?_
  intro T1 L1 v1 X1 q1c
  obtain ⟨rfl, e1, N1⟩ := q1c
  show OEnds p e below s _ _ _ T1 (mkF m 117 #[.val (.ref a), .val (.int (0 : Int32)), .val (.int (0 : Int32)), .val (.int ((((0 : Int32) ||| (b1 &&& (255 : Int32))) <<< ((8 : Int32) &&& 31)) ||| (b0 &&& (255 : Int32)))), .val (.int (-1 : Int32))] [(.int (own_scr ((((0 : Int32) ||| (b1 &&& (255 : Int32))) <<< ((8 : Int32) &&& 31)) ||| (b0 &&& (255 : Int32))))), (.int (0 : Int32))])
  have M1 := Fr.app M0 N1
  refine s_ixor X1 hx hby (n := 118) d5_117 rfl ?_
  refine s_istoreN X1 hx hby (n := 119) (L' := #[.val (.ref a), .val (.int ((0 : Int32) ^^^ (own_scr ((((0 : Int32) ||| (b1 &&& (255 : Int32))) <<< ((8 : Int32) &&& 31)) ||| (b0 &&& (255 : Int32)))))), .val (.int (0 : Int32)), .val (.int ((((0 : Int32) ||| (b1 &&& (255 : Int32))) <<< ((8 : Int32) &&& 31)) ||| (b0 &&& (255 : Int32)))), .val (.int (-1 : Int32))]) d5_118 rfl rfl ?_
  refine s_iloadN X1 hx hby (n := 120) (x := ((0 : Int32) ^^^ (own_scr ((((0 : Int32) ||| (b1 &&& (255 : Int32))) <<< ((8 : Int32) &&& 31)) ||| (b0 &&& (255 : Int32)))))) d5_119 rfl rfl ?_
  refine s_aloadN X1 hx hby (n := 121) (x := (.ref a)) d5_120 rfl rfl rfl ?_
  refine s_arraylength X1 hx hby hZ (n := 122) e1 Ar (z := (2 : Int32)) Sz (by decide) d5_121 rfl ?_
  refine s_callS X1 hx hby hml hZ (n := 125) hown (hw _ (List.mem_of_getElem? (i := 32) rfl)) (hw _ (List.mem_of_getElem? (i := 33) rfl)) (hw _ (List.mem_of_getElem? (i := 21) rfl)) (hw _ (List.mem_of_getElem? (i := 34) rfl)) (by decide) (rmFin l Z a0 hw ((0 : Int32) ^^^ (own_scr ((((0 : Int32) ||| (b1 &&& (255 : Int32))) <<< ((8 : Int32) &&& 31)) ||| (b0 &&& (255 : Int32))))) (2 : Int32) h0 n0) e1 (by decide) 0 (by decide) (by decide) (by decide) pd_0 [(.int ((0 : Int32) ^^^ (own_scr ((((0 : Int32) ||| (b1 &&& (255 : Int32))) <<< ((8 : Int32) &&& 31)) ||| (b0 &&& (255 : Int32)))))), (.int (2 : Int32))] [] rfl rfl rfl (Nat.le_of_eq rfl) rfl d5_122 rfl ?_
  intro T2 L2 v2 X2 q2c
  obtain ⟨rfl, e2, N2⟩ := q2c
  show OEnds p e below s _ _ _ T2 (mkF m 125 #[.val (.ref a), .val (.int ((0 : Int32) ^^^ (own_scr ((((0 : Int32) ||| (b1 &&& (255 : Int32))) <<< ((8 : Int32) &&& 31)) ||| (b0 &&& (255 : Int32)))))), .val (.int (0 : Int32)), .val (.int ((((0 : Int32) ||| (b1 &&& (255 : Int32))) <<< ((8 : Int32) &&& 31)) ||| (b0 &&& (255 : Int32)))), .val (.int (-1 : Int32))] [(.int (own_fin ((0 : Int32) ^^^ (own_scr ((((0 : Int32) ||| (b1 &&& (255 : Int32))) <<< ((8 : Int32) &&& 31)) ||| (b0 &&& (255 : Int32))))) (2 : Int32)))])
  have M2 := Fr.app M1 N2
  exact s_retI X2 hx hby hlk hret d5_125 (by decide) (by decide) ⟨rfl, e2, M2⟩
set_option maxRecDepth 65536 in
set_option maxHeartbeats 40000000 in
theorem rmH3 (l : Launch) (Z : State) (a0 : Array Value) (hw : ∀ d ∈ tables_1, d.before a0 Z = true) (a : Addr) (cl : Cell) (b0 b1 b2 : Int32) (h0 : Heap) (n0 : Nat) (Ar : Arr Z h0 a cl .byte) (Sz : cl.slots.size = (3 : Int32).toNatClampNeg) (B0 : cl.slots[0]? = some (.int b0)) (B1 : cl.slots[1]? = some (.int b1)) (B2 : cl.slots[2]? = some (.int b2)) :
    OCon l Z (⟨"com/example/floe/floe/Murmur3", "hash", "([B)I"⟩ : MethodName) prog_8_method_2_code 5 (some (.int)) [] ({ frames := 3, cells := 0, slots := 0, locals := 43 } : Room) #[(.ref a)] h0 (fun v h L => v = some (.int (own_fin ((0 : Int32) ^^^ (own_scr ((((((0 : Int32) ||| (b2 &&& (255 : Int32))) <<< ((8 : Int32) &&& 31)) ||| (b1 &&& (255 : Int32))) <<< ((8 : Int32) &&& 31)) ||| (b0 &&& (255 : Int32))))) (3 : Int32))) ∧ h = h0 ∧ Fr n0 L) := by
  refine con (plainFor_of_name pnM) ?_
  intro p e s m below meth c s₁ hx hby hml hZ hown hnm hret hlk X0 e0
  refine entry (efH m a) ?_
  have M0 := Fr.nil n0
  refine s_iconst X0 hx hby (n := 1) (v := (0 : Int32)) d5_0 rfl rfl ?_
  refine s_istoreN X0 hx hby (n := 2) (L' := #[.val (.ref a), .val (.int (0 : Int32)), .unset, .unset, .unset]) d5_1 rfl rfl ?_
  refine s_aloadN X0 hx hby (n := 3) (x := (.ref a)) d5_2 rfl rfl rfl ?_
  refine s_arraylength X0 hx hby hZ (n := 4) e0 Ar (z := (3 : Int32)) Sz (by decide) d5_3 rfl ?_
  refine s_bipush X0 hx hby (n := 6) (v := (-4 : Int32)) d5_4 rfl rfl ?_
  refine s_iand X0 hx hby (n := 7) d5_6 rfl ?_
  refine s_fold (z := (0 : Int32)) (by decide) ?_
  refine s_istoreN X0 hx hby (n := 8) (L' := #[.val (.ref a), .val (.int (0 : Int32)), .val (.int (0 : Int32)), .unset, .unset]) d5_7 rfl rfl ?_
  refine s_iconst X0 hx hby (n := 9) (v := (0 : Int32)) d5_8 rfl rfl ?_
  refine s_istoreN X0 hx hby (n := 10) (L' := #[.val (.ref a), .val (.int (0 : Int32)), .val (.int (0 : Int32)), .val (.int (0 : Int32)), .unset]) d5_9 rfl rfl ?_
  refine s_iloadN X0 hx hby (n := 11) (x := (0 : Int32)) d5_10 rfl rfl ?_
  refine s_iloadN X0 hx hby (n := 12) (x := (0 : Int32)) d5_11 rfl rfl ?_
  refine s_icmpY X0 hx hby (n := 72) d5_12 (by decide) (by decide) (by decide) ?_
  refine s_iloadN X0 hx hby (n := 73) (x := (0 : Int32)) d5_72 rfl rfl ?_
  refine s_aloadN X0 hx hby (n := 74) (x := (.ref a)) d5_73 rfl rfl rfl ?_
  refine s_arraylength X0 hx hby hZ (n := 75) e0 Ar (z := (3 : Int32)) Sz (by decide) d5_74 rfl ?_
  refine s_icmpN X0 hx hby (n := 78) d5_75 (by decide) rfl ?_
  refine s_iconst X0 hx hby (n := 79) (v := (0 : Int32)) d5_78 rfl rfl ?_
  refine s_istoreN X0 hx hby (n := 80) (L' := #[.val (.ref a), .val (.int (0 : Int32)), .val (.int (0 : Int32)), .val (.int (0 : Int32)), .unset]) d5_79 rfl rfl ?_
  refine s_aloadN X0 hx hby (n := 81) (x := (.ref a)) d5_80 rfl rfl rfl ?_
  refine s_arraylength X0 hx hby hZ (n := 82) e0 Ar (z := (3 : Int32)) Sz (by decide) d5_81 rfl ?_
  refine s_iconst X0 hx hby (n := 83) (v := (1 : Int32)) d5_82 rfl rfl ?_
  refine s_isub X0 hx hby (n := 84) d5_83 rfl ?_
  refine s_fold (z := (2 : Int32)) (by decide) ?_
  refine s_istore X0 hx hby (n := 86) (L' := #[.val (.ref a), .val (.int (0 : Int32)), .val (.int (0 : Int32)), .val (.int (0 : Int32)), .val (.int (2 : Int32))]) d5_84 rfl rfl ?_
  refine s_iload X0 hx hby (n := 88) (x := (2 : Int32)) d5_86 rfl rfl ?_
  refine s_iloadN X0 hx hby (n := 89) (x := (0 : Int32)) d5_88 rfl rfl ?_
  refine s_icmpN X0 hx hby (n := 92) d5_89 (by decide) rfl ?_
  refine s_iloadN X0 hx hby (n := 93) (x := (0 : Int32)) d5_92 rfl rfl ?_
  refine s_bipush X0 hx hby (n := 95) (v := (8 : Int32)) d5_93 rfl rfl ?_
  refine s_ishl X0 hx hby (n := 96) d5_95 rfl ?_
  refine s_fold (z := (0 : Int32)) (by decide) ?_
  refine s_aloadN X0 hx hby (n := 97) (x := (.ref a)) d5_96 rfl rfl rfl ?_
  refine s_iload X0 hx hby (n := 99) (x := (2 : Int32)) d5_97 rfl rfl ?_
  refine s_baloadC X0 hx hby hZ (n := 100) e0 Ar 2 (by decide) (by decide) (by rw [Sz]; decide) B2 d5_99 rfl ?_
  refine s_sipush X0 hx hby (n := 103) (v := (255 : Int32)) d5_100 rfl rfl ?_
  refine s_iand X0 hx hby (n := 104) d5_103 rfl ?_
  refine s_ior X0 hx hby (n := 105) d5_104 rfl ?_
  refine s_istoreN X0 hx hby (n := 106) (L' := #[.val (.ref a), .val (.int (0 : Int32)), .val (.int (0 : Int32)), .val (.int ((0 : Int32) ||| (b2 &&& (255 : Int32)))), .val (.int (2 : Int32))]) d5_105 rfl rfl ?_
  refine s_iincC X0 hx hby (n := 109) (v := (-1 : Int32)) (x := (2 : Int32)) (z := (1 : Int32)) (L' := #[.val (.ref a), .val (.int (0 : Int32)), .val (.int (0 : Int32)), .val (.int ((0 : Int32) ||| (b2 &&& (255 : Int32)))), .val (.int (1 : Int32))]) d5_106 rfl rfl (by decide) rfl rfl ?_
  refine s_goto X0 hx hby (n := 86) d5_109 (by decide) (by decide) ?_
  refine s_iload X0 hx hby (n := 88) (x := (1 : Int32)) d5_86 rfl rfl ?_
  refine s_iloadN X0 hx hby (n := 89) (x := (0 : Int32)) d5_88 rfl rfl ?_
  refine s_icmpN X0 hx hby (n := 92) d5_89 (by decide) rfl ?_
  refine s_iloadN X0 hx hby (n := 93) (x := ((0 : Int32) ||| (b2 &&& (255 : Int32)))) d5_92 rfl rfl ?_
  refine s_bipush X0 hx hby (n := 95) (v := (8 : Int32)) d5_93 rfl rfl ?_
  refine s_ishl X0 hx hby (n := 96) d5_95 rfl ?_
  refine s_aloadN X0 hx hby (n := 97) (x := (.ref a)) d5_96 rfl rfl rfl ?_
  refine s_iload X0 hx hby (n := 99) (x := (1 : Int32)) d5_97 rfl rfl ?_
  refine s_baloadC X0 hx hby hZ (n := 100) e0 Ar 1 (by decide) (by decide) (by rw [Sz]; decide) B1 d5_99 rfl ?_
  refine s_sipush X0 hx hby (n := 103) (v := (255 : Int32)) d5_100 rfl rfl ?_
  refine s_iand X0 hx hby (n := 104) d5_103 rfl ?_
  refine s_ior X0 hx hby (n := 105) d5_104 rfl ?_
  refine s_istoreN X0 hx hby (n := 106) (L' := #[.val (.ref a), .val (.int (0 : Int32)), .val (.int (0 : Int32)), .val (.int ((((0 : Int32) ||| (b2 &&& (255 : Int32))) <<< ((8 : Int32) &&& 31)) ||| (b1 &&& (255 : Int32)))), .val (.int (1 : Int32))]) d5_105 rfl rfl ?_
  refine s_iincC X0 hx hby (n := 109) (v := (-1 : Int32)) (x := (1 : Int32)) (z := (0 : Int32)) (L' := #[.val (.ref a), .val (.int (0 : Int32)), .val (.int (0 : Int32)), .val (.int ((((0 : Int32) ||| (b2 &&& (255 : Int32))) <<< ((8 : Int32) &&& 31)) ||| (b1 &&& (255 : Int32)))), .val (.int (0 : Int32))]) d5_106 rfl rfl (by decide) rfl rfl ?_
  refine s_goto X0 hx hby (n := 86) d5_109 (by decide) (by decide) ?_
  refine s_iload X0 hx hby (n := 88) (x := (0 : Int32)) d5_86 rfl rfl ?_
  refine s_iloadN X0 hx hby (n := 89) (x := (0 : Int32)) d5_88 rfl rfl ?_
  refine s_icmpN X0 hx hby (n := 92) d5_89 (by decide) rfl ?_
  refine s_iloadN X0 hx hby (n := 93) (x := ((((0 : Int32) ||| (b2 &&& (255 : Int32))) <<< ((8 : Int32) &&& 31)) ||| (b1 &&& (255 : Int32)))) d5_92 rfl rfl ?_
  refine s_bipush X0 hx hby (n := 95) (v := (8 : Int32)) d5_93 rfl rfl ?_
  refine s_ishl X0 hx hby (n := 96) d5_95 rfl ?_
  refine s_aloadN X0 hx hby (n := 97) (x := (.ref a)) d5_96 rfl rfl rfl ?_
  refine s_iload X0 hx hby (n := 99) (x := (0 : Int32)) d5_97 rfl rfl ?_
  refine s_baloadC X0 hx hby hZ (n := 100) e0 Ar 0 (by decide) (by decide) (by rw [Sz]; decide) B0 d5_99 rfl ?_
  refine s_sipush X0 hx hby (n := 103) (v := (255 : Int32)) d5_100 rfl rfl ?_
  refine s_iand X0 hx hby (n := 104) d5_103 rfl ?_
  refine s_ior X0 hx hby (n := 105) d5_104 rfl ?_
  refine s_istoreN X0 hx hby (n := 106) (L' := #[.val (.ref a), .val (.int (0 : Int32)), .val (.int (0 : Int32)), .val (.int ((((((0 : Int32) ||| (b2 &&& (255 : Int32))) <<< ((8 : Int32) &&& 31)) ||| (b1 &&& (255 : Int32))) <<< ((8 : Int32) &&& 31)) ||| (b0 &&& (255 : Int32)))), .val (.int (0 : Int32))]) d5_105 rfl rfl ?_
  refine s_iincC X0 hx hby (n := 109) (v := (-1 : Int32)) (x := (0 : Int32)) (z := (-1 : Int32)) (L' := #[.val (.ref a), .val (.int (0 : Int32)), .val (.int (0 : Int32)), .val (.int ((((((0 : Int32) ||| (b2 &&& (255 : Int32))) <<< ((8 : Int32) &&& 31)) ||| (b1 &&& (255 : Int32))) <<< ((8 : Int32) &&& 31)) ||| (b0 &&& (255 : Int32)))), .val (.int (-1 : Int32))]) d5_106 rfl rfl (by decide) rfl rfl ?_
  refine s_goto X0 hx hby (n := 86) d5_109 (by decide) (by decide) ?_
  refine s_iload X0 hx hby (n := 88) (x := (-1 : Int32)) d5_86 rfl rfl ?_
  refine s_iloadN X0 hx hby (n := 89) (x := (0 : Int32)) d5_88 rfl rfl ?_
  refine s_icmpY X0 hx hby (n := 112) d5_89 (by decide) (by decide) (by decide) ?_
  refine s_iloadN X0 hx hby (n := 113) (x := (0 : Int32)) d5_112 rfl rfl ?_
  refine s_iloadN X0 hx hby (n := 114) (x := ((((((0 : Int32) ||| (b2 &&& (255 : Int32))) <<< ((8 : Int32) &&& 31)) ||| (b1 &&& (255 : Int32))) <<< ((8 : Int32) &&& 31)) ||| (b0 &&& (255 : Int32)))) d5_113 rfl rfl ?_
  refine s_callS X0 hx hby hml hZ (n := 117) hown (hw _ (List.mem_of_getElem? (i := 23) rfl)) (hw _ (List.mem_of_getElem? (i := 24) rfl)) (hw _ (List.mem_of_getElem? (i := 21) rfl)) (hw _ (List.mem_of_getElem? (i := 25) rfl)) (by decide) (rmScr l Z a0 hw ((((((0 : Int32) ||| (b2 &&& (255 : Int32))) <<< ((8 : Int32) &&& 31)) ||| (b1 &&& (255 : Int32))) <<< ((8 : Int32) &&& 31)) ||| (b0 &&& (255 : Int32))) h0 n0) e0 (by decide) 1 (by decide) (by decide) (by decide) pd_1 [(.int ((((((0 : Int32) ||| (b2 &&& (255 : Int32))) <<< ((8 : Int32) &&& 31)) ||| (b1 &&& (255 : Int32))) <<< ((8 : Int32) &&& 31)) ||| (b0 &&& (255 : Int32))))] [(.int (0 : Int32))] rfl rfl rfl (Nat.le_of_eq rfl) rfl d5_114 rfl ?_
  intro T1 L1 v1 X1 q1c
  obtain ⟨rfl, e1, N1⟩ := q1c
  show OEnds p e below s _ _ _ T1 (mkF m 117 #[.val (.ref a), .val (.int (0 : Int32)), .val (.int (0 : Int32)), .val (.int ((((((0 : Int32) ||| (b2 &&& (255 : Int32))) <<< ((8 : Int32) &&& 31)) ||| (b1 &&& (255 : Int32))) <<< ((8 : Int32) &&& 31)) ||| (b0 &&& (255 : Int32)))), .val (.int (-1 : Int32))] [(.int (own_scr ((((((0 : Int32) ||| (b2 &&& (255 : Int32))) <<< ((8 : Int32) &&& 31)) ||| (b1 &&& (255 : Int32))) <<< ((8 : Int32) &&& 31)) ||| (b0 &&& (255 : Int32))))), (.int (0 : Int32))])
  have M1 := Fr.app M0 N1
  refine s_ixor X1 hx hby (n := 118) d5_117 rfl ?_
  refine s_istoreN X1 hx hby (n := 119) (L' := #[.val (.ref a), .val (.int ((0 : Int32) ^^^ (own_scr ((((((0 : Int32) ||| (b2 &&& (255 : Int32))) <<< ((8 : Int32) &&& 31)) ||| (b1 &&& (255 : Int32))) <<< ((8 : Int32) &&& 31)) ||| (b0 &&& (255 : Int32)))))), .val (.int (0 : Int32)), .val (.int ((((((0 : Int32) ||| (b2 &&& (255 : Int32))) <<< ((8 : Int32) &&& 31)) ||| (b1 &&& (255 : Int32))) <<< ((8 : Int32) &&& 31)) ||| (b0 &&& (255 : Int32)))), .val (.int (-1 : Int32))]) d5_118 rfl rfl ?_
  refine s_iloadN X1 hx hby (n := 120) (x := ((0 : Int32) ^^^ (own_scr ((((((0 : Int32) ||| (b2 &&& (255 : Int32))) <<< ((8 : Int32) &&& 31)) ||| (b1 &&& (255 : Int32))) <<< ((8 : Int32) &&& 31)) ||| (b0 &&& (255 : Int32)))))) d5_119 rfl rfl ?_
  refine s_aloadN X1 hx hby (n := 121) (x := (.ref a)) d5_120 rfl rfl rfl ?_
  refine s_arraylength X1 hx hby hZ (n := 122) e1 Ar (z := (3 : Int32)) Sz (by decide) d5_121 rfl ?_
  refine s_callS X1 hx hby hml hZ (n := 125) hown (hw _ (List.mem_of_getElem? (i := 32) rfl)) (hw _ (List.mem_of_getElem? (i := 33) rfl)) (hw _ (List.mem_of_getElem? (i := 21) rfl)) (hw _ (List.mem_of_getElem? (i := 34) rfl)) (by decide) (rmFin l Z a0 hw ((0 : Int32) ^^^ (own_scr ((((((0 : Int32) ||| (b2 &&& (255 : Int32))) <<< ((8 : Int32) &&& 31)) ||| (b1 &&& (255 : Int32))) <<< ((8 : Int32) &&& 31)) ||| (b0 &&& (255 : Int32))))) (3 : Int32) h0 n0) e1 (by decide) 0 (by decide) (by decide) (by decide) pd_0 [(.int ((0 : Int32) ^^^ (own_scr ((((((0 : Int32) ||| (b2 &&& (255 : Int32))) <<< ((8 : Int32) &&& 31)) ||| (b1 &&& (255 : Int32))) <<< ((8 : Int32) &&& 31)) ||| (b0 &&& (255 : Int32)))))), (.int (3 : Int32))] [] rfl rfl rfl (Nat.le_of_eq rfl) rfl d5_122 rfl ?_
  intro T2 L2 v2 X2 q2c
  obtain ⟨rfl, e2, N2⟩ := q2c
  show OEnds p e below s _ _ _ T2 (mkF m 125 #[.val (.ref a), .val (.int ((0 : Int32) ^^^ (own_scr ((((((0 : Int32) ||| (b2 &&& (255 : Int32))) <<< ((8 : Int32) &&& 31)) ||| (b1 &&& (255 : Int32))) <<< ((8 : Int32) &&& 31)) ||| (b0 &&& (255 : Int32)))))), .val (.int (0 : Int32)), .val (.int ((((((0 : Int32) ||| (b2 &&& (255 : Int32))) <<< ((8 : Int32) &&& 31)) ||| (b1 &&& (255 : Int32))) <<< ((8 : Int32) &&& 31)) ||| (b0 &&& (255 : Int32)))), .val (.int (-1 : Int32))] [(.int (own_fin ((0 : Int32) ^^^ (own_scr ((((((0 : Int32) ||| (b2 &&& (255 : Int32))) <<< ((8 : Int32) &&& 31)) ||| (b1 &&& (255 : Int32))) <<< ((8 : Int32) &&& 31)) ||| (b0 &&& (255 : Int32))))) (3 : Int32)))])
  have M2 := Fr.app M1 N2
  exact s_retI X2 hx hby hlk hret d5_125 (by decide) (by decide) ⟨rfl, e2, M2⟩
set_option maxRecDepth 65536 in
set_option maxHeartbeats 40000000 in
theorem rmH4 (l : Launch) (Z : State) (a0 : Array Value) (hw : ∀ d ∈ tables_1, d.before a0 Z = true) (a : Addr) (cl : Cell) (b0 b1 b2 b3 : Int32) (h0 : Heap) (n0 : Nat) (Ar : Arr Z h0 a cl .byte) (Sz : cl.slots.size = (4 : Int32).toNatClampNeg) (B0 : cl.slots[0]? = some (.int b0)) (B1 : cl.slots[1]? = some (.int b1)) (B2 : cl.slots[2]? = some (.int b2)) (B3 : cl.slots[3]? = some (.int b3)) :
    OCon l Z (⟨"com/example/floe/floe/Murmur3", "hash", "([B)I"⟩ : MethodName) prog_8_method_2_code 5 (some (.int)) [] ({ frames := 3, cells := 0, slots := 0, locals := 43 } : Room) #[(.ref a)] h0 (fun v h L => v = some (.int (own_fin (own_mix (0 : Int32) ((((b0 &&& (255 : Int32)) ||| ((b1 &&& (255 : Int32)) <<< ((8 : Int32) &&& 31))) ||| ((b2 &&& (255 : Int32)) <<< ((16 : Int32) &&& 31))) ||| ((b3 &&& (255 : Int32)) <<< ((24 : Int32) &&& 31)))) (4 : Int32))) ∧ h = h0 ∧ Fr n0 L) := by
  refine con (plainFor_of_name pnM) ?_
  intro p e s m below meth c s₁ hx hby hml hZ hown hnm hret hlk X0 e0
  refine entry (efH m a) ?_
  have M0 := Fr.nil n0
  refine s_iconst X0 hx hby (n := 1) (v := (0 : Int32)) d5_0 rfl rfl ?_
  refine s_istoreN X0 hx hby (n := 2) (L' := #[.val (.ref a), .val (.int (0 : Int32)), .unset, .unset, .unset]) d5_1 rfl rfl ?_
  refine s_aloadN X0 hx hby (n := 3) (x := (.ref a)) d5_2 rfl rfl rfl ?_
  refine s_arraylength X0 hx hby hZ (n := 4) e0 Ar (z := (4 : Int32)) Sz (by decide) d5_3 rfl ?_
  refine s_bipush X0 hx hby (n := 6) (v := (-4 : Int32)) d5_4 rfl rfl ?_
  refine s_iand X0 hx hby (n := 7) d5_6 rfl ?_
  refine s_fold (z := (4 : Int32)) (by decide) ?_
  refine s_istoreN X0 hx hby (n := 8) (L' := #[.val (.ref a), .val (.int (0 : Int32)), .val (.int (4 : Int32)), .unset, .unset]) d5_7 rfl rfl ?_
  refine s_iconst X0 hx hby (n := 9) (v := (0 : Int32)) d5_8 rfl rfl ?_
  refine s_istoreN X0 hx hby (n := 10) (L' := #[.val (.ref a), .val (.int (0 : Int32)), .val (.int (4 : Int32)), .val (.int (0 : Int32)), .unset]) d5_9 rfl rfl ?_
  refine s_iloadN X0 hx hby (n := 11) (x := (0 : Int32)) d5_10 rfl rfl ?_
  refine s_iloadN X0 hx hby (n := 12) (x := (4 : Int32)) d5_11 rfl rfl ?_
  refine s_icmpN X0 hx hby (n := 15) d5_12 (by decide) rfl ?_
  refine s_iloadN X0 hx hby (n := 16) (x := (0 : Int32)) d5_15 rfl rfl ?_
  refine s_aloadN X0 hx hby (n := 17) (x := (.ref a)) d5_16 rfl rfl rfl ?_
  refine s_iloadN X0 hx hby (n := 18) (x := (0 : Int32)) d5_17 rfl rfl ?_
  refine s_baloadC X0 hx hby hZ (n := 19) e0 Ar 0 (by decide) (by decide) (by rw [Sz]; decide) B0 d5_18 rfl ?_
  refine s_sipush X0 hx hby (n := 22) (v := (255 : Int32)) d5_19 rfl rfl ?_
  refine s_iand X0 hx hby (n := 23) d5_22 rfl ?_
  refine s_aloadN X0 hx hby (n := 24) (x := (.ref a)) d5_23 rfl rfl rfl ?_
  refine s_iloadN X0 hx hby (n := 25) (x := (0 : Int32)) d5_24 rfl rfl ?_
  refine s_iconst X0 hx hby (n := 26) (v := (1 : Int32)) d5_25 rfl rfl ?_
  refine s_iadd X0 hx hby (n := 27) d5_26 rfl ?_
  refine s_fold (z := (1 : Int32)) (by decide) ?_
  refine s_baloadC X0 hx hby hZ (n := 28) e0 Ar 1 (by decide) (by decide) (by rw [Sz]; decide) B1 d5_27 rfl ?_
  refine s_sipush X0 hx hby (n := 31) (v := (255 : Int32)) d5_28 rfl rfl ?_
  refine s_iand X0 hx hby (n := 32) d5_31 rfl ?_
  refine s_bipush X0 hx hby (n := 34) (v := (8 : Int32)) d5_32 rfl rfl ?_
  refine s_ishl X0 hx hby (n := 35) d5_34 rfl ?_
  refine s_ior X0 hx hby (n := 36) d5_35 rfl ?_
  refine s_aloadN X0 hx hby (n := 37) (x := (.ref a)) d5_36 rfl rfl rfl ?_
  refine s_iloadN X0 hx hby (n := 38) (x := (0 : Int32)) d5_37 rfl rfl ?_
  refine s_iconst X0 hx hby (n := 39) (v := (2 : Int32)) d5_38 rfl rfl ?_
  refine s_iadd X0 hx hby (n := 40) d5_39 rfl ?_
  refine s_fold (z := (2 : Int32)) (by decide) ?_
  refine s_baloadC X0 hx hby hZ (n := 41) e0 Ar 2 (by decide) (by decide) (by rw [Sz]; decide) B2 d5_40 rfl ?_
  refine s_sipush X0 hx hby (n := 44) (v := (255 : Int32)) d5_41 rfl rfl ?_
  refine s_iand X0 hx hby (n := 45) d5_44 rfl ?_
  refine s_bipush X0 hx hby (n := 47) (v := (16 : Int32)) d5_45 rfl rfl ?_
  refine s_ishl X0 hx hby (n := 48) d5_47 rfl ?_
  refine s_ior X0 hx hby (n := 49) d5_48 rfl ?_
  refine s_aloadN X0 hx hby (n := 50) (x := (.ref a)) d5_49 rfl rfl rfl ?_
  refine s_iloadN X0 hx hby (n := 51) (x := (0 : Int32)) d5_50 rfl rfl ?_
  refine s_iconst X0 hx hby (n := 52) (v := (3 : Int32)) d5_51 rfl rfl ?_
  refine s_iadd X0 hx hby (n := 53) d5_52 rfl ?_
  refine s_fold (z := (3 : Int32)) (by decide) ?_
  refine s_baloadC X0 hx hby hZ (n := 54) e0 Ar 3 (by decide) (by decide) (by rw [Sz]; decide) B3 d5_53 rfl ?_
  refine s_sipush X0 hx hby (n := 57) (v := (255 : Int32)) d5_54 rfl rfl ?_
  refine s_iand X0 hx hby (n := 58) d5_57 rfl ?_
  refine s_bipush X0 hx hby (n := 60) (v := (24 : Int32)) d5_58 rfl rfl ?_
  refine s_ishl X0 hx hby (n := 61) d5_60 rfl ?_
  refine s_ior X0 hx hby (n := 62) d5_61 rfl ?_
  refine s_callS X0 hx hby hml hZ (n := 65) hown (hw _ (List.mem_of_getElem? (i := 41) rfl)) (hw _ (List.mem_of_getElem? (i := 42) rfl)) (hw _ (List.mem_of_getElem? (i := 21) rfl)) (hw _ (List.mem_of_getElem? (i := 43) rfl)) (by decide) (rmMix l Z a0 hw (0 : Int32) ((((b0 &&& (255 : Int32)) ||| ((b1 &&& (255 : Int32)) <<< ((8 : Int32) &&& 31))) ||| ((b2 &&& (255 : Int32)) <<< ((16 : Int32) &&& 31))) ||| ((b3 &&& (255 : Int32)) <<< ((24 : Int32) &&& 31))) h0 n0) e0 (by decide) 0 (by decide) (by decide) (by decide) pd_0 [(.int (0 : Int32)), (.int ((((b0 &&& (255 : Int32)) ||| ((b1 &&& (255 : Int32)) <<< ((8 : Int32) &&& 31))) ||| ((b2 &&& (255 : Int32)) <<< ((16 : Int32) &&& 31))) ||| ((b3 &&& (255 : Int32)) <<< ((24 : Int32) &&& 31))))] [] rfl rfl rfl (Nat.le_of_eq rfl) rfl d5_62 rfl ?_
  intro T1 L1 v1 X1 q1c
  obtain ⟨rfl, e1, N1⟩ := q1c
  show OEnds p e below s _ _ _ T1 (mkF m 65 #[.val (.ref a), .val (.int (0 : Int32)), .val (.int (4 : Int32)), .val (.int (0 : Int32)), .unset] [(.int (own_mix (0 : Int32) ((((b0 &&& (255 : Int32)) ||| ((b1 &&& (255 : Int32)) <<< ((8 : Int32) &&& 31))) ||| ((b2 &&& (255 : Int32)) <<< ((16 : Int32) &&& 31))) ||| ((b3 &&& (255 : Int32)) <<< ((24 : Int32) &&& 31)))))])
  have M1 := Fr.app M0 N1
  refine s_istoreN X1 hx hby (n := 66) (L' := #[.val (.ref a), .val (.int (own_mix (0 : Int32) ((((b0 &&& (255 : Int32)) ||| ((b1 &&& (255 : Int32)) <<< ((8 : Int32) &&& 31))) ||| ((b2 &&& (255 : Int32)) <<< ((16 : Int32) &&& 31))) ||| ((b3 &&& (255 : Int32)) <<< ((24 : Int32) &&& 31))))), .val (.int (4 : Int32)), .val (.int (0 : Int32)), .unset]) d5_65 rfl rfl ?_
  refine s_iincC X1 hx hby (n := 69) (v := (4 : Int32)) (x := (0 : Int32)) (z := (4 : Int32)) (L' := #[.val (.ref a), .val (.int (own_mix (0 : Int32) ((((b0 &&& (255 : Int32)) ||| ((b1 &&& (255 : Int32)) <<< ((8 : Int32) &&& 31))) ||| ((b2 &&& (255 : Int32)) <<< ((16 : Int32) &&& 31))) ||| ((b3 &&& (255 : Int32)) <<< ((24 : Int32) &&& 31))))), .val (.int (4 : Int32)), .val (.int (4 : Int32)), .unset]) d5_66 rfl rfl (by decide) rfl rfl ?_
  refine s_goto X1 hx hby (n := 10) d5_69 (by decide) (by decide) ?_
  refine s_iloadN X1 hx hby (n := 11) (x := (4 : Int32)) d5_10 rfl rfl ?_
  refine s_iloadN X1 hx hby (n := 12) (x := (4 : Int32)) d5_11 rfl rfl ?_
  refine s_icmpY X1 hx hby (n := 72) d5_12 (by decide) (by decide) (by decide) ?_
  refine s_iloadN X1 hx hby (n := 73) (x := (4 : Int32)) d5_72 rfl rfl ?_
  refine s_aloadN X1 hx hby (n := 74) (x := (.ref a)) d5_73 rfl rfl rfl ?_
  refine s_arraylength X1 hx hby hZ (n := 75) e1 Ar (z := (4 : Int32)) Sz (by decide) d5_74 rfl ?_
  refine s_icmpY X1 hx hby (n := 119) d5_75 (by decide) (by decide) (by decide) ?_
  refine s_iloadN X1 hx hby (n := 120) (x := (own_mix (0 : Int32) ((((b0 &&& (255 : Int32)) ||| ((b1 &&& (255 : Int32)) <<< ((8 : Int32) &&& 31))) ||| ((b2 &&& (255 : Int32)) <<< ((16 : Int32) &&& 31))) ||| ((b3 &&& (255 : Int32)) <<< ((24 : Int32) &&& 31))))) d5_119 rfl rfl ?_
  refine s_aloadN X1 hx hby (n := 121) (x := (.ref a)) d5_120 rfl rfl rfl ?_
  refine s_arraylength X1 hx hby hZ (n := 122) e1 Ar (z := (4 : Int32)) Sz (by decide) d5_121 rfl ?_
  refine s_callS X1 hx hby hml hZ (n := 125) hown (hw _ (List.mem_of_getElem? (i := 32) rfl)) (hw _ (List.mem_of_getElem? (i := 33) rfl)) (hw _ (List.mem_of_getElem? (i := 21) rfl)) (hw _ (List.mem_of_getElem? (i := 34) rfl)) (by decide) (rmFin l Z a0 hw (own_mix (0 : Int32) ((((b0 &&& (255 : Int32)) ||| ((b1 &&& (255 : Int32)) <<< ((8 : Int32) &&& 31))) ||| ((b2 &&& (255 : Int32)) <<< ((16 : Int32) &&& 31))) ||| ((b3 &&& (255 : Int32)) <<< ((24 : Int32) &&& 31)))) (4 : Int32) h0 n0) e1 (by decide) 0 (by decide) (by decide) (by decide) pd_0 [(.int (own_mix (0 : Int32) ((((b0 &&& (255 : Int32)) ||| ((b1 &&& (255 : Int32)) <<< ((8 : Int32) &&& 31))) ||| ((b2 &&& (255 : Int32)) <<< ((16 : Int32) &&& 31))) ||| ((b3 &&& (255 : Int32)) <<< ((24 : Int32) &&& 31))))), (.int (4 : Int32))] [] rfl rfl rfl (Nat.le_of_eq rfl) rfl d5_122 rfl ?_
  intro T2 L2 v2 X2 q2c
  obtain ⟨rfl, e2, N2⟩ := q2c
  show OEnds p e below s _ _ _ T2 (mkF m 125 #[.val (.ref a), .val (.int (own_mix (0 : Int32) ((((b0 &&& (255 : Int32)) ||| ((b1 &&& (255 : Int32)) <<< ((8 : Int32) &&& 31))) ||| ((b2 &&& (255 : Int32)) <<< ((16 : Int32) &&& 31))) ||| ((b3 &&& (255 : Int32)) <<< ((24 : Int32) &&& 31))))), .val (.int (4 : Int32)), .val (.int (4 : Int32)), .unset] [(.int (own_fin (own_mix (0 : Int32) ((((b0 &&& (255 : Int32)) ||| ((b1 &&& (255 : Int32)) <<< ((8 : Int32) &&& 31))) ||| ((b2 &&& (255 : Int32)) <<< ((16 : Int32) &&& 31))) ||| ((b3 &&& (255 : Int32)) <<< ((24 : Int32) &&& 31)))) (4 : Int32)))])
  have M2 := Fr.app M1 N2
  exact s_retI X2 hx hby hlk hret d5_125 (by decide) (by decide) ⟨rfl, e2, M2⟩
set_option maxRecDepth 65536 in
set_option maxHeartbeats 40000000 in
theorem rmH5 (l : Launch) (Z : State) (a0 : Array Value) (hw : ∀ d ∈ tables_1, d.before a0 Z = true) (a : Addr) (cl : Cell) (b0 b1 b2 b3 b4 : Int32) (h0 : Heap) (n0 : Nat) (Ar : Arr Z h0 a cl .byte) (Sz : cl.slots.size = (5 : Int32).toNatClampNeg) (B0 : cl.slots[0]? = some (.int b0)) (B1 : cl.slots[1]? = some (.int b1)) (B2 : cl.slots[2]? = some (.int b2)) (B3 : cl.slots[3]? = some (.int b3)) (B4 : cl.slots[4]? = some (.int b4)) :
    OCon l Z (⟨"com/example/floe/floe/Murmur3", "hash", "([B)I"⟩ : MethodName) prog_8_method_2_code 5 (some (.int)) [] ({ frames := 3, cells := 0, slots := 0, locals := 43 } : Room) #[(.ref a)] h0 (fun v h L => v = some (.int (own_fin ((own_mix (0 : Int32) ((((b0 &&& (255 : Int32)) ||| ((b1 &&& (255 : Int32)) <<< ((8 : Int32) &&& 31))) ||| ((b2 &&& (255 : Int32)) <<< ((16 : Int32) &&& 31))) ||| ((b3 &&& (255 : Int32)) <<< ((24 : Int32) &&& 31)))) ^^^ (own_scr ((0 : Int32) ||| (b4 &&& (255 : Int32))))) (5 : Int32))) ∧ h = h0 ∧ Fr n0 L) := by
  refine con (plainFor_of_name pnM) ?_
  intro p e s m below meth c s₁ hx hby hml hZ hown hnm hret hlk X0 e0
  refine entry (efH m a) ?_
  have M0 := Fr.nil n0
  refine s_iconst X0 hx hby (n := 1) (v := (0 : Int32)) d5_0 rfl rfl ?_
  refine s_istoreN X0 hx hby (n := 2) (L' := #[.val (.ref a), .val (.int (0 : Int32)), .unset, .unset, .unset]) d5_1 rfl rfl ?_
  refine s_aloadN X0 hx hby (n := 3) (x := (.ref a)) d5_2 rfl rfl rfl ?_
  refine s_arraylength X0 hx hby hZ (n := 4) e0 Ar (z := (5 : Int32)) Sz (by decide) d5_3 rfl ?_
  refine s_bipush X0 hx hby (n := 6) (v := (-4 : Int32)) d5_4 rfl rfl ?_
  refine s_iand X0 hx hby (n := 7) d5_6 rfl ?_
  refine s_fold (z := (4 : Int32)) (by decide) ?_
  refine s_istoreN X0 hx hby (n := 8) (L' := #[.val (.ref a), .val (.int (0 : Int32)), .val (.int (4 : Int32)), .unset, .unset]) d5_7 rfl rfl ?_
  refine s_iconst X0 hx hby (n := 9) (v := (0 : Int32)) d5_8 rfl rfl ?_
  refine s_istoreN X0 hx hby (n := 10) (L' := #[.val (.ref a), .val (.int (0 : Int32)), .val (.int (4 : Int32)), .val (.int (0 : Int32)), .unset]) d5_9 rfl rfl ?_
  refine s_iloadN X0 hx hby (n := 11) (x := (0 : Int32)) d5_10 rfl rfl ?_
  refine s_iloadN X0 hx hby (n := 12) (x := (4 : Int32)) d5_11 rfl rfl ?_
  refine s_icmpN X0 hx hby (n := 15) d5_12 (by decide) rfl ?_
  refine s_iloadN X0 hx hby (n := 16) (x := (0 : Int32)) d5_15 rfl rfl ?_
  refine s_aloadN X0 hx hby (n := 17) (x := (.ref a)) d5_16 rfl rfl rfl ?_
  refine s_iloadN X0 hx hby (n := 18) (x := (0 : Int32)) d5_17 rfl rfl ?_
  refine s_baloadC X0 hx hby hZ (n := 19) e0 Ar 0 (by decide) (by decide) (by rw [Sz]; decide) B0 d5_18 rfl ?_
  refine s_sipush X0 hx hby (n := 22) (v := (255 : Int32)) d5_19 rfl rfl ?_
  refine s_iand X0 hx hby (n := 23) d5_22 rfl ?_
  refine s_aloadN X0 hx hby (n := 24) (x := (.ref a)) d5_23 rfl rfl rfl ?_
  refine s_iloadN X0 hx hby (n := 25) (x := (0 : Int32)) d5_24 rfl rfl ?_
  refine s_iconst X0 hx hby (n := 26) (v := (1 : Int32)) d5_25 rfl rfl ?_
  refine s_iadd X0 hx hby (n := 27) d5_26 rfl ?_
  refine s_fold (z := (1 : Int32)) (by decide) ?_
  refine s_baloadC X0 hx hby hZ (n := 28) e0 Ar 1 (by decide) (by decide) (by rw [Sz]; decide) B1 d5_27 rfl ?_
  refine s_sipush X0 hx hby (n := 31) (v := (255 : Int32)) d5_28 rfl rfl ?_
  refine s_iand X0 hx hby (n := 32) d5_31 rfl ?_
  refine s_bipush X0 hx hby (n := 34) (v := (8 : Int32)) d5_32 rfl rfl ?_
  refine s_ishl X0 hx hby (n := 35) d5_34 rfl ?_
  refine s_ior X0 hx hby (n := 36) d5_35 rfl ?_
  refine s_aloadN X0 hx hby (n := 37) (x := (.ref a)) d5_36 rfl rfl rfl ?_
  refine s_iloadN X0 hx hby (n := 38) (x := (0 : Int32)) d5_37 rfl rfl ?_
  refine s_iconst X0 hx hby (n := 39) (v := (2 : Int32)) d5_38 rfl rfl ?_
  refine s_iadd X0 hx hby (n := 40) d5_39 rfl ?_
  refine s_fold (z := (2 : Int32)) (by decide) ?_
  refine s_baloadC X0 hx hby hZ (n := 41) e0 Ar 2 (by decide) (by decide) (by rw [Sz]; decide) B2 d5_40 rfl ?_
  refine s_sipush X0 hx hby (n := 44) (v := (255 : Int32)) d5_41 rfl rfl ?_
  refine s_iand X0 hx hby (n := 45) d5_44 rfl ?_
  refine s_bipush X0 hx hby (n := 47) (v := (16 : Int32)) d5_45 rfl rfl ?_
  refine s_ishl X0 hx hby (n := 48) d5_47 rfl ?_
  refine s_ior X0 hx hby (n := 49) d5_48 rfl ?_
  refine s_aloadN X0 hx hby (n := 50) (x := (.ref a)) d5_49 rfl rfl rfl ?_
  refine s_iloadN X0 hx hby (n := 51) (x := (0 : Int32)) d5_50 rfl rfl ?_
  refine s_iconst X0 hx hby (n := 52) (v := (3 : Int32)) d5_51 rfl rfl ?_
  refine s_iadd X0 hx hby (n := 53) d5_52 rfl ?_
  refine s_fold (z := (3 : Int32)) (by decide) ?_
  refine s_baloadC X0 hx hby hZ (n := 54) e0 Ar 3 (by decide) (by decide) (by rw [Sz]; decide) B3 d5_53 rfl ?_
  refine s_sipush X0 hx hby (n := 57) (v := (255 : Int32)) d5_54 rfl rfl ?_
  refine s_iand X0 hx hby (n := 58) d5_57 rfl ?_
  refine s_bipush X0 hx hby (n := 60) (v := (24 : Int32)) d5_58 rfl rfl ?_
  refine s_ishl X0 hx hby (n := 61) d5_60 rfl ?_
  refine s_ior X0 hx hby (n := 62) d5_61 rfl ?_
  refine s_callS X0 hx hby hml hZ (n := 65) hown (hw _ (List.mem_of_getElem? (i := 41) rfl)) (hw _ (List.mem_of_getElem? (i := 42) rfl)) (hw _ (List.mem_of_getElem? (i := 21) rfl)) (hw _ (List.mem_of_getElem? (i := 43) rfl)) (by decide) (rmMix l Z a0 hw (0 : Int32) ((((b0 &&& (255 : Int32)) ||| ((b1 &&& (255 : Int32)) <<< ((8 : Int32) &&& 31))) ||| ((b2 &&& (255 : Int32)) <<< ((16 : Int32) &&& 31))) ||| ((b3 &&& (255 : Int32)) <<< ((24 : Int32) &&& 31))) h0 n0) e0 (by decide) 0 (by decide) (by decide) (by decide) pd_0 [(.int (0 : Int32)), (.int ((((b0 &&& (255 : Int32)) ||| ((b1 &&& (255 : Int32)) <<< ((8 : Int32) &&& 31))) ||| ((b2 &&& (255 : Int32)) <<< ((16 : Int32) &&& 31))) ||| ((b3 &&& (255 : Int32)) <<< ((24 : Int32) &&& 31))))] [] rfl rfl rfl (Nat.le_of_eq rfl) rfl d5_62 rfl ?_
  intro T1 L1 v1 X1 q1c
  obtain ⟨rfl, e1, N1⟩ := q1c
  show OEnds p e below s _ _ _ T1 (mkF m 65 #[.val (.ref a), .val (.int (0 : Int32)), .val (.int (4 : Int32)), .val (.int (0 : Int32)), .unset] [(.int (own_mix (0 : Int32) ((((b0 &&& (255 : Int32)) ||| ((b1 &&& (255 : Int32)) <<< ((8 : Int32) &&& 31))) ||| ((b2 &&& (255 : Int32)) <<< ((16 : Int32) &&& 31))) ||| ((b3 &&& (255 : Int32)) <<< ((24 : Int32) &&& 31)))))])
  have M1 := Fr.app M0 N1
  refine s_istoreN X1 hx hby (n := 66) (L' := #[.val (.ref a), .val (.int (own_mix (0 : Int32) ((((b0 &&& (255 : Int32)) ||| ((b1 &&& (255 : Int32)) <<< ((8 : Int32) &&& 31))) ||| ((b2 &&& (255 : Int32)) <<< ((16 : Int32) &&& 31))) ||| ((b3 &&& (255 : Int32)) <<< ((24 : Int32) &&& 31))))), .val (.int (4 : Int32)), .val (.int (0 : Int32)), .unset]) d5_65 rfl rfl ?_
  refine s_iincC X1 hx hby (n := 69) (v := (4 : Int32)) (x := (0 : Int32)) (z := (4 : Int32)) (L' := #[.val (.ref a), .val (.int (own_mix (0 : Int32) ((((b0 &&& (255 : Int32)) ||| ((b1 &&& (255 : Int32)) <<< ((8 : Int32) &&& 31))) ||| ((b2 &&& (255 : Int32)) <<< ((16 : Int32) &&& 31))) ||| ((b3 &&& (255 : Int32)) <<< ((24 : Int32) &&& 31))))), .val (.int (4 : Int32)), .val (.int (4 : Int32)), .unset]) d5_66 rfl rfl (by decide) rfl rfl ?_
  refine s_goto X1 hx hby (n := 10) d5_69 (by decide) (by decide) ?_
  refine s_iloadN X1 hx hby (n := 11) (x := (4 : Int32)) d5_10 rfl rfl ?_
  refine s_iloadN X1 hx hby (n := 12) (x := (4 : Int32)) d5_11 rfl rfl ?_
  refine s_icmpY X1 hx hby (n := 72) d5_12 (by decide) (by decide) (by decide) ?_
  refine s_iloadN X1 hx hby (n := 73) (x := (4 : Int32)) d5_72 rfl rfl ?_
  refine s_aloadN X1 hx hby (n := 74) (x := (.ref a)) d5_73 rfl rfl rfl ?_
  refine s_arraylength X1 hx hby hZ (n := 75) e1 Ar (z := (5 : Int32)) Sz (by decide) d5_74 rfl ?_
  refine s_icmpN X1 hx hby (n := 78) d5_75 (by decide) rfl ?_
  refine s_iconst X1 hx hby (n := 79) (v := (0 : Int32)) d5_78 rfl rfl ?_
  refine s_istoreN X1 hx hby (n := 80) (L' := #[.val (.ref a), .val (.int (own_mix (0 : Int32) ((((b0 &&& (255 : Int32)) ||| ((b1 &&& (255 : Int32)) <<< ((8 : Int32) &&& 31))) ||| ((b2 &&& (255 : Int32)) <<< ((16 : Int32) &&& 31))) ||| ((b3 &&& (255 : Int32)) <<< ((24 : Int32) &&& 31))))), .val (.int (4 : Int32)), .val (.int (0 : Int32)), .unset]) d5_79 rfl rfl ?_
  refine s_aloadN X1 hx hby (n := 81) (x := (.ref a)) d5_80 rfl rfl rfl ?_
  refine s_arraylength X1 hx hby hZ (n := 82) e1 Ar (z := (5 : Int32)) Sz (by decide) d5_81 rfl ?_
  refine s_iconst X1 hx hby (n := 83) (v := (1 : Int32)) d5_82 rfl rfl ?_
  refine s_isub X1 hx hby (n := 84) d5_83 rfl ?_
  refine s_fold (z := (4 : Int32)) (by decide) ?_
  refine s_istore X1 hx hby (n := 86) (L' := #[.val (.ref a), .val (.int (own_mix (0 : Int32) ((((b0 &&& (255 : Int32)) ||| ((b1 &&& (255 : Int32)) <<< ((8 : Int32) &&& 31))) ||| ((b2 &&& (255 : Int32)) <<< ((16 : Int32) &&& 31))) ||| ((b3 &&& (255 : Int32)) <<< ((24 : Int32) &&& 31))))), .val (.int (4 : Int32)), .val (.int (0 : Int32)), .val (.int (4 : Int32))]) d5_84 rfl rfl ?_
  refine s_iload X1 hx hby (n := 88) (x := (4 : Int32)) d5_86 rfl rfl ?_
  refine s_iloadN X1 hx hby (n := 89) (x := (4 : Int32)) d5_88 rfl rfl ?_
  refine s_icmpN X1 hx hby (n := 92) d5_89 (by decide) rfl ?_
  refine s_iloadN X1 hx hby (n := 93) (x := (0 : Int32)) d5_92 rfl rfl ?_
  refine s_bipush X1 hx hby (n := 95) (v := (8 : Int32)) d5_93 rfl rfl ?_
  refine s_ishl X1 hx hby (n := 96) d5_95 rfl ?_
  refine s_fold (z := (0 : Int32)) (by decide) ?_
  refine s_aloadN X1 hx hby (n := 97) (x := (.ref a)) d5_96 rfl rfl rfl ?_
  refine s_iload X1 hx hby (n := 99) (x := (4 : Int32)) d5_97 rfl rfl ?_
  refine s_baloadC X1 hx hby hZ (n := 100) e1 Ar 4 (by decide) (by decide) (by rw [Sz]; decide) B4 d5_99 rfl ?_
  refine s_sipush X1 hx hby (n := 103) (v := (255 : Int32)) d5_100 rfl rfl ?_
  refine s_iand X1 hx hby (n := 104) d5_103 rfl ?_
  refine s_ior X1 hx hby (n := 105) d5_104 rfl ?_
  refine s_istoreN X1 hx hby (n := 106) (L' := #[.val (.ref a), .val (.int (own_mix (0 : Int32) ((((b0 &&& (255 : Int32)) ||| ((b1 &&& (255 : Int32)) <<< ((8 : Int32) &&& 31))) ||| ((b2 &&& (255 : Int32)) <<< ((16 : Int32) &&& 31))) ||| ((b3 &&& (255 : Int32)) <<< ((24 : Int32) &&& 31))))), .val (.int (4 : Int32)), .val (.int ((0 : Int32) ||| (b4 &&& (255 : Int32)))), .val (.int (4 : Int32))]) d5_105 rfl rfl ?_
  refine s_iincC X1 hx hby (n := 109) (v := (-1 : Int32)) (x := (4 : Int32)) (z := (3 : Int32)) (L' := #[.val (.ref a), .val (.int (own_mix (0 : Int32) ((((b0 &&& (255 : Int32)) ||| ((b1 &&& (255 : Int32)) <<< ((8 : Int32) &&& 31))) ||| ((b2 &&& (255 : Int32)) <<< ((16 : Int32) &&& 31))) ||| ((b3 &&& (255 : Int32)) <<< ((24 : Int32) &&& 31))))), .val (.int (4 : Int32)), .val (.int ((0 : Int32) ||| (b4 &&& (255 : Int32)))), .val (.int (3 : Int32))]) d5_106 rfl rfl (by decide) rfl rfl ?_
  refine s_goto X1 hx hby (n := 86) d5_109 (by decide) (by decide) ?_
  refine s_iload X1 hx hby (n := 88) (x := (3 : Int32)) d5_86 rfl rfl ?_
  refine s_iloadN X1 hx hby (n := 89) (x := (4 : Int32)) d5_88 rfl rfl ?_
  refine s_icmpY X1 hx hby (n := 112) d5_89 (by decide) (by decide) (by decide) ?_
  refine s_iloadN X1 hx hby (n := 113) (x := (own_mix (0 : Int32) ((((b0 &&& (255 : Int32)) ||| ((b1 &&& (255 : Int32)) <<< ((8 : Int32) &&& 31))) ||| ((b2 &&& (255 : Int32)) <<< ((16 : Int32) &&& 31))) ||| ((b3 &&& (255 : Int32)) <<< ((24 : Int32) &&& 31))))) d5_112 rfl rfl ?_
  refine s_iloadN X1 hx hby (n := 114) (x := ((0 : Int32) ||| (b4 &&& (255 : Int32)))) d5_113 rfl rfl ?_
  refine s_callS X1 hx hby hml hZ (n := 117) hown (hw _ (List.mem_of_getElem? (i := 23) rfl)) (hw _ (List.mem_of_getElem? (i := 24) rfl)) (hw _ (List.mem_of_getElem? (i := 21) rfl)) (hw _ (List.mem_of_getElem? (i := 25) rfl)) (by decide) (rmScr l Z a0 hw ((0 : Int32) ||| (b4 &&& (255 : Int32))) h0 n0) e1 (by decide) 1 (by decide) (by decide) (by decide) pd_1 [(.int ((0 : Int32) ||| (b4 &&& (255 : Int32))))] [(.int (own_mix (0 : Int32) ((((b0 &&& (255 : Int32)) ||| ((b1 &&& (255 : Int32)) <<< ((8 : Int32) &&& 31))) ||| ((b2 &&& (255 : Int32)) <<< ((16 : Int32) &&& 31))) ||| ((b3 &&& (255 : Int32)) <<< ((24 : Int32) &&& 31)))))] rfl rfl rfl (Nat.le_of_eq rfl) rfl d5_114 rfl ?_
  intro T2 L2 v2 X2 q2c
  obtain ⟨rfl, e2, N2⟩ := q2c
  show OEnds p e below s _ _ _ T2 (mkF m 117 #[.val (.ref a), .val (.int (own_mix (0 : Int32) ((((b0 &&& (255 : Int32)) ||| ((b1 &&& (255 : Int32)) <<< ((8 : Int32) &&& 31))) ||| ((b2 &&& (255 : Int32)) <<< ((16 : Int32) &&& 31))) ||| ((b3 &&& (255 : Int32)) <<< ((24 : Int32) &&& 31))))), .val (.int (4 : Int32)), .val (.int ((0 : Int32) ||| (b4 &&& (255 : Int32)))), .val (.int (3 : Int32))] [(.int (own_scr ((0 : Int32) ||| (b4 &&& (255 : Int32))))), (.int (own_mix (0 : Int32) ((((b0 &&& (255 : Int32)) ||| ((b1 &&& (255 : Int32)) <<< ((8 : Int32) &&& 31))) ||| ((b2 &&& (255 : Int32)) <<< ((16 : Int32) &&& 31))) ||| ((b3 &&& (255 : Int32)) <<< ((24 : Int32) &&& 31)))))])
  have M2 := Fr.app M1 N2
  refine s_ixor X2 hx hby (n := 118) d5_117 rfl ?_
  refine s_istoreN X2 hx hby (n := 119) (L' := #[.val (.ref a), .val (.int ((own_mix (0 : Int32) ((((b0 &&& (255 : Int32)) ||| ((b1 &&& (255 : Int32)) <<< ((8 : Int32) &&& 31))) ||| ((b2 &&& (255 : Int32)) <<< ((16 : Int32) &&& 31))) ||| ((b3 &&& (255 : Int32)) <<< ((24 : Int32) &&& 31)))) ^^^ (own_scr ((0 : Int32) ||| (b4 &&& (255 : Int32)))))), .val (.int (4 : Int32)), .val (.int ((0 : Int32) ||| (b4 &&& (255 : Int32)))), .val (.int (3 : Int32))]) d5_118 rfl rfl ?_
  refine s_iloadN X2 hx hby (n := 120) (x := ((own_mix (0 : Int32) ((((b0 &&& (255 : Int32)) ||| ((b1 &&& (255 : Int32)) <<< ((8 : Int32) &&& 31))) ||| ((b2 &&& (255 : Int32)) <<< ((16 : Int32) &&& 31))) ||| ((b3 &&& (255 : Int32)) <<< ((24 : Int32) &&& 31)))) ^^^ (own_scr ((0 : Int32) ||| (b4 &&& (255 : Int32)))))) d5_119 rfl rfl ?_
  refine s_aloadN X2 hx hby (n := 121) (x := (.ref a)) d5_120 rfl rfl rfl ?_
  refine s_arraylength X2 hx hby hZ (n := 122) e2 Ar (z := (5 : Int32)) Sz (by decide) d5_121 rfl ?_
  refine s_callS X2 hx hby hml hZ (n := 125) hown (hw _ (List.mem_of_getElem? (i := 32) rfl)) (hw _ (List.mem_of_getElem? (i := 33) rfl)) (hw _ (List.mem_of_getElem? (i := 21) rfl)) (hw _ (List.mem_of_getElem? (i := 34) rfl)) (by decide) (rmFin l Z a0 hw ((own_mix (0 : Int32) ((((b0 &&& (255 : Int32)) ||| ((b1 &&& (255 : Int32)) <<< ((8 : Int32) &&& 31))) ||| ((b2 &&& (255 : Int32)) <<< ((16 : Int32) &&& 31))) ||| ((b3 &&& (255 : Int32)) <<< ((24 : Int32) &&& 31)))) ^^^ (own_scr ((0 : Int32) ||| (b4 &&& (255 : Int32))))) (5 : Int32) h0 n0) e2 (by decide) 0 (by decide) (by decide) (by decide) pd_0 [(.int ((own_mix (0 : Int32) ((((b0 &&& (255 : Int32)) ||| ((b1 &&& (255 : Int32)) <<< ((8 : Int32) &&& 31))) ||| ((b2 &&& (255 : Int32)) <<< ((16 : Int32) &&& 31))) ||| ((b3 &&& (255 : Int32)) <<< ((24 : Int32) &&& 31)))) ^^^ (own_scr ((0 : Int32) ||| (b4 &&& (255 : Int32)))))), (.int (5 : Int32))] [] rfl rfl rfl (Nat.le_of_eq rfl) rfl d5_122 rfl ?_
  intro T3 L3 v3 X3 q3c
  obtain ⟨rfl, e3, N3⟩ := q3c
  show OEnds p e below s _ _ _ T3 (mkF m 125 #[.val (.ref a), .val (.int ((own_mix (0 : Int32) ((((b0 &&& (255 : Int32)) ||| ((b1 &&& (255 : Int32)) <<< ((8 : Int32) &&& 31))) ||| ((b2 &&& (255 : Int32)) <<< ((16 : Int32) &&& 31))) ||| ((b3 &&& (255 : Int32)) <<< ((24 : Int32) &&& 31)))) ^^^ (own_scr ((0 : Int32) ||| (b4 &&& (255 : Int32)))))), .val (.int (4 : Int32)), .val (.int ((0 : Int32) ||| (b4 &&& (255 : Int32)))), .val (.int (3 : Int32))] [(.int (own_fin ((own_mix (0 : Int32) ((((b0 &&& (255 : Int32)) ||| ((b1 &&& (255 : Int32)) <<< ((8 : Int32) &&& 31))) ||| ((b2 &&& (255 : Int32)) <<< ((16 : Int32) &&& 31))) ||| ((b3 &&& (255 : Int32)) <<< ((24 : Int32) &&& 31)))) ^^^ (own_scr ((0 : Int32) ||| (b4 &&& (255 : Int32))))) (5 : Int32)))])
  have M3 := Fr.app M2 N3
  exact s_retI X3 hx hby hlk hret d5_125 (by decide) (by decide) ⟨rfl, e3, M3⟩
set_option maxRecDepth 65536 in
set_option maxHeartbeats 40000000 in
theorem rmH6 (l : Launch) (Z : State) (a0 : Array Value) (hw : ∀ d ∈ tables_1, d.before a0 Z = true) (a : Addr) (cl : Cell) (b0 b1 b2 b3 b4 b5 : Int32) (h0 : Heap) (n0 : Nat) (Ar : Arr Z h0 a cl .byte) (Sz : cl.slots.size = (6 : Int32).toNatClampNeg) (B0 : cl.slots[0]? = some (.int b0)) (B1 : cl.slots[1]? = some (.int b1)) (B2 : cl.slots[2]? = some (.int b2)) (B3 : cl.slots[3]? = some (.int b3)) (B4 : cl.slots[4]? = some (.int b4)) (B5 : cl.slots[5]? = some (.int b5)) :
    OCon l Z (⟨"com/example/floe/floe/Murmur3", "hash", "([B)I"⟩ : MethodName) prog_8_method_2_code 5 (some (.int)) [] ({ frames := 3, cells := 0, slots := 0, locals := 43 } : Room) #[(.ref a)] h0 (fun v h L => v = some (.int (own_fin ((own_mix (0 : Int32) ((((b0 &&& (255 : Int32)) ||| ((b1 &&& (255 : Int32)) <<< ((8 : Int32) &&& 31))) ||| ((b2 &&& (255 : Int32)) <<< ((16 : Int32) &&& 31))) ||| ((b3 &&& (255 : Int32)) <<< ((24 : Int32) &&& 31)))) ^^^ (own_scr ((((0 : Int32) ||| (b5 &&& (255 : Int32))) <<< ((8 : Int32) &&& 31)) ||| (b4 &&& (255 : Int32))))) (6 : Int32))) ∧ h = h0 ∧ Fr n0 L) := by
  refine con (plainFor_of_name pnM) ?_
  intro p e s m below meth c s₁ hx hby hml hZ hown hnm hret hlk X0 e0
  refine entry (efH m a) ?_
  have M0 := Fr.nil n0
  refine s_iconst X0 hx hby (n := 1) (v := (0 : Int32)) d5_0 rfl rfl ?_
  refine s_istoreN X0 hx hby (n := 2) (L' := #[.val (.ref a), .val (.int (0 : Int32)), .unset, .unset, .unset]) d5_1 rfl rfl ?_
  refine s_aloadN X0 hx hby (n := 3) (x := (.ref a)) d5_2 rfl rfl rfl ?_
  refine s_arraylength X0 hx hby hZ (n := 4) e0 Ar (z := (6 : Int32)) Sz (by decide) d5_3 rfl ?_
  refine s_bipush X0 hx hby (n := 6) (v := (-4 : Int32)) d5_4 rfl rfl ?_
  refine s_iand X0 hx hby (n := 7) d5_6 rfl ?_
  refine s_fold (z := (4 : Int32)) (by decide) ?_
  refine s_istoreN X0 hx hby (n := 8) (L' := #[.val (.ref a), .val (.int (0 : Int32)), .val (.int (4 : Int32)), .unset, .unset]) d5_7 rfl rfl ?_
  refine s_iconst X0 hx hby (n := 9) (v := (0 : Int32)) d5_8 rfl rfl ?_
  refine s_istoreN X0 hx hby (n := 10) (L' := #[.val (.ref a), .val (.int (0 : Int32)), .val (.int (4 : Int32)), .val (.int (0 : Int32)), .unset]) d5_9 rfl rfl ?_
  refine s_iloadN X0 hx hby (n := 11) (x := (0 : Int32)) d5_10 rfl rfl ?_
  refine s_iloadN X0 hx hby (n := 12) (x := (4 : Int32)) d5_11 rfl rfl ?_
  refine s_icmpN X0 hx hby (n := 15) d5_12 (by decide) rfl ?_
  refine s_iloadN X0 hx hby (n := 16) (x := (0 : Int32)) d5_15 rfl rfl ?_
  refine s_aloadN X0 hx hby (n := 17) (x := (.ref a)) d5_16 rfl rfl rfl ?_
  refine s_iloadN X0 hx hby (n := 18) (x := (0 : Int32)) d5_17 rfl rfl ?_
  refine s_baloadC X0 hx hby hZ (n := 19) e0 Ar 0 (by decide) (by decide) (by rw [Sz]; decide) B0 d5_18 rfl ?_
  refine s_sipush X0 hx hby (n := 22) (v := (255 : Int32)) d5_19 rfl rfl ?_
  refine s_iand X0 hx hby (n := 23) d5_22 rfl ?_
  refine s_aloadN X0 hx hby (n := 24) (x := (.ref a)) d5_23 rfl rfl rfl ?_
  refine s_iloadN X0 hx hby (n := 25) (x := (0 : Int32)) d5_24 rfl rfl ?_
  refine s_iconst X0 hx hby (n := 26) (v := (1 : Int32)) d5_25 rfl rfl ?_
  refine s_iadd X0 hx hby (n := 27) d5_26 rfl ?_
  refine s_fold (z := (1 : Int32)) (by decide) ?_
  refine s_baloadC X0 hx hby hZ (n := 28) e0 Ar 1 (by decide) (by decide) (by rw [Sz]; decide) B1 d5_27 rfl ?_
  refine s_sipush X0 hx hby (n := 31) (v := (255 : Int32)) d5_28 rfl rfl ?_
  refine s_iand X0 hx hby (n := 32) d5_31 rfl ?_
  refine s_bipush X0 hx hby (n := 34) (v := (8 : Int32)) d5_32 rfl rfl ?_
  refine s_ishl X0 hx hby (n := 35) d5_34 rfl ?_
  refine s_ior X0 hx hby (n := 36) d5_35 rfl ?_
  refine s_aloadN X0 hx hby (n := 37) (x := (.ref a)) d5_36 rfl rfl rfl ?_
  refine s_iloadN X0 hx hby (n := 38) (x := (0 : Int32)) d5_37 rfl rfl ?_
  refine s_iconst X0 hx hby (n := 39) (v := (2 : Int32)) d5_38 rfl rfl ?_
  refine s_iadd X0 hx hby (n := 40) d5_39 rfl ?_
  refine s_fold (z := (2 : Int32)) (by decide) ?_
  refine s_baloadC X0 hx hby hZ (n := 41) e0 Ar 2 (by decide) (by decide) (by rw [Sz]; decide) B2 d5_40 rfl ?_
  refine s_sipush X0 hx hby (n := 44) (v := (255 : Int32)) d5_41 rfl rfl ?_
  refine s_iand X0 hx hby (n := 45) d5_44 rfl ?_
  refine s_bipush X0 hx hby (n := 47) (v := (16 : Int32)) d5_45 rfl rfl ?_
  refine s_ishl X0 hx hby (n := 48) d5_47 rfl ?_
  refine s_ior X0 hx hby (n := 49) d5_48 rfl ?_
  refine s_aloadN X0 hx hby (n := 50) (x := (.ref a)) d5_49 rfl rfl rfl ?_
  refine s_iloadN X0 hx hby (n := 51) (x := (0 : Int32)) d5_50 rfl rfl ?_
  refine s_iconst X0 hx hby (n := 52) (v := (3 : Int32)) d5_51 rfl rfl ?_
  refine s_iadd X0 hx hby (n := 53) d5_52 rfl ?_
  refine s_fold (z := (3 : Int32)) (by decide) ?_
  refine s_baloadC X0 hx hby hZ (n := 54) e0 Ar 3 (by decide) (by decide) (by rw [Sz]; decide) B3 d5_53 rfl ?_
  refine s_sipush X0 hx hby (n := 57) (v := (255 : Int32)) d5_54 rfl rfl ?_
  refine s_iand X0 hx hby (n := 58) d5_57 rfl ?_
  refine s_bipush X0 hx hby (n := 60) (v := (24 : Int32)) d5_58 rfl rfl ?_
  refine s_ishl X0 hx hby (n := 61) d5_60 rfl ?_
  refine s_ior X0 hx hby (n := 62) d5_61 rfl ?_
  refine s_callS X0 hx hby hml hZ (n := 65) hown (hw _ (List.mem_of_getElem? (i := 41) rfl)) (hw _ (List.mem_of_getElem? (i := 42) rfl)) (hw _ (List.mem_of_getElem? (i := 21) rfl)) (hw _ (List.mem_of_getElem? (i := 43) rfl)) (by decide) (rmMix l Z a0 hw (0 : Int32) ((((b0 &&& (255 : Int32)) ||| ((b1 &&& (255 : Int32)) <<< ((8 : Int32) &&& 31))) ||| ((b2 &&& (255 : Int32)) <<< ((16 : Int32) &&& 31))) ||| ((b3 &&& (255 : Int32)) <<< ((24 : Int32) &&& 31))) h0 n0) e0 (by decide) 0 (by decide) (by decide) (by decide) pd_0 [(.int (0 : Int32)), (.int ((((b0 &&& (255 : Int32)) ||| ((b1 &&& (255 : Int32)) <<< ((8 : Int32) &&& 31))) ||| ((b2 &&& (255 : Int32)) <<< ((16 : Int32) &&& 31))) ||| ((b3 &&& (255 : Int32)) <<< ((24 : Int32) &&& 31))))] [] rfl rfl rfl (Nat.le_of_eq rfl) rfl d5_62 rfl ?_
  intro T1 L1 v1 X1 q1c
  obtain ⟨rfl, e1, N1⟩ := q1c
  show OEnds p e below s _ _ _ T1 (mkF m 65 #[.val (.ref a), .val (.int (0 : Int32)), .val (.int (4 : Int32)), .val (.int (0 : Int32)), .unset] [(.int (own_mix (0 : Int32) ((((b0 &&& (255 : Int32)) ||| ((b1 &&& (255 : Int32)) <<< ((8 : Int32) &&& 31))) ||| ((b2 &&& (255 : Int32)) <<< ((16 : Int32) &&& 31))) ||| ((b3 &&& (255 : Int32)) <<< ((24 : Int32) &&& 31)))))])
  have M1 := Fr.app M0 N1
  refine s_istoreN X1 hx hby (n := 66) (L' := #[.val (.ref a), .val (.int (own_mix (0 : Int32) ((((b0 &&& (255 : Int32)) ||| ((b1 &&& (255 : Int32)) <<< ((8 : Int32) &&& 31))) ||| ((b2 &&& (255 : Int32)) <<< ((16 : Int32) &&& 31))) ||| ((b3 &&& (255 : Int32)) <<< ((24 : Int32) &&& 31))))), .val (.int (4 : Int32)), .val (.int (0 : Int32)), .unset]) d5_65 rfl rfl ?_
  refine s_iincC X1 hx hby (n := 69) (v := (4 : Int32)) (x := (0 : Int32)) (z := (4 : Int32)) (L' := #[.val (.ref a), .val (.int (own_mix (0 : Int32) ((((b0 &&& (255 : Int32)) ||| ((b1 &&& (255 : Int32)) <<< ((8 : Int32) &&& 31))) ||| ((b2 &&& (255 : Int32)) <<< ((16 : Int32) &&& 31))) ||| ((b3 &&& (255 : Int32)) <<< ((24 : Int32) &&& 31))))), .val (.int (4 : Int32)), .val (.int (4 : Int32)), .unset]) d5_66 rfl rfl (by decide) rfl rfl ?_
  refine s_goto X1 hx hby (n := 10) d5_69 (by decide) (by decide) ?_
  refine s_iloadN X1 hx hby (n := 11) (x := (4 : Int32)) d5_10 rfl rfl ?_
  refine s_iloadN X1 hx hby (n := 12) (x := (4 : Int32)) d5_11 rfl rfl ?_
  refine s_icmpY X1 hx hby (n := 72) d5_12 (by decide) (by decide) (by decide) ?_
  refine s_iloadN X1 hx hby (n := 73) (x := (4 : Int32)) d5_72 rfl rfl ?_
  refine s_aloadN X1 hx hby (n := 74) (x := (.ref a)) d5_73 rfl rfl rfl ?_
  refine s_arraylength X1 hx hby hZ (n := 75) e1 Ar (z := (6 : Int32)) Sz (by decide) d5_74 rfl ?_
  refine s_icmpN X1 hx hby (n := 78) d5_75 (by decide) rfl ?_
  refine s_iconst X1 hx hby (n := 79) (v := (0 : Int32)) d5_78 rfl rfl ?_
  refine s_istoreN X1 hx hby (n := 80) (L' := #[.val (.ref a), .val (.int (own_mix (0 : Int32) ((((b0 &&& (255 : Int32)) ||| ((b1 &&& (255 : Int32)) <<< ((8 : Int32) &&& 31))) ||| ((b2 &&& (255 : Int32)) <<< ((16 : Int32) &&& 31))) ||| ((b3 &&& (255 : Int32)) <<< ((24 : Int32) &&& 31))))), .val (.int (4 : Int32)), .val (.int (0 : Int32)), .unset]) d5_79 rfl rfl ?_
  refine s_aloadN X1 hx hby (n := 81) (x := (.ref a)) d5_80 rfl rfl rfl ?_
  refine s_arraylength X1 hx hby hZ (n := 82) e1 Ar (z := (6 : Int32)) Sz (by decide) d5_81 rfl ?_
  refine s_iconst X1 hx hby (n := 83) (v := (1 : Int32)) d5_82 rfl rfl ?_
  refine s_isub X1 hx hby (n := 84) d5_83 rfl ?_
  refine s_fold (z := (5 : Int32)) (by decide) ?_
  refine s_istore X1 hx hby (n := 86) (L' := #[.val (.ref a), .val (.int (own_mix (0 : Int32) ((((b0 &&& (255 : Int32)) ||| ((b1 &&& (255 : Int32)) <<< ((8 : Int32) &&& 31))) ||| ((b2 &&& (255 : Int32)) <<< ((16 : Int32) &&& 31))) ||| ((b3 &&& (255 : Int32)) <<< ((24 : Int32) &&& 31))))), .val (.int (4 : Int32)), .val (.int (0 : Int32)), .val (.int (5 : Int32))]) d5_84 rfl rfl ?_
  refine s_iload X1 hx hby (n := 88) (x := (5 : Int32)) d5_86 rfl rfl ?_
  refine s_iloadN X1 hx hby (n := 89) (x := (4 : Int32)) d5_88 rfl rfl ?_
  refine s_icmpN X1 hx hby (n := 92) d5_89 (by decide) rfl ?_
  refine s_iloadN X1 hx hby (n := 93) (x := (0 : Int32)) d5_92 rfl rfl ?_
  refine s_bipush X1 hx hby (n := 95) (v := (8 : Int32)) d5_93 rfl rfl ?_
  refine s_ishl X1 hx hby (n := 96) d5_95 rfl ?_
  refine s_fold (z := (0 : Int32)) (by decide) ?_
  refine s_aloadN X1 hx hby (n := 97) (x := (.ref a)) d5_96 rfl rfl rfl ?_
  refine s_iload X1 hx hby (n := 99) (x := (5 : Int32)) d5_97 rfl rfl ?_
  refine s_baloadC X1 hx hby hZ (n := 100) e1 Ar 5 (by decide) (by decide) (by rw [Sz]; decide) B5 d5_99 rfl ?_
  refine s_sipush X1 hx hby (n := 103) (v := (255 : Int32)) d5_100 rfl rfl ?_
  refine s_iand X1 hx hby (n := 104) d5_103 rfl ?_
  refine s_ior X1 hx hby (n := 105) d5_104 rfl ?_
  refine s_istoreN X1 hx hby (n := 106) (L' := #[.val (.ref a), .val (.int (own_mix (0 : Int32) ((((b0 &&& (255 : Int32)) ||| ((b1 &&& (255 : Int32)) <<< ((8 : Int32) &&& 31))) ||| ((b2 &&& (255 : Int32)) <<< ((16 : Int32) &&& 31))) ||| ((b3 &&& (255 : Int32)) <<< ((24 : Int32) &&& 31))))), .val (.int (4 : Int32)), .val (.int ((0 : Int32) ||| (b5 &&& (255 : Int32)))), .val (.int (5 : Int32))]) d5_105 rfl rfl ?_
  refine s_iincC X1 hx hby (n := 109) (v := (-1 : Int32)) (x := (5 : Int32)) (z := (4 : Int32)) (L' := #[.val (.ref a), .val (.int (own_mix (0 : Int32) ((((b0 &&& (255 : Int32)) ||| ((b1 &&& (255 : Int32)) <<< ((8 : Int32) &&& 31))) ||| ((b2 &&& (255 : Int32)) <<< ((16 : Int32) &&& 31))) ||| ((b3 &&& (255 : Int32)) <<< ((24 : Int32) &&& 31))))), .val (.int (4 : Int32)), .val (.int ((0 : Int32) ||| (b5 &&& (255 : Int32)))), .val (.int (4 : Int32))]) d5_106 rfl rfl (by decide) rfl rfl ?_
  refine s_goto X1 hx hby (n := 86) d5_109 (by decide) (by decide) ?_
  refine s_iload X1 hx hby (n := 88) (x := (4 : Int32)) d5_86 rfl rfl ?_
  refine s_iloadN X1 hx hby (n := 89) (x := (4 : Int32)) d5_88 rfl rfl ?_
  refine s_icmpN X1 hx hby (n := 92) d5_89 (by decide) rfl ?_
  refine s_iloadN X1 hx hby (n := 93) (x := ((0 : Int32) ||| (b5 &&& (255 : Int32)))) d5_92 rfl rfl ?_
  refine s_bipush X1 hx hby (n := 95) (v := (8 : Int32)) d5_93 rfl rfl ?_
  refine s_ishl X1 hx hby (n := 96) d5_95 rfl ?_
  refine s_aloadN X1 hx hby (n := 97) (x := (.ref a)) d5_96 rfl rfl rfl ?_
  refine s_iload X1 hx hby (n := 99) (x := (4 : Int32)) d5_97 rfl rfl ?_
  refine s_baloadC X1 hx hby hZ (n := 100) e1 Ar 4 (by decide) (by decide) (by rw [Sz]; decide) B4 d5_99 rfl ?_
  refine s_sipush X1 hx hby (n := 103) (v := (255 : Int32)) d5_100 rfl rfl ?_
  refine s_iand X1 hx hby (n := 104) d5_103 rfl ?_
  refine s_ior X1 hx hby (n := 105) d5_104 rfl ?_
  refine s_istoreN X1 hx hby (n := 106) (L' := #[.val (.ref a), .val (.int (own_mix (0 : Int32) ((((b0 &&& (255 : Int32)) ||| ((b1 &&& (255 : Int32)) <<< ((8 : Int32) &&& 31))) ||| ((b2 &&& (255 : Int32)) <<< ((16 : Int32) &&& 31))) ||| ((b3 &&& (255 : Int32)) <<< ((24 : Int32) &&& 31))))), .val (.int (4 : Int32)), .val (.int ((((0 : Int32) ||| (b5 &&& (255 : Int32))) <<< ((8 : Int32) &&& 31)) ||| (b4 &&& (255 : Int32)))), .val (.int (4 : Int32))]) d5_105 rfl rfl ?_
  refine s_iincC X1 hx hby (n := 109) (v := (-1 : Int32)) (x := (4 : Int32)) (z := (3 : Int32)) (L' := #[.val (.ref a), .val (.int (own_mix (0 : Int32) ((((b0 &&& (255 : Int32)) ||| ((b1 &&& (255 : Int32)) <<< ((8 : Int32) &&& 31))) ||| ((b2 &&& (255 : Int32)) <<< ((16 : Int32) &&& 31))) ||| ((b3 &&& (255 : Int32)) <<< ((24 : Int32) &&& 31))))), .val (.int (4 : Int32)), .val (.int ((((0 : Int32) ||| (b5 &&& (255 : Int32))) <<< ((8 : Int32) &&& 31)) ||| (b4 &&& (255 : Int32)))), .val (.int (3 : Int32))]) d5_106 rfl rfl (by decide) rfl rfl ?_
  refine s_goto X1 hx hby (n := 86) d5_109 (by decide) (by decide) ?_
  refine s_iload X1 hx hby (n := 88) (x := (3 : Int32)) d5_86 rfl rfl ?_
  refine s_iloadN X1 hx hby (n := 89) (x := (4 : Int32)) d5_88 rfl rfl ?_
  refine s_icmpY X1 hx hby (n := 112) d5_89 (by decide) (by decide) (by decide) ?_
  refine s_iloadN X1 hx hby (n := 113) (x := (own_mix (0 : Int32) ((((b0 &&& (255 : Int32)) ||| ((b1 &&& (255 : Int32)) <<< ((8 : Int32) &&& 31))) ||| ((b2 &&& (255 : Int32)) <<< ((16 : Int32) &&& 31))) ||| ((b3 &&& (255 : Int32)) <<< ((24 : Int32) &&& 31))))) d5_112 rfl rfl ?_
  refine s_iloadN X1 hx hby (n := 114) (x := ((((0 : Int32) ||| (b5 &&& (255 : Int32))) <<< ((8 : Int32) &&& 31)) ||| (b4 &&& (255 : Int32)))) d5_113 rfl rfl ?_
  refine s_callS X1 hx hby hml hZ (n := 117) hown (hw _ (List.mem_of_getElem? (i := 23) rfl)) (hw _ (List.mem_of_getElem? (i := 24) rfl)) (hw _ (List.mem_of_getElem? (i := 21) rfl)) (hw _ (List.mem_of_getElem? (i := 25) rfl)) (by decide) (rmScr l Z a0 hw ((((0 : Int32) ||| (b5 &&& (255 : Int32))) <<< ((8 : Int32) &&& 31)) ||| (b4 &&& (255 : Int32))) h0 n0) e1 (by decide) 1 (by decide) (by decide) (by decide) pd_1 [(.int ((((0 : Int32) ||| (b5 &&& (255 : Int32))) <<< ((8 : Int32) &&& 31)) ||| (b4 &&& (255 : Int32))))] [(.int (own_mix (0 : Int32) ((((b0 &&& (255 : Int32)) ||| ((b1 &&& (255 : Int32)) <<< ((8 : Int32) &&& 31))) ||| ((b2 &&& (255 : Int32)) <<< ((16 : Int32) &&& 31))) ||| ((b3 &&& (255 : Int32)) <<< ((24 : Int32) &&& 31)))))] rfl rfl rfl (Nat.le_of_eq rfl) rfl d5_114 rfl ?_
  intro T2 L2 v2 X2 q2c
  obtain ⟨rfl, e2, N2⟩ := q2c
  show OEnds p e below s _ _ _ T2 (mkF m 117 #[.val (.ref a), .val (.int (own_mix (0 : Int32) ((((b0 &&& (255 : Int32)) ||| ((b1 &&& (255 : Int32)) <<< ((8 : Int32) &&& 31))) ||| ((b2 &&& (255 : Int32)) <<< ((16 : Int32) &&& 31))) ||| ((b3 &&& (255 : Int32)) <<< ((24 : Int32) &&& 31))))), .val (.int (4 : Int32)), .val (.int ((((0 : Int32) ||| (b5 &&& (255 : Int32))) <<< ((8 : Int32) &&& 31)) ||| (b4 &&& (255 : Int32)))), .val (.int (3 : Int32))] [(.int (own_scr ((((0 : Int32) ||| (b5 &&& (255 : Int32))) <<< ((8 : Int32) &&& 31)) ||| (b4 &&& (255 : Int32))))), (.int (own_mix (0 : Int32) ((((b0 &&& (255 : Int32)) ||| ((b1 &&& (255 : Int32)) <<< ((8 : Int32) &&& 31))) ||| ((b2 &&& (255 : Int32)) <<< ((16 : Int32) &&& 31))) ||| ((b3 &&& (255 : Int32)) <<< ((24 : Int32) &&& 31)))))])
  have M2 := Fr.app M1 N2
  refine s_ixor X2 hx hby (n := 118) d5_117 rfl ?_
  refine s_istoreN X2 hx hby (n := 119) (L' := #[.val (.ref a), .val (.int ((own_mix (0 : Int32) ((((b0 &&& (255 : Int32)) ||| ((b1 &&& (255 : Int32)) <<< ((8 : Int32) &&& 31))) ||| ((b2 &&& (255 : Int32)) <<< ((16 : Int32) &&& 31))) ||| ((b3 &&& (255 : Int32)) <<< ((24 : Int32) &&& 31)))) ^^^ (own_scr ((((0 : Int32) ||| (b5 &&& (255 : Int32))) <<< ((8 : Int32) &&& 31)) ||| (b4 &&& (255 : Int32)))))), .val (.int (4 : Int32)), .val (.int ((((0 : Int32) ||| (b5 &&& (255 : Int32))) <<< ((8 : Int32) &&& 31)) ||| (b4 &&& (255 : Int32)))), .val (.int (3 : Int32))]) d5_118 rfl rfl ?_
  refine s_iloadN X2 hx hby (n := 120) (x := ((own_mix (0 : Int32) ((((b0 &&& (255 : Int32)) ||| ((b1 &&& (255 : Int32)) <<< ((8 : Int32) &&& 31))) ||| ((b2 &&& (255 : Int32)) <<< ((16 : Int32) &&& 31))) ||| ((b3 &&& (255 : Int32)) <<< ((24 : Int32) &&& 31)))) ^^^ (own_scr ((((0 : Int32) ||| (b5 &&& (255 : Int32))) <<< ((8 : Int32) &&& 31)) ||| (b4 &&& (255 : Int32)))))) d5_119 rfl rfl ?_
  refine s_aloadN X2 hx hby (n := 121) (x := (.ref a)) d5_120 rfl rfl rfl ?_
  refine s_arraylength X2 hx hby hZ (n := 122) e2 Ar (z := (6 : Int32)) Sz (by decide) d5_121 rfl ?_
  refine s_callS X2 hx hby hml hZ (n := 125) hown (hw _ (List.mem_of_getElem? (i := 32) rfl)) (hw _ (List.mem_of_getElem? (i := 33) rfl)) (hw _ (List.mem_of_getElem? (i := 21) rfl)) (hw _ (List.mem_of_getElem? (i := 34) rfl)) (by decide) (rmFin l Z a0 hw ((own_mix (0 : Int32) ((((b0 &&& (255 : Int32)) ||| ((b1 &&& (255 : Int32)) <<< ((8 : Int32) &&& 31))) ||| ((b2 &&& (255 : Int32)) <<< ((16 : Int32) &&& 31))) ||| ((b3 &&& (255 : Int32)) <<< ((24 : Int32) &&& 31)))) ^^^ (own_scr ((((0 : Int32) ||| (b5 &&& (255 : Int32))) <<< ((8 : Int32) &&& 31)) ||| (b4 &&& (255 : Int32))))) (6 : Int32) h0 n0) e2 (by decide) 0 (by decide) (by decide) (by decide) pd_0 [(.int ((own_mix (0 : Int32) ((((b0 &&& (255 : Int32)) ||| ((b1 &&& (255 : Int32)) <<< ((8 : Int32) &&& 31))) ||| ((b2 &&& (255 : Int32)) <<< ((16 : Int32) &&& 31))) ||| ((b3 &&& (255 : Int32)) <<< ((24 : Int32) &&& 31)))) ^^^ (own_scr ((((0 : Int32) ||| (b5 &&& (255 : Int32))) <<< ((8 : Int32) &&& 31)) ||| (b4 &&& (255 : Int32)))))), (.int (6 : Int32))] [] rfl rfl rfl (Nat.le_of_eq rfl) rfl d5_122 rfl ?_
  intro T3 L3 v3 X3 q3c
  obtain ⟨rfl, e3, N3⟩ := q3c
  show OEnds p e below s _ _ _ T3 (mkF m 125 #[.val (.ref a), .val (.int ((own_mix (0 : Int32) ((((b0 &&& (255 : Int32)) ||| ((b1 &&& (255 : Int32)) <<< ((8 : Int32) &&& 31))) ||| ((b2 &&& (255 : Int32)) <<< ((16 : Int32) &&& 31))) ||| ((b3 &&& (255 : Int32)) <<< ((24 : Int32) &&& 31)))) ^^^ (own_scr ((((0 : Int32) ||| (b5 &&& (255 : Int32))) <<< ((8 : Int32) &&& 31)) ||| (b4 &&& (255 : Int32)))))), .val (.int (4 : Int32)), .val (.int ((((0 : Int32) ||| (b5 &&& (255 : Int32))) <<< ((8 : Int32) &&& 31)) ||| (b4 &&& (255 : Int32)))), .val (.int (3 : Int32))] [(.int (own_fin ((own_mix (0 : Int32) ((((b0 &&& (255 : Int32)) ||| ((b1 &&& (255 : Int32)) <<< ((8 : Int32) &&& 31))) ||| ((b2 &&& (255 : Int32)) <<< ((16 : Int32) &&& 31))) ||| ((b3 &&& (255 : Int32)) <<< ((24 : Int32) &&& 31)))) ^^^ (own_scr ((((0 : Int32) ||| (b5 &&& (255 : Int32))) <<< ((8 : Int32) &&& 31)) ||| (b4 &&& (255 : Int32))))) (6 : Int32)))])
  have M3 := Fr.app M2 N3
  exact s_retI X3 hx hby hlk hret d5_125 (by decide) (by decide) ⟨rfl, e3, M3⟩
set_option maxRecDepth 65536 in
set_option maxHeartbeats 40000000 in
theorem rmH7 (l : Launch) (Z : State) (a0 : Array Value) (hw : ∀ d ∈ tables_1, d.before a0 Z = true) (a : Addr) (cl : Cell) (b0 b1 b2 b3 b4 b5 b6 : Int32) (h0 : Heap) (n0 : Nat) (Ar : Arr Z h0 a cl .byte) (Sz : cl.slots.size = (7 : Int32).toNatClampNeg) (B0 : cl.slots[0]? = some (.int b0)) (B1 : cl.slots[1]? = some (.int b1)) (B2 : cl.slots[2]? = some (.int b2)) (B3 : cl.slots[3]? = some (.int b3)) (B4 : cl.slots[4]? = some (.int b4)) (B5 : cl.slots[5]? = some (.int b5)) (B6 : cl.slots[6]? = some (.int b6)) :
    OCon l Z (⟨"com/example/floe/floe/Murmur3", "hash", "([B)I"⟩ : MethodName) prog_8_method_2_code 5 (some (.int)) [] ({ frames := 3, cells := 0, slots := 0, locals := 43 } : Room) #[(.ref a)] h0 (fun v h L => v = some (.int (own_fin ((own_mix (0 : Int32) ((((b0 &&& (255 : Int32)) ||| ((b1 &&& (255 : Int32)) <<< ((8 : Int32) &&& 31))) ||| ((b2 &&& (255 : Int32)) <<< ((16 : Int32) &&& 31))) ||| ((b3 &&& (255 : Int32)) <<< ((24 : Int32) &&& 31)))) ^^^ (own_scr ((((((0 : Int32) ||| (b6 &&& (255 : Int32))) <<< ((8 : Int32) &&& 31)) ||| (b5 &&& (255 : Int32))) <<< ((8 : Int32) &&& 31)) ||| (b4 &&& (255 : Int32))))) (7 : Int32))) ∧ h = h0 ∧ Fr n0 L) := by
  refine con (plainFor_of_name pnM) ?_
  intro p e s m below meth c s₁ hx hby hml hZ hown hnm hret hlk X0 e0
  refine entry (efH m a) ?_
  have M0 := Fr.nil n0
  refine s_iconst X0 hx hby (n := 1) (v := (0 : Int32)) d5_0 rfl rfl ?_
  refine s_istoreN X0 hx hby (n := 2) (L' := #[.val (.ref a), .val (.int (0 : Int32)), .unset, .unset, .unset]) d5_1 rfl rfl ?_
  refine s_aloadN X0 hx hby (n := 3) (x := (.ref a)) d5_2 rfl rfl rfl ?_
  refine s_arraylength X0 hx hby hZ (n := 4) e0 Ar (z := (7 : Int32)) Sz (by decide) d5_3 rfl ?_
  refine s_bipush X0 hx hby (n := 6) (v := (-4 : Int32)) d5_4 rfl rfl ?_
  refine s_iand X0 hx hby (n := 7) d5_6 rfl ?_
  refine s_fold (z := (4 : Int32)) (by decide) ?_
  refine s_istoreN X0 hx hby (n := 8) (L' := #[.val (.ref a), .val (.int (0 : Int32)), .val (.int (4 : Int32)), .unset, .unset]) d5_7 rfl rfl ?_
  refine s_iconst X0 hx hby (n := 9) (v := (0 : Int32)) d5_8 rfl rfl ?_
  refine s_istoreN X0 hx hby (n := 10) (L' := #[.val (.ref a), .val (.int (0 : Int32)), .val (.int (4 : Int32)), .val (.int (0 : Int32)), .unset]) d5_9 rfl rfl ?_
  refine s_iloadN X0 hx hby (n := 11) (x := (0 : Int32)) d5_10 rfl rfl ?_
  refine s_iloadN X0 hx hby (n := 12) (x := (4 : Int32)) d5_11 rfl rfl ?_
  refine s_icmpN X0 hx hby (n := 15) d5_12 (by decide) rfl ?_
  refine s_iloadN X0 hx hby (n := 16) (x := (0 : Int32)) d5_15 rfl rfl ?_
  refine s_aloadN X0 hx hby (n := 17) (x := (.ref a)) d5_16 rfl rfl rfl ?_
  refine s_iloadN X0 hx hby (n := 18) (x := (0 : Int32)) d5_17 rfl rfl ?_
  refine s_baloadC X0 hx hby hZ (n := 19) e0 Ar 0 (by decide) (by decide) (by rw [Sz]; decide) B0 d5_18 rfl ?_
  refine s_sipush X0 hx hby (n := 22) (v := (255 : Int32)) d5_19 rfl rfl ?_
  refine s_iand X0 hx hby (n := 23) d5_22 rfl ?_
  refine s_aloadN X0 hx hby (n := 24) (x := (.ref a)) d5_23 rfl rfl rfl ?_
  refine s_iloadN X0 hx hby (n := 25) (x := (0 : Int32)) d5_24 rfl rfl ?_
  refine s_iconst X0 hx hby (n := 26) (v := (1 : Int32)) d5_25 rfl rfl ?_
  refine s_iadd X0 hx hby (n := 27) d5_26 rfl ?_
  refine s_fold (z := (1 : Int32)) (by decide) ?_
  refine s_baloadC X0 hx hby hZ (n := 28) e0 Ar 1 (by decide) (by decide) (by rw [Sz]; decide) B1 d5_27 rfl ?_
  refine s_sipush X0 hx hby (n := 31) (v := (255 : Int32)) d5_28 rfl rfl ?_
  refine s_iand X0 hx hby (n := 32) d5_31 rfl ?_
  refine s_bipush X0 hx hby (n := 34) (v := (8 : Int32)) d5_32 rfl rfl ?_
  refine s_ishl X0 hx hby (n := 35) d5_34 rfl ?_
  refine s_ior X0 hx hby (n := 36) d5_35 rfl ?_
  refine s_aloadN X0 hx hby (n := 37) (x := (.ref a)) d5_36 rfl rfl rfl ?_
  refine s_iloadN X0 hx hby (n := 38) (x := (0 : Int32)) d5_37 rfl rfl ?_
  refine s_iconst X0 hx hby (n := 39) (v := (2 : Int32)) d5_38 rfl rfl ?_
  refine s_iadd X0 hx hby (n := 40) d5_39 rfl ?_
  refine s_fold (z := (2 : Int32)) (by decide) ?_
  refine s_baloadC X0 hx hby hZ (n := 41) e0 Ar 2 (by decide) (by decide) (by rw [Sz]; decide) B2 d5_40 rfl ?_
  refine s_sipush X0 hx hby (n := 44) (v := (255 : Int32)) d5_41 rfl rfl ?_
  refine s_iand X0 hx hby (n := 45) d5_44 rfl ?_
  refine s_bipush X0 hx hby (n := 47) (v := (16 : Int32)) d5_45 rfl rfl ?_
  refine s_ishl X0 hx hby (n := 48) d5_47 rfl ?_
  refine s_ior X0 hx hby (n := 49) d5_48 rfl ?_
  refine s_aloadN X0 hx hby (n := 50) (x := (.ref a)) d5_49 rfl rfl rfl ?_
  refine s_iloadN X0 hx hby (n := 51) (x := (0 : Int32)) d5_50 rfl rfl ?_
  refine s_iconst X0 hx hby (n := 52) (v := (3 : Int32)) d5_51 rfl rfl ?_
  refine s_iadd X0 hx hby (n := 53) d5_52 rfl ?_
  refine s_fold (z := (3 : Int32)) (by decide) ?_
  refine s_baloadC X0 hx hby hZ (n := 54) e0 Ar 3 (by decide) (by decide) (by rw [Sz]; decide) B3 d5_53 rfl ?_
  refine s_sipush X0 hx hby (n := 57) (v := (255 : Int32)) d5_54 rfl rfl ?_
  refine s_iand X0 hx hby (n := 58) d5_57 rfl ?_
  refine s_bipush X0 hx hby (n := 60) (v := (24 : Int32)) d5_58 rfl rfl ?_
  refine s_ishl X0 hx hby (n := 61) d5_60 rfl ?_
  refine s_ior X0 hx hby (n := 62) d5_61 rfl ?_
  refine s_callS X0 hx hby hml hZ (n := 65) hown (hw _ (List.mem_of_getElem? (i := 41) rfl)) (hw _ (List.mem_of_getElem? (i := 42) rfl)) (hw _ (List.mem_of_getElem? (i := 21) rfl)) (hw _ (List.mem_of_getElem? (i := 43) rfl)) (by decide) (rmMix l Z a0 hw (0 : Int32) ((((b0 &&& (255 : Int32)) ||| ((b1 &&& (255 : Int32)) <<< ((8 : Int32) &&& 31))) ||| ((b2 &&& (255 : Int32)) <<< ((16 : Int32) &&& 31))) ||| ((b3 &&& (255 : Int32)) <<< ((24 : Int32) &&& 31))) h0 n0) e0 (by decide) 0 (by decide) (by decide) (by decide) pd_0 [(.int (0 : Int32)), (.int ((((b0 &&& (255 : Int32)) ||| ((b1 &&& (255 : Int32)) <<< ((8 : Int32) &&& 31))) ||| ((b2 &&& (255 : Int32)) <<< ((16 : Int32) &&& 31))) ||| ((b3 &&& (255 : Int32)) <<< ((24 : Int32) &&& 31))))] [] rfl rfl rfl (Nat.le_of_eq rfl) rfl d5_62 rfl ?_
  intro T1 L1 v1 X1 q1c
  obtain ⟨rfl, e1, N1⟩ := q1c
  show OEnds p e below s _ _ _ T1 (mkF m 65 #[.val (.ref a), .val (.int (0 : Int32)), .val (.int (4 : Int32)), .val (.int (0 : Int32)), .unset] [(.int (own_mix (0 : Int32) ((((b0 &&& (255 : Int32)) ||| ((b1 &&& (255 : Int32)) <<< ((8 : Int32) &&& 31))) ||| ((b2 &&& (255 : Int32)) <<< ((16 : Int32) &&& 31))) ||| ((b3 &&& (255 : Int32)) <<< ((24 : Int32) &&& 31)))))])
  have M1 := Fr.app M0 N1
  refine s_istoreN X1 hx hby (n := 66) (L' := #[.val (.ref a), .val (.int (own_mix (0 : Int32) ((((b0 &&& (255 : Int32)) ||| ((b1 &&& (255 : Int32)) <<< ((8 : Int32) &&& 31))) ||| ((b2 &&& (255 : Int32)) <<< ((16 : Int32) &&& 31))) ||| ((b3 &&& (255 : Int32)) <<< ((24 : Int32) &&& 31))))), .val (.int (4 : Int32)), .val (.int (0 : Int32)), .unset]) d5_65 rfl rfl ?_
  refine s_iincC X1 hx hby (n := 69) (v := (4 : Int32)) (x := (0 : Int32)) (z := (4 : Int32)) (L' := #[.val (.ref a), .val (.int (own_mix (0 : Int32) ((((b0 &&& (255 : Int32)) ||| ((b1 &&& (255 : Int32)) <<< ((8 : Int32) &&& 31))) ||| ((b2 &&& (255 : Int32)) <<< ((16 : Int32) &&& 31))) ||| ((b3 &&& (255 : Int32)) <<< ((24 : Int32) &&& 31))))), .val (.int (4 : Int32)), .val (.int (4 : Int32)), .unset]) d5_66 rfl rfl (by decide) rfl rfl ?_
  refine s_goto X1 hx hby (n := 10) d5_69 (by decide) (by decide) ?_
  refine s_iloadN X1 hx hby (n := 11) (x := (4 : Int32)) d5_10 rfl rfl ?_
  refine s_iloadN X1 hx hby (n := 12) (x := (4 : Int32)) d5_11 rfl rfl ?_
  refine s_icmpY X1 hx hby (n := 72) d5_12 (by decide) (by decide) (by decide) ?_
  refine s_iloadN X1 hx hby (n := 73) (x := (4 : Int32)) d5_72 rfl rfl ?_
  refine s_aloadN X1 hx hby (n := 74) (x := (.ref a)) d5_73 rfl rfl rfl ?_
  refine s_arraylength X1 hx hby hZ (n := 75) e1 Ar (z := (7 : Int32)) Sz (by decide) d5_74 rfl ?_
  refine s_icmpN X1 hx hby (n := 78) d5_75 (by decide) rfl ?_
  refine s_iconst X1 hx hby (n := 79) (v := (0 : Int32)) d5_78 rfl rfl ?_
  refine s_istoreN X1 hx hby (n := 80) (L' := #[.val (.ref a), .val (.int (own_mix (0 : Int32) ((((b0 &&& (255 : Int32)) ||| ((b1 &&& (255 : Int32)) <<< ((8 : Int32) &&& 31))) ||| ((b2 &&& (255 : Int32)) <<< ((16 : Int32) &&& 31))) ||| ((b3 &&& (255 : Int32)) <<< ((24 : Int32) &&& 31))))), .val (.int (4 : Int32)), .val (.int (0 : Int32)), .unset]) d5_79 rfl rfl ?_
  refine s_aloadN X1 hx hby (n := 81) (x := (.ref a)) d5_80 rfl rfl rfl ?_
  refine s_arraylength X1 hx hby hZ (n := 82) e1 Ar (z := (7 : Int32)) Sz (by decide) d5_81 rfl ?_
  refine s_iconst X1 hx hby (n := 83) (v := (1 : Int32)) d5_82 rfl rfl ?_
  refine s_isub X1 hx hby (n := 84) d5_83 rfl ?_
  refine s_fold (z := (6 : Int32)) (by decide) ?_
  refine s_istore X1 hx hby (n := 86) (L' := #[.val (.ref a), .val (.int (own_mix (0 : Int32) ((((b0 &&& (255 : Int32)) ||| ((b1 &&& (255 : Int32)) <<< ((8 : Int32) &&& 31))) ||| ((b2 &&& (255 : Int32)) <<< ((16 : Int32) &&& 31))) ||| ((b3 &&& (255 : Int32)) <<< ((24 : Int32) &&& 31))))), .val (.int (4 : Int32)), .val (.int (0 : Int32)), .val (.int (6 : Int32))]) d5_84 rfl rfl ?_
  refine s_iload X1 hx hby (n := 88) (x := (6 : Int32)) d5_86 rfl rfl ?_
  refine s_iloadN X1 hx hby (n := 89) (x := (4 : Int32)) d5_88 rfl rfl ?_
  refine s_icmpN X1 hx hby (n := 92) d5_89 (by decide) rfl ?_
  refine s_iloadN X1 hx hby (n := 93) (x := (0 : Int32)) d5_92 rfl rfl ?_
  refine s_bipush X1 hx hby (n := 95) (v := (8 : Int32)) d5_93 rfl rfl ?_
  refine s_ishl X1 hx hby (n := 96) d5_95 rfl ?_
  refine s_fold (z := (0 : Int32)) (by decide) ?_
  refine s_aloadN X1 hx hby (n := 97) (x := (.ref a)) d5_96 rfl rfl rfl ?_
  refine s_iload X1 hx hby (n := 99) (x := (6 : Int32)) d5_97 rfl rfl ?_
  refine s_baloadC X1 hx hby hZ (n := 100) e1 Ar 6 (by decide) (by decide) (by rw [Sz]; decide) B6 d5_99 rfl ?_
  refine s_sipush X1 hx hby (n := 103) (v := (255 : Int32)) d5_100 rfl rfl ?_
  refine s_iand X1 hx hby (n := 104) d5_103 rfl ?_
  refine s_ior X1 hx hby (n := 105) d5_104 rfl ?_
  refine s_istoreN X1 hx hby (n := 106) (L' := #[.val (.ref a), .val (.int (own_mix (0 : Int32) ((((b0 &&& (255 : Int32)) ||| ((b1 &&& (255 : Int32)) <<< ((8 : Int32) &&& 31))) ||| ((b2 &&& (255 : Int32)) <<< ((16 : Int32) &&& 31))) ||| ((b3 &&& (255 : Int32)) <<< ((24 : Int32) &&& 31))))), .val (.int (4 : Int32)), .val (.int ((0 : Int32) ||| (b6 &&& (255 : Int32)))), .val (.int (6 : Int32))]) d5_105 rfl rfl ?_
  refine s_iincC X1 hx hby (n := 109) (v := (-1 : Int32)) (x := (6 : Int32)) (z := (5 : Int32)) (L' := #[.val (.ref a), .val (.int (own_mix (0 : Int32) ((((b0 &&& (255 : Int32)) ||| ((b1 &&& (255 : Int32)) <<< ((8 : Int32) &&& 31))) ||| ((b2 &&& (255 : Int32)) <<< ((16 : Int32) &&& 31))) ||| ((b3 &&& (255 : Int32)) <<< ((24 : Int32) &&& 31))))), .val (.int (4 : Int32)), .val (.int ((0 : Int32) ||| (b6 &&& (255 : Int32)))), .val (.int (5 : Int32))]) d5_106 rfl rfl (by decide) rfl rfl ?_
  refine s_goto X1 hx hby (n := 86) d5_109 (by decide) (by decide) ?_
  refine s_iload X1 hx hby (n := 88) (x := (5 : Int32)) d5_86 rfl rfl ?_
  refine s_iloadN X1 hx hby (n := 89) (x := (4 : Int32)) d5_88 rfl rfl ?_
  refine s_icmpN X1 hx hby (n := 92) d5_89 (by decide) rfl ?_
  refine s_iloadN X1 hx hby (n := 93) (x := ((0 : Int32) ||| (b6 &&& (255 : Int32)))) d5_92 rfl rfl ?_
  refine s_bipush X1 hx hby (n := 95) (v := (8 : Int32)) d5_93 rfl rfl ?_
  refine s_ishl X1 hx hby (n := 96) d5_95 rfl ?_
  refine s_aloadN X1 hx hby (n := 97) (x := (.ref a)) d5_96 rfl rfl rfl ?_
  refine s_iload X1 hx hby (n := 99) (x := (5 : Int32)) d5_97 rfl rfl ?_
  refine s_baloadC X1 hx hby hZ (n := 100) e1 Ar 5 (by decide) (by decide) (by rw [Sz]; decide) B5 d5_99 rfl ?_
  refine s_sipush X1 hx hby (n := 103) (v := (255 : Int32)) d5_100 rfl rfl ?_
  refine s_iand X1 hx hby (n := 104) d5_103 rfl ?_
  refine s_ior X1 hx hby (n := 105) d5_104 rfl ?_
  refine s_istoreN X1 hx hby (n := 106) (L' := #[.val (.ref a), .val (.int (own_mix (0 : Int32) ((((b0 &&& (255 : Int32)) ||| ((b1 &&& (255 : Int32)) <<< ((8 : Int32) &&& 31))) ||| ((b2 &&& (255 : Int32)) <<< ((16 : Int32) &&& 31))) ||| ((b3 &&& (255 : Int32)) <<< ((24 : Int32) &&& 31))))), .val (.int (4 : Int32)), .val (.int ((((0 : Int32) ||| (b6 &&& (255 : Int32))) <<< ((8 : Int32) &&& 31)) ||| (b5 &&& (255 : Int32)))), .val (.int (5 : Int32))]) d5_105 rfl rfl ?_
  refine s_iincC X1 hx hby (n := 109) (v := (-1 : Int32)) (x := (5 : Int32)) (z := (4 : Int32)) (L' := #[.val (.ref a), .val (.int (own_mix (0 : Int32) ((((b0 &&& (255 : Int32)) ||| ((b1 &&& (255 : Int32)) <<< ((8 : Int32) &&& 31))) ||| ((b2 &&& (255 : Int32)) <<< ((16 : Int32) &&& 31))) ||| ((b3 &&& (255 : Int32)) <<< ((24 : Int32) &&& 31))))), .val (.int (4 : Int32)), .val (.int ((((0 : Int32) ||| (b6 &&& (255 : Int32))) <<< ((8 : Int32) &&& 31)) ||| (b5 &&& (255 : Int32)))), .val (.int (4 : Int32))]) d5_106 rfl rfl (by decide) rfl rfl ?_
  refine s_goto X1 hx hby (n := 86) d5_109 (by decide) (by decide) ?_
  refine s_iload X1 hx hby (n := 88) (x := (4 : Int32)) d5_86 rfl rfl ?_
  refine s_iloadN X1 hx hby (n := 89) (x := (4 : Int32)) d5_88 rfl rfl ?_
  refine s_icmpN X1 hx hby (n := 92) d5_89 (by decide) rfl ?_
  refine s_iloadN X1 hx hby (n := 93) (x := ((((0 : Int32) ||| (b6 &&& (255 : Int32))) <<< ((8 : Int32) &&& 31)) ||| (b5 &&& (255 : Int32)))) d5_92 rfl rfl ?_
  refine s_bipush X1 hx hby (n := 95) (v := (8 : Int32)) d5_93 rfl rfl ?_
  refine s_ishl X1 hx hby (n := 96) d5_95 rfl ?_
  refine s_aloadN X1 hx hby (n := 97) (x := (.ref a)) d5_96 rfl rfl rfl ?_
  refine s_iload X1 hx hby (n := 99) (x := (4 : Int32)) d5_97 rfl rfl ?_
  refine s_baloadC X1 hx hby hZ (n := 100) e1 Ar 4 (by decide) (by decide) (by rw [Sz]; decide) B4 d5_99 rfl ?_
  refine s_sipush X1 hx hby (n := 103) (v := (255 : Int32)) d5_100 rfl rfl ?_
  refine s_iand X1 hx hby (n := 104) d5_103 rfl ?_
  refine s_ior X1 hx hby (n := 105) d5_104 rfl ?_
  refine s_istoreN X1 hx hby (n := 106) (L' := #[.val (.ref a), .val (.int (own_mix (0 : Int32) ((((b0 &&& (255 : Int32)) ||| ((b1 &&& (255 : Int32)) <<< ((8 : Int32) &&& 31))) ||| ((b2 &&& (255 : Int32)) <<< ((16 : Int32) &&& 31))) ||| ((b3 &&& (255 : Int32)) <<< ((24 : Int32) &&& 31))))), .val (.int (4 : Int32)), .val (.int ((((((0 : Int32) ||| (b6 &&& (255 : Int32))) <<< ((8 : Int32) &&& 31)) ||| (b5 &&& (255 : Int32))) <<< ((8 : Int32) &&& 31)) ||| (b4 &&& (255 : Int32)))), .val (.int (4 : Int32))]) d5_105 rfl rfl ?_
  refine s_iincC X1 hx hby (n := 109) (v := (-1 : Int32)) (x := (4 : Int32)) (z := (3 : Int32)) (L' := #[.val (.ref a), .val (.int (own_mix (0 : Int32) ((((b0 &&& (255 : Int32)) ||| ((b1 &&& (255 : Int32)) <<< ((8 : Int32) &&& 31))) ||| ((b2 &&& (255 : Int32)) <<< ((16 : Int32) &&& 31))) ||| ((b3 &&& (255 : Int32)) <<< ((24 : Int32) &&& 31))))), .val (.int (4 : Int32)), .val (.int ((((((0 : Int32) ||| (b6 &&& (255 : Int32))) <<< ((8 : Int32) &&& 31)) ||| (b5 &&& (255 : Int32))) <<< ((8 : Int32) &&& 31)) ||| (b4 &&& (255 : Int32)))), .val (.int (3 : Int32))]) d5_106 rfl rfl (by decide) rfl rfl ?_
  refine s_goto X1 hx hby (n := 86) d5_109 (by decide) (by decide) ?_
  refine s_iload X1 hx hby (n := 88) (x := (3 : Int32)) d5_86 rfl rfl ?_
  refine s_iloadN X1 hx hby (n := 89) (x := (4 : Int32)) d5_88 rfl rfl ?_
  refine s_icmpY X1 hx hby (n := 112) d5_89 (by decide) (by decide) (by decide) ?_
  refine s_iloadN X1 hx hby (n := 113) (x := (own_mix (0 : Int32) ((((b0 &&& (255 : Int32)) ||| ((b1 &&& (255 : Int32)) <<< ((8 : Int32) &&& 31))) ||| ((b2 &&& (255 : Int32)) <<< ((16 : Int32) &&& 31))) ||| ((b3 &&& (255 : Int32)) <<< ((24 : Int32) &&& 31))))) d5_112 rfl rfl ?_
  refine s_iloadN X1 hx hby (n := 114) (x := ((((((0 : Int32) ||| (b6 &&& (255 : Int32))) <<< ((8 : Int32) &&& 31)) ||| (b5 &&& (255 : Int32))) <<< ((8 : Int32) &&& 31)) ||| (b4 &&& (255 : Int32)))) d5_113 rfl rfl ?_
  refine s_callS X1 hx hby hml hZ (n := 117) hown (hw _ (List.mem_of_getElem? (i := 23) rfl)) (hw _ (List.mem_of_getElem? (i := 24) rfl)) (hw _ (List.mem_of_getElem? (i := 21) rfl)) (hw _ (List.mem_of_getElem? (i := 25) rfl)) (by decide) (rmScr l Z a0 hw ((((((0 : Int32) ||| (b6 &&& (255 : Int32))) <<< ((8 : Int32) &&& 31)) ||| (b5 &&& (255 : Int32))) <<< ((8 : Int32) &&& 31)) ||| (b4 &&& (255 : Int32))) h0 n0) e1 (by decide) 1 (by decide) (by decide) (by decide) pd_1 [(.int ((((((0 : Int32) ||| (b6 &&& (255 : Int32))) <<< ((8 : Int32) &&& 31)) ||| (b5 &&& (255 : Int32))) <<< ((8 : Int32) &&& 31)) ||| (b4 &&& (255 : Int32))))] [(.int (own_mix (0 : Int32) ((((b0 &&& (255 : Int32)) ||| ((b1 &&& (255 : Int32)) <<< ((8 : Int32) &&& 31))) ||| ((b2 &&& (255 : Int32)) <<< ((16 : Int32) &&& 31))) ||| ((b3 &&& (255 : Int32)) <<< ((24 : Int32) &&& 31)))))] rfl rfl rfl (Nat.le_of_eq rfl) rfl d5_114 rfl ?_
  intro T2 L2 v2 X2 q2c
  obtain ⟨rfl, e2, N2⟩ := q2c
  show OEnds p e below s _ _ _ T2 (mkF m 117 #[.val (.ref a), .val (.int (own_mix (0 : Int32) ((((b0 &&& (255 : Int32)) ||| ((b1 &&& (255 : Int32)) <<< ((8 : Int32) &&& 31))) ||| ((b2 &&& (255 : Int32)) <<< ((16 : Int32) &&& 31))) ||| ((b3 &&& (255 : Int32)) <<< ((24 : Int32) &&& 31))))), .val (.int (4 : Int32)), .val (.int ((((((0 : Int32) ||| (b6 &&& (255 : Int32))) <<< ((8 : Int32) &&& 31)) ||| (b5 &&& (255 : Int32))) <<< ((8 : Int32) &&& 31)) ||| (b4 &&& (255 : Int32)))), .val (.int (3 : Int32))] [(.int (own_scr ((((((0 : Int32) ||| (b6 &&& (255 : Int32))) <<< ((8 : Int32) &&& 31)) ||| (b5 &&& (255 : Int32))) <<< ((8 : Int32) &&& 31)) ||| (b4 &&& (255 : Int32))))), (.int (own_mix (0 : Int32) ((((b0 &&& (255 : Int32)) ||| ((b1 &&& (255 : Int32)) <<< ((8 : Int32) &&& 31))) ||| ((b2 &&& (255 : Int32)) <<< ((16 : Int32) &&& 31))) ||| ((b3 &&& (255 : Int32)) <<< ((24 : Int32) &&& 31)))))])
  have M2 := Fr.app M1 N2
  refine s_ixor X2 hx hby (n := 118) d5_117 rfl ?_
  refine s_istoreN X2 hx hby (n := 119) (L' := #[.val (.ref a), .val (.int ((own_mix (0 : Int32) ((((b0 &&& (255 : Int32)) ||| ((b1 &&& (255 : Int32)) <<< ((8 : Int32) &&& 31))) ||| ((b2 &&& (255 : Int32)) <<< ((16 : Int32) &&& 31))) ||| ((b3 &&& (255 : Int32)) <<< ((24 : Int32) &&& 31)))) ^^^ (own_scr ((((((0 : Int32) ||| (b6 &&& (255 : Int32))) <<< ((8 : Int32) &&& 31)) ||| (b5 &&& (255 : Int32))) <<< ((8 : Int32) &&& 31)) ||| (b4 &&& (255 : Int32)))))), .val (.int (4 : Int32)), .val (.int ((((((0 : Int32) ||| (b6 &&& (255 : Int32))) <<< ((8 : Int32) &&& 31)) ||| (b5 &&& (255 : Int32))) <<< ((8 : Int32) &&& 31)) ||| (b4 &&& (255 : Int32)))), .val (.int (3 : Int32))]) d5_118 rfl rfl ?_
  refine s_iloadN X2 hx hby (n := 120) (x := ((own_mix (0 : Int32) ((((b0 &&& (255 : Int32)) ||| ((b1 &&& (255 : Int32)) <<< ((8 : Int32) &&& 31))) ||| ((b2 &&& (255 : Int32)) <<< ((16 : Int32) &&& 31))) ||| ((b3 &&& (255 : Int32)) <<< ((24 : Int32) &&& 31)))) ^^^ (own_scr ((((((0 : Int32) ||| (b6 &&& (255 : Int32))) <<< ((8 : Int32) &&& 31)) ||| (b5 &&& (255 : Int32))) <<< ((8 : Int32) &&& 31)) ||| (b4 &&& (255 : Int32)))))) d5_119 rfl rfl ?_
  refine s_aloadN X2 hx hby (n := 121) (x := (.ref a)) d5_120 rfl rfl rfl ?_
  refine s_arraylength X2 hx hby hZ (n := 122) e2 Ar (z := (7 : Int32)) Sz (by decide) d5_121 rfl ?_
  refine s_callS X2 hx hby hml hZ (n := 125) hown (hw _ (List.mem_of_getElem? (i := 32) rfl)) (hw _ (List.mem_of_getElem? (i := 33) rfl)) (hw _ (List.mem_of_getElem? (i := 21) rfl)) (hw _ (List.mem_of_getElem? (i := 34) rfl)) (by decide) (rmFin l Z a0 hw ((own_mix (0 : Int32) ((((b0 &&& (255 : Int32)) ||| ((b1 &&& (255 : Int32)) <<< ((8 : Int32) &&& 31))) ||| ((b2 &&& (255 : Int32)) <<< ((16 : Int32) &&& 31))) ||| ((b3 &&& (255 : Int32)) <<< ((24 : Int32) &&& 31)))) ^^^ (own_scr ((((((0 : Int32) ||| (b6 &&& (255 : Int32))) <<< ((8 : Int32) &&& 31)) ||| (b5 &&& (255 : Int32))) <<< ((8 : Int32) &&& 31)) ||| (b4 &&& (255 : Int32))))) (7 : Int32) h0 n0) e2 (by decide) 0 (by decide) (by decide) (by decide) pd_0 [(.int ((own_mix (0 : Int32) ((((b0 &&& (255 : Int32)) ||| ((b1 &&& (255 : Int32)) <<< ((8 : Int32) &&& 31))) ||| ((b2 &&& (255 : Int32)) <<< ((16 : Int32) &&& 31))) ||| ((b3 &&& (255 : Int32)) <<< ((24 : Int32) &&& 31)))) ^^^ (own_scr ((((((0 : Int32) ||| (b6 &&& (255 : Int32))) <<< ((8 : Int32) &&& 31)) ||| (b5 &&& (255 : Int32))) <<< ((8 : Int32) &&& 31)) ||| (b4 &&& (255 : Int32)))))), (.int (7 : Int32))] [] rfl rfl rfl (Nat.le_of_eq rfl) rfl d5_122 rfl ?_
  intro T3 L3 v3 X3 q3c
  obtain ⟨rfl, e3, N3⟩ := q3c
  show OEnds p e below s _ _ _ T3 (mkF m 125 #[.val (.ref a), .val (.int ((own_mix (0 : Int32) ((((b0 &&& (255 : Int32)) ||| ((b1 &&& (255 : Int32)) <<< ((8 : Int32) &&& 31))) ||| ((b2 &&& (255 : Int32)) <<< ((16 : Int32) &&& 31))) ||| ((b3 &&& (255 : Int32)) <<< ((24 : Int32) &&& 31)))) ^^^ (own_scr ((((((0 : Int32) ||| (b6 &&& (255 : Int32))) <<< ((8 : Int32) &&& 31)) ||| (b5 &&& (255 : Int32))) <<< ((8 : Int32) &&& 31)) ||| (b4 &&& (255 : Int32)))))), .val (.int (4 : Int32)), .val (.int ((((((0 : Int32) ||| (b6 &&& (255 : Int32))) <<< ((8 : Int32) &&& 31)) ||| (b5 &&& (255 : Int32))) <<< ((8 : Int32) &&& 31)) ||| (b4 &&& (255 : Int32)))), .val (.int (3 : Int32))] [(.int (own_fin ((own_mix (0 : Int32) ((((b0 &&& (255 : Int32)) ||| ((b1 &&& (255 : Int32)) <<< ((8 : Int32) &&& 31))) ||| ((b2 &&& (255 : Int32)) <<< ((16 : Int32) &&& 31))) ||| ((b3 &&& (255 : Int32)) <<< ((24 : Int32) &&& 31)))) ^^^ (own_scr ((((((0 : Int32) ||| (b6 &&& (255 : Int32))) <<< ((8 : Int32) &&& 31)) ||| (b5 &&& (255 : Int32))) <<< ((8 : Int32) &&& 31)) ||| (b4 &&& (255 : Int32))))) (7 : Int32)))])
  have M3 := Fr.app M2 N3
  exact s_retI X3 hx hby hlk hret d5_125 (by decide) (by decide) ⟨rfl, e3, M3⟩
set_option maxRecDepth 65536 in
set_option maxHeartbeats 40000000 in
theorem rmH8 (l : Launch) (Z : State) (a0 : Array Value) (hw : ∀ d ∈ tables_1, d.before a0 Z = true) (a : Addr) (cl : Cell) (b0 b1 b2 b3 b4 b5 b6 b7 : Int32) (h0 : Heap) (n0 : Nat) (Ar : Arr Z h0 a cl .byte) (Sz : cl.slots.size = (8 : Int32).toNatClampNeg) (B0 : cl.slots[0]? = some (.int b0)) (B1 : cl.slots[1]? = some (.int b1)) (B2 : cl.slots[2]? = some (.int b2)) (B3 : cl.slots[3]? = some (.int b3)) (B4 : cl.slots[4]? = some (.int b4)) (B5 : cl.slots[5]? = some (.int b5)) (B6 : cl.slots[6]? = some (.int b6)) (B7 : cl.slots[7]? = some (.int b7)) :
    OCon l Z (⟨"com/example/floe/floe/Murmur3", "hash", "([B)I"⟩ : MethodName) prog_8_method_2_code 5 (some (.int)) [] ({ frames := 3, cells := 0, slots := 0, locals := 43 } : Room) #[(.ref a)] h0 (fun v h L => v = some (.int (own_fin (own_mix (own_mix (0 : Int32) ((((b0 &&& (255 : Int32)) ||| ((b1 &&& (255 : Int32)) <<< ((8 : Int32) &&& 31))) ||| ((b2 &&& (255 : Int32)) <<< ((16 : Int32) &&& 31))) ||| ((b3 &&& (255 : Int32)) <<< ((24 : Int32) &&& 31)))) ((((b4 &&& (255 : Int32)) ||| ((b5 &&& (255 : Int32)) <<< ((8 : Int32) &&& 31))) ||| ((b6 &&& (255 : Int32)) <<< ((16 : Int32) &&& 31))) ||| ((b7 &&& (255 : Int32)) <<< ((24 : Int32) &&& 31)))) (8 : Int32))) ∧ h = h0 ∧ Fr n0 L) := by
  refine con (plainFor_of_name pnM) ?_
  intro p e s m below meth c s₁ hx hby hml hZ hown hnm hret hlk X0 e0
  refine entry (efH m a) ?_
  have M0 := Fr.nil n0
  refine s_iconst X0 hx hby (n := 1) (v := (0 : Int32)) d5_0 rfl rfl ?_
  refine s_istoreN X0 hx hby (n := 2) (L' := #[.val (.ref a), .val (.int (0 : Int32)), .unset, .unset, .unset]) d5_1 rfl rfl ?_
  refine s_aloadN X0 hx hby (n := 3) (x := (.ref a)) d5_2 rfl rfl rfl ?_
  refine s_arraylength X0 hx hby hZ (n := 4) e0 Ar (z := (8 : Int32)) Sz (by decide) d5_3 rfl ?_
  refine s_bipush X0 hx hby (n := 6) (v := (-4 : Int32)) d5_4 rfl rfl ?_
  refine s_iand X0 hx hby (n := 7) d5_6 rfl ?_
  refine s_fold (z := (8 : Int32)) (by decide) ?_
  refine s_istoreN X0 hx hby (n := 8) (L' := #[.val (.ref a), .val (.int (0 : Int32)), .val (.int (8 : Int32)), .unset, .unset]) d5_7 rfl rfl ?_
  refine s_iconst X0 hx hby (n := 9) (v := (0 : Int32)) d5_8 rfl rfl ?_
  refine s_istoreN X0 hx hby (n := 10) (L' := #[.val (.ref a), .val (.int (0 : Int32)), .val (.int (8 : Int32)), .val (.int (0 : Int32)), .unset]) d5_9 rfl rfl ?_
  refine s_iloadN X0 hx hby (n := 11) (x := (0 : Int32)) d5_10 rfl rfl ?_
  refine s_iloadN X0 hx hby (n := 12) (x := (8 : Int32)) d5_11 rfl rfl ?_
  refine s_icmpN X0 hx hby (n := 15) d5_12 (by decide) rfl ?_
  refine s_iloadN X0 hx hby (n := 16) (x := (0 : Int32)) d5_15 rfl rfl ?_
  refine s_aloadN X0 hx hby (n := 17) (x := (.ref a)) d5_16 rfl rfl rfl ?_
  refine s_iloadN X0 hx hby (n := 18) (x := (0 : Int32)) d5_17 rfl rfl ?_
  refine s_baloadC X0 hx hby hZ (n := 19) e0 Ar 0 (by decide) (by decide) (by rw [Sz]; decide) B0 d5_18 rfl ?_
  refine s_sipush X0 hx hby (n := 22) (v := (255 : Int32)) d5_19 rfl rfl ?_
  refine s_iand X0 hx hby (n := 23) d5_22 rfl ?_
  refine s_aloadN X0 hx hby (n := 24) (x := (.ref a)) d5_23 rfl rfl rfl ?_
  refine s_iloadN X0 hx hby (n := 25) (x := (0 : Int32)) d5_24 rfl rfl ?_
  refine s_iconst X0 hx hby (n := 26) (v := (1 : Int32)) d5_25 rfl rfl ?_
  refine s_iadd X0 hx hby (n := 27) d5_26 rfl ?_
  refine s_fold (z := (1 : Int32)) (by decide) ?_
  refine s_baloadC X0 hx hby hZ (n := 28) e0 Ar 1 (by decide) (by decide) (by rw [Sz]; decide) B1 d5_27 rfl ?_
  refine s_sipush X0 hx hby (n := 31) (v := (255 : Int32)) d5_28 rfl rfl ?_
  refine s_iand X0 hx hby (n := 32) d5_31 rfl ?_
  refine s_bipush X0 hx hby (n := 34) (v := (8 : Int32)) d5_32 rfl rfl ?_
  refine s_ishl X0 hx hby (n := 35) d5_34 rfl ?_
  refine s_ior X0 hx hby (n := 36) d5_35 rfl ?_
  refine s_aloadN X0 hx hby (n := 37) (x := (.ref a)) d5_36 rfl rfl rfl ?_
  refine s_iloadN X0 hx hby (n := 38) (x := (0 : Int32)) d5_37 rfl rfl ?_
  refine s_iconst X0 hx hby (n := 39) (v := (2 : Int32)) d5_38 rfl rfl ?_
  refine s_iadd X0 hx hby (n := 40) d5_39 rfl ?_
  refine s_fold (z := (2 : Int32)) (by decide) ?_
  refine s_baloadC X0 hx hby hZ (n := 41) e0 Ar 2 (by decide) (by decide) (by rw [Sz]; decide) B2 d5_40 rfl ?_
  refine s_sipush X0 hx hby (n := 44) (v := (255 : Int32)) d5_41 rfl rfl ?_
  refine s_iand X0 hx hby (n := 45) d5_44 rfl ?_
  refine s_bipush X0 hx hby (n := 47) (v := (16 : Int32)) d5_45 rfl rfl ?_
  refine s_ishl X0 hx hby (n := 48) d5_47 rfl ?_
  refine s_ior X0 hx hby (n := 49) d5_48 rfl ?_
  refine s_aloadN X0 hx hby (n := 50) (x := (.ref a)) d5_49 rfl rfl rfl ?_
  refine s_iloadN X0 hx hby (n := 51) (x := (0 : Int32)) d5_50 rfl rfl ?_
  refine s_iconst X0 hx hby (n := 52) (v := (3 : Int32)) d5_51 rfl rfl ?_
  refine s_iadd X0 hx hby (n := 53) d5_52 rfl ?_
  refine s_fold (z := (3 : Int32)) (by decide) ?_
  refine s_baloadC X0 hx hby hZ (n := 54) e0 Ar 3 (by decide) (by decide) (by rw [Sz]; decide) B3 d5_53 rfl ?_
  refine s_sipush X0 hx hby (n := 57) (v := (255 : Int32)) d5_54 rfl rfl ?_
  refine s_iand X0 hx hby (n := 58) d5_57 rfl ?_
  refine s_bipush X0 hx hby (n := 60) (v := (24 : Int32)) d5_58 rfl rfl ?_
  refine s_ishl X0 hx hby (n := 61) d5_60 rfl ?_
  refine s_ior X0 hx hby (n := 62) d5_61 rfl ?_
  refine s_callS X0 hx hby hml hZ (n := 65) hown (hw _ (List.mem_of_getElem? (i := 41) rfl)) (hw _ (List.mem_of_getElem? (i := 42) rfl)) (hw _ (List.mem_of_getElem? (i := 21) rfl)) (hw _ (List.mem_of_getElem? (i := 43) rfl)) (by decide) (rmMix l Z a0 hw (0 : Int32) ((((b0 &&& (255 : Int32)) ||| ((b1 &&& (255 : Int32)) <<< ((8 : Int32) &&& 31))) ||| ((b2 &&& (255 : Int32)) <<< ((16 : Int32) &&& 31))) ||| ((b3 &&& (255 : Int32)) <<< ((24 : Int32) &&& 31))) h0 n0) e0 (by decide) 0 (by decide) (by decide) (by decide) pd_0 [(.int (0 : Int32)), (.int ((((b0 &&& (255 : Int32)) ||| ((b1 &&& (255 : Int32)) <<< ((8 : Int32) &&& 31))) ||| ((b2 &&& (255 : Int32)) <<< ((16 : Int32) &&& 31))) ||| ((b3 &&& (255 : Int32)) <<< ((24 : Int32) &&& 31))))] [] rfl rfl rfl (Nat.le_of_eq rfl) rfl d5_62 rfl ?_
  intro T1 L1 v1 X1 q1c
  obtain ⟨rfl, e1, N1⟩ := q1c
  show OEnds p e below s _ _ _ T1 (mkF m 65 #[.val (.ref a), .val (.int (0 : Int32)), .val (.int (8 : Int32)), .val (.int (0 : Int32)), .unset] [(.int (own_mix (0 : Int32) ((((b0 &&& (255 : Int32)) ||| ((b1 &&& (255 : Int32)) <<< ((8 : Int32) &&& 31))) ||| ((b2 &&& (255 : Int32)) <<< ((16 : Int32) &&& 31))) ||| ((b3 &&& (255 : Int32)) <<< ((24 : Int32) &&& 31)))))])
  have M1 := Fr.app M0 N1
  refine s_istoreN X1 hx hby (n := 66) (L' := #[.val (.ref a), .val (.int (own_mix (0 : Int32) ((((b0 &&& (255 : Int32)) ||| ((b1 &&& (255 : Int32)) <<< ((8 : Int32) &&& 31))) ||| ((b2 &&& (255 : Int32)) <<< ((16 : Int32) &&& 31))) ||| ((b3 &&& (255 : Int32)) <<< ((24 : Int32) &&& 31))))), .val (.int (8 : Int32)), .val (.int (0 : Int32)), .unset]) d5_65 rfl rfl ?_
  refine s_iincC X1 hx hby (n := 69) (v := (4 : Int32)) (x := (0 : Int32)) (z := (4 : Int32)) (L' := #[.val (.ref a), .val (.int (own_mix (0 : Int32) ((((b0 &&& (255 : Int32)) ||| ((b1 &&& (255 : Int32)) <<< ((8 : Int32) &&& 31))) ||| ((b2 &&& (255 : Int32)) <<< ((16 : Int32) &&& 31))) ||| ((b3 &&& (255 : Int32)) <<< ((24 : Int32) &&& 31))))), .val (.int (8 : Int32)), .val (.int (4 : Int32)), .unset]) d5_66 rfl rfl (by decide) rfl rfl ?_
  refine s_goto X1 hx hby (n := 10) d5_69 (by decide) (by decide) ?_
  refine s_iloadN X1 hx hby (n := 11) (x := (4 : Int32)) d5_10 rfl rfl ?_
  refine s_iloadN X1 hx hby (n := 12) (x := (8 : Int32)) d5_11 rfl rfl ?_
  refine s_icmpN X1 hx hby (n := 15) d5_12 (by decide) rfl ?_
  refine s_iloadN X1 hx hby (n := 16) (x := (own_mix (0 : Int32) ((((b0 &&& (255 : Int32)) ||| ((b1 &&& (255 : Int32)) <<< ((8 : Int32) &&& 31))) ||| ((b2 &&& (255 : Int32)) <<< ((16 : Int32) &&& 31))) ||| ((b3 &&& (255 : Int32)) <<< ((24 : Int32) &&& 31))))) d5_15 rfl rfl ?_
  refine s_aloadN X1 hx hby (n := 17) (x := (.ref a)) d5_16 rfl rfl rfl ?_
  refine s_iloadN X1 hx hby (n := 18) (x := (4 : Int32)) d5_17 rfl rfl ?_
  refine s_baloadC X1 hx hby hZ (n := 19) e1 Ar 4 (by decide) (by decide) (by rw [Sz]; decide) B4 d5_18 rfl ?_
  refine s_sipush X1 hx hby (n := 22) (v := (255 : Int32)) d5_19 rfl rfl ?_
  refine s_iand X1 hx hby (n := 23) d5_22 rfl ?_
  refine s_aloadN X1 hx hby (n := 24) (x := (.ref a)) d5_23 rfl rfl rfl ?_
  refine s_iloadN X1 hx hby (n := 25) (x := (4 : Int32)) d5_24 rfl rfl ?_
  refine s_iconst X1 hx hby (n := 26) (v := (1 : Int32)) d5_25 rfl rfl ?_
  refine s_iadd X1 hx hby (n := 27) d5_26 rfl ?_
  refine s_fold (z := (5 : Int32)) (by decide) ?_
  refine s_baloadC X1 hx hby hZ (n := 28) e1 Ar 5 (by decide) (by decide) (by rw [Sz]; decide) B5 d5_27 rfl ?_
  refine s_sipush X1 hx hby (n := 31) (v := (255 : Int32)) d5_28 rfl rfl ?_
  refine s_iand X1 hx hby (n := 32) d5_31 rfl ?_
  refine s_bipush X1 hx hby (n := 34) (v := (8 : Int32)) d5_32 rfl rfl ?_
  refine s_ishl X1 hx hby (n := 35) d5_34 rfl ?_
  refine s_ior X1 hx hby (n := 36) d5_35 rfl ?_
  refine s_aloadN X1 hx hby (n := 37) (x := (.ref a)) d5_36 rfl rfl rfl ?_
  refine s_iloadN X1 hx hby (n := 38) (x := (4 : Int32)) d5_37 rfl rfl ?_
  refine s_iconst X1 hx hby (n := 39) (v := (2 : Int32)) d5_38 rfl rfl ?_
  refine s_iadd X1 hx hby (n := 40) d5_39 rfl ?_
  refine s_fold (z := (6 : Int32)) (by decide) ?_
  refine s_baloadC X1 hx hby hZ (n := 41) e1 Ar 6 (by decide) (by decide) (by rw [Sz]; decide) B6 d5_40 rfl ?_
  refine s_sipush X1 hx hby (n := 44) (v := (255 : Int32)) d5_41 rfl rfl ?_
  refine s_iand X1 hx hby (n := 45) d5_44 rfl ?_
  refine s_bipush X1 hx hby (n := 47) (v := (16 : Int32)) d5_45 rfl rfl ?_
  refine s_ishl X1 hx hby (n := 48) d5_47 rfl ?_
  refine s_ior X1 hx hby (n := 49) d5_48 rfl ?_
  refine s_aloadN X1 hx hby (n := 50) (x := (.ref a)) d5_49 rfl rfl rfl ?_
  refine s_iloadN X1 hx hby (n := 51) (x := (4 : Int32)) d5_50 rfl rfl ?_
  refine s_iconst X1 hx hby (n := 52) (v := (3 : Int32)) d5_51 rfl rfl ?_
  refine s_iadd X1 hx hby (n := 53) d5_52 rfl ?_
  refine s_fold (z := (7 : Int32)) (by decide) ?_
  refine s_baloadC X1 hx hby hZ (n := 54) e1 Ar 7 (by decide) (by decide) (by rw [Sz]; decide) B7 d5_53 rfl ?_
  refine s_sipush X1 hx hby (n := 57) (v := (255 : Int32)) d5_54 rfl rfl ?_
  refine s_iand X1 hx hby (n := 58) d5_57 rfl ?_
  refine s_bipush X1 hx hby (n := 60) (v := (24 : Int32)) d5_58 rfl rfl ?_
  refine s_ishl X1 hx hby (n := 61) d5_60 rfl ?_
  refine s_ior X1 hx hby (n := 62) d5_61 rfl ?_
  refine s_callS X1 hx hby hml hZ (n := 65) hown (hw _ (List.mem_of_getElem? (i := 41) rfl)) (hw _ (List.mem_of_getElem? (i := 42) rfl)) (hw _ (List.mem_of_getElem? (i := 21) rfl)) (hw _ (List.mem_of_getElem? (i := 43) rfl)) (by decide) (rmMix l Z a0 hw (own_mix (0 : Int32) ((((b0 &&& (255 : Int32)) ||| ((b1 &&& (255 : Int32)) <<< ((8 : Int32) &&& 31))) ||| ((b2 &&& (255 : Int32)) <<< ((16 : Int32) &&& 31))) ||| ((b3 &&& (255 : Int32)) <<< ((24 : Int32) &&& 31)))) ((((b4 &&& (255 : Int32)) ||| ((b5 &&& (255 : Int32)) <<< ((8 : Int32) &&& 31))) ||| ((b6 &&& (255 : Int32)) <<< ((16 : Int32) &&& 31))) ||| ((b7 &&& (255 : Int32)) <<< ((24 : Int32) &&& 31))) h0 n0) e1 (by decide) 0 (by decide) (by decide) (by decide) pd_0 [(.int (own_mix (0 : Int32) ((((b0 &&& (255 : Int32)) ||| ((b1 &&& (255 : Int32)) <<< ((8 : Int32) &&& 31))) ||| ((b2 &&& (255 : Int32)) <<< ((16 : Int32) &&& 31))) ||| ((b3 &&& (255 : Int32)) <<< ((24 : Int32) &&& 31))))), (.int ((((b4 &&& (255 : Int32)) ||| ((b5 &&& (255 : Int32)) <<< ((8 : Int32) &&& 31))) ||| ((b6 &&& (255 : Int32)) <<< ((16 : Int32) &&& 31))) ||| ((b7 &&& (255 : Int32)) <<< ((24 : Int32) &&& 31))))] [] rfl rfl rfl (Nat.le_of_eq rfl) rfl d5_62 rfl ?_
  intro T2 L2 v2 X2 q2c
  obtain ⟨rfl, e2, N2⟩ := q2c
  show OEnds p e below s _ _ _ T2 (mkF m 65 #[.val (.ref a), .val (.int (own_mix (0 : Int32) ((((b0 &&& (255 : Int32)) ||| ((b1 &&& (255 : Int32)) <<< ((8 : Int32) &&& 31))) ||| ((b2 &&& (255 : Int32)) <<< ((16 : Int32) &&& 31))) ||| ((b3 &&& (255 : Int32)) <<< ((24 : Int32) &&& 31))))), .val (.int (8 : Int32)), .val (.int (4 : Int32)), .unset] [(.int (own_mix (own_mix (0 : Int32) ((((b0 &&& (255 : Int32)) ||| ((b1 &&& (255 : Int32)) <<< ((8 : Int32) &&& 31))) ||| ((b2 &&& (255 : Int32)) <<< ((16 : Int32) &&& 31))) ||| ((b3 &&& (255 : Int32)) <<< ((24 : Int32) &&& 31)))) ((((b4 &&& (255 : Int32)) ||| ((b5 &&& (255 : Int32)) <<< ((8 : Int32) &&& 31))) ||| ((b6 &&& (255 : Int32)) <<< ((16 : Int32) &&& 31))) ||| ((b7 &&& (255 : Int32)) <<< ((24 : Int32) &&& 31)))))])
  have M2 := Fr.app M1 N2
  refine s_istoreN X2 hx hby (n := 66) (L' := #[.val (.ref a), .val (.int (own_mix (own_mix (0 : Int32) ((((b0 &&& (255 : Int32)) ||| ((b1 &&& (255 : Int32)) <<< ((8 : Int32) &&& 31))) ||| ((b2 &&& (255 : Int32)) <<< ((16 : Int32) &&& 31))) ||| ((b3 &&& (255 : Int32)) <<< ((24 : Int32) &&& 31)))) ((((b4 &&& (255 : Int32)) ||| ((b5 &&& (255 : Int32)) <<< ((8 : Int32) &&& 31))) ||| ((b6 &&& (255 : Int32)) <<< ((16 : Int32) &&& 31))) ||| ((b7 &&& (255 : Int32)) <<< ((24 : Int32) &&& 31))))), .val (.int (8 : Int32)), .val (.int (4 : Int32)), .unset]) d5_65 rfl rfl ?_
  refine s_iincC X2 hx hby (n := 69) (v := (4 : Int32)) (x := (4 : Int32)) (z := (8 : Int32)) (L' := #[.val (.ref a), .val (.int (own_mix (own_mix (0 : Int32) ((((b0 &&& (255 : Int32)) ||| ((b1 &&& (255 : Int32)) <<< ((8 : Int32) &&& 31))) ||| ((b2 &&& (255 : Int32)) <<< ((16 : Int32) &&& 31))) ||| ((b3 &&& (255 : Int32)) <<< ((24 : Int32) &&& 31)))) ((((b4 &&& (255 : Int32)) ||| ((b5 &&& (255 : Int32)) <<< ((8 : Int32) &&& 31))) ||| ((b6 &&& (255 : Int32)) <<< ((16 : Int32) &&& 31))) ||| ((b7 &&& (255 : Int32)) <<< ((24 : Int32) &&& 31))))), .val (.int (8 : Int32)), .val (.int (8 : Int32)), .unset]) d5_66 rfl rfl (by decide) rfl rfl ?_
  refine s_goto X2 hx hby (n := 10) d5_69 (by decide) (by decide) ?_
  refine s_iloadN X2 hx hby (n := 11) (x := (8 : Int32)) d5_10 rfl rfl ?_
  refine s_iloadN X2 hx hby (n := 12) (x := (8 : Int32)) d5_11 rfl rfl ?_
  refine s_icmpY X2 hx hby (n := 72) d5_12 (by decide) (by decide) (by decide) ?_
  refine s_iloadN X2 hx hby (n := 73) (x := (8 : Int32)) d5_72 rfl rfl ?_
  refine s_aloadN X2 hx hby (n := 74) (x := (.ref a)) d5_73 rfl rfl rfl ?_
  refine s_arraylength X2 hx hby hZ (n := 75) e2 Ar (z := (8 : Int32)) Sz (by decide) d5_74 rfl ?_
  refine s_icmpY X2 hx hby (n := 119) d5_75 (by decide) (by decide) (by decide) ?_
  refine s_iloadN X2 hx hby (n := 120) (x := (own_mix (own_mix (0 : Int32) ((((b0 &&& (255 : Int32)) ||| ((b1 &&& (255 : Int32)) <<< ((8 : Int32) &&& 31))) ||| ((b2 &&& (255 : Int32)) <<< ((16 : Int32) &&& 31))) ||| ((b3 &&& (255 : Int32)) <<< ((24 : Int32) &&& 31)))) ((((b4 &&& (255 : Int32)) ||| ((b5 &&& (255 : Int32)) <<< ((8 : Int32) &&& 31))) ||| ((b6 &&& (255 : Int32)) <<< ((16 : Int32) &&& 31))) ||| ((b7 &&& (255 : Int32)) <<< ((24 : Int32) &&& 31))))) d5_119 rfl rfl ?_
  refine s_aloadN X2 hx hby (n := 121) (x := (.ref a)) d5_120 rfl rfl rfl ?_
  refine s_arraylength X2 hx hby hZ (n := 122) e2 Ar (z := (8 : Int32)) Sz (by decide) d5_121 rfl ?_
  refine s_callS X2 hx hby hml hZ (n := 125) hown (hw _ (List.mem_of_getElem? (i := 32) rfl)) (hw _ (List.mem_of_getElem? (i := 33) rfl)) (hw _ (List.mem_of_getElem? (i := 21) rfl)) (hw _ (List.mem_of_getElem? (i := 34) rfl)) (by decide) (rmFin l Z a0 hw (own_mix (own_mix (0 : Int32) ((((b0 &&& (255 : Int32)) ||| ((b1 &&& (255 : Int32)) <<< ((8 : Int32) &&& 31))) ||| ((b2 &&& (255 : Int32)) <<< ((16 : Int32) &&& 31))) ||| ((b3 &&& (255 : Int32)) <<< ((24 : Int32) &&& 31)))) ((((b4 &&& (255 : Int32)) ||| ((b5 &&& (255 : Int32)) <<< ((8 : Int32) &&& 31))) ||| ((b6 &&& (255 : Int32)) <<< ((16 : Int32) &&& 31))) ||| ((b7 &&& (255 : Int32)) <<< ((24 : Int32) &&& 31)))) (8 : Int32) h0 n0) e2 (by decide) 0 (by decide) (by decide) (by decide) pd_0 [(.int (own_mix (own_mix (0 : Int32) ((((b0 &&& (255 : Int32)) ||| ((b1 &&& (255 : Int32)) <<< ((8 : Int32) &&& 31))) ||| ((b2 &&& (255 : Int32)) <<< ((16 : Int32) &&& 31))) ||| ((b3 &&& (255 : Int32)) <<< ((24 : Int32) &&& 31)))) ((((b4 &&& (255 : Int32)) ||| ((b5 &&& (255 : Int32)) <<< ((8 : Int32) &&& 31))) ||| ((b6 &&& (255 : Int32)) <<< ((16 : Int32) &&& 31))) ||| ((b7 &&& (255 : Int32)) <<< ((24 : Int32) &&& 31))))), (.int (8 : Int32))] [] rfl rfl rfl (Nat.le_of_eq rfl) rfl d5_122 rfl ?_
  intro T3 L3 v3 X3 q3c
  obtain ⟨rfl, e3, N3⟩ := q3c
  show OEnds p e below s _ _ _ T3 (mkF m 125 #[.val (.ref a), .val (.int (own_mix (own_mix (0 : Int32) ((((b0 &&& (255 : Int32)) ||| ((b1 &&& (255 : Int32)) <<< ((8 : Int32) &&& 31))) ||| ((b2 &&& (255 : Int32)) <<< ((16 : Int32) &&& 31))) ||| ((b3 &&& (255 : Int32)) <<< ((24 : Int32) &&& 31)))) ((((b4 &&& (255 : Int32)) ||| ((b5 &&& (255 : Int32)) <<< ((8 : Int32) &&& 31))) ||| ((b6 &&& (255 : Int32)) <<< ((16 : Int32) &&& 31))) ||| ((b7 &&& (255 : Int32)) <<< ((24 : Int32) &&& 31))))), .val (.int (8 : Int32)), .val (.int (8 : Int32)), .unset] [(.int (own_fin (own_mix (own_mix (0 : Int32) ((((b0 &&& (255 : Int32)) ||| ((b1 &&& (255 : Int32)) <<< ((8 : Int32) &&& 31))) ||| ((b2 &&& (255 : Int32)) <<< ((16 : Int32) &&& 31))) ||| ((b3 &&& (255 : Int32)) <<< ((24 : Int32) &&& 31)))) ((((b4 &&& (255 : Int32)) ||| ((b5 &&& (255 : Int32)) <<< ((8 : Int32) &&& 31))) ||| ((b6 &&& (255 : Int32)) <<< ((16 : Int32) &&& 31))) ||| ((b7 &&& (255 : Int32)) <<< ((24 : Int32) &&& 31)))) (8 : Int32)))])
  have M3 := Fr.app M2 N3
  exact s_retI X3 hx hby hlk hret d5_125 (by decide) (by decide) ⟨rfl, e3, M3⟩
set_option maxRecDepth 65536 in
set_option maxHeartbeats 40000000 in
theorem rmH9 (l : Launch) (Z : State) (a0 : Array Value) (hw : ∀ d ∈ tables_1, d.before a0 Z = true) (a : Addr) (cl : Cell) (b0 b1 b2 b3 b4 b5 b6 b7 b8 : Int32) (h0 : Heap) (n0 : Nat) (Ar : Arr Z h0 a cl .byte) (Sz : cl.slots.size = (9 : Int32).toNatClampNeg) (B0 : cl.slots[0]? = some (.int b0)) (B1 : cl.slots[1]? = some (.int b1)) (B2 : cl.slots[2]? = some (.int b2)) (B3 : cl.slots[3]? = some (.int b3)) (B4 : cl.slots[4]? = some (.int b4)) (B5 : cl.slots[5]? = some (.int b5)) (B6 : cl.slots[6]? = some (.int b6)) (B7 : cl.slots[7]? = some (.int b7)) (B8 : cl.slots[8]? = some (.int b8)) :
    OCon l Z (⟨"com/example/floe/floe/Murmur3", "hash", "([B)I"⟩ : MethodName) prog_8_method_2_code 5 (some (.int)) [] ({ frames := 3, cells := 0, slots := 0, locals := 43 } : Room) #[(.ref a)] h0 (fun v h L => v = some (.int (own_fin ((own_mix (own_mix (0 : Int32) ((((b0 &&& (255 : Int32)) ||| ((b1 &&& (255 : Int32)) <<< ((8 : Int32) &&& 31))) ||| ((b2 &&& (255 : Int32)) <<< ((16 : Int32) &&& 31))) ||| ((b3 &&& (255 : Int32)) <<< ((24 : Int32) &&& 31)))) ((((b4 &&& (255 : Int32)) ||| ((b5 &&& (255 : Int32)) <<< ((8 : Int32) &&& 31))) ||| ((b6 &&& (255 : Int32)) <<< ((16 : Int32) &&& 31))) ||| ((b7 &&& (255 : Int32)) <<< ((24 : Int32) &&& 31)))) ^^^ (own_scr ((0 : Int32) ||| (b8 &&& (255 : Int32))))) (9 : Int32))) ∧ h = h0 ∧ Fr n0 L) := by
  refine con (plainFor_of_name pnM) ?_
  intro p e s m below meth c s₁ hx hby hml hZ hown hnm hret hlk X0 e0
  refine entry (efH m a) ?_
  have M0 := Fr.nil n0
  refine s_iconst X0 hx hby (n := 1) (v := (0 : Int32)) d5_0 rfl rfl ?_
  refine s_istoreN X0 hx hby (n := 2) (L' := #[.val (.ref a), .val (.int (0 : Int32)), .unset, .unset, .unset]) d5_1 rfl rfl ?_
  refine s_aloadN X0 hx hby (n := 3) (x := (.ref a)) d5_2 rfl rfl rfl ?_
  refine s_arraylength X0 hx hby hZ (n := 4) e0 Ar (z := (9 : Int32)) Sz (by decide) d5_3 rfl ?_
  refine s_bipush X0 hx hby (n := 6) (v := (-4 : Int32)) d5_4 rfl rfl ?_
  refine s_iand X0 hx hby (n := 7) d5_6 rfl ?_
  refine s_fold (z := (8 : Int32)) (by decide) ?_
  refine s_istoreN X0 hx hby (n := 8) (L' := #[.val (.ref a), .val (.int (0 : Int32)), .val (.int (8 : Int32)), .unset, .unset]) d5_7 rfl rfl ?_
  refine s_iconst X0 hx hby (n := 9) (v := (0 : Int32)) d5_8 rfl rfl ?_
  refine s_istoreN X0 hx hby (n := 10) (L' := #[.val (.ref a), .val (.int (0 : Int32)), .val (.int (8 : Int32)), .val (.int (0 : Int32)), .unset]) d5_9 rfl rfl ?_
  refine s_iloadN X0 hx hby (n := 11) (x := (0 : Int32)) d5_10 rfl rfl ?_
  refine s_iloadN X0 hx hby (n := 12) (x := (8 : Int32)) d5_11 rfl rfl ?_
  refine s_icmpN X0 hx hby (n := 15) d5_12 (by decide) rfl ?_
  refine s_iloadN X0 hx hby (n := 16) (x := (0 : Int32)) d5_15 rfl rfl ?_
  refine s_aloadN X0 hx hby (n := 17) (x := (.ref a)) d5_16 rfl rfl rfl ?_
  refine s_iloadN X0 hx hby (n := 18) (x := (0 : Int32)) d5_17 rfl rfl ?_
  refine s_baloadC X0 hx hby hZ (n := 19) e0 Ar 0 (by decide) (by decide) (by rw [Sz]; decide) B0 d5_18 rfl ?_
  refine s_sipush X0 hx hby (n := 22) (v := (255 : Int32)) d5_19 rfl rfl ?_
  refine s_iand X0 hx hby (n := 23) d5_22 rfl ?_
  refine s_aloadN X0 hx hby (n := 24) (x := (.ref a)) d5_23 rfl rfl rfl ?_
  refine s_iloadN X0 hx hby (n := 25) (x := (0 : Int32)) d5_24 rfl rfl ?_
  refine s_iconst X0 hx hby (n := 26) (v := (1 : Int32)) d5_25 rfl rfl ?_
  refine s_iadd X0 hx hby (n := 27) d5_26 rfl ?_
  refine s_fold (z := (1 : Int32)) (by decide) ?_
  refine s_baloadC X0 hx hby hZ (n := 28) e0 Ar 1 (by decide) (by decide) (by rw [Sz]; decide) B1 d5_27 rfl ?_
  refine s_sipush X0 hx hby (n := 31) (v := (255 : Int32)) d5_28 rfl rfl ?_
  refine s_iand X0 hx hby (n := 32) d5_31 rfl ?_
  refine s_bipush X0 hx hby (n := 34) (v := (8 : Int32)) d5_32 rfl rfl ?_
  refine s_ishl X0 hx hby (n := 35) d5_34 rfl ?_
  refine s_ior X0 hx hby (n := 36) d5_35 rfl ?_
  refine s_aloadN X0 hx hby (n := 37) (x := (.ref a)) d5_36 rfl rfl rfl ?_
  refine s_iloadN X0 hx hby (n := 38) (x := (0 : Int32)) d5_37 rfl rfl ?_
  refine s_iconst X0 hx hby (n := 39) (v := (2 : Int32)) d5_38 rfl rfl ?_
  refine s_iadd X0 hx hby (n := 40) d5_39 rfl ?_
  refine s_fold (z := (2 : Int32)) (by decide) ?_
  refine s_baloadC X0 hx hby hZ (n := 41) e0 Ar 2 (by decide) (by decide) (by rw [Sz]; decide) B2 d5_40 rfl ?_
  refine s_sipush X0 hx hby (n := 44) (v := (255 : Int32)) d5_41 rfl rfl ?_
  refine s_iand X0 hx hby (n := 45) d5_44 rfl ?_
  refine s_bipush X0 hx hby (n := 47) (v := (16 : Int32)) d5_45 rfl rfl ?_
  refine s_ishl X0 hx hby (n := 48) d5_47 rfl ?_
  refine s_ior X0 hx hby (n := 49) d5_48 rfl ?_
  refine s_aloadN X0 hx hby (n := 50) (x := (.ref a)) d5_49 rfl rfl rfl ?_
  refine s_iloadN X0 hx hby (n := 51) (x := (0 : Int32)) d5_50 rfl rfl ?_
  refine s_iconst X0 hx hby (n := 52) (v := (3 : Int32)) d5_51 rfl rfl ?_
  refine s_iadd X0 hx hby (n := 53) d5_52 rfl ?_
  refine s_fold (z := (3 : Int32)) (by decide) ?_
  refine s_baloadC X0 hx hby hZ (n := 54) e0 Ar 3 (by decide) (by decide) (by rw [Sz]; decide) B3 d5_53 rfl ?_
  refine s_sipush X0 hx hby (n := 57) (v := (255 : Int32)) d5_54 rfl rfl ?_
  refine s_iand X0 hx hby (n := 58) d5_57 rfl ?_
  refine s_bipush X0 hx hby (n := 60) (v := (24 : Int32)) d5_58 rfl rfl ?_
  refine s_ishl X0 hx hby (n := 61) d5_60 rfl ?_
  refine s_ior X0 hx hby (n := 62) d5_61 rfl ?_
  refine s_callS X0 hx hby hml hZ (n := 65) hown (hw _ (List.mem_of_getElem? (i := 41) rfl)) (hw _ (List.mem_of_getElem? (i := 42) rfl)) (hw _ (List.mem_of_getElem? (i := 21) rfl)) (hw _ (List.mem_of_getElem? (i := 43) rfl)) (by decide) (rmMix l Z a0 hw (0 : Int32) ((((b0 &&& (255 : Int32)) ||| ((b1 &&& (255 : Int32)) <<< ((8 : Int32) &&& 31))) ||| ((b2 &&& (255 : Int32)) <<< ((16 : Int32) &&& 31))) ||| ((b3 &&& (255 : Int32)) <<< ((24 : Int32) &&& 31))) h0 n0) e0 (by decide) 0 (by decide) (by decide) (by decide) pd_0 [(.int (0 : Int32)), (.int ((((b0 &&& (255 : Int32)) ||| ((b1 &&& (255 : Int32)) <<< ((8 : Int32) &&& 31))) ||| ((b2 &&& (255 : Int32)) <<< ((16 : Int32) &&& 31))) ||| ((b3 &&& (255 : Int32)) <<< ((24 : Int32) &&& 31))))] [] rfl rfl rfl (Nat.le_of_eq rfl) rfl d5_62 rfl ?_
  intro T1 L1 v1 X1 q1c
  obtain ⟨rfl, e1, N1⟩ := q1c
  show OEnds p e below s _ _ _ T1 (mkF m 65 #[.val (.ref a), .val (.int (0 : Int32)), .val (.int (8 : Int32)), .val (.int (0 : Int32)), .unset] [(.int (own_mix (0 : Int32) ((((b0 &&& (255 : Int32)) ||| ((b1 &&& (255 : Int32)) <<< ((8 : Int32) &&& 31))) ||| ((b2 &&& (255 : Int32)) <<< ((16 : Int32) &&& 31))) ||| ((b3 &&& (255 : Int32)) <<< ((24 : Int32) &&& 31)))))])
  have M1 := Fr.app M0 N1
  refine s_istoreN X1 hx hby (n := 66) (L' := #[.val (.ref a), .val (.int (own_mix (0 : Int32) ((((b0 &&& (255 : Int32)) ||| ((b1 &&& (255 : Int32)) <<< ((8 : Int32) &&& 31))) ||| ((b2 &&& (255 : Int32)) <<< ((16 : Int32) &&& 31))) ||| ((b3 &&& (255 : Int32)) <<< ((24 : Int32) &&& 31))))), .val (.int (8 : Int32)), .val (.int (0 : Int32)), .unset]) d5_65 rfl rfl ?_
  refine s_iincC X1 hx hby (n := 69) (v := (4 : Int32)) (x := (0 : Int32)) (z := (4 : Int32)) (L' := #[.val (.ref a), .val (.int (own_mix (0 : Int32) ((((b0 &&& (255 : Int32)) ||| ((b1 &&& (255 : Int32)) <<< ((8 : Int32) &&& 31))) ||| ((b2 &&& (255 : Int32)) <<< ((16 : Int32) &&& 31))) ||| ((b3 &&& (255 : Int32)) <<< ((24 : Int32) &&& 31))))), .val (.int (8 : Int32)), .val (.int (4 : Int32)), .unset]) d5_66 rfl rfl (by decide) rfl rfl ?_
  refine s_goto X1 hx hby (n := 10) d5_69 (by decide) (by decide) ?_
  refine s_iloadN X1 hx hby (n := 11) (x := (4 : Int32)) d5_10 rfl rfl ?_
  refine s_iloadN X1 hx hby (n := 12) (x := (8 : Int32)) d5_11 rfl rfl ?_
  refine s_icmpN X1 hx hby (n := 15) d5_12 (by decide) rfl ?_
  refine s_iloadN X1 hx hby (n := 16) (x := (own_mix (0 : Int32) ((((b0 &&& (255 : Int32)) ||| ((b1 &&& (255 : Int32)) <<< ((8 : Int32) &&& 31))) ||| ((b2 &&& (255 : Int32)) <<< ((16 : Int32) &&& 31))) ||| ((b3 &&& (255 : Int32)) <<< ((24 : Int32) &&& 31))))) d5_15 rfl rfl ?_
  refine s_aloadN X1 hx hby (n := 17) (x := (.ref a)) d5_16 rfl rfl rfl ?_
  refine s_iloadN X1 hx hby (n := 18) (x := (4 : Int32)) d5_17 rfl rfl ?_
  refine s_baloadC X1 hx hby hZ (n := 19) e1 Ar 4 (by decide) (by decide) (by rw [Sz]; decide) B4 d5_18 rfl ?_
  refine s_sipush X1 hx hby (n := 22) (v := (255 : Int32)) d5_19 rfl rfl ?_
  refine s_iand X1 hx hby (n := 23) d5_22 rfl ?_
  refine s_aloadN X1 hx hby (n := 24) (x := (.ref a)) d5_23 rfl rfl rfl ?_
  refine s_iloadN X1 hx hby (n := 25) (x := (4 : Int32)) d5_24 rfl rfl ?_
  refine s_iconst X1 hx hby (n := 26) (v := (1 : Int32)) d5_25 rfl rfl ?_
  refine s_iadd X1 hx hby (n := 27) d5_26 rfl ?_
  refine s_fold (z := (5 : Int32)) (by decide) ?_
  refine s_baloadC X1 hx hby hZ (n := 28) e1 Ar 5 (by decide) (by decide) (by rw [Sz]; decide) B5 d5_27 rfl ?_
  refine s_sipush X1 hx hby (n := 31) (v := (255 : Int32)) d5_28 rfl rfl ?_
  refine s_iand X1 hx hby (n := 32) d5_31 rfl ?_
  refine s_bipush X1 hx hby (n := 34) (v := (8 : Int32)) d5_32 rfl rfl ?_
  refine s_ishl X1 hx hby (n := 35) d5_34 rfl ?_
  refine s_ior X1 hx hby (n := 36) d5_35 rfl ?_
  refine s_aloadN X1 hx hby (n := 37) (x := (.ref a)) d5_36 rfl rfl rfl ?_
  refine s_iloadN X1 hx hby (n := 38) (x := (4 : Int32)) d5_37 rfl rfl ?_
  refine s_iconst X1 hx hby (n := 39) (v := (2 : Int32)) d5_38 rfl rfl ?_
  refine s_iadd X1 hx hby (n := 40) d5_39 rfl ?_
  refine s_fold (z := (6 : Int32)) (by decide) ?_
  refine s_baloadC X1 hx hby hZ (n := 41) e1 Ar 6 (by decide) (by decide) (by rw [Sz]; decide) B6 d5_40 rfl ?_
  refine s_sipush X1 hx hby (n := 44) (v := (255 : Int32)) d5_41 rfl rfl ?_
  refine s_iand X1 hx hby (n := 45) d5_44 rfl ?_
  refine s_bipush X1 hx hby (n := 47) (v := (16 : Int32)) d5_45 rfl rfl ?_
  refine s_ishl X1 hx hby (n := 48) d5_47 rfl ?_
  refine s_ior X1 hx hby (n := 49) d5_48 rfl ?_
  refine s_aloadN X1 hx hby (n := 50) (x := (.ref a)) d5_49 rfl rfl rfl ?_
  refine s_iloadN X1 hx hby (n := 51) (x := (4 : Int32)) d5_50 rfl rfl ?_
  refine s_iconst X1 hx hby (n := 52) (v := (3 : Int32)) d5_51 rfl rfl ?_
  refine s_iadd X1 hx hby (n := 53) d5_52 rfl ?_
  refine s_fold (z := (7 : Int32)) (by decide) ?_
  refine s_baloadC X1 hx hby hZ (n := 54) e1 Ar 7 (by decide) (by decide) (by rw [Sz]; decide) B7 d5_53 rfl ?_
  refine s_sipush X1 hx hby (n := 57) (v := (255 : Int32)) d5_54 rfl rfl ?_
  refine s_iand X1 hx hby (n := 58) d5_57 rfl ?_
  refine s_bipush X1 hx hby (n := 60) (v := (24 : Int32)) d5_58 rfl rfl ?_
  refine s_ishl X1 hx hby (n := 61) d5_60 rfl ?_
  refine s_ior X1 hx hby (n := 62) d5_61 rfl ?_
  refine s_callS X1 hx hby hml hZ (n := 65) hown (hw _ (List.mem_of_getElem? (i := 41) rfl)) (hw _ (List.mem_of_getElem? (i := 42) rfl)) (hw _ (List.mem_of_getElem? (i := 21) rfl)) (hw _ (List.mem_of_getElem? (i := 43) rfl)) (by decide) (rmMix l Z a0 hw (own_mix (0 : Int32) ((((b0 &&& (255 : Int32)) ||| ((b1 &&& (255 : Int32)) <<< ((8 : Int32) &&& 31))) ||| ((b2 &&& (255 : Int32)) <<< ((16 : Int32) &&& 31))) ||| ((b3 &&& (255 : Int32)) <<< ((24 : Int32) &&& 31)))) ((((b4 &&& (255 : Int32)) ||| ((b5 &&& (255 : Int32)) <<< ((8 : Int32) &&& 31))) ||| ((b6 &&& (255 : Int32)) <<< ((16 : Int32) &&& 31))) ||| ((b7 &&& (255 : Int32)) <<< ((24 : Int32) &&& 31))) h0 n0) e1 (by decide) 0 (by decide) (by decide) (by decide) pd_0 [(.int (own_mix (0 : Int32) ((((b0 &&& (255 : Int32)) ||| ((b1 &&& (255 : Int32)) <<< ((8 : Int32) &&& 31))) ||| ((b2 &&& (255 : Int32)) <<< ((16 : Int32) &&& 31))) ||| ((b3 &&& (255 : Int32)) <<< ((24 : Int32) &&& 31))))), (.int ((((b4 &&& (255 : Int32)) ||| ((b5 &&& (255 : Int32)) <<< ((8 : Int32) &&& 31))) ||| ((b6 &&& (255 : Int32)) <<< ((16 : Int32) &&& 31))) ||| ((b7 &&& (255 : Int32)) <<< ((24 : Int32) &&& 31))))] [] rfl rfl rfl (Nat.le_of_eq rfl) rfl d5_62 rfl ?_
  intro T2 L2 v2 X2 q2c
  obtain ⟨rfl, e2, N2⟩ := q2c
  show OEnds p e below s _ _ _ T2 (mkF m 65 #[.val (.ref a), .val (.int (own_mix (0 : Int32) ((((b0 &&& (255 : Int32)) ||| ((b1 &&& (255 : Int32)) <<< ((8 : Int32) &&& 31))) ||| ((b2 &&& (255 : Int32)) <<< ((16 : Int32) &&& 31))) ||| ((b3 &&& (255 : Int32)) <<< ((24 : Int32) &&& 31))))), .val (.int (8 : Int32)), .val (.int (4 : Int32)), .unset] [(.int (own_mix (own_mix (0 : Int32) ((((b0 &&& (255 : Int32)) ||| ((b1 &&& (255 : Int32)) <<< ((8 : Int32) &&& 31))) ||| ((b2 &&& (255 : Int32)) <<< ((16 : Int32) &&& 31))) ||| ((b3 &&& (255 : Int32)) <<< ((24 : Int32) &&& 31)))) ((((b4 &&& (255 : Int32)) ||| ((b5 &&& (255 : Int32)) <<< ((8 : Int32) &&& 31))) ||| ((b6 &&& (255 : Int32)) <<< ((16 : Int32) &&& 31))) ||| ((b7 &&& (255 : Int32)) <<< ((24 : Int32) &&& 31)))))])
  have M2 := Fr.app M1 N2
  refine s_istoreN X2 hx hby (n := 66) (L' := #[.val (.ref a), .val (.int (own_mix (own_mix (0 : Int32) ((((b0 &&& (255 : Int32)) ||| ((b1 &&& (255 : Int32)) <<< ((8 : Int32) &&& 31))) ||| ((b2 &&& (255 : Int32)) <<< ((16 : Int32) &&& 31))) ||| ((b3 &&& (255 : Int32)) <<< ((24 : Int32) &&& 31)))) ((((b4 &&& (255 : Int32)) ||| ((b5 &&& (255 : Int32)) <<< ((8 : Int32) &&& 31))) ||| ((b6 &&& (255 : Int32)) <<< ((16 : Int32) &&& 31))) ||| ((b7 &&& (255 : Int32)) <<< ((24 : Int32) &&& 31))))), .val (.int (8 : Int32)), .val (.int (4 : Int32)), .unset]) d5_65 rfl rfl ?_
  refine s_iincC X2 hx hby (n := 69) (v := (4 : Int32)) (x := (4 : Int32)) (z := (8 : Int32)) (L' := #[.val (.ref a), .val (.int (own_mix (own_mix (0 : Int32) ((((b0 &&& (255 : Int32)) ||| ((b1 &&& (255 : Int32)) <<< ((8 : Int32) &&& 31))) ||| ((b2 &&& (255 : Int32)) <<< ((16 : Int32) &&& 31))) ||| ((b3 &&& (255 : Int32)) <<< ((24 : Int32) &&& 31)))) ((((b4 &&& (255 : Int32)) ||| ((b5 &&& (255 : Int32)) <<< ((8 : Int32) &&& 31))) ||| ((b6 &&& (255 : Int32)) <<< ((16 : Int32) &&& 31))) ||| ((b7 &&& (255 : Int32)) <<< ((24 : Int32) &&& 31))))), .val (.int (8 : Int32)), .val (.int (8 : Int32)), .unset]) d5_66 rfl rfl (by decide) rfl rfl ?_
  refine s_goto X2 hx hby (n := 10) d5_69 (by decide) (by decide) ?_
  refine s_iloadN X2 hx hby (n := 11) (x := (8 : Int32)) d5_10 rfl rfl ?_
  refine s_iloadN X2 hx hby (n := 12) (x := (8 : Int32)) d5_11 rfl rfl ?_
  refine s_icmpY X2 hx hby (n := 72) d5_12 (by decide) (by decide) (by decide) ?_
  refine s_iloadN X2 hx hby (n := 73) (x := (8 : Int32)) d5_72 rfl rfl ?_
  refine s_aloadN X2 hx hby (n := 74) (x := (.ref a)) d5_73 rfl rfl rfl ?_
  refine s_arraylength X2 hx hby hZ (n := 75) e2 Ar (z := (9 : Int32)) Sz (by decide) d5_74 rfl ?_
  refine s_icmpN X2 hx hby (n := 78) d5_75 (by decide) rfl ?_
  refine s_iconst X2 hx hby (n := 79) (v := (0 : Int32)) d5_78 rfl rfl ?_
  refine s_istoreN X2 hx hby (n := 80) (L' := #[.val (.ref a), .val (.int (own_mix (own_mix (0 : Int32) ((((b0 &&& (255 : Int32)) ||| ((b1 &&& (255 : Int32)) <<< ((8 : Int32) &&& 31))) ||| ((b2 &&& (255 : Int32)) <<< ((16 : Int32) &&& 31))) ||| ((b3 &&& (255 : Int32)) <<< ((24 : Int32) &&& 31)))) ((((b4 &&& (255 : Int32)) ||| ((b5 &&& (255 : Int32)) <<< ((8 : Int32) &&& 31))) ||| ((b6 &&& (255 : Int32)) <<< ((16 : Int32) &&& 31))) ||| ((b7 &&& (255 : Int32)) <<< ((24 : Int32) &&& 31))))), .val (.int (8 : Int32)), .val (.int (0 : Int32)), .unset]) d5_79 rfl rfl ?_
  refine s_aloadN X2 hx hby (n := 81) (x := (.ref a)) d5_80 rfl rfl rfl ?_
  refine s_arraylength X2 hx hby hZ (n := 82) e2 Ar (z := (9 : Int32)) Sz (by decide) d5_81 rfl ?_
  refine s_iconst X2 hx hby (n := 83) (v := (1 : Int32)) d5_82 rfl rfl ?_
  refine s_isub X2 hx hby (n := 84) d5_83 rfl ?_
  refine s_fold (z := (8 : Int32)) (by decide) ?_
  refine s_istore X2 hx hby (n := 86) (L' := #[.val (.ref a), .val (.int (own_mix (own_mix (0 : Int32) ((((b0 &&& (255 : Int32)) ||| ((b1 &&& (255 : Int32)) <<< ((8 : Int32) &&& 31))) ||| ((b2 &&& (255 : Int32)) <<< ((16 : Int32) &&& 31))) ||| ((b3 &&& (255 : Int32)) <<< ((24 : Int32) &&& 31)))) ((((b4 &&& (255 : Int32)) ||| ((b5 &&& (255 : Int32)) <<< ((8 : Int32) &&& 31))) ||| ((b6 &&& (255 : Int32)) <<< ((16 : Int32) &&& 31))) ||| ((b7 &&& (255 : Int32)) <<< ((24 : Int32) &&& 31))))), .val (.int (8 : Int32)), .val (.int (0 : Int32)), .val (.int (8 : Int32))]) d5_84 rfl rfl ?_
  refine s_iload X2 hx hby (n := 88) (x := (8 : Int32)) d5_86 rfl rfl ?_
  refine s_iloadN X2 hx hby (n := 89) (x := (8 : Int32)) d5_88 rfl rfl ?_
  refine s_icmpN X2 hx hby (n := 92) d5_89 (by decide) rfl ?_
  refine s_iloadN X2 hx hby (n := 93) (x := (0 : Int32)) d5_92 rfl rfl ?_
  refine s_bipush X2 hx hby (n := 95) (v := (8 : Int32)) d5_93 rfl rfl ?_
  refine s_ishl X2 hx hby (n := 96) d5_95 rfl ?_
  refine s_fold (z := (0 : Int32)) (by decide) ?_
  refine s_aloadN X2 hx hby (n := 97) (x := (.ref a)) d5_96 rfl rfl rfl ?_
  refine s_iload X2 hx hby (n := 99) (x := (8 : Int32)) d5_97 rfl rfl ?_
  refine s_baloadC X2 hx hby hZ (n := 100) e2 Ar 8 (by decide) (by decide) (by rw [Sz]; decide) B8 d5_99 rfl ?_
  refine s_sipush X2 hx hby (n := 103) (v := (255 : Int32)) d5_100 rfl rfl ?_
  refine s_iand X2 hx hby (n := 104) d5_103 rfl ?_
  refine s_ior X2 hx hby (n := 105) d5_104 rfl ?_
  refine s_istoreN X2 hx hby (n := 106) (L' := #[.val (.ref a), .val (.int (own_mix (own_mix (0 : Int32) ((((b0 &&& (255 : Int32)) ||| ((b1 &&& (255 : Int32)) <<< ((8 : Int32) &&& 31))) ||| ((b2 &&& (255 : Int32)) <<< ((16 : Int32) &&& 31))) ||| ((b3 &&& (255 : Int32)) <<< ((24 : Int32) &&& 31)))) ((((b4 &&& (255 : Int32)) ||| ((b5 &&& (255 : Int32)) <<< ((8 : Int32) &&& 31))) ||| ((b6 &&& (255 : Int32)) <<< ((16 : Int32) &&& 31))) ||| ((b7 &&& (255 : Int32)) <<< ((24 : Int32) &&& 31))))), .val (.int (8 : Int32)), .val (.int ((0 : Int32) ||| (b8 &&& (255 : Int32)))), .val (.int (8 : Int32))]) d5_105 rfl rfl ?_
  refine s_iincC X2 hx hby (n := 109) (v := (-1 : Int32)) (x := (8 : Int32)) (z := (7 : Int32)) (L' := #[.val (.ref a), .val (.int (own_mix (own_mix (0 : Int32) ((((b0 &&& (255 : Int32)) ||| ((b1 &&& (255 : Int32)) <<< ((8 : Int32) &&& 31))) ||| ((b2 &&& (255 : Int32)) <<< ((16 : Int32) &&& 31))) ||| ((b3 &&& (255 : Int32)) <<< ((24 : Int32) &&& 31)))) ((((b4 &&& (255 : Int32)) ||| ((b5 &&& (255 : Int32)) <<< ((8 : Int32) &&& 31))) ||| ((b6 &&& (255 : Int32)) <<< ((16 : Int32) &&& 31))) ||| ((b7 &&& (255 : Int32)) <<< ((24 : Int32) &&& 31))))), .val (.int (8 : Int32)), .val (.int ((0 : Int32) ||| (b8 &&& (255 : Int32)))), .val (.int (7 : Int32))]) d5_106 rfl rfl (by decide) rfl rfl ?_
  refine s_goto X2 hx hby (n := 86) d5_109 (by decide) (by decide) ?_
  refine s_iload X2 hx hby (n := 88) (x := (7 : Int32)) d5_86 rfl rfl ?_
  refine s_iloadN X2 hx hby (n := 89) (x := (8 : Int32)) d5_88 rfl rfl ?_
  refine s_icmpY X2 hx hby (n := 112) d5_89 (by decide) (by decide) (by decide) ?_
  refine s_iloadN X2 hx hby (n := 113) (x := (own_mix (own_mix (0 : Int32) ((((b0 &&& (255 : Int32)) ||| ((b1 &&& (255 : Int32)) <<< ((8 : Int32) &&& 31))) ||| ((b2 &&& (255 : Int32)) <<< ((16 : Int32) &&& 31))) ||| ((b3 &&& (255 : Int32)) <<< ((24 : Int32) &&& 31)))) ((((b4 &&& (255 : Int32)) ||| ((b5 &&& (255 : Int32)) <<< ((8 : Int32) &&& 31))) ||| ((b6 &&& (255 : Int32)) <<< ((16 : Int32) &&& 31))) ||| ((b7 &&& (255 : Int32)) <<< ((24 : Int32) &&& 31))))) d5_112 rfl rfl ?_
  refine s_iloadN X2 hx hby (n := 114) (x := ((0 : Int32) ||| (b8 &&& (255 : Int32)))) d5_113 rfl rfl ?_
  refine s_callS X2 hx hby hml hZ (n := 117) hown (hw _ (List.mem_of_getElem? (i := 23) rfl)) (hw _ (List.mem_of_getElem? (i := 24) rfl)) (hw _ (List.mem_of_getElem? (i := 21) rfl)) (hw _ (List.mem_of_getElem? (i := 25) rfl)) (by decide) (rmScr l Z a0 hw ((0 : Int32) ||| (b8 &&& (255 : Int32))) h0 n0) e2 (by decide) 1 (by decide) (by decide) (by decide) pd_1 [(.int ((0 : Int32) ||| (b8 &&& (255 : Int32))))] [(.int (own_mix (own_mix (0 : Int32) ((((b0 &&& (255 : Int32)) ||| ((b1 &&& (255 : Int32)) <<< ((8 : Int32) &&& 31))) ||| ((b2 &&& (255 : Int32)) <<< ((16 : Int32) &&& 31))) ||| ((b3 &&& (255 : Int32)) <<< ((24 : Int32) &&& 31)))) ((((b4 &&& (255 : Int32)) ||| ((b5 &&& (255 : Int32)) <<< ((8 : Int32) &&& 31))) ||| ((b6 &&& (255 : Int32)) <<< ((16 : Int32) &&& 31))) ||| ((b7 &&& (255 : Int32)) <<< ((24 : Int32) &&& 31)))))] rfl rfl rfl (Nat.le_of_eq rfl) rfl d5_114 rfl ?_
  intro T3 L3 v3 X3 q3c
  obtain ⟨rfl, e3, N3⟩ := q3c
  show OEnds p e below s _ _ _ T3 (mkF m 117 #[.val (.ref a), .val (.int (own_mix (own_mix (0 : Int32) ((((b0 &&& (255 : Int32)) ||| ((b1 &&& (255 : Int32)) <<< ((8 : Int32) &&& 31))) ||| ((b2 &&& (255 : Int32)) <<< ((16 : Int32) &&& 31))) ||| ((b3 &&& (255 : Int32)) <<< ((24 : Int32) &&& 31)))) ((((b4 &&& (255 : Int32)) ||| ((b5 &&& (255 : Int32)) <<< ((8 : Int32) &&& 31))) ||| ((b6 &&& (255 : Int32)) <<< ((16 : Int32) &&& 31))) ||| ((b7 &&& (255 : Int32)) <<< ((24 : Int32) &&& 31))))), .val (.int (8 : Int32)), .val (.int ((0 : Int32) ||| (b8 &&& (255 : Int32)))), .val (.int (7 : Int32))] [(.int (own_scr ((0 : Int32) ||| (b8 &&& (255 : Int32))))), (.int (own_mix (own_mix (0 : Int32) ((((b0 &&& (255 : Int32)) ||| ((b1 &&& (255 : Int32)) <<< ((8 : Int32) &&& 31))) ||| ((b2 &&& (255 : Int32)) <<< ((16 : Int32) &&& 31))) ||| ((b3 &&& (255 : Int32)) <<< ((24 : Int32) &&& 31)))) ((((b4 &&& (255 : Int32)) ||| ((b5 &&& (255 : Int32)) <<< ((8 : Int32) &&& 31))) ||| ((b6 &&& (255 : Int32)) <<< ((16 : Int32) &&& 31))) ||| ((b7 &&& (255 : Int32)) <<< ((24 : Int32) &&& 31)))))])
  have M3 := Fr.app M2 N3
  refine s_ixor X3 hx hby (n := 118) d5_117 rfl ?_
  refine s_istoreN X3 hx hby (n := 119) (L' := #[.val (.ref a), .val (.int ((own_mix (own_mix (0 : Int32) ((((b0 &&& (255 : Int32)) ||| ((b1 &&& (255 : Int32)) <<< ((8 : Int32) &&& 31))) ||| ((b2 &&& (255 : Int32)) <<< ((16 : Int32) &&& 31))) ||| ((b3 &&& (255 : Int32)) <<< ((24 : Int32) &&& 31)))) ((((b4 &&& (255 : Int32)) ||| ((b5 &&& (255 : Int32)) <<< ((8 : Int32) &&& 31))) ||| ((b6 &&& (255 : Int32)) <<< ((16 : Int32) &&& 31))) ||| ((b7 &&& (255 : Int32)) <<< ((24 : Int32) &&& 31)))) ^^^ (own_scr ((0 : Int32) ||| (b8 &&& (255 : Int32)))))), .val (.int (8 : Int32)), .val (.int ((0 : Int32) ||| (b8 &&& (255 : Int32)))), .val (.int (7 : Int32))]) d5_118 rfl rfl ?_
  refine s_iloadN X3 hx hby (n := 120) (x := ((own_mix (own_mix (0 : Int32) ((((b0 &&& (255 : Int32)) ||| ((b1 &&& (255 : Int32)) <<< ((8 : Int32) &&& 31))) ||| ((b2 &&& (255 : Int32)) <<< ((16 : Int32) &&& 31))) ||| ((b3 &&& (255 : Int32)) <<< ((24 : Int32) &&& 31)))) ((((b4 &&& (255 : Int32)) ||| ((b5 &&& (255 : Int32)) <<< ((8 : Int32) &&& 31))) ||| ((b6 &&& (255 : Int32)) <<< ((16 : Int32) &&& 31))) ||| ((b7 &&& (255 : Int32)) <<< ((24 : Int32) &&& 31)))) ^^^ (own_scr ((0 : Int32) ||| (b8 &&& (255 : Int32)))))) d5_119 rfl rfl ?_
  refine s_aloadN X3 hx hby (n := 121) (x := (.ref a)) d5_120 rfl rfl rfl ?_
  refine s_arraylength X3 hx hby hZ (n := 122) e3 Ar (z := (9 : Int32)) Sz (by decide) d5_121 rfl ?_
  refine s_callS X3 hx hby hml hZ (n := 125) hown (hw _ (List.mem_of_getElem? (i := 32) rfl)) (hw _ (List.mem_of_getElem? (i := 33) rfl)) (hw _ (List.mem_of_getElem? (i := 21) rfl)) (hw _ (List.mem_of_getElem? (i := 34) rfl)) (by decide) (rmFin l Z a0 hw ((own_mix (own_mix (0 : Int32) ((((b0 &&& (255 : Int32)) ||| ((b1 &&& (255 : Int32)) <<< ((8 : Int32) &&& 31))) ||| ((b2 &&& (255 : Int32)) <<< ((16 : Int32) &&& 31))) ||| ((b3 &&& (255 : Int32)) <<< ((24 : Int32) &&& 31)))) ((((b4 &&& (255 : Int32)) ||| ((b5 &&& (255 : Int32)) <<< ((8 : Int32) &&& 31))) ||| ((b6 &&& (255 : Int32)) <<< ((16 : Int32) &&& 31))) ||| ((b7 &&& (255 : Int32)) <<< ((24 : Int32) &&& 31)))) ^^^ (own_scr ((0 : Int32) ||| (b8 &&& (255 : Int32))))) (9 : Int32) h0 n0) e3 (by decide) 0 (by decide) (by decide) (by decide) pd_0 [(.int ((own_mix (own_mix (0 : Int32) ((((b0 &&& (255 : Int32)) ||| ((b1 &&& (255 : Int32)) <<< ((8 : Int32) &&& 31))) ||| ((b2 &&& (255 : Int32)) <<< ((16 : Int32) &&& 31))) ||| ((b3 &&& (255 : Int32)) <<< ((24 : Int32) &&& 31)))) ((((b4 &&& (255 : Int32)) ||| ((b5 &&& (255 : Int32)) <<< ((8 : Int32) &&& 31))) ||| ((b6 &&& (255 : Int32)) <<< ((16 : Int32) &&& 31))) ||| ((b7 &&& (255 : Int32)) <<< ((24 : Int32) &&& 31)))) ^^^ (own_scr ((0 : Int32) ||| (b8 &&& (255 : Int32)))))), (.int (9 : Int32))] [] rfl rfl rfl (Nat.le_of_eq rfl) rfl d5_122 rfl ?_
  intro T4 L4 v4 X4 q4c
  obtain ⟨rfl, e4, N4⟩ := q4c
  show OEnds p e below s _ _ _ T4 (mkF m 125 #[.val (.ref a), .val (.int ((own_mix (own_mix (0 : Int32) ((((b0 &&& (255 : Int32)) ||| ((b1 &&& (255 : Int32)) <<< ((8 : Int32) &&& 31))) ||| ((b2 &&& (255 : Int32)) <<< ((16 : Int32) &&& 31))) ||| ((b3 &&& (255 : Int32)) <<< ((24 : Int32) &&& 31)))) ((((b4 &&& (255 : Int32)) ||| ((b5 &&& (255 : Int32)) <<< ((8 : Int32) &&& 31))) ||| ((b6 &&& (255 : Int32)) <<< ((16 : Int32) &&& 31))) ||| ((b7 &&& (255 : Int32)) <<< ((24 : Int32) &&& 31)))) ^^^ (own_scr ((0 : Int32) ||| (b8 &&& (255 : Int32)))))), .val (.int (8 : Int32)), .val (.int ((0 : Int32) ||| (b8 &&& (255 : Int32)))), .val (.int (7 : Int32))] [(.int (own_fin ((own_mix (own_mix (0 : Int32) ((((b0 &&& (255 : Int32)) ||| ((b1 &&& (255 : Int32)) <<< ((8 : Int32) &&& 31))) ||| ((b2 &&& (255 : Int32)) <<< ((16 : Int32) &&& 31))) ||| ((b3 &&& (255 : Int32)) <<< ((24 : Int32) &&& 31)))) ((((b4 &&& (255 : Int32)) ||| ((b5 &&& (255 : Int32)) <<< ((8 : Int32) &&& 31))) ||| ((b6 &&& (255 : Int32)) <<< ((16 : Int32) &&& 31))) ||| ((b7 &&& (255 : Int32)) <<< ((24 : Int32) &&& 31)))) ^^^ (own_scr ((0 : Int32) ||| (b8 &&& (255 : Int32))))) (9 : Int32)))])
  have M4 := Fr.app M3 N4
  exact s_retI X4 hx hby hlk hret d5_125 (by decide) (by decide) ⟨rfl, e4, M4⟩
set_option maxRecDepth 65536 in
set_option maxHeartbeats 40000000 in
theorem rmH10 (l : Launch) (Z : State) (a0 : Array Value) (hw : ∀ d ∈ tables_1, d.before a0 Z = true) (a : Addr) (cl : Cell) (b0 b1 b2 b3 b4 b5 b6 b7 b8 b9 : Int32) (h0 : Heap) (n0 : Nat) (Ar : Arr Z h0 a cl .byte) (Sz : cl.slots.size = (10 : Int32).toNatClampNeg) (B0 : cl.slots[0]? = some (.int b0)) (B1 : cl.slots[1]? = some (.int b1)) (B2 : cl.slots[2]? = some (.int b2)) (B3 : cl.slots[3]? = some (.int b3)) (B4 : cl.slots[4]? = some (.int b4)) (B5 : cl.slots[5]? = some (.int b5)) (B6 : cl.slots[6]? = some (.int b6)) (B7 : cl.slots[7]? = some (.int b7)) (B8 : cl.slots[8]? = some (.int b8)) (B9 : cl.slots[9]? = some (.int b9)) :
    OCon l Z (⟨"com/example/floe/floe/Murmur3", "hash", "([B)I"⟩ : MethodName) prog_8_method_2_code 5 (some (.int)) [] ({ frames := 3, cells := 0, slots := 0, locals := 43 } : Room) #[(.ref a)] h0 (fun v h L => v = some (.int (own_fin ((own_mix (own_mix (0 : Int32) ((((b0 &&& (255 : Int32)) ||| ((b1 &&& (255 : Int32)) <<< ((8 : Int32) &&& 31))) ||| ((b2 &&& (255 : Int32)) <<< ((16 : Int32) &&& 31))) ||| ((b3 &&& (255 : Int32)) <<< ((24 : Int32) &&& 31)))) ((((b4 &&& (255 : Int32)) ||| ((b5 &&& (255 : Int32)) <<< ((8 : Int32) &&& 31))) ||| ((b6 &&& (255 : Int32)) <<< ((16 : Int32) &&& 31))) ||| ((b7 &&& (255 : Int32)) <<< ((24 : Int32) &&& 31)))) ^^^ (own_scr ((((0 : Int32) ||| (b9 &&& (255 : Int32))) <<< ((8 : Int32) &&& 31)) ||| (b8 &&& (255 : Int32))))) (10 : Int32))) ∧ h = h0 ∧ Fr n0 L) := by
  refine con (plainFor_of_name pnM) ?_
  intro p e s m below meth c s₁ hx hby hml hZ hown hnm hret hlk X0 e0
  refine entry (efH m a) ?_
  have M0 := Fr.nil n0
  refine s_iconst X0 hx hby (n := 1) (v := (0 : Int32)) d5_0 rfl rfl ?_
  refine s_istoreN X0 hx hby (n := 2) (L' := #[.val (.ref a), .val (.int (0 : Int32)), .unset, .unset, .unset]) d5_1 rfl rfl ?_
  refine s_aloadN X0 hx hby (n := 3) (x := (.ref a)) d5_2 rfl rfl rfl ?_
  refine s_arraylength X0 hx hby hZ (n := 4) e0 Ar (z := (10 : Int32)) Sz (by decide) d5_3 rfl ?_
  refine s_bipush X0 hx hby (n := 6) (v := (-4 : Int32)) d5_4 rfl rfl ?_
  refine s_iand X0 hx hby (n := 7) d5_6 rfl ?_
  refine s_fold (z := (8 : Int32)) (by decide) ?_
  refine s_istoreN X0 hx hby (n := 8) (L' := #[.val (.ref a), .val (.int (0 : Int32)), .val (.int (8 : Int32)), .unset, .unset]) d5_7 rfl rfl ?_
  refine s_iconst X0 hx hby (n := 9) (v := (0 : Int32)) d5_8 rfl rfl ?_
  refine s_istoreN X0 hx hby (n := 10) (L' := #[.val (.ref a), .val (.int (0 : Int32)), .val (.int (8 : Int32)), .val (.int (0 : Int32)), .unset]) d5_9 rfl rfl ?_
  refine s_iloadN X0 hx hby (n := 11) (x := (0 : Int32)) d5_10 rfl rfl ?_
  refine s_iloadN X0 hx hby (n := 12) (x := (8 : Int32)) d5_11 rfl rfl ?_
  refine s_icmpN X0 hx hby (n := 15) d5_12 (by decide) rfl ?_
  refine s_iloadN X0 hx hby (n := 16) (x := (0 : Int32)) d5_15 rfl rfl ?_
  refine s_aloadN X0 hx hby (n := 17) (x := (.ref a)) d5_16 rfl rfl rfl ?_
  refine s_iloadN X0 hx hby (n := 18) (x := (0 : Int32)) d5_17 rfl rfl ?_
  refine s_baloadC X0 hx hby hZ (n := 19) e0 Ar 0 (by decide) (by decide) (by rw [Sz]; decide) B0 d5_18 rfl ?_
  refine s_sipush X0 hx hby (n := 22) (v := (255 : Int32)) d5_19 rfl rfl ?_
  refine s_iand X0 hx hby (n := 23) d5_22 rfl ?_
  refine s_aloadN X0 hx hby (n := 24) (x := (.ref a)) d5_23 rfl rfl rfl ?_
  refine s_iloadN X0 hx hby (n := 25) (x := (0 : Int32)) d5_24 rfl rfl ?_
  refine s_iconst X0 hx hby (n := 26) (v := (1 : Int32)) d5_25 rfl rfl ?_
  refine s_iadd X0 hx hby (n := 27) d5_26 rfl ?_
  refine s_fold (z := (1 : Int32)) (by decide) ?_
  refine s_baloadC X0 hx hby hZ (n := 28) e0 Ar 1 (by decide) (by decide) (by rw [Sz]; decide) B1 d5_27 rfl ?_
  refine s_sipush X0 hx hby (n := 31) (v := (255 : Int32)) d5_28 rfl rfl ?_
  refine s_iand X0 hx hby (n := 32) d5_31 rfl ?_
  refine s_bipush X0 hx hby (n := 34) (v := (8 : Int32)) d5_32 rfl rfl ?_
  refine s_ishl X0 hx hby (n := 35) d5_34 rfl ?_
  refine s_ior X0 hx hby (n := 36) d5_35 rfl ?_
  refine s_aloadN X0 hx hby (n := 37) (x := (.ref a)) d5_36 rfl rfl rfl ?_
  refine s_iloadN X0 hx hby (n := 38) (x := (0 : Int32)) d5_37 rfl rfl ?_
  refine s_iconst X0 hx hby (n := 39) (v := (2 : Int32)) d5_38 rfl rfl ?_
  refine s_iadd X0 hx hby (n := 40) d5_39 rfl ?_
  refine s_fold (z := (2 : Int32)) (by decide) ?_
  refine s_baloadC X0 hx hby hZ (n := 41) e0 Ar 2 (by decide) (by decide) (by rw [Sz]; decide) B2 d5_40 rfl ?_
  refine s_sipush X0 hx hby (n := 44) (v := (255 : Int32)) d5_41 rfl rfl ?_
  refine s_iand X0 hx hby (n := 45) d5_44 rfl ?_
  refine s_bipush X0 hx hby (n := 47) (v := (16 : Int32)) d5_45 rfl rfl ?_
  refine s_ishl X0 hx hby (n := 48) d5_47 rfl ?_
  refine s_ior X0 hx hby (n := 49) d5_48 rfl ?_
  refine s_aloadN X0 hx hby (n := 50) (x := (.ref a)) d5_49 rfl rfl rfl ?_
  refine s_iloadN X0 hx hby (n := 51) (x := (0 : Int32)) d5_50 rfl rfl ?_
  refine s_iconst X0 hx hby (n := 52) (v := (3 : Int32)) d5_51 rfl rfl ?_
  refine s_iadd X0 hx hby (n := 53) d5_52 rfl ?_
  refine s_fold (z := (3 : Int32)) (by decide) ?_
  refine s_baloadC X0 hx hby hZ (n := 54) e0 Ar 3 (by decide) (by decide) (by rw [Sz]; decide) B3 d5_53 rfl ?_
  refine s_sipush X0 hx hby (n := 57) (v := (255 : Int32)) d5_54 rfl rfl ?_
  refine s_iand X0 hx hby (n := 58) d5_57 rfl ?_
  refine s_bipush X0 hx hby (n := 60) (v := (24 : Int32)) d5_58 rfl rfl ?_
  refine s_ishl X0 hx hby (n := 61) d5_60 rfl ?_
  refine s_ior X0 hx hby (n := 62) d5_61 rfl ?_
  refine s_callS X0 hx hby hml hZ (n := 65) hown (hw _ (List.mem_of_getElem? (i := 41) rfl)) (hw _ (List.mem_of_getElem? (i := 42) rfl)) (hw _ (List.mem_of_getElem? (i := 21) rfl)) (hw _ (List.mem_of_getElem? (i := 43) rfl)) (by decide) (rmMix l Z a0 hw (0 : Int32) ((((b0 &&& (255 : Int32)) ||| ((b1 &&& (255 : Int32)) <<< ((8 : Int32) &&& 31))) ||| ((b2 &&& (255 : Int32)) <<< ((16 : Int32) &&& 31))) ||| ((b3 &&& (255 : Int32)) <<< ((24 : Int32) &&& 31))) h0 n0) e0 (by decide) 0 (by decide) (by decide) (by decide) pd_0 [(.int (0 : Int32)), (.int ((((b0 &&& (255 : Int32)) ||| ((b1 &&& (255 : Int32)) <<< ((8 : Int32) &&& 31))) ||| ((b2 &&& (255 : Int32)) <<< ((16 : Int32) &&& 31))) ||| ((b3 &&& (255 : Int32)) <<< ((24 : Int32) &&& 31))))] [] rfl rfl rfl (Nat.le_of_eq rfl) rfl d5_62 rfl ?_
  intro T1 L1 v1 X1 q1c
  obtain ⟨rfl, e1, N1⟩ := q1c
  show OEnds p e below s _ _ _ T1 (mkF m 65 #[.val (.ref a), .val (.int (0 : Int32)), .val (.int (8 : Int32)), .val (.int (0 : Int32)), .unset] [(.int (own_mix (0 : Int32) ((((b0 &&& (255 : Int32)) ||| ((b1 &&& (255 : Int32)) <<< ((8 : Int32) &&& 31))) ||| ((b2 &&& (255 : Int32)) <<< ((16 : Int32) &&& 31))) ||| ((b3 &&& (255 : Int32)) <<< ((24 : Int32) &&& 31)))))])
  have M1 := Fr.app M0 N1
  refine s_istoreN X1 hx hby (n := 66) (L' := #[.val (.ref a), .val (.int (own_mix (0 : Int32) ((((b0 &&& (255 : Int32)) ||| ((b1 &&& (255 : Int32)) <<< ((8 : Int32) &&& 31))) ||| ((b2 &&& (255 : Int32)) <<< ((16 : Int32) &&& 31))) ||| ((b3 &&& (255 : Int32)) <<< ((24 : Int32) &&& 31))))), .val (.int (8 : Int32)), .val (.int (0 : Int32)), .unset]) d5_65 rfl rfl ?_
  refine s_iincC X1 hx hby (n := 69) (v := (4 : Int32)) (x := (0 : Int32)) (z := (4 : Int32)) (L' := #[.val (.ref a), .val (.int (own_mix (0 : Int32) ((((b0 &&& (255 : Int32)) ||| ((b1 &&& (255 : Int32)) <<< ((8 : Int32) &&& 31))) ||| ((b2 &&& (255 : Int32)) <<< ((16 : Int32) &&& 31))) ||| ((b3 &&& (255 : Int32)) <<< ((24 : Int32) &&& 31))))), .val (.int (8 : Int32)), .val (.int (4 : Int32)), .unset]) d5_66 rfl rfl (by decide) rfl rfl ?_
  refine s_goto X1 hx hby (n := 10) d5_69 (by decide) (by decide) ?_
  refine s_iloadN X1 hx hby (n := 11) (x := (4 : Int32)) d5_10 rfl rfl ?_
  refine s_iloadN X1 hx hby (n := 12) (x := (8 : Int32)) d5_11 rfl rfl ?_
  refine s_icmpN X1 hx hby (n := 15) d5_12 (by decide) rfl ?_
  refine s_iloadN X1 hx hby (n := 16) (x := (own_mix (0 : Int32) ((((b0 &&& (255 : Int32)) ||| ((b1 &&& (255 : Int32)) <<< ((8 : Int32) &&& 31))) ||| ((b2 &&& (255 : Int32)) <<< ((16 : Int32) &&& 31))) ||| ((b3 &&& (255 : Int32)) <<< ((24 : Int32) &&& 31))))) d5_15 rfl rfl ?_
  refine s_aloadN X1 hx hby (n := 17) (x := (.ref a)) d5_16 rfl rfl rfl ?_
  refine s_iloadN X1 hx hby (n := 18) (x := (4 : Int32)) d5_17 rfl rfl ?_
  refine s_baloadC X1 hx hby hZ (n := 19) e1 Ar 4 (by decide) (by decide) (by rw [Sz]; decide) B4 d5_18 rfl ?_
  refine s_sipush X1 hx hby (n := 22) (v := (255 : Int32)) d5_19 rfl rfl ?_
  refine s_iand X1 hx hby (n := 23) d5_22 rfl ?_
  refine s_aloadN X1 hx hby (n := 24) (x := (.ref a)) d5_23 rfl rfl rfl ?_
  refine s_iloadN X1 hx hby (n := 25) (x := (4 : Int32)) d5_24 rfl rfl ?_
  refine s_iconst X1 hx hby (n := 26) (v := (1 : Int32)) d5_25 rfl rfl ?_
  refine s_iadd X1 hx hby (n := 27) d5_26 rfl ?_
  refine s_fold (z := (5 : Int32)) (by decide) ?_
  refine s_baloadC X1 hx hby hZ (n := 28) e1 Ar 5 (by decide) (by decide) (by rw [Sz]; decide) B5 d5_27 rfl ?_
  refine s_sipush X1 hx hby (n := 31) (v := (255 : Int32)) d5_28 rfl rfl ?_
  refine s_iand X1 hx hby (n := 32) d5_31 rfl ?_
  refine s_bipush X1 hx hby (n := 34) (v := (8 : Int32)) d5_32 rfl rfl ?_
  refine s_ishl X1 hx hby (n := 35) d5_34 rfl ?_
  refine s_ior X1 hx hby (n := 36) d5_35 rfl ?_
  refine s_aloadN X1 hx hby (n := 37) (x := (.ref a)) d5_36 rfl rfl rfl ?_
  refine s_iloadN X1 hx hby (n := 38) (x := (4 : Int32)) d5_37 rfl rfl ?_
  refine s_iconst X1 hx hby (n := 39) (v := (2 : Int32)) d5_38 rfl rfl ?_
  refine s_iadd X1 hx hby (n := 40) d5_39 rfl ?_
  refine s_fold (z := (6 : Int32)) (by decide) ?_
  refine s_baloadC X1 hx hby hZ (n := 41) e1 Ar 6 (by decide) (by decide) (by rw [Sz]; decide) B6 d5_40 rfl ?_
  refine s_sipush X1 hx hby (n := 44) (v := (255 : Int32)) d5_41 rfl rfl ?_
  refine s_iand X1 hx hby (n := 45) d5_44 rfl ?_
  refine s_bipush X1 hx hby (n := 47) (v := (16 : Int32)) d5_45 rfl rfl ?_
  refine s_ishl X1 hx hby (n := 48) d5_47 rfl ?_
  refine s_ior X1 hx hby (n := 49) d5_48 rfl ?_
  refine s_aloadN X1 hx hby (n := 50) (x := (.ref a)) d5_49 rfl rfl rfl ?_
  refine s_iloadN X1 hx hby (n := 51) (x := (4 : Int32)) d5_50 rfl rfl ?_
  refine s_iconst X1 hx hby (n := 52) (v := (3 : Int32)) d5_51 rfl rfl ?_
  refine s_iadd X1 hx hby (n := 53) d5_52 rfl ?_
  refine s_fold (z := (7 : Int32)) (by decide) ?_
  refine s_baloadC X1 hx hby hZ (n := 54) e1 Ar 7 (by decide) (by decide) (by rw [Sz]; decide) B7 d5_53 rfl ?_
  refine s_sipush X1 hx hby (n := 57) (v := (255 : Int32)) d5_54 rfl rfl ?_
  refine s_iand X1 hx hby (n := 58) d5_57 rfl ?_
  refine s_bipush X1 hx hby (n := 60) (v := (24 : Int32)) d5_58 rfl rfl ?_
  refine s_ishl X1 hx hby (n := 61) d5_60 rfl ?_
  refine s_ior X1 hx hby (n := 62) d5_61 rfl ?_
  refine s_callS X1 hx hby hml hZ (n := 65) hown (hw _ (List.mem_of_getElem? (i := 41) rfl)) (hw _ (List.mem_of_getElem? (i := 42) rfl)) (hw _ (List.mem_of_getElem? (i := 21) rfl)) (hw _ (List.mem_of_getElem? (i := 43) rfl)) (by decide) (rmMix l Z a0 hw (own_mix (0 : Int32) ((((b0 &&& (255 : Int32)) ||| ((b1 &&& (255 : Int32)) <<< ((8 : Int32) &&& 31))) ||| ((b2 &&& (255 : Int32)) <<< ((16 : Int32) &&& 31))) ||| ((b3 &&& (255 : Int32)) <<< ((24 : Int32) &&& 31)))) ((((b4 &&& (255 : Int32)) ||| ((b5 &&& (255 : Int32)) <<< ((8 : Int32) &&& 31))) ||| ((b6 &&& (255 : Int32)) <<< ((16 : Int32) &&& 31))) ||| ((b7 &&& (255 : Int32)) <<< ((24 : Int32) &&& 31))) h0 n0) e1 (by decide) 0 (by decide) (by decide) (by decide) pd_0 [(.int (own_mix (0 : Int32) ((((b0 &&& (255 : Int32)) ||| ((b1 &&& (255 : Int32)) <<< ((8 : Int32) &&& 31))) ||| ((b2 &&& (255 : Int32)) <<< ((16 : Int32) &&& 31))) ||| ((b3 &&& (255 : Int32)) <<< ((24 : Int32) &&& 31))))), (.int ((((b4 &&& (255 : Int32)) ||| ((b5 &&& (255 : Int32)) <<< ((8 : Int32) &&& 31))) ||| ((b6 &&& (255 : Int32)) <<< ((16 : Int32) &&& 31))) ||| ((b7 &&& (255 : Int32)) <<< ((24 : Int32) &&& 31))))] [] rfl rfl rfl (Nat.le_of_eq rfl) rfl d5_62 rfl ?_
  intro T2 L2 v2 X2 q2c
  obtain ⟨rfl, e2, N2⟩ := q2c
  show OEnds p e below s _ _ _ T2 (mkF m 65 #[.val (.ref a), .val (.int (own_mix (0 : Int32) ((((b0 &&& (255 : Int32)) ||| ((b1 &&& (255 : Int32)) <<< ((8 : Int32) &&& 31))) ||| ((b2 &&& (255 : Int32)) <<< ((16 : Int32) &&& 31))) ||| ((b3 &&& (255 : Int32)) <<< ((24 : Int32) &&& 31))))), .val (.int (8 : Int32)), .val (.int (4 : Int32)), .unset] [(.int (own_mix (own_mix (0 : Int32) ((((b0 &&& (255 : Int32)) ||| ((b1 &&& (255 : Int32)) <<< ((8 : Int32) &&& 31))) ||| ((b2 &&& (255 : Int32)) <<< ((16 : Int32) &&& 31))) ||| ((b3 &&& (255 : Int32)) <<< ((24 : Int32) &&& 31)))) ((((b4 &&& (255 : Int32)) ||| ((b5 &&& (255 : Int32)) <<< ((8 : Int32) &&& 31))) ||| ((b6 &&& (255 : Int32)) <<< ((16 : Int32) &&& 31))) ||| ((b7 &&& (255 : Int32)) <<< ((24 : Int32) &&& 31)))))])
  have M2 := Fr.app M1 N2
  refine s_istoreN X2 hx hby (n := 66) (L' := #[.val (.ref a), .val (.int (own_mix (own_mix (0 : Int32) ((((b0 &&& (255 : Int32)) ||| ((b1 &&& (255 : Int32)) <<< ((8 : Int32) &&& 31))) ||| ((b2 &&& (255 : Int32)) <<< ((16 : Int32) &&& 31))) ||| ((b3 &&& (255 : Int32)) <<< ((24 : Int32) &&& 31)))) ((((b4 &&& (255 : Int32)) ||| ((b5 &&& (255 : Int32)) <<< ((8 : Int32) &&& 31))) ||| ((b6 &&& (255 : Int32)) <<< ((16 : Int32) &&& 31))) ||| ((b7 &&& (255 : Int32)) <<< ((24 : Int32) &&& 31))))), .val (.int (8 : Int32)), .val (.int (4 : Int32)), .unset]) d5_65 rfl rfl ?_
  refine s_iincC X2 hx hby (n := 69) (v := (4 : Int32)) (x := (4 : Int32)) (z := (8 : Int32)) (L' := #[.val (.ref a), .val (.int (own_mix (own_mix (0 : Int32) ((((b0 &&& (255 : Int32)) ||| ((b1 &&& (255 : Int32)) <<< ((8 : Int32) &&& 31))) ||| ((b2 &&& (255 : Int32)) <<< ((16 : Int32) &&& 31))) ||| ((b3 &&& (255 : Int32)) <<< ((24 : Int32) &&& 31)))) ((((b4 &&& (255 : Int32)) ||| ((b5 &&& (255 : Int32)) <<< ((8 : Int32) &&& 31))) ||| ((b6 &&& (255 : Int32)) <<< ((16 : Int32) &&& 31))) ||| ((b7 &&& (255 : Int32)) <<< ((24 : Int32) &&& 31))))), .val (.int (8 : Int32)), .val (.int (8 : Int32)), .unset]) d5_66 rfl rfl (by decide) rfl rfl ?_
  refine s_goto X2 hx hby (n := 10) d5_69 (by decide) (by decide) ?_
  refine s_iloadN X2 hx hby (n := 11) (x := (8 : Int32)) d5_10 rfl rfl ?_
  refine s_iloadN X2 hx hby (n := 12) (x := (8 : Int32)) d5_11 rfl rfl ?_
  refine s_icmpY X2 hx hby (n := 72) d5_12 (by decide) (by decide) (by decide) ?_
  refine s_iloadN X2 hx hby (n := 73) (x := (8 : Int32)) d5_72 rfl rfl ?_
  refine s_aloadN X2 hx hby (n := 74) (x := (.ref a)) d5_73 rfl rfl rfl ?_
  refine s_arraylength X2 hx hby hZ (n := 75) e2 Ar (z := (10 : Int32)) Sz (by decide) d5_74 rfl ?_
  refine s_icmpN X2 hx hby (n := 78) d5_75 (by decide) rfl ?_
  refine s_iconst X2 hx hby (n := 79) (v := (0 : Int32)) d5_78 rfl rfl ?_
  refine s_istoreN X2 hx hby (n := 80) (L' := #[.val (.ref a), .val (.int (own_mix (own_mix (0 : Int32) ((((b0 &&& (255 : Int32)) ||| ((b1 &&& (255 : Int32)) <<< ((8 : Int32) &&& 31))) ||| ((b2 &&& (255 : Int32)) <<< ((16 : Int32) &&& 31))) ||| ((b3 &&& (255 : Int32)) <<< ((24 : Int32) &&& 31)))) ((((b4 &&& (255 : Int32)) ||| ((b5 &&& (255 : Int32)) <<< ((8 : Int32) &&& 31))) ||| ((b6 &&& (255 : Int32)) <<< ((16 : Int32) &&& 31))) ||| ((b7 &&& (255 : Int32)) <<< ((24 : Int32) &&& 31))))), .val (.int (8 : Int32)), .val (.int (0 : Int32)), .unset]) d5_79 rfl rfl ?_
  refine s_aloadN X2 hx hby (n := 81) (x := (.ref a)) d5_80 rfl rfl rfl ?_
  refine s_arraylength X2 hx hby hZ (n := 82) e2 Ar (z := (10 : Int32)) Sz (by decide) d5_81 rfl ?_
  refine s_iconst X2 hx hby (n := 83) (v := (1 : Int32)) d5_82 rfl rfl ?_
  refine s_isub X2 hx hby (n := 84) d5_83 rfl ?_
  refine s_fold (z := (9 : Int32)) (by decide) ?_
  refine s_istore X2 hx hby (n := 86) (L' := #[.val (.ref a), .val (.int (own_mix (own_mix (0 : Int32) ((((b0 &&& (255 : Int32)) ||| ((b1 &&& (255 : Int32)) <<< ((8 : Int32) &&& 31))) ||| ((b2 &&& (255 : Int32)) <<< ((16 : Int32) &&& 31))) ||| ((b3 &&& (255 : Int32)) <<< ((24 : Int32) &&& 31)))) ((((b4 &&& (255 : Int32)) ||| ((b5 &&& (255 : Int32)) <<< ((8 : Int32) &&& 31))) ||| ((b6 &&& (255 : Int32)) <<< ((16 : Int32) &&& 31))) ||| ((b7 &&& (255 : Int32)) <<< ((24 : Int32) &&& 31))))), .val (.int (8 : Int32)), .val (.int (0 : Int32)), .val (.int (9 : Int32))]) d5_84 rfl rfl ?_
  refine s_iload X2 hx hby (n := 88) (x := (9 : Int32)) d5_86 rfl rfl ?_
  refine s_iloadN X2 hx hby (n := 89) (x := (8 : Int32)) d5_88 rfl rfl ?_
  refine s_icmpN X2 hx hby (n := 92) d5_89 (by decide) rfl ?_
  refine s_iloadN X2 hx hby (n := 93) (x := (0 : Int32)) d5_92 rfl rfl ?_
  refine s_bipush X2 hx hby (n := 95) (v := (8 : Int32)) d5_93 rfl rfl ?_
  refine s_ishl X2 hx hby (n := 96) d5_95 rfl ?_
  refine s_fold (z := (0 : Int32)) (by decide) ?_
  refine s_aloadN X2 hx hby (n := 97) (x := (.ref a)) d5_96 rfl rfl rfl ?_
  refine s_iload X2 hx hby (n := 99) (x := (9 : Int32)) d5_97 rfl rfl ?_
  refine s_baloadC X2 hx hby hZ (n := 100) e2 Ar 9 (by decide) (by decide) (by rw [Sz]; decide) B9 d5_99 rfl ?_
  refine s_sipush X2 hx hby (n := 103) (v := (255 : Int32)) d5_100 rfl rfl ?_
  refine s_iand X2 hx hby (n := 104) d5_103 rfl ?_
  refine s_ior X2 hx hby (n := 105) d5_104 rfl ?_
  refine s_istoreN X2 hx hby (n := 106) (L' := #[.val (.ref a), .val (.int (own_mix (own_mix (0 : Int32) ((((b0 &&& (255 : Int32)) ||| ((b1 &&& (255 : Int32)) <<< ((8 : Int32) &&& 31))) ||| ((b2 &&& (255 : Int32)) <<< ((16 : Int32) &&& 31))) ||| ((b3 &&& (255 : Int32)) <<< ((24 : Int32) &&& 31)))) ((((b4 &&& (255 : Int32)) ||| ((b5 &&& (255 : Int32)) <<< ((8 : Int32) &&& 31))) ||| ((b6 &&& (255 : Int32)) <<< ((16 : Int32) &&& 31))) ||| ((b7 &&& (255 : Int32)) <<< ((24 : Int32) &&& 31))))), .val (.int (8 : Int32)), .val (.int ((0 : Int32) ||| (b9 &&& (255 : Int32)))), .val (.int (9 : Int32))]) d5_105 rfl rfl ?_
  refine s_iincC X2 hx hby (n := 109) (v := (-1 : Int32)) (x := (9 : Int32)) (z := (8 : Int32)) (L' := #[.val (.ref a), .val (.int (own_mix (own_mix (0 : Int32) ((((b0 &&& (255 : Int32)) ||| ((b1 &&& (255 : Int32)) <<< ((8 : Int32) &&& 31))) ||| ((b2 &&& (255 : Int32)) <<< ((16 : Int32) &&& 31))) ||| ((b3 &&& (255 : Int32)) <<< ((24 : Int32) &&& 31)))) ((((b4 &&& (255 : Int32)) ||| ((b5 &&& (255 : Int32)) <<< ((8 : Int32) &&& 31))) ||| ((b6 &&& (255 : Int32)) <<< ((16 : Int32) &&& 31))) ||| ((b7 &&& (255 : Int32)) <<< ((24 : Int32) &&& 31))))), .val (.int (8 : Int32)), .val (.int ((0 : Int32) ||| (b9 &&& (255 : Int32)))), .val (.int (8 : Int32))]) d5_106 rfl rfl (by decide) rfl rfl ?_
  refine s_goto X2 hx hby (n := 86) d5_109 (by decide) (by decide) ?_
  refine s_iload X2 hx hby (n := 88) (x := (8 : Int32)) d5_86 rfl rfl ?_
  refine s_iloadN X2 hx hby (n := 89) (x := (8 : Int32)) d5_88 rfl rfl ?_
  refine s_icmpN X2 hx hby (n := 92) d5_89 (by decide) rfl ?_
  refine s_iloadN X2 hx hby (n := 93) (x := ((0 : Int32) ||| (b9 &&& (255 : Int32)))) d5_92 rfl rfl ?_
  refine s_bipush X2 hx hby (n := 95) (v := (8 : Int32)) d5_93 rfl rfl ?_
  refine s_ishl X2 hx hby (n := 96) d5_95 rfl ?_
  refine s_aloadN X2 hx hby (n := 97) (x := (.ref a)) d5_96 rfl rfl rfl ?_
  refine s_iload X2 hx hby (n := 99) (x := (8 : Int32)) d5_97 rfl rfl ?_
  refine s_baloadC X2 hx hby hZ (n := 100) e2 Ar 8 (by decide) (by decide) (by rw [Sz]; decide) B8 d5_99 rfl ?_
  refine s_sipush X2 hx hby (n := 103) (v := (255 : Int32)) d5_100 rfl rfl ?_
  refine s_iand X2 hx hby (n := 104) d5_103 rfl ?_
  refine s_ior X2 hx hby (n := 105) d5_104 rfl ?_
  refine s_istoreN X2 hx hby (n := 106) (L' := #[.val (.ref a), .val (.int (own_mix (own_mix (0 : Int32) ((((b0 &&& (255 : Int32)) ||| ((b1 &&& (255 : Int32)) <<< ((8 : Int32) &&& 31))) ||| ((b2 &&& (255 : Int32)) <<< ((16 : Int32) &&& 31))) ||| ((b3 &&& (255 : Int32)) <<< ((24 : Int32) &&& 31)))) ((((b4 &&& (255 : Int32)) ||| ((b5 &&& (255 : Int32)) <<< ((8 : Int32) &&& 31))) ||| ((b6 &&& (255 : Int32)) <<< ((16 : Int32) &&& 31))) ||| ((b7 &&& (255 : Int32)) <<< ((24 : Int32) &&& 31))))), .val (.int (8 : Int32)), .val (.int ((((0 : Int32) ||| (b9 &&& (255 : Int32))) <<< ((8 : Int32) &&& 31)) ||| (b8 &&& (255 : Int32)))), .val (.int (8 : Int32))]) d5_105 rfl rfl ?_
  refine s_iincC X2 hx hby (n := 109) (v := (-1 : Int32)) (x := (8 : Int32)) (z := (7 : Int32)) (L' := #[.val (.ref a), .val (.int (own_mix (own_mix (0 : Int32) ((((b0 &&& (255 : Int32)) ||| ((b1 &&& (255 : Int32)) <<< ((8 : Int32) &&& 31))) ||| ((b2 &&& (255 : Int32)) <<< ((16 : Int32) &&& 31))) ||| ((b3 &&& (255 : Int32)) <<< ((24 : Int32) &&& 31)))) ((((b4 &&& (255 : Int32)) ||| ((b5 &&& (255 : Int32)) <<< ((8 : Int32) &&& 31))) ||| ((b6 &&& (255 : Int32)) <<< ((16 : Int32) &&& 31))) ||| ((b7 &&& (255 : Int32)) <<< ((24 : Int32) &&& 31))))), .val (.int (8 : Int32)), .val (.int ((((0 : Int32) ||| (b9 &&& (255 : Int32))) <<< ((8 : Int32) &&& 31)) ||| (b8 &&& (255 : Int32)))), .val (.int (7 : Int32))]) d5_106 rfl rfl (by decide) rfl rfl ?_
  refine s_goto X2 hx hby (n := 86) d5_109 (by decide) (by decide) ?_
  refine s_iload X2 hx hby (n := 88) (x := (7 : Int32)) d5_86 rfl rfl ?_
  refine s_iloadN X2 hx hby (n := 89) (x := (8 : Int32)) d5_88 rfl rfl ?_
  refine s_icmpY X2 hx hby (n := 112) d5_89 (by decide) (by decide) (by decide) ?_
  refine s_iloadN X2 hx hby (n := 113) (x := (own_mix (own_mix (0 : Int32) ((((b0 &&& (255 : Int32)) ||| ((b1 &&& (255 : Int32)) <<< ((8 : Int32) &&& 31))) ||| ((b2 &&& (255 : Int32)) <<< ((16 : Int32) &&& 31))) ||| ((b3 &&& (255 : Int32)) <<< ((24 : Int32) &&& 31)))) ((((b4 &&& (255 : Int32)) ||| ((b5 &&& (255 : Int32)) <<< ((8 : Int32) &&& 31))) ||| ((b6 &&& (255 : Int32)) <<< ((16 : Int32) &&& 31))) ||| ((b7 &&& (255 : Int32)) <<< ((24 : Int32) &&& 31))))) d5_112 rfl rfl ?_
  refine s_iloadN X2 hx hby (n := 114) (x := ((((0 : Int32) ||| (b9 &&& (255 : Int32))) <<< ((8 : Int32) &&& 31)) ||| (b8 &&& (255 : Int32)))) d5_113 rfl rfl ?_
  refine s_callS X2 hx hby hml hZ (n := 117) hown (hw _ (List.mem_of_getElem? (i := 23) rfl)) (hw _ (List.mem_of_getElem? (i := 24) rfl)) (hw _ (List.mem_of_getElem? (i := 21) rfl)) (hw _ (List.mem_of_getElem? (i := 25) rfl)) (by decide) (rmScr l Z a0 hw ((((0 : Int32) ||| (b9 &&& (255 : Int32))) <<< ((8 : Int32) &&& 31)) ||| (b8 &&& (255 : Int32))) h0 n0) e2 (by decide) 1 (by decide) (by decide) (by decide) pd_1 [(.int ((((0 : Int32) ||| (b9 &&& (255 : Int32))) <<< ((8 : Int32) &&& 31)) ||| (b8 &&& (255 : Int32))))] [(.int (own_mix (own_mix (0 : Int32) ((((b0 &&& (255 : Int32)) ||| ((b1 &&& (255 : Int32)) <<< ((8 : Int32) &&& 31))) ||| ((b2 &&& (255 : Int32)) <<< ((16 : Int32) &&& 31))) ||| ((b3 &&& (255 : Int32)) <<< ((24 : Int32) &&& 31)))) ((((b4 &&& (255 : Int32)) ||| ((b5 &&& (255 : Int32)) <<< ((8 : Int32) &&& 31))) ||| ((b6 &&& (255 : Int32)) <<< ((16 : Int32) &&& 31))) ||| ((b7 &&& (255 : Int32)) <<< ((24 : Int32) &&& 31)))))] rfl rfl rfl (Nat.le_of_eq rfl) rfl d5_114 rfl ?_
  intro T3 L3 v3 X3 q3c
  obtain ⟨rfl, e3, N3⟩ := q3c
  show OEnds p e below s _ _ _ T3 (mkF m 117 #[.val (.ref a), .val (.int (own_mix (own_mix (0 : Int32) ((((b0 &&& (255 : Int32)) ||| ((b1 &&& (255 : Int32)) <<< ((8 : Int32) &&& 31))) ||| ((b2 &&& (255 : Int32)) <<< ((16 : Int32) &&& 31))) ||| ((b3 &&& (255 : Int32)) <<< ((24 : Int32) &&& 31)))) ((((b4 &&& (255 : Int32)) ||| ((b5 &&& (255 : Int32)) <<< ((8 : Int32) &&& 31))) ||| ((b6 &&& (255 : Int32)) <<< ((16 : Int32) &&& 31))) ||| ((b7 &&& (255 : Int32)) <<< ((24 : Int32) &&& 31))))), .val (.int (8 : Int32)), .val (.int ((((0 : Int32) ||| (b9 &&& (255 : Int32))) <<< ((8 : Int32) &&& 31)) ||| (b8 &&& (255 : Int32)))), .val (.int (7 : Int32))] [(.int (own_scr ((((0 : Int32) ||| (b9 &&& (255 : Int32))) <<< ((8 : Int32) &&& 31)) ||| (b8 &&& (255 : Int32))))), (.int (own_mix (own_mix (0 : Int32) ((((b0 &&& (255 : Int32)) ||| ((b1 &&& (255 : Int32)) <<< ((8 : Int32) &&& 31))) ||| ((b2 &&& (255 : Int32)) <<< ((16 : Int32) &&& 31))) ||| ((b3 &&& (255 : Int32)) <<< ((24 : Int32) &&& 31)))) ((((b4 &&& (255 : Int32)) ||| ((b5 &&& (255 : Int32)) <<< ((8 : Int32) &&& 31))) ||| ((b6 &&& (255 : Int32)) <<< ((16 : Int32) &&& 31))) ||| ((b7 &&& (255 : Int32)) <<< ((24 : Int32) &&& 31)))))])
  have M3 := Fr.app M2 N3
  refine s_ixor X3 hx hby (n := 118) d5_117 rfl ?_
  refine s_istoreN X3 hx hby (n := 119) (L' := #[.val (.ref a), .val (.int ((own_mix (own_mix (0 : Int32) ((((b0 &&& (255 : Int32)) ||| ((b1 &&& (255 : Int32)) <<< ((8 : Int32) &&& 31))) ||| ((b2 &&& (255 : Int32)) <<< ((16 : Int32) &&& 31))) ||| ((b3 &&& (255 : Int32)) <<< ((24 : Int32) &&& 31)))) ((((b4 &&& (255 : Int32)) ||| ((b5 &&& (255 : Int32)) <<< ((8 : Int32) &&& 31))) ||| ((b6 &&& (255 : Int32)) <<< ((16 : Int32) &&& 31))) ||| ((b7 &&& (255 : Int32)) <<< ((24 : Int32) &&& 31)))) ^^^ (own_scr ((((0 : Int32) ||| (b9 &&& (255 : Int32))) <<< ((8 : Int32) &&& 31)) ||| (b8 &&& (255 : Int32)))))), .val (.int (8 : Int32)), .val (.int ((((0 : Int32) ||| (b9 &&& (255 : Int32))) <<< ((8 : Int32) &&& 31)) ||| (b8 &&& (255 : Int32)))), .val (.int (7 : Int32))]) d5_118 rfl rfl ?_
  refine s_iloadN X3 hx hby (n := 120) (x := ((own_mix (own_mix (0 : Int32) ((((b0 &&& (255 : Int32)) ||| ((b1 &&& (255 : Int32)) <<< ((8 : Int32) &&& 31))) ||| ((b2 &&& (255 : Int32)) <<< ((16 : Int32) &&& 31))) ||| ((b3 &&& (255 : Int32)) <<< ((24 : Int32) &&& 31)))) ((((b4 &&& (255 : Int32)) ||| ((b5 &&& (255 : Int32)) <<< ((8 : Int32) &&& 31))) ||| ((b6 &&& (255 : Int32)) <<< ((16 : Int32) &&& 31))) ||| ((b7 &&& (255 : Int32)) <<< ((24 : Int32) &&& 31)))) ^^^ (own_scr ((((0 : Int32) ||| (b9 &&& (255 : Int32))) <<< ((8 : Int32) &&& 31)) ||| (b8 &&& (255 : Int32)))))) d5_119 rfl rfl ?_
  refine s_aloadN X3 hx hby (n := 121) (x := (.ref a)) d5_120 rfl rfl rfl ?_
  refine s_arraylength X3 hx hby hZ (n := 122) e3 Ar (z := (10 : Int32)) Sz (by decide) d5_121 rfl ?_
  refine s_callS X3 hx hby hml hZ (n := 125) hown (hw _ (List.mem_of_getElem? (i := 32) rfl)) (hw _ (List.mem_of_getElem? (i := 33) rfl)) (hw _ (List.mem_of_getElem? (i := 21) rfl)) (hw _ (List.mem_of_getElem? (i := 34) rfl)) (by decide) (rmFin l Z a0 hw ((own_mix (own_mix (0 : Int32) ((((b0 &&& (255 : Int32)) ||| ((b1 &&& (255 : Int32)) <<< ((8 : Int32) &&& 31))) ||| ((b2 &&& (255 : Int32)) <<< ((16 : Int32) &&& 31))) ||| ((b3 &&& (255 : Int32)) <<< ((24 : Int32) &&& 31)))) ((((b4 &&& (255 : Int32)) ||| ((b5 &&& (255 : Int32)) <<< ((8 : Int32) &&& 31))) ||| ((b6 &&& (255 : Int32)) <<< ((16 : Int32) &&& 31))) ||| ((b7 &&& (255 : Int32)) <<< ((24 : Int32) &&& 31)))) ^^^ (own_scr ((((0 : Int32) ||| (b9 &&& (255 : Int32))) <<< ((8 : Int32) &&& 31)) ||| (b8 &&& (255 : Int32))))) (10 : Int32) h0 n0) e3 (by decide) 0 (by decide) (by decide) (by decide) pd_0 [(.int ((own_mix (own_mix (0 : Int32) ((((b0 &&& (255 : Int32)) ||| ((b1 &&& (255 : Int32)) <<< ((8 : Int32) &&& 31))) ||| ((b2 &&& (255 : Int32)) <<< ((16 : Int32) &&& 31))) ||| ((b3 &&& (255 : Int32)) <<< ((24 : Int32) &&& 31)))) ((((b4 &&& (255 : Int32)) ||| ((b5 &&& (255 : Int32)) <<< ((8 : Int32) &&& 31))) ||| ((b6 &&& (255 : Int32)) <<< ((16 : Int32) &&& 31))) ||| ((b7 &&& (255 : Int32)) <<< ((24 : Int32) &&& 31)))) ^^^ (own_scr ((((0 : Int32) ||| (b9 &&& (255 : Int32))) <<< ((8 : Int32) &&& 31)) ||| (b8 &&& (255 : Int32)))))), (.int (10 : Int32))] [] rfl rfl rfl (Nat.le_of_eq rfl) rfl d5_122 rfl ?_
  intro T4 L4 v4 X4 q4c
  obtain ⟨rfl, e4, N4⟩ := q4c
  show OEnds p e below s _ _ _ T4 (mkF m 125 #[.val (.ref a), .val (.int ((own_mix (own_mix (0 : Int32) ((((b0 &&& (255 : Int32)) ||| ((b1 &&& (255 : Int32)) <<< ((8 : Int32) &&& 31))) ||| ((b2 &&& (255 : Int32)) <<< ((16 : Int32) &&& 31))) ||| ((b3 &&& (255 : Int32)) <<< ((24 : Int32) &&& 31)))) ((((b4 &&& (255 : Int32)) ||| ((b5 &&& (255 : Int32)) <<< ((8 : Int32) &&& 31))) ||| ((b6 &&& (255 : Int32)) <<< ((16 : Int32) &&& 31))) ||| ((b7 &&& (255 : Int32)) <<< ((24 : Int32) &&& 31)))) ^^^ (own_scr ((((0 : Int32) ||| (b9 &&& (255 : Int32))) <<< ((8 : Int32) &&& 31)) ||| (b8 &&& (255 : Int32)))))), .val (.int (8 : Int32)), .val (.int ((((0 : Int32) ||| (b9 &&& (255 : Int32))) <<< ((8 : Int32) &&& 31)) ||| (b8 &&& (255 : Int32)))), .val (.int (7 : Int32))] [(.int (own_fin ((own_mix (own_mix (0 : Int32) ((((b0 &&& (255 : Int32)) ||| ((b1 &&& (255 : Int32)) <<< ((8 : Int32) &&& 31))) ||| ((b2 &&& (255 : Int32)) <<< ((16 : Int32) &&& 31))) ||| ((b3 &&& (255 : Int32)) <<< ((24 : Int32) &&& 31)))) ((((b4 &&& (255 : Int32)) ||| ((b5 &&& (255 : Int32)) <<< ((8 : Int32) &&& 31))) ||| ((b6 &&& (255 : Int32)) <<< ((16 : Int32) &&& 31))) ||| ((b7 &&& (255 : Int32)) <<< ((24 : Int32) &&& 31)))) ^^^ (own_scr ((((0 : Int32) ||| (b9 &&& (255 : Int32))) <<< ((8 : Int32) &&& 31)) ||| (b8 &&& (255 : Int32))))) (10 : Int32)))])
  have M4 := Fr.app M3 N4
  exact s_retI X4 hx hby hlk hret d5_125 (by decide) (by decide) ⟨rfl, e4, M4⟩
set_option maxRecDepth 65536 in
set_option maxHeartbeats 40000000 in
theorem rmH11 (l : Launch) (Z : State) (a0 : Array Value) (hw : ∀ d ∈ tables_1, d.before a0 Z = true) (a : Addr) (cl : Cell) (b0 b1 b2 b3 b4 b5 b6 b7 b8 b9 b10 : Int32) (h0 : Heap) (n0 : Nat) (Ar : Arr Z h0 a cl .byte) (Sz : cl.slots.size = (11 : Int32).toNatClampNeg) (B0 : cl.slots[0]? = some (.int b0)) (B1 : cl.slots[1]? = some (.int b1)) (B2 : cl.slots[2]? = some (.int b2)) (B3 : cl.slots[3]? = some (.int b3)) (B4 : cl.slots[4]? = some (.int b4)) (B5 : cl.slots[5]? = some (.int b5)) (B6 : cl.slots[6]? = some (.int b6)) (B7 : cl.slots[7]? = some (.int b7)) (B8 : cl.slots[8]? = some (.int b8)) (B9 : cl.slots[9]? = some (.int b9)) (B10 : cl.slots[10]? = some (.int b10)) :
    OCon l Z (⟨"com/example/floe/floe/Murmur3", "hash", "([B)I"⟩ : MethodName) prog_8_method_2_code 5 (some (.int)) [] ({ frames := 3, cells := 0, slots := 0, locals := 43 } : Room) #[(.ref a)] h0 (fun v h L => v = some (.int (own_fin ((own_mix (own_mix (0 : Int32) ((((b0 &&& (255 : Int32)) ||| ((b1 &&& (255 : Int32)) <<< ((8 : Int32) &&& 31))) ||| ((b2 &&& (255 : Int32)) <<< ((16 : Int32) &&& 31))) ||| ((b3 &&& (255 : Int32)) <<< ((24 : Int32) &&& 31)))) ((((b4 &&& (255 : Int32)) ||| ((b5 &&& (255 : Int32)) <<< ((8 : Int32) &&& 31))) ||| ((b6 &&& (255 : Int32)) <<< ((16 : Int32) &&& 31))) ||| ((b7 &&& (255 : Int32)) <<< ((24 : Int32) &&& 31)))) ^^^ (own_scr ((((((0 : Int32) ||| (b10 &&& (255 : Int32))) <<< ((8 : Int32) &&& 31)) ||| (b9 &&& (255 : Int32))) <<< ((8 : Int32) &&& 31)) ||| (b8 &&& (255 : Int32))))) (11 : Int32))) ∧ h = h0 ∧ Fr n0 L) := by
  refine con (plainFor_of_name pnM) ?_
  intro p e s m below meth c s₁ hx hby hml hZ hown hnm hret hlk X0 e0
  refine entry (efH m a) ?_
  have M0 := Fr.nil n0
  refine s_iconst X0 hx hby (n := 1) (v := (0 : Int32)) d5_0 rfl rfl ?_
  refine s_istoreN X0 hx hby (n := 2) (L' := #[.val (.ref a), .val (.int (0 : Int32)), .unset, .unset, .unset]) d5_1 rfl rfl ?_
  refine s_aloadN X0 hx hby (n := 3) (x := (.ref a)) d5_2 rfl rfl rfl ?_
  refine s_arraylength X0 hx hby hZ (n := 4) e0 Ar (z := (11 : Int32)) Sz (by decide) d5_3 rfl ?_
  refine s_bipush X0 hx hby (n := 6) (v := (-4 : Int32)) d5_4 rfl rfl ?_
  refine s_iand X0 hx hby (n := 7) d5_6 rfl ?_
  refine s_fold (z := (8 : Int32)) (by decide) ?_
  refine s_istoreN X0 hx hby (n := 8) (L' := #[.val (.ref a), .val (.int (0 : Int32)), .val (.int (8 : Int32)), .unset, .unset]) d5_7 rfl rfl ?_
  refine s_iconst X0 hx hby (n := 9) (v := (0 : Int32)) d5_8 rfl rfl ?_
  refine s_istoreN X0 hx hby (n := 10) (L' := #[.val (.ref a), .val (.int (0 : Int32)), .val (.int (8 : Int32)), .val (.int (0 : Int32)), .unset]) d5_9 rfl rfl ?_
  refine s_iloadN X0 hx hby (n := 11) (x := (0 : Int32)) d5_10 rfl rfl ?_
  refine s_iloadN X0 hx hby (n := 12) (x := (8 : Int32)) d5_11 rfl rfl ?_
  refine s_icmpN X0 hx hby (n := 15) d5_12 (by decide) rfl ?_
  refine s_iloadN X0 hx hby (n := 16) (x := (0 : Int32)) d5_15 rfl rfl ?_
  refine s_aloadN X0 hx hby (n := 17) (x := (.ref a)) d5_16 rfl rfl rfl ?_
  refine s_iloadN X0 hx hby (n := 18) (x := (0 : Int32)) d5_17 rfl rfl ?_
  refine s_baloadC X0 hx hby hZ (n := 19) e0 Ar 0 (by decide) (by decide) (by rw [Sz]; decide) B0 d5_18 rfl ?_
  refine s_sipush X0 hx hby (n := 22) (v := (255 : Int32)) d5_19 rfl rfl ?_
  refine s_iand X0 hx hby (n := 23) d5_22 rfl ?_
  refine s_aloadN X0 hx hby (n := 24) (x := (.ref a)) d5_23 rfl rfl rfl ?_
  refine s_iloadN X0 hx hby (n := 25) (x := (0 : Int32)) d5_24 rfl rfl ?_
  refine s_iconst X0 hx hby (n := 26) (v := (1 : Int32)) d5_25 rfl rfl ?_
  refine s_iadd X0 hx hby (n := 27) d5_26 rfl ?_
  refine s_fold (z := (1 : Int32)) (by decide) ?_
  refine s_baloadC X0 hx hby hZ (n := 28) e0 Ar 1 (by decide) (by decide) (by rw [Sz]; decide) B1 d5_27 rfl ?_
  refine s_sipush X0 hx hby (n := 31) (v := (255 : Int32)) d5_28 rfl rfl ?_
  refine s_iand X0 hx hby (n := 32) d5_31 rfl ?_
  refine s_bipush X0 hx hby (n := 34) (v := (8 : Int32)) d5_32 rfl rfl ?_
  refine s_ishl X0 hx hby (n := 35) d5_34 rfl ?_
  refine s_ior X0 hx hby (n := 36) d5_35 rfl ?_
  refine s_aloadN X0 hx hby (n := 37) (x := (.ref a)) d5_36 rfl rfl rfl ?_
  refine s_iloadN X0 hx hby (n := 38) (x := (0 : Int32)) d5_37 rfl rfl ?_
  refine s_iconst X0 hx hby (n := 39) (v := (2 : Int32)) d5_38 rfl rfl ?_
  refine s_iadd X0 hx hby (n := 40) d5_39 rfl ?_
  refine s_fold (z := (2 : Int32)) (by decide) ?_
  refine s_baloadC X0 hx hby hZ (n := 41) e0 Ar 2 (by decide) (by decide) (by rw [Sz]; decide) B2 d5_40 rfl ?_
  refine s_sipush X0 hx hby (n := 44) (v := (255 : Int32)) d5_41 rfl rfl ?_
  refine s_iand X0 hx hby (n := 45) d5_44 rfl ?_
  refine s_bipush X0 hx hby (n := 47) (v := (16 : Int32)) d5_45 rfl rfl ?_
  refine s_ishl X0 hx hby (n := 48) d5_47 rfl ?_
  refine s_ior X0 hx hby (n := 49) d5_48 rfl ?_
  refine s_aloadN X0 hx hby (n := 50) (x := (.ref a)) d5_49 rfl rfl rfl ?_
  refine s_iloadN X0 hx hby (n := 51) (x := (0 : Int32)) d5_50 rfl rfl ?_
  refine s_iconst X0 hx hby (n := 52) (v := (3 : Int32)) d5_51 rfl rfl ?_
  refine s_iadd X0 hx hby (n := 53) d5_52 rfl ?_
  refine s_fold (z := (3 : Int32)) (by decide) ?_
  refine s_baloadC X0 hx hby hZ (n := 54) e0 Ar 3 (by decide) (by decide) (by rw [Sz]; decide) B3 d5_53 rfl ?_
  refine s_sipush X0 hx hby (n := 57) (v := (255 : Int32)) d5_54 rfl rfl ?_
  refine s_iand X0 hx hby (n := 58) d5_57 rfl ?_
  refine s_bipush X0 hx hby (n := 60) (v := (24 : Int32)) d5_58 rfl rfl ?_
  refine s_ishl X0 hx hby (n := 61) d5_60 rfl ?_
  refine s_ior X0 hx hby (n := 62) d5_61 rfl ?_
  refine s_callS X0 hx hby hml hZ (n := 65) hown (hw _ (List.mem_of_getElem? (i := 41) rfl)) (hw _ (List.mem_of_getElem? (i := 42) rfl)) (hw _ (List.mem_of_getElem? (i := 21) rfl)) (hw _ (List.mem_of_getElem? (i := 43) rfl)) (by decide) (rmMix l Z a0 hw (0 : Int32) ((((b0 &&& (255 : Int32)) ||| ((b1 &&& (255 : Int32)) <<< ((8 : Int32) &&& 31))) ||| ((b2 &&& (255 : Int32)) <<< ((16 : Int32) &&& 31))) ||| ((b3 &&& (255 : Int32)) <<< ((24 : Int32) &&& 31))) h0 n0) e0 (by decide) 0 (by decide) (by decide) (by decide) pd_0 [(.int (0 : Int32)), (.int ((((b0 &&& (255 : Int32)) ||| ((b1 &&& (255 : Int32)) <<< ((8 : Int32) &&& 31))) ||| ((b2 &&& (255 : Int32)) <<< ((16 : Int32) &&& 31))) ||| ((b3 &&& (255 : Int32)) <<< ((24 : Int32) &&& 31))))] [] rfl rfl rfl (Nat.le_of_eq rfl) rfl d5_62 rfl ?_
  intro T1 L1 v1 X1 q1c
  obtain ⟨rfl, e1, N1⟩ := q1c
  show OEnds p e below s _ _ _ T1 (mkF m 65 #[.val (.ref a), .val (.int (0 : Int32)), .val (.int (8 : Int32)), .val (.int (0 : Int32)), .unset] [(.int (own_mix (0 : Int32) ((((b0 &&& (255 : Int32)) ||| ((b1 &&& (255 : Int32)) <<< ((8 : Int32) &&& 31))) ||| ((b2 &&& (255 : Int32)) <<< ((16 : Int32) &&& 31))) ||| ((b3 &&& (255 : Int32)) <<< ((24 : Int32) &&& 31)))))])
  have M1 := Fr.app M0 N1
  refine s_istoreN X1 hx hby (n := 66) (L' := #[.val (.ref a), .val (.int (own_mix (0 : Int32) ((((b0 &&& (255 : Int32)) ||| ((b1 &&& (255 : Int32)) <<< ((8 : Int32) &&& 31))) ||| ((b2 &&& (255 : Int32)) <<< ((16 : Int32) &&& 31))) ||| ((b3 &&& (255 : Int32)) <<< ((24 : Int32) &&& 31))))), .val (.int (8 : Int32)), .val (.int (0 : Int32)), .unset]) d5_65 rfl rfl ?_
  refine s_iincC X1 hx hby (n := 69) (v := (4 : Int32)) (x := (0 : Int32)) (z := (4 : Int32)) (L' := #[.val (.ref a), .val (.int (own_mix (0 : Int32) ((((b0 &&& (255 : Int32)) ||| ((b1 &&& (255 : Int32)) <<< ((8 : Int32) &&& 31))) ||| ((b2 &&& (255 : Int32)) <<< ((16 : Int32) &&& 31))) ||| ((b3 &&& (255 : Int32)) <<< ((24 : Int32) &&& 31))))), .val (.int (8 : Int32)), .val (.int (4 : Int32)), .unset]) d5_66 rfl rfl (by decide) rfl rfl ?_
  refine s_goto X1 hx hby (n := 10) d5_69 (by decide) (by decide) ?_
  refine s_iloadN X1 hx hby (n := 11) (x := (4 : Int32)) d5_10 rfl rfl ?_
  refine s_iloadN X1 hx hby (n := 12) (x := (8 : Int32)) d5_11 rfl rfl ?_
  refine s_icmpN X1 hx hby (n := 15) d5_12 (by decide) rfl ?_
  refine s_iloadN X1 hx hby (n := 16) (x := (own_mix (0 : Int32) ((((b0 &&& (255 : Int32)) ||| ((b1 &&& (255 : Int32)) <<< ((8 : Int32) &&& 31))) ||| ((b2 &&& (255 : Int32)) <<< ((16 : Int32) &&& 31))) ||| ((b3 &&& (255 : Int32)) <<< ((24 : Int32) &&& 31))))) d5_15 rfl rfl ?_
  refine s_aloadN X1 hx hby (n := 17) (x := (.ref a)) d5_16 rfl rfl rfl ?_
  refine s_iloadN X1 hx hby (n := 18) (x := (4 : Int32)) d5_17 rfl rfl ?_
  refine s_baloadC X1 hx hby hZ (n := 19) e1 Ar 4 (by decide) (by decide) (by rw [Sz]; decide) B4 d5_18 rfl ?_
  refine s_sipush X1 hx hby (n := 22) (v := (255 : Int32)) d5_19 rfl rfl ?_
  refine s_iand X1 hx hby (n := 23) d5_22 rfl ?_
  refine s_aloadN X1 hx hby (n := 24) (x := (.ref a)) d5_23 rfl rfl rfl ?_
  refine s_iloadN X1 hx hby (n := 25) (x := (4 : Int32)) d5_24 rfl rfl ?_
  refine s_iconst X1 hx hby (n := 26) (v := (1 : Int32)) d5_25 rfl rfl ?_
  refine s_iadd X1 hx hby (n := 27) d5_26 rfl ?_
  refine s_fold (z := (5 : Int32)) (by decide) ?_
  refine s_baloadC X1 hx hby hZ (n := 28) e1 Ar 5 (by decide) (by decide) (by rw [Sz]; decide) B5 d5_27 rfl ?_
  refine s_sipush X1 hx hby (n := 31) (v := (255 : Int32)) d5_28 rfl rfl ?_
  refine s_iand X1 hx hby (n := 32) d5_31 rfl ?_
  refine s_bipush X1 hx hby (n := 34) (v := (8 : Int32)) d5_32 rfl rfl ?_
  refine s_ishl X1 hx hby (n := 35) d5_34 rfl ?_
  refine s_ior X1 hx hby (n := 36) d5_35 rfl ?_
  refine s_aloadN X1 hx hby (n := 37) (x := (.ref a)) d5_36 rfl rfl rfl ?_
  refine s_iloadN X1 hx hby (n := 38) (x := (4 : Int32)) d5_37 rfl rfl ?_
  refine s_iconst X1 hx hby (n := 39) (v := (2 : Int32)) d5_38 rfl rfl ?_
  refine s_iadd X1 hx hby (n := 40) d5_39 rfl ?_
  refine s_fold (z := (6 : Int32)) (by decide) ?_
  refine s_baloadC X1 hx hby hZ (n := 41) e1 Ar 6 (by decide) (by decide) (by rw [Sz]; decide) B6 d5_40 rfl ?_
  refine s_sipush X1 hx hby (n := 44) (v := (255 : Int32)) d5_41 rfl rfl ?_
  refine s_iand X1 hx hby (n := 45) d5_44 rfl ?_
  refine s_bipush X1 hx hby (n := 47) (v := (16 : Int32)) d5_45 rfl rfl ?_
  refine s_ishl X1 hx hby (n := 48) d5_47 rfl ?_
  refine s_ior X1 hx hby (n := 49) d5_48 rfl ?_
  refine s_aloadN X1 hx hby (n := 50) (x := (.ref a)) d5_49 rfl rfl rfl ?_
  refine s_iloadN X1 hx hby (n := 51) (x := (4 : Int32)) d5_50 rfl rfl ?_
  refine s_iconst X1 hx hby (n := 52) (v := (3 : Int32)) d5_51 rfl rfl ?_
  refine s_iadd X1 hx hby (n := 53) d5_52 rfl ?_
  refine s_fold (z := (7 : Int32)) (by decide) ?_
  refine s_baloadC X1 hx hby hZ (n := 54) e1 Ar 7 (by decide) (by decide) (by rw [Sz]; decide) B7 d5_53 rfl ?_
  refine s_sipush X1 hx hby (n := 57) (v := (255 : Int32)) d5_54 rfl rfl ?_
  refine s_iand X1 hx hby (n := 58) d5_57 rfl ?_
  refine s_bipush X1 hx hby (n := 60) (v := (24 : Int32)) d5_58 rfl rfl ?_
  refine s_ishl X1 hx hby (n := 61) d5_60 rfl ?_
  refine s_ior X1 hx hby (n := 62) d5_61 rfl ?_
  refine s_callS X1 hx hby hml hZ (n := 65) hown (hw _ (List.mem_of_getElem? (i := 41) rfl)) (hw _ (List.mem_of_getElem? (i := 42) rfl)) (hw _ (List.mem_of_getElem? (i := 21) rfl)) (hw _ (List.mem_of_getElem? (i := 43) rfl)) (by decide) (rmMix l Z a0 hw (own_mix (0 : Int32) ((((b0 &&& (255 : Int32)) ||| ((b1 &&& (255 : Int32)) <<< ((8 : Int32) &&& 31))) ||| ((b2 &&& (255 : Int32)) <<< ((16 : Int32) &&& 31))) ||| ((b3 &&& (255 : Int32)) <<< ((24 : Int32) &&& 31)))) ((((b4 &&& (255 : Int32)) ||| ((b5 &&& (255 : Int32)) <<< ((8 : Int32) &&& 31))) ||| ((b6 &&& (255 : Int32)) <<< ((16 : Int32) &&& 31))) ||| ((b7 &&& (255 : Int32)) <<< ((24 : Int32) &&& 31))) h0 n0) e1 (by decide) 0 (by decide) (by decide) (by decide) pd_0 [(.int (own_mix (0 : Int32) ((((b0 &&& (255 : Int32)) ||| ((b1 &&& (255 : Int32)) <<< ((8 : Int32) &&& 31))) ||| ((b2 &&& (255 : Int32)) <<< ((16 : Int32) &&& 31))) ||| ((b3 &&& (255 : Int32)) <<< ((24 : Int32) &&& 31))))), (.int ((((b4 &&& (255 : Int32)) ||| ((b5 &&& (255 : Int32)) <<< ((8 : Int32) &&& 31))) ||| ((b6 &&& (255 : Int32)) <<< ((16 : Int32) &&& 31))) ||| ((b7 &&& (255 : Int32)) <<< ((24 : Int32) &&& 31))))] [] rfl rfl rfl (Nat.le_of_eq rfl) rfl d5_62 rfl ?_
  intro T2 L2 v2 X2 q2c
  obtain ⟨rfl, e2, N2⟩ := q2c
  show OEnds p e below s _ _ _ T2 (mkF m 65 #[.val (.ref a), .val (.int (own_mix (0 : Int32) ((((b0 &&& (255 : Int32)) ||| ((b1 &&& (255 : Int32)) <<< ((8 : Int32) &&& 31))) ||| ((b2 &&& (255 : Int32)) <<< ((16 : Int32) &&& 31))) ||| ((b3 &&& (255 : Int32)) <<< ((24 : Int32) &&& 31))))), .val (.int (8 : Int32)), .val (.int (4 : Int32)), .unset] [(.int (own_mix (own_mix (0 : Int32) ((((b0 &&& (255 : Int32)) ||| ((b1 &&& (255 : Int32)) <<< ((8 : Int32) &&& 31))) ||| ((b2 &&& (255 : Int32)) <<< ((16 : Int32) &&& 31))) ||| ((b3 &&& (255 : Int32)) <<< ((24 : Int32) &&& 31)))) ((((b4 &&& (255 : Int32)) ||| ((b5 &&& (255 : Int32)) <<< ((8 : Int32) &&& 31))) ||| ((b6 &&& (255 : Int32)) <<< ((16 : Int32) &&& 31))) ||| ((b7 &&& (255 : Int32)) <<< ((24 : Int32) &&& 31)))))])
  have M2 := Fr.app M1 N2
  refine s_istoreN X2 hx hby (n := 66) (L' := #[.val (.ref a), .val (.int (own_mix (own_mix (0 : Int32) ((((b0 &&& (255 : Int32)) ||| ((b1 &&& (255 : Int32)) <<< ((8 : Int32) &&& 31))) ||| ((b2 &&& (255 : Int32)) <<< ((16 : Int32) &&& 31))) ||| ((b3 &&& (255 : Int32)) <<< ((24 : Int32) &&& 31)))) ((((b4 &&& (255 : Int32)) ||| ((b5 &&& (255 : Int32)) <<< ((8 : Int32) &&& 31))) ||| ((b6 &&& (255 : Int32)) <<< ((16 : Int32) &&& 31))) ||| ((b7 &&& (255 : Int32)) <<< ((24 : Int32) &&& 31))))), .val (.int (8 : Int32)), .val (.int (4 : Int32)), .unset]) d5_65 rfl rfl ?_
  refine s_iincC X2 hx hby (n := 69) (v := (4 : Int32)) (x := (4 : Int32)) (z := (8 : Int32)) (L' := #[.val (.ref a), .val (.int (own_mix (own_mix (0 : Int32) ((((b0 &&& (255 : Int32)) ||| ((b1 &&& (255 : Int32)) <<< ((8 : Int32) &&& 31))) ||| ((b2 &&& (255 : Int32)) <<< ((16 : Int32) &&& 31))) ||| ((b3 &&& (255 : Int32)) <<< ((24 : Int32) &&& 31)))) ((((b4 &&& (255 : Int32)) ||| ((b5 &&& (255 : Int32)) <<< ((8 : Int32) &&& 31))) ||| ((b6 &&& (255 : Int32)) <<< ((16 : Int32) &&& 31))) ||| ((b7 &&& (255 : Int32)) <<< ((24 : Int32) &&& 31))))), .val (.int (8 : Int32)), .val (.int (8 : Int32)), .unset]) d5_66 rfl rfl (by decide) rfl rfl ?_
  refine s_goto X2 hx hby (n := 10) d5_69 (by decide) (by decide) ?_
  refine s_iloadN X2 hx hby (n := 11) (x := (8 : Int32)) d5_10 rfl rfl ?_
  refine s_iloadN X2 hx hby (n := 12) (x := (8 : Int32)) d5_11 rfl rfl ?_
  refine s_icmpY X2 hx hby (n := 72) d5_12 (by decide) (by decide) (by decide) ?_
  refine s_iloadN X2 hx hby (n := 73) (x := (8 : Int32)) d5_72 rfl rfl ?_
  refine s_aloadN X2 hx hby (n := 74) (x := (.ref a)) d5_73 rfl rfl rfl ?_
  refine s_arraylength X2 hx hby hZ (n := 75) e2 Ar (z := (11 : Int32)) Sz (by decide) d5_74 rfl ?_
  refine s_icmpN X2 hx hby (n := 78) d5_75 (by decide) rfl ?_
  refine s_iconst X2 hx hby (n := 79) (v := (0 : Int32)) d5_78 rfl rfl ?_
  refine s_istoreN X2 hx hby (n := 80) (L' := #[.val (.ref a), .val (.int (own_mix (own_mix (0 : Int32) ((((b0 &&& (255 : Int32)) ||| ((b1 &&& (255 : Int32)) <<< ((8 : Int32) &&& 31))) ||| ((b2 &&& (255 : Int32)) <<< ((16 : Int32) &&& 31))) ||| ((b3 &&& (255 : Int32)) <<< ((24 : Int32) &&& 31)))) ((((b4 &&& (255 : Int32)) ||| ((b5 &&& (255 : Int32)) <<< ((8 : Int32) &&& 31))) ||| ((b6 &&& (255 : Int32)) <<< ((16 : Int32) &&& 31))) ||| ((b7 &&& (255 : Int32)) <<< ((24 : Int32) &&& 31))))), .val (.int (8 : Int32)), .val (.int (0 : Int32)), .unset]) d5_79 rfl rfl ?_
  refine s_aloadN X2 hx hby (n := 81) (x := (.ref a)) d5_80 rfl rfl rfl ?_
  refine s_arraylength X2 hx hby hZ (n := 82) e2 Ar (z := (11 : Int32)) Sz (by decide) d5_81 rfl ?_
  refine s_iconst X2 hx hby (n := 83) (v := (1 : Int32)) d5_82 rfl rfl ?_
  refine s_isub X2 hx hby (n := 84) d5_83 rfl ?_
  refine s_fold (z := (10 : Int32)) (by decide) ?_
  refine s_istore X2 hx hby (n := 86) (L' := #[.val (.ref a), .val (.int (own_mix (own_mix (0 : Int32) ((((b0 &&& (255 : Int32)) ||| ((b1 &&& (255 : Int32)) <<< ((8 : Int32) &&& 31))) ||| ((b2 &&& (255 : Int32)) <<< ((16 : Int32) &&& 31))) ||| ((b3 &&& (255 : Int32)) <<< ((24 : Int32) &&& 31)))) ((((b4 &&& (255 : Int32)) ||| ((b5 &&& (255 : Int32)) <<< ((8 : Int32) &&& 31))) ||| ((b6 &&& (255 : Int32)) <<< ((16 : Int32) &&& 31))) ||| ((b7 &&& (255 : Int32)) <<< ((24 : Int32) &&& 31))))), .val (.int (8 : Int32)), .val (.int (0 : Int32)), .val (.int (10 : Int32))]) d5_84 rfl rfl ?_
  refine s_iload X2 hx hby (n := 88) (x := (10 : Int32)) d5_86 rfl rfl ?_
  refine s_iloadN X2 hx hby (n := 89) (x := (8 : Int32)) d5_88 rfl rfl ?_
  refine s_icmpN X2 hx hby (n := 92) d5_89 (by decide) rfl ?_
  refine s_iloadN X2 hx hby (n := 93) (x := (0 : Int32)) d5_92 rfl rfl ?_
  refine s_bipush X2 hx hby (n := 95) (v := (8 : Int32)) d5_93 rfl rfl ?_
  refine s_ishl X2 hx hby (n := 96) d5_95 rfl ?_
  refine s_fold (z := (0 : Int32)) (by decide) ?_
  refine s_aloadN X2 hx hby (n := 97) (x := (.ref a)) d5_96 rfl rfl rfl ?_
  refine s_iload X2 hx hby (n := 99) (x := (10 : Int32)) d5_97 rfl rfl ?_
  refine s_baloadC X2 hx hby hZ (n := 100) e2 Ar 10 (by decide) (by decide) (by rw [Sz]; decide) B10 d5_99 rfl ?_
  refine s_sipush X2 hx hby (n := 103) (v := (255 : Int32)) d5_100 rfl rfl ?_
  refine s_iand X2 hx hby (n := 104) d5_103 rfl ?_
  refine s_ior X2 hx hby (n := 105) d5_104 rfl ?_
  refine s_istoreN X2 hx hby (n := 106) (L' := #[.val (.ref a), .val (.int (own_mix (own_mix (0 : Int32) ((((b0 &&& (255 : Int32)) ||| ((b1 &&& (255 : Int32)) <<< ((8 : Int32) &&& 31))) ||| ((b2 &&& (255 : Int32)) <<< ((16 : Int32) &&& 31))) ||| ((b3 &&& (255 : Int32)) <<< ((24 : Int32) &&& 31)))) ((((b4 &&& (255 : Int32)) ||| ((b5 &&& (255 : Int32)) <<< ((8 : Int32) &&& 31))) ||| ((b6 &&& (255 : Int32)) <<< ((16 : Int32) &&& 31))) ||| ((b7 &&& (255 : Int32)) <<< ((24 : Int32) &&& 31))))), .val (.int (8 : Int32)), .val (.int ((0 : Int32) ||| (b10 &&& (255 : Int32)))), .val (.int (10 : Int32))]) d5_105 rfl rfl ?_
  refine s_iincC X2 hx hby (n := 109) (v := (-1 : Int32)) (x := (10 : Int32)) (z := (9 : Int32)) (L' := #[.val (.ref a), .val (.int (own_mix (own_mix (0 : Int32) ((((b0 &&& (255 : Int32)) ||| ((b1 &&& (255 : Int32)) <<< ((8 : Int32) &&& 31))) ||| ((b2 &&& (255 : Int32)) <<< ((16 : Int32) &&& 31))) ||| ((b3 &&& (255 : Int32)) <<< ((24 : Int32) &&& 31)))) ((((b4 &&& (255 : Int32)) ||| ((b5 &&& (255 : Int32)) <<< ((8 : Int32) &&& 31))) ||| ((b6 &&& (255 : Int32)) <<< ((16 : Int32) &&& 31))) ||| ((b7 &&& (255 : Int32)) <<< ((24 : Int32) &&& 31))))), .val (.int (8 : Int32)), .val (.int ((0 : Int32) ||| (b10 &&& (255 : Int32)))), .val (.int (9 : Int32))]) d5_106 rfl rfl (by decide) rfl rfl ?_
  refine s_goto X2 hx hby (n := 86) d5_109 (by decide) (by decide) ?_
  refine s_iload X2 hx hby (n := 88) (x := (9 : Int32)) d5_86 rfl rfl ?_
  refine s_iloadN X2 hx hby (n := 89) (x := (8 : Int32)) d5_88 rfl rfl ?_
  refine s_icmpN X2 hx hby (n := 92) d5_89 (by decide) rfl ?_
  refine s_iloadN X2 hx hby (n := 93) (x := ((0 : Int32) ||| (b10 &&& (255 : Int32)))) d5_92 rfl rfl ?_
  refine s_bipush X2 hx hby (n := 95) (v := (8 : Int32)) d5_93 rfl rfl ?_
  refine s_ishl X2 hx hby (n := 96) d5_95 rfl ?_
  refine s_aloadN X2 hx hby (n := 97) (x := (.ref a)) d5_96 rfl rfl rfl ?_
  refine s_iload X2 hx hby (n := 99) (x := (9 : Int32)) d5_97 rfl rfl ?_
  refine s_baloadC X2 hx hby hZ (n := 100) e2 Ar 9 (by decide) (by decide) (by rw [Sz]; decide) B9 d5_99 rfl ?_
  refine s_sipush X2 hx hby (n := 103) (v := (255 : Int32)) d5_100 rfl rfl ?_
  refine s_iand X2 hx hby (n := 104) d5_103 rfl ?_
  refine s_ior X2 hx hby (n := 105) d5_104 rfl ?_
  refine s_istoreN X2 hx hby (n := 106) (L' := #[.val (.ref a), .val (.int (own_mix (own_mix (0 : Int32) ((((b0 &&& (255 : Int32)) ||| ((b1 &&& (255 : Int32)) <<< ((8 : Int32) &&& 31))) ||| ((b2 &&& (255 : Int32)) <<< ((16 : Int32) &&& 31))) ||| ((b3 &&& (255 : Int32)) <<< ((24 : Int32) &&& 31)))) ((((b4 &&& (255 : Int32)) ||| ((b5 &&& (255 : Int32)) <<< ((8 : Int32) &&& 31))) ||| ((b6 &&& (255 : Int32)) <<< ((16 : Int32) &&& 31))) ||| ((b7 &&& (255 : Int32)) <<< ((24 : Int32) &&& 31))))), .val (.int (8 : Int32)), .val (.int ((((0 : Int32) ||| (b10 &&& (255 : Int32))) <<< ((8 : Int32) &&& 31)) ||| (b9 &&& (255 : Int32)))), .val (.int (9 : Int32))]) d5_105 rfl rfl ?_
  refine s_iincC X2 hx hby (n := 109) (v := (-1 : Int32)) (x := (9 : Int32)) (z := (8 : Int32)) (L' := #[.val (.ref a), .val (.int (own_mix (own_mix (0 : Int32) ((((b0 &&& (255 : Int32)) ||| ((b1 &&& (255 : Int32)) <<< ((8 : Int32) &&& 31))) ||| ((b2 &&& (255 : Int32)) <<< ((16 : Int32) &&& 31))) ||| ((b3 &&& (255 : Int32)) <<< ((24 : Int32) &&& 31)))) ((((b4 &&& (255 : Int32)) ||| ((b5 &&& (255 : Int32)) <<< ((8 : Int32) &&& 31))) ||| ((b6 &&& (255 : Int32)) <<< ((16 : Int32) &&& 31))) ||| ((b7 &&& (255 : Int32)) <<< ((24 : Int32) &&& 31))))), .val (.int (8 : Int32)), .val (.int ((((0 : Int32) ||| (b10 &&& (255 : Int32))) <<< ((8 : Int32) &&& 31)) ||| (b9 &&& (255 : Int32)))), .val (.int (8 : Int32))]) d5_106 rfl rfl (by decide) rfl rfl ?_
  refine s_goto X2 hx hby (n := 86) d5_109 (by decide) (by decide) ?_
  refine s_iload X2 hx hby (n := 88) (x := (8 : Int32)) d5_86 rfl rfl ?_
  refine s_iloadN X2 hx hby (n := 89) (x := (8 : Int32)) d5_88 rfl rfl ?_
  refine s_icmpN X2 hx hby (n := 92) d5_89 (by decide) rfl ?_
  refine s_iloadN X2 hx hby (n := 93) (x := ((((0 : Int32) ||| (b10 &&& (255 : Int32))) <<< ((8 : Int32) &&& 31)) ||| (b9 &&& (255 : Int32)))) d5_92 rfl rfl ?_
  refine s_bipush X2 hx hby (n := 95) (v := (8 : Int32)) d5_93 rfl rfl ?_
  refine s_ishl X2 hx hby (n := 96) d5_95 rfl ?_
  refine s_aloadN X2 hx hby (n := 97) (x := (.ref a)) d5_96 rfl rfl rfl ?_
  refine s_iload X2 hx hby (n := 99) (x := (8 : Int32)) d5_97 rfl rfl ?_
  refine s_baloadC X2 hx hby hZ (n := 100) e2 Ar 8 (by decide) (by decide) (by rw [Sz]; decide) B8 d5_99 rfl ?_
  refine s_sipush X2 hx hby (n := 103) (v := (255 : Int32)) d5_100 rfl rfl ?_
  refine s_iand X2 hx hby (n := 104) d5_103 rfl ?_
  refine s_ior X2 hx hby (n := 105) d5_104 rfl ?_
  refine s_istoreN X2 hx hby (n := 106) (L' := #[.val (.ref a), .val (.int (own_mix (own_mix (0 : Int32) ((((b0 &&& (255 : Int32)) ||| ((b1 &&& (255 : Int32)) <<< ((8 : Int32) &&& 31))) ||| ((b2 &&& (255 : Int32)) <<< ((16 : Int32) &&& 31))) ||| ((b3 &&& (255 : Int32)) <<< ((24 : Int32) &&& 31)))) ((((b4 &&& (255 : Int32)) ||| ((b5 &&& (255 : Int32)) <<< ((8 : Int32) &&& 31))) ||| ((b6 &&& (255 : Int32)) <<< ((16 : Int32) &&& 31))) ||| ((b7 &&& (255 : Int32)) <<< ((24 : Int32) &&& 31))))), .val (.int (8 : Int32)), .val (.int ((((((0 : Int32) ||| (b10 &&& (255 : Int32))) <<< ((8 : Int32) &&& 31)) ||| (b9 &&& (255 : Int32))) <<< ((8 : Int32) &&& 31)) ||| (b8 &&& (255 : Int32)))), .val (.int (8 : Int32))]) d5_105 rfl rfl ?_
  refine s_iincC X2 hx hby (n := 109) (v := (-1 : Int32)) (x := (8 : Int32)) (z := (7 : Int32)) (L' := #[.val (.ref a), .val (.int (own_mix (own_mix (0 : Int32) ((((b0 &&& (255 : Int32)) ||| ((b1 &&& (255 : Int32)) <<< ((8 : Int32) &&& 31))) ||| ((b2 &&& (255 : Int32)) <<< ((16 : Int32) &&& 31))) ||| ((b3 &&& (255 : Int32)) <<< ((24 : Int32) &&& 31)))) ((((b4 &&& (255 : Int32)) ||| ((b5 &&& (255 : Int32)) <<< ((8 : Int32) &&& 31))) ||| ((b6 &&& (255 : Int32)) <<< ((16 : Int32) &&& 31))) ||| ((b7 &&& (255 : Int32)) <<< ((24 : Int32) &&& 31))))), .val (.int (8 : Int32)), .val (.int ((((((0 : Int32) ||| (b10 &&& (255 : Int32))) <<< ((8 : Int32) &&& 31)) ||| (b9 &&& (255 : Int32))) <<< ((8 : Int32) &&& 31)) ||| (b8 &&& (255 : Int32)))), .val (.int (7 : Int32))]) d5_106 rfl rfl (by decide) rfl rfl ?_
  refine s_goto X2 hx hby (n := 86) d5_109 (by decide) (by decide) ?_
  refine s_iload X2 hx hby (n := 88) (x := (7 : Int32)) d5_86 rfl rfl ?_
  refine s_iloadN X2 hx hby (n := 89) (x := (8 : Int32)) d5_88 rfl rfl ?_
  refine s_icmpY X2 hx hby (n := 112) d5_89 (by decide) (by decide) (by decide) ?_
  refine s_iloadN X2 hx hby (n := 113) (x := (own_mix (own_mix (0 : Int32) ((((b0 &&& (255 : Int32)) ||| ((b1 &&& (255 : Int32)) <<< ((8 : Int32) &&& 31))) ||| ((b2 &&& (255 : Int32)) <<< ((16 : Int32) &&& 31))) ||| ((b3 &&& (255 : Int32)) <<< ((24 : Int32) &&& 31)))) ((((b4 &&& (255 : Int32)) ||| ((b5 &&& (255 : Int32)) <<< ((8 : Int32) &&& 31))) ||| ((b6 &&& (255 : Int32)) <<< ((16 : Int32) &&& 31))) ||| ((b7 &&& (255 : Int32)) <<< ((24 : Int32) &&& 31))))) d5_112 rfl rfl ?_
  refine s_iloadN X2 hx hby (n := 114) (x := ((((((0 : Int32) ||| (b10 &&& (255 : Int32))) <<< ((8 : Int32) &&& 31)) ||| (b9 &&& (255 : Int32))) <<< ((8 : Int32) &&& 31)) ||| (b8 &&& (255 : Int32)))) d5_113 rfl rfl ?_
  refine s_callS X2 hx hby hml hZ (n := 117) hown (hw _ (List.mem_of_getElem? (i := 23) rfl)) (hw _ (List.mem_of_getElem? (i := 24) rfl)) (hw _ (List.mem_of_getElem? (i := 21) rfl)) (hw _ (List.mem_of_getElem? (i := 25) rfl)) (by decide) (rmScr l Z a0 hw ((((((0 : Int32) ||| (b10 &&& (255 : Int32))) <<< ((8 : Int32) &&& 31)) ||| (b9 &&& (255 : Int32))) <<< ((8 : Int32) &&& 31)) ||| (b8 &&& (255 : Int32))) h0 n0) e2 (by decide) 1 (by decide) (by decide) (by decide) pd_1 [(.int ((((((0 : Int32) ||| (b10 &&& (255 : Int32))) <<< ((8 : Int32) &&& 31)) ||| (b9 &&& (255 : Int32))) <<< ((8 : Int32) &&& 31)) ||| (b8 &&& (255 : Int32))))] [(.int (own_mix (own_mix (0 : Int32) ((((b0 &&& (255 : Int32)) ||| ((b1 &&& (255 : Int32)) <<< ((8 : Int32) &&& 31))) ||| ((b2 &&& (255 : Int32)) <<< ((16 : Int32) &&& 31))) ||| ((b3 &&& (255 : Int32)) <<< ((24 : Int32) &&& 31)))) ((((b4 &&& (255 : Int32)) ||| ((b5 &&& (255 : Int32)) <<< ((8 : Int32) &&& 31))) ||| ((b6 &&& (255 : Int32)) <<< ((16 : Int32) &&& 31))) ||| ((b7 &&& (255 : Int32)) <<< ((24 : Int32) &&& 31)))))] rfl rfl rfl (Nat.le_of_eq rfl) rfl d5_114 rfl ?_
  intro T3 L3 v3 X3 q3c
  obtain ⟨rfl, e3, N3⟩ := q3c
  show OEnds p e below s _ _ _ T3 (mkF m 117 #[.val (.ref a), .val (.int (own_mix (own_mix (0 : Int32) ((((b0 &&& (255 : Int32)) ||| ((b1 &&& (255 : Int32)) <<< ((8 : Int32) &&& 31))) ||| ((b2 &&& (255 : Int32)) <<< ((16 : Int32) &&& 31))) ||| ((b3 &&& (255 : Int32)) <<< ((24 : Int32) &&& 31)))) ((((b4 &&& (255 : Int32)) ||| ((b5 &&& (255 : Int32)) <<< ((8 : Int32) &&& 31))) ||| ((b6 &&& (255 : Int32)) <<< ((16 : Int32) &&& 31))) ||| ((b7 &&& (255 : Int32)) <<< ((24 : Int32) &&& 31))))), .val (.int (8 : Int32)), .val (.int ((((((0 : Int32) ||| (b10 &&& (255 : Int32))) <<< ((8 : Int32) &&& 31)) ||| (b9 &&& (255 : Int32))) <<< ((8 : Int32) &&& 31)) ||| (b8 &&& (255 : Int32)))), .val (.int (7 : Int32))] [(.int (own_scr ((((((0 : Int32) ||| (b10 &&& (255 : Int32))) <<< ((8 : Int32) &&& 31)) ||| (b9 &&& (255 : Int32))) <<< ((8 : Int32) &&& 31)) ||| (b8 &&& (255 : Int32))))), (.int (own_mix (own_mix (0 : Int32) ((((b0 &&& (255 : Int32)) ||| ((b1 &&& (255 : Int32)) <<< ((8 : Int32) &&& 31))) ||| ((b2 &&& (255 : Int32)) <<< ((16 : Int32) &&& 31))) ||| ((b3 &&& (255 : Int32)) <<< ((24 : Int32) &&& 31)))) ((((b4 &&& (255 : Int32)) ||| ((b5 &&& (255 : Int32)) <<< ((8 : Int32) &&& 31))) ||| ((b6 &&& (255 : Int32)) <<< ((16 : Int32) &&& 31))) ||| ((b7 &&& (255 : Int32)) <<< ((24 : Int32) &&& 31)))))])
  have M3 := Fr.app M2 N3
  refine s_ixor X3 hx hby (n := 118) d5_117 rfl ?_
  refine s_istoreN X3 hx hby (n := 119) (L' := #[.val (.ref a), .val (.int ((own_mix (own_mix (0 : Int32) ((((b0 &&& (255 : Int32)) ||| ((b1 &&& (255 : Int32)) <<< ((8 : Int32) &&& 31))) ||| ((b2 &&& (255 : Int32)) <<< ((16 : Int32) &&& 31))) ||| ((b3 &&& (255 : Int32)) <<< ((24 : Int32) &&& 31)))) ((((b4 &&& (255 : Int32)) ||| ((b5 &&& (255 : Int32)) <<< ((8 : Int32) &&& 31))) ||| ((b6 &&& (255 : Int32)) <<< ((16 : Int32) &&& 31))) ||| ((b7 &&& (255 : Int32)) <<< ((24 : Int32) &&& 31)))) ^^^ (own_scr ((((((0 : Int32) ||| (b10 &&& (255 : Int32))) <<< ((8 : Int32) &&& 31)) ||| (b9 &&& (255 : Int32))) <<< ((8 : Int32) &&& 31)) ||| (b8 &&& (255 : Int32)))))), .val (.int (8 : Int32)), .val (.int ((((((0 : Int32) ||| (b10 &&& (255 : Int32))) <<< ((8 : Int32) &&& 31)) ||| (b9 &&& (255 : Int32))) <<< ((8 : Int32) &&& 31)) ||| (b8 &&& (255 : Int32)))), .val (.int (7 : Int32))]) d5_118 rfl rfl ?_
  refine s_iloadN X3 hx hby (n := 120) (x := ((own_mix (own_mix (0 : Int32) ((((b0 &&& (255 : Int32)) ||| ((b1 &&& (255 : Int32)) <<< ((8 : Int32) &&& 31))) ||| ((b2 &&& (255 : Int32)) <<< ((16 : Int32) &&& 31))) ||| ((b3 &&& (255 : Int32)) <<< ((24 : Int32) &&& 31)))) ((((b4 &&& (255 : Int32)) ||| ((b5 &&& (255 : Int32)) <<< ((8 : Int32) &&& 31))) ||| ((b6 &&& (255 : Int32)) <<< ((16 : Int32) &&& 31))) ||| ((b7 &&& (255 : Int32)) <<< ((24 : Int32) &&& 31)))) ^^^ (own_scr ((((((0 : Int32) ||| (b10 &&& (255 : Int32))) <<< ((8 : Int32) &&& 31)) ||| (b9 &&& (255 : Int32))) <<< ((8 : Int32) &&& 31)) ||| (b8 &&& (255 : Int32)))))) d5_119 rfl rfl ?_
  refine s_aloadN X3 hx hby (n := 121) (x := (.ref a)) d5_120 rfl rfl rfl ?_
  refine s_arraylength X3 hx hby hZ (n := 122) e3 Ar (z := (11 : Int32)) Sz (by decide) d5_121 rfl ?_
  refine s_callS X3 hx hby hml hZ (n := 125) hown (hw _ (List.mem_of_getElem? (i := 32) rfl)) (hw _ (List.mem_of_getElem? (i := 33) rfl)) (hw _ (List.mem_of_getElem? (i := 21) rfl)) (hw _ (List.mem_of_getElem? (i := 34) rfl)) (by decide) (rmFin l Z a0 hw ((own_mix (own_mix (0 : Int32) ((((b0 &&& (255 : Int32)) ||| ((b1 &&& (255 : Int32)) <<< ((8 : Int32) &&& 31))) ||| ((b2 &&& (255 : Int32)) <<< ((16 : Int32) &&& 31))) ||| ((b3 &&& (255 : Int32)) <<< ((24 : Int32) &&& 31)))) ((((b4 &&& (255 : Int32)) ||| ((b5 &&& (255 : Int32)) <<< ((8 : Int32) &&& 31))) ||| ((b6 &&& (255 : Int32)) <<< ((16 : Int32) &&& 31))) ||| ((b7 &&& (255 : Int32)) <<< ((24 : Int32) &&& 31)))) ^^^ (own_scr ((((((0 : Int32) ||| (b10 &&& (255 : Int32))) <<< ((8 : Int32) &&& 31)) ||| (b9 &&& (255 : Int32))) <<< ((8 : Int32) &&& 31)) ||| (b8 &&& (255 : Int32))))) (11 : Int32) h0 n0) e3 (by decide) 0 (by decide) (by decide) (by decide) pd_0 [(.int ((own_mix (own_mix (0 : Int32) ((((b0 &&& (255 : Int32)) ||| ((b1 &&& (255 : Int32)) <<< ((8 : Int32) &&& 31))) ||| ((b2 &&& (255 : Int32)) <<< ((16 : Int32) &&& 31))) ||| ((b3 &&& (255 : Int32)) <<< ((24 : Int32) &&& 31)))) ((((b4 &&& (255 : Int32)) ||| ((b5 &&& (255 : Int32)) <<< ((8 : Int32) &&& 31))) ||| ((b6 &&& (255 : Int32)) <<< ((16 : Int32) &&& 31))) ||| ((b7 &&& (255 : Int32)) <<< ((24 : Int32) &&& 31)))) ^^^ (own_scr ((((((0 : Int32) ||| (b10 &&& (255 : Int32))) <<< ((8 : Int32) &&& 31)) ||| (b9 &&& (255 : Int32))) <<< ((8 : Int32) &&& 31)) ||| (b8 &&& (255 : Int32)))))), (.int (11 : Int32))] [] rfl rfl rfl (Nat.le_of_eq rfl) rfl d5_122 rfl ?_
  intro T4 L4 v4 X4 q4c
  obtain ⟨rfl, e4, N4⟩ := q4c
  show OEnds p e below s _ _ _ T4 (mkF m 125 #[.val (.ref a), .val (.int ((own_mix (own_mix (0 : Int32) ((((b0 &&& (255 : Int32)) ||| ((b1 &&& (255 : Int32)) <<< ((8 : Int32) &&& 31))) ||| ((b2 &&& (255 : Int32)) <<< ((16 : Int32) &&& 31))) ||| ((b3 &&& (255 : Int32)) <<< ((24 : Int32) &&& 31)))) ((((b4 &&& (255 : Int32)) ||| ((b5 &&& (255 : Int32)) <<< ((8 : Int32) &&& 31))) ||| ((b6 &&& (255 : Int32)) <<< ((16 : Int32) &&& 31))) ||| ((b7 &&& (255 : Int32)) <<< ((24 : Int32) &&& 31)))) ^^^ (own_scr ((((((0 : Int32) ||| (b10 &&& (255 : Int32))) <<< ((8 : Int32) &&& 31)) ||| (b9 &&& (255 : Int32))) <<< ((8 : Int32) &&& 31)) ||| (b8 &&& (255 : Int32)))))), .val (.int (8 : Int32)), .val (.int ((((((0 : Int32) ||| (b10 &&& (255 : Int32))) <<< ((8 : Int32) &&& 31)) ||| (b9 &&& (255 : Int32))) <<< ((8 : Int32) &&& 31)) ||| (b8 &&& (255 : Int32)))), .val (.int (7 : Int32))] [(.int (own_fin ((own_mix (own_mix (0 : Int32) ((((b0 &&& (255 : Int32)) ||| ((b1 &&& (255 : Int32)) <<< ((8 : Int32) &&& 31))) ||| ((b2 &&& (255 : Int32)) <<< ((16 : Int32) &&& 31))) ||| ((b3 &&& (255 : Int32)) <<< ((24 : Int32) &&& 31)))) ((((b4 &&& (255 : Int32)) ||| ((b5 &&& (255 : Int32)) <<< ((8 : Int32) &&& 31))) ||| ((b6 &&& (255 : Int32)) <<< ((16 : Int32) &&& 31))) ||| ((b7 &&& (255 : Int32)) <<< ((24 : Int32) &&& 31)))) ^^^ (own_scr ((((((0 : Int32) ||| (b10 &&& (255 : Int32))) <<< ((8 : Int32) &&& 31)) ||| (b9 &&& (255 : Int32))) <<< ((8 : Int32) &&& 31)) ||| (b8 &&& (255 : Int32))))) (11 : Int32)))])
  have M4 := Fr.app M3 N4
  exact s_retI X4 hx hby hlk hret d5_125 (by decide) (by decide) ⟨rfl, e4, M4⟩
set_option maxRecDepth 65536 in
set_option maxHeartbeats 40000000 in
theorem rmH12 (l : Launch) (Z : State) (a0 : Array Value) (hw : ∀ d ∈ tables_1, d.before a0 Z = true) (a : Addr) (cl : Cell) (b0 b1 b2 b3 b4 b5 b6 b7 b8 b9 b10 b11 : Int32) (h0 : Heap) (n0 : Nat) (Ar : Arr Z h0 a cl .byte) (Sz : cl.slots.size = (12 : Int32).toNatClampNeg) (B0 : cl.slots[0]? = some (.int b0)) (B1 : cl.slots[1]? = some (.int b1)) (B2 : cl.slots[2]? = some (.int b2)) (B3 : cl.slots[3]? = some (.int b3)) (B4 : cl.slots[4]? = some (.int b4)) (B5 : cl.slots[5]? = some (.int b5)) (B6 : cl.slots[6]? = some (.int b6)) (B7 : cl.slots[7]? = some (.int b7)) (B8 : cl.slots[8]? = some (.int b8)) (B9 : cl.slots[9]? = some (.int b9)) (B10 : cl.slots[10]? = some (.int b10)) (B11 : cl.slots[11]? = some (.int b11)) :
    OCon l Z (⟨"com/example/floe/floe/Murmur3", "hash", "([B)I"⟩ : MethodName) prog_8_method_2_code 5 (some (.int)) [] ({ frames := 3, cells := 0, slots := 0, locals := 43 } : Room) #[(.ref a)] h0 (fun v h L => v = some (.int (own_fin (own_mix (own_mix (own_mix (0 : Int32) ((((b0 &&& (255 : Int32)) ||| ((b1 &&& (255 : Int32)) <<< ((8 : Int32) &&& 31))) ||| ((b2 &&& (255 : Int32)) <<< ((16 : Int32) &&& 31))) ||| ((b3 &&& (255 : Int32)) <<< ((24 : Int32) &&& 31)))) ((((b4 &&& (255 : Int32)) ||| ((b5 &&& (255 : Int32)) <<< ((8 : Int32) &&& 31))) ||| ((b6 &&& (255 : Int32)) <<< ((16 : Int32) &&& 31))) ||| ((b7 &&& (255 : Int32)) <<< ((24 : Int32) &&& 31)))) ((((b8 &&& (255 : Int32)) ||| ((b9 &&& (255 : Int32)) <<< ((8 : Int32) &&& 31))) ||| ((b10 &&& (255 : Int32)) <<< ((16 : Int32) &&& 31))) ||| ((b11 &&& (255 : Int32)) <<< ((24 : Int32) &&& 31)))) (12 : Int32))) ∧ h = h0 ∧ Fr n0 L) := by
  refine con (plainFor_of_name pnM) ?_
  intro p e s m below meth c s₁ hx hby hml hZ hown hnm hret hlk X0 e0
  refine entry (efH m a) ?_
  have M0 := Fr.nil n0
  refine s_iconst X0 hx hby (n := 1) (v := (0 : Int32)) d5_0 rfl rfl ?_
  refine s_istoreN X0 hx hby (n := 2) (L' := #[.val (.ref a), .val (.int (0 : Int32)), .unset, .unset, .unset]) d5_1 rfl rfl ?_
  refine s_aloadN X0 hx hby (n := 3) (x := (.ref a)) d5_2 rfl rfl rfl ?_
  refine s_arraylength X0 hx hby hZ (n := 4) e0 Ar (z := (12 : Int32)) Sz (by decide) d5_3 rfl ?_
  refine s_bipush X0 hx hby (n := 6) (v := (-4 : Int32)) d5_4 rfl rfl ?_
  refine s_iand X0 hx hby (n := 7) d5_6 rfl ?_
  refine s_fold (z := (12 : Int32)) (by decide) ?_
  refine s_istoreN X0 hx hby (n := 8) (L' := #[.val (.ref a), .val (.int (0 : Int32)), .val (.int (12 : Int32)), .unset, .unset]) d5_7 rfl rfl ?_
  refine s_iconst X0 hx hby (n := 9) (v := (0 : Int32)) d5_8 rfl rfl ?_
  refine s_istoreN X0 hx hby (n := 10) (L' := #[.val (.ref a), .val (.int (0 : Int32)), .val (.int (12 : Int32)), .val (.int (0 : Int32)), .unset]) d5_9 rfl rfl ?_
  refine s_iloadN X0 hx hby (n := 11) (x := (0 : Int32)) d5_10 rfl rfl ?_
  refine s_iloadN X0 hx hby (n := 12) (x := (12 : Int32)) d5_11 rfl rfl ?_
  refine s_icmpN X0 hx hby (n := 15) d5_12 (by decide) rfl ?_
  refine s_iloadN X0 hx hby (n := 16) (x := (0 : Int32)) d5_15 rfl rfl ?_
  refine s_aloadN X0 hx hby (n := 17) (x := (.ref a)) d5_16 rfl rfl rfl ?_
  refine s_iloadN X0 hx hby (n := 18) (x := (0 : Int32)) d5_17 rfl rfl ?_
  refine s_baloadC X0 hx hby hZ (n := 19) e0 Ar 0 (by decide) (by decide) (by rw [Sz]; decide) B0 d5_18 rfl ?_
  refine s_sipush X0 hx hby (n := 22) (v := (255 : Int32)) d5_19 rfl rfl ?_
  refine s_iand X0 hx hby (n := 23) d5_22 rfl ?_
  refine s_aloadN X0 hx hby (n := 24) (x := (.ref a)) d5_23 rfl rfl rfl ?_
  refine s_iloadN X0 hx hby (n := 25) (x := (0 : Int32)) d5_24 rfl rfl ?_
  refine s_iconst X0 hx hby (n := 26) (v := (1 : Int32)) d5_25 rfl rfl ?_
  refine s_iadd X0 hx hby (n := 27) d5_26 rfl ?_
  refine s_fold (z := (1 : Int32)) (by decide) ?_
  refine s_baloadC X0 hx hby hZ (n := 28) e0 Ar 1 (by decide) (by decide) (by rw [Sz]; decide) B1 d5_27 rfl ?_
  refine s_sipush X0 hx hby (n := 31) (v := (255 : Int32)) d5_28 rfl rfl ?_
  refine s_iand X0 hx hby (n := 32) d5_31 rfl ?_
  refine s_bipush X0 hx hby (n := 34) (v := (8 : Int32)) d5_32 rfl rfl ?_
  refine s_ishl X0 hx hby (n := 35) d5_34 rfl ?_
  refine s_ior X0 hx hby (n := 36) d5_35 rfl ?_
  refine s_aloadN X0 hx hby (n := 37) (x := (.ref a)) d5_36 rfl rfl rfl ?_
  refine s_iloadN X0 hx hby (n := 38) (x := (0 : Int32)) d5_37 rfl rfl ?_
  refine s_iconst X0 hx hby (n := 39) (v := (2 : Int32)) d5_38 rfl rfl ?_
  refine s_iadd X0 hx hby (n := 40) d5_39 rfl ?_
  refine s_fold (z := (2 : Int32)) (by decide) ?_
  refine s_baloadC X0 hx hby hZ (n := 41) e0 Ar 2 (by decide) (by decide) (by rw [Sz]; decide) B2 d5_40 rfl ?_
  refine s_sipush X0 hx hby (n := 44) (v := (255 : Int32)) d5_41 rfl rfl ?_
  refine s_iand X0 hx hby (n := 45) d5_44 rfl ?_
  refine s_bipush X0 hx hby (n := 47) (v := (16 : Int32)) d5_45 rfl rfl ?_
  refine s_ishl X0 hx hby (n := 48) d5_47 rfl ?_
  refine s_ior X0 hx hby (n := 49) d5_48 rfl ?_
  refine s_aloadN X0 hx hby (n := 50) (x := (.ref a)) d5_49 rfl rfl rfl ?_
  refine s_iloadN X0 hx hby (n := 51) (x := (0 : Int32)) d5_50 rfl rfl ?_
  refine s_iconst X0 hx hby (n := 52) (v := (3 : Int32)) d5_51 rfl rfl ?_
  refine s_iadd X0 hx hby (n := 53) d5_52 rfl ?_
  refine s_fold (z := (3 : Int32)) (by decide) ?_
  refine s_baloadC X0 hx hby hZ (n := 54) e0 Ar 3 (by decide) (by decide) (by rw [Sz]; decide) B3 d5_53 rfl ?_
  refine s_sipush X0 hx hby (n := 57) (v := (255 : Int32)) d5_54 rfl rfl ?_
  refine s_iand X0 hx hby (n := 58) d5_57 rfl ?_
  refine s_bipush X0 hx hby (n := 60) (v := (24 : Int32)) d5_58 rfl rfl ?_
  refine s_ishl X0 hx hby (n := 61) d5_60 rfl ?_
  refine s_ior X0 hx hby (n := 62) d5_61 rfl ?_
  refine s_callS X0 hx hby hml hZ (n := 65) hown (hw _ (List.mem_of_getElem? (i := 41) rfl)) (hw _ (List.mem_of_getElem? (i := 42) rfl)) (hw _ (List.mem_of_getElem? (i := 21) rfl)) (hw _ (List.mem_of_getElem? (i := 43) rfl)) (by decide) (rmMix l Z a0 hw (0 : Int32) ((((b0 &&& (255 : Int32)) ||| ((b1 &&& (255 : Int32)) <<< ((8 : Int32) &&& 31))) ||| ((b2 &&& (255 : Int32)) <<< ((16 : Int32) &&& 31))) ||| ((b3 &&& (255 : Int32)) <<< ((24 : Int32) &&& 31))) h0 n0) e0 (by decide) 0 (by decide) (by decide) (by decide) pd_0 [(.int (0 : Int32)), (.int ((((b0 &&& (255 : Int32)) ||| ((b1 &&& (255 : Int32)) <<< ((8 : Int32) &&& 31))) ||| ((b2 &&& (255 : Int32)) <<< ((16 : Int32) &&& 31))) ||| ((b3 &&& (255 : Int32)) <<< ((24 : Int32) &&& 31))))] [] rfl rfl rfl (Nat.le_of_eq rfl) rfl d5_62 rfl ?_
  intro T1 L1 v1 X1 q1c
  obtain ⟨rfl, e1, N1⟩ := q1c
  show OEnds p e below s _ _ _ T1 (mkF m 65 #[.val (.ref a), .val (.int (0 : Int32)), .val (.int (12 : Int32)), .val (.int (0 : Int32)), .unset] [(.int (own_mix (0 : Int32) ((((b0 &&& (255 : Int32)) ||| ((b1 &&& (255 : Int32)) <<< ((8 : Int32) &&& 31))) ||| ((b2 &&& (255 : Int32)) <<< ((16 : Int32) &&& 31))) ||| ((b3 &&& (255 : Int32)) <<< ((24 : Int32) &&& 31)))))])
  have M1 := Fr.app M0 N1
  refine s_istoreN X1 hx hby (n := 66) (L' := #[.val (.ref a), .val (.int (own_mix (0 : Int32) ((((b0 &&& (255 : Int32)) ||| ((b1 &&& (255 : Int32)) <<< ((8 : Int32) &&& 31))) ||| ((b2 &&& (255 : Int32)) <<< ((16 : Int32) &&& 31))) ||| ((b3 &&& (255 : Int32)) <<< ((24 : Int32) &&& 31))))), .val (.int (12 : Int32)), .val (.int (0 : Int32)), .unset]) d5_65 rfl rfl ?_
  refine s_iincC X1 hx hby (n := 69) (v := (4 : Int32)) (x := (0 : Int32)) (z := (4 : Int32)) (L' := #[.val (.ref a), .val (.int (own_mix (0 : Int32) ((((b0 &&& (255 : Int32)) ||| ((b1 &&& (255 : Int32)) <<< ((8 : Int32) &&& 31))) ||| ((b2 &&& (255 : Int32)) <<< ((16 : Int32) &&& 31))) ||| ((b3 &&& (255 : Int32)) <<< ((24 : Int32) &&& 31))))), .val (.int (12 : Int32)), .val (.int (4 : Int32)), .unset]) d5_66 rfl rfl (by decide) rfl rfl ?_
  refine s_goto X1 hx hby (n := 10) d5_69 (by decide) (by decide) ?_
  refine s_iloadN X1 hx hby (n := 11) (x := (4 : Int32)) d5_10 rfl rfl ?_
  refine s_iloadN X1 hx hby (n := 12) (x := (12 : Int32)) d5_11 rfl rfl ?_
  refine s_icmpN X1 hx hby (n := 15) d5_12 (by decide) rfl ?_
  refine s_iloadN X1 hx hby (n := 16) (x := (own_mix (0 : Int32) ((((b0 &&& (255 : Int32)) ||| ((b1 &&& (255 : Int32)) <<< ((8 : Int32) &&& 31))) ||| ((b2 &&& (255 : Int32)) <<< ((16 : Int32) &&& 31))) ||| ((b3 &&& (255 : Int32)) <<< ((24 : Int32) &&& 31))))) d5_15 rfl rfl ?_
  refine s_aloadN X1 hx hby (n := 17) (x := (.ref a)) d5_16 rfl rfl rfl ?_
  refine s_iloadN X1 hx hby (n := 18) (x := (4 : Int32)) d5_17 rfl rfl ?_
  refine s_baloadC X1 hx hby hZ (n := 19) e1 Ar 4 (by decide) (by decide) (by rw [Sz]; decide) B4 d5_18 rfl ?_
  refine s_sipush X1 hx hby (n := 22) (v := (255 : Int32)) d5_19 rfl rfl ?_
  refine s_iand X1 hx hby (n := 23) d5_22 rfl ?_
  refine s_aloadN X1 hx hby (n := 24) (x := (.ref a)) d5_23 rfl rfl rfl ?_
  refine s_iloadN X1 hx hby (n := 25) (x := (4 : Int32)) d5_24 rfl rfl ?_
  refine s_iconst X1 hx hby (n := 26) (v := (1 : Int32)) d5_25 rfl rfl ?_
  refine s_iadd X1 hx hby (n := 27) d5_26 rfl ?_
  refine s_fold (z := (5 : Int32)) (by decide) ?_
  refine s_baloadC X1 hx hby hZ (n := 28) e1 Ar 5 (by decide) (by decide) (by rw [Sz]; decide) B5 d5_27 rfl ?_
  refine s_sipush X1 hx hby (n := 31) (v := (255 : Int32)) d5_28 rfl rfl ?_
  refine s_iand X1 hx hby (n := 32) d5_31 rfl ?_
  refine s_bipush X1 hx hby (n := 34) (v := (8 : Int32)) d5_32 rfl rfl ?_
  refine s_ishl X1 hx hby (n := 35) d5_34 rfl ?_
  refine s_ior X1 hx hby (n := 36) d5_35 rfl ?_
  refine s_aloadN X1 hx hby (n := 37) (x := (.ref a)) d5_36 rfl rfl rfl ?_
  refine s_iloadN X1 hx hby (n := 38) (x := (4 : Int32)) d5_37 rfl rfl ?_
  refine s_iconst X1 hx hby (n := 39) (v := (2 : Int32)) d5_38 rfl rfl ?_
  refine s_iadd X1 hx hby (n := 40) d5_39 rfl ?_
  refine s_fold (z := (6 : Int32)) (by decide) ?_
  refine s_baloadC X1 hx hby hZ (n := 41) e1 Ar 6 (by decide) (by decide) (by rw [Sz]; decide) B6 d5_40 rfl ?_
  refine s_sipush X1 hx hby (n := 44) (v := (255 : Int32)) d5_41 rfl rfl ?_
  refine s_iand X1 hx hby (n := 45) d5_44 rfl ?_
  refine s_bipush X1 hx hby (n := 47) (v := (16 : Int32)) d5_45 rfl rfl ?_
  refine s_ishl X1 hx hby (n := 48) d5_47 rfl ?_
  refine s_ior X1 hx hby (n := 49) d5_48 rfl ?_
  refine s_aloadN X1 hx hby (n := 50) (x := (.ref a)) d5_49 rfl rfl rfl ?_
  refine s_iloadN X1 hx hby (n := 51) (x := (4 : Int32)) d5_50 rfl rfl ?_
  refine s_iconst X1 hx hby (n := 52) (v := (3 : Int32)) d5_51 rfl rfl ?_
  refine s_iadd X1 hx hby (n := 53) d5_52 rfl ?_
  refine s_fold (z := (7 : Int32)) (by decide) ?_
  refine s_baloadC X1 hx hby hZ (n := 54) e1 Ar 7 (by decide) (by decide) (by rw [Sz]; decide) B7 d5_53 rfl ?_
  refine s_sipush X1 hx hby (n := 57) (v := (255 : Int32)) d5_54 rfl rfl ?_
  refine s_iand X1 hx hby (n := 58) d5_57 rfl ?_
  refine s_bipush X1 hx hby (n := 60) (v := (24 : Int32)) d5_58 rfl rfl ?_
  refine s_ishl X1 hx hby (n := 61) d5_60 rfl ?_
  refine s_ior X1 hx hby (n := 62) d5_61 rfl ?_
  refine s_callS X1 hx hby hml hZ (n := 65) hown (hw _ (List.mem_of_getElem? (i := 41) rfl)) (hw _ (List.mem_of_getElem? (i := 42) rfl)) (hw _ (List.mem_of_getElem? (i := 21) rfl)) (hw _ (List.mem_of_getElem? (i := 43) rfl)) (by decide) (rmMix l Z a0 hw (own_mix (0 : Int32) ((((b0 &&& (255 : Int32)) ||| ((b1 &&& (255 : Int32)) <<< ((8 : Int32) &&& 31))) ||| ((b2 &&& (255 : Int32)) <<< ((16 : Int32) &&& 31))) ||| ((b3 &&& (255 : Int32)) <<< ((24 : Int32) &&& 31)))) ((((b4 &&& (255 : Int32)) ||| ((b5 &&& (255 : Int32)) <<< ((8 : Int32) &&& 31))) ||| ((b6 &&& (255 : Int32)) <<< ((16 : Int32) &&& 31))) ||| ((b7 &&& (255 : Int32)) <<< ((24 : Int32) &&& 31))) h0 n0) e1 (by decide) 0 (by decide) (by decide) (by decide) pd_0 [(.int (own_mix (0 : Int32) ((((b0 &&& (255 : Int32)) ||| ((b1 &&& (255 : Int32)) <<< ((8 : Int32) &&& 31))) ||| ((b2 &&& (255 : Int32)) <<< ((16 : Int32) &&& 31))) ||| ((b3 &&& (255 : Int32)) <<< ((24 : Int32) &&& 31))))), (.int ((((b4 &&& (255 : Int32)) ||| ((b5 &&& (255 : Int32)) <<< ((8 : Int32) &&& 31))) ||| ((b6 &&& (255 : Int32)) <<< ((16 : Int32) &&& 31))) ||| ((b7 &&& (255 : Int32)) <<< ((24 : Int32) &&& 31))))] [] rfl rfl rfl (Nat.le_of_eq rfl) rfl d5_62 rfl ?_
  intro T2 L2 v2 X2 q2c
  obtain ⟨rfl, e2, N2⟩ := q2c
  show OEnds p e below s _ _ _ T2 (mkF m 65 #[.val (.ref a), .val (.int (own_mix (0 : Int32) ((((b0 &&& (255 : Int32)) ||| ((b1 &&& (255 : Int32)) <<< ((8 : Int32) &&& 31))) ||| ((b2 &&& (255 : Int32)) <<< ((16 : Int32) &&& 31))) ||| ((b3 &&& (255 : Int32)) <<< ((24 : Int32) &&& 31))))), .val (.int (12 : Int32)), .val (.int (4 : Int32)), .unset] [(.int (own_mix (own_mix (0 : Int32) ((((b0 &&& (255 : Int32)) ||| ((b1 &&& (255 : Int32)) <<< ((8 : Int32) &&& 31))) ||| ((b2 &&& (255 : Int32)) <<< ((16 : Int32) &&& 31))) ||| ((b3 &&& (255 : Int32)) <<< ((24 : Int32) &&& 31)))) ((((b4 &&& (255 : Int32)) ||| ((b5 &&& (255 : Int32)) <<< ((8 : Int32) &&& 31))) ||| ((b6 &&& (255 : Int32)) <<< ((16 : Int32) &&& 31))) ||| ((b7 &&& (255 : Int32)) <<< ((24 : Int32) &&& 31)))))])
  have M2 := Fr.app M1 N2
  refine s_istoreN X2 hx hby (n := 66) (L' := #[.val (.ref a), .val (.int (own_mix (own_mix (0 : Int32) ((((b0 &&& (255 : Int32)) ||| ((b1 &&& (255 : Int32)) <<< ((8 : Int32) &&& 31))) ||| ((b2 &&& (255 : Int32)) <<< ((16 : Int32) &&& 31))) ||| ((b3 &&& (255 : Int32)) <<< ((24 : Int32) &&& 31)))) ((((b4 &&& (255 : Int32)) ||| ((b5 &&& (255 : Int32)) <<< ((8 : Int32) &&& 31))) ||| ((b6 &&& (255 : Int32)) <<< ((16 : Int32) &&& 31))) ||| ((b7 &&& (255 : Int32)) <<< ((24 : Int32) &&& 31))))), .val (.int (12 : Int32)), .val (.int (4 : Int32)), .unset]) d5_65 rfl rfl ?_
  refine s_iincC X2 hx hby (n := 69) (v := (4 : Int32)) (x := (4 : Int32)) (z := (8 : Int32)) (L' := #[.val (.ref a), .val (.int (own_mix (own_mix (0 : Int32) ((((b0 &&& (255 : Int32)) ||| ((b1 &&& (255 : Int32)) <<< ((8 : Int32) &&& 31))) ||| ((b2 &&& (255 : Int32)) <<< ((16 : Int32) &&& 31))) ||| ((b3 &&& (255 : Int32)) <<< ((24 : Int32) &&& 31)))) ((((b4 &&& (255 : Int32)) ||| ((b5 &&& (255 : Int32)) <<< ((8 : Int32) &&& 31))) ||| ((b6 &&& (255 : Int32)) <<< ((16 : Int32) &&& 31))) ||| ((b7 &&& (255 : Int32)) <<< ((24 : Int32) &&& 31))))), .val (.int (12 : Int32)), .val (.int (8 : Int32)), .unset]) d5_66 rfl rfl (by decide) rfl rfl ?_
  refine s_goto X2 hx hby (n := 10) d5_69 (by decide) (by decide) ?_
  refine s_iloadN X2 hx hby (n := 11) (x := (8 : Int32)) d5_10 rfl rfl ?_
  refine s_iloadN X2 hx hby (n := 12) (x := (12 : Int32)) d5_11 rfl rfl ?_
  refine s_icmpN X2 hx hby (n := 15) d5_12 (by decide) rfl ?_
  refine s_iloadN X2 hx hby (n := 16) (x := (own_mix (own_mix (0 : Int32) ((((b0 &&& (255 : Int32)) ||| ((b1 &&& (255 : Int32)) <<< ((8 : Int32) &&& 31))) ||| ((b2 &&& (255 : Int32)) <<< ((16 : Int32) &&& 31))) ||| ((b3 &&& (255 : Int32)) <<< ((24 : Int32) &&& 31)))) ((((b4 &&& (255 : Int32)) ||| ((b5 &&& (255 : Int32)) <<< ((8 : Int32) &&& 31))) ||| ((b6 &&& (255 : Int32)) <<< ((16 : Int32) &&& 31))) ||| ((b7 &&& (255 : Int32)) <<< ((24 : Int32) &&& 31))))) d5_15 rfl rfl ?_
  refine s_aloadN X2 hx hby (n := 17) (x := (.ref a)) d5_16 rfl rfl rfl ?_
  refine s_iloadN X2 hx hby (n := 18) (x := (8 : Int32)) d5_17 rfl rfl ?_
  refine s_baloadC X2 hx hby hZ (n := 19) e2 Ar 8 (by decide) (by decide) (by rw [Sz]; decide) B8 d5_18 rfl ?_
  refine s_sipush X2 hx hby (n := 22) (v := (255 : Int32)) d5_19 rfl rfl ?_
  refine s_iand X2 hx hby (n := 23) d5_22 rfl ?_
  refine s_aloadN X2 hx hby (n := 24) (x := (.ref a)) d5_23 rfl rfl rfl ?_
  refine s_iloadN X2 hx hby (n := 25) (x := (8 : Int32)) d5_24 rfl rfl ?_
  refine s_iconst X2 hx hby (n := 26) (v := (1 : Int32)) d5_25 rfl rfl ?_
  refine s_iadd X2 hx hby (n := 27) d5_26 rfl ?_
  refine s_fold (z := (9 : Int32)) (by decide) ?_
  refine s_baloadC X2 hx hby hZ (n := 28) e2 Ar 9 (by decide) (by decide) (by rw [Sz]; decide) B9 d5_27 rfl ?_
  refine s_sipush X2 hx hby (n := 31) (v := (255 : Int32)) d5_28 rfl rfl ?_
  refine s_iand X2 hx hby (n := 32) d5_31 rfl ?_
  refine s_bipush X2 hx hby (n := 34) (v := (8 : Int32)) d5_32 rfl rfl ?_
  refine s_ishl X2 hx hby (n := 35) d5_34 rfl ?_
  refine s_ior X2 hx hby (n := 36) d5_35 rfl ?_
  refine s_aloadN X2 hx hby (n := 37) (x := (.ref a)) d5_36 rfl rfl rfl ?_
  refine s_iloadN X2 hx hby (n := 38) (x := (8 : Int32)) d5_37 rfl rfl ?_
  refine s_iconst X2 hx hby (n := 39) (v := (2 : Int32)) d5_38 rfl rfl ?_
  refine s_iadd X2 hx hby (n := 40) d5_39 rfl ?_
  refine s_fold (z := (10 : Int32)) (by decide) ?_
  refine s_baloadC X2 hx hby hZ (n := 41) e2 Ar 10 (by decide) (by decide) (by rw [Sz]; decide) B10 d5_40 rfl ?_
  refine s_sipush X2 hx hby (n := 44) (v := (255 : Int32)) d5_41 rfl rfl ?_
  refine s_iand X2 hx hby (n := 45) d5_44 rfl ?_
  refine s_bipush X2 hx hby (n := 47) (v := (16 : Int32)) d5_45 rfl rfl ?_
  refine s_ishl X2 hx hby (n := 48) d5_47 rfl ?_
  refine s_ior X2 hx hby (n := 49) d5_48 rfl ?_
  refine s_aloadN X2 hx hby (n := 50) (x := (.ref a)) d5_49 rfl rfl rfl ?_
  refine s_iloadN X2 hx hby (n := 51) (x := (8 : Int32)) d5_50 rfl rfl ?_
  refine s_iconst X2 hx hby (n := 52) (v := (3 : Int32)) d5_51 rfl rfl ?_
  refine s_iadd X2 hx hby (n := 53) d5_52 rfl ?_
  refine s_fold (z := (11 : Int32)) (by decide) ?_
  refine s_baloadC X2 hx hby hZ (n := 54) e2 Ar 11 (by decide) (by decide) (by rw [Sz]; decide) B11 d5_53 rfl ?_
  refine s_sipush X2 hx hby (n := 57) (v := (255 : Int32)) d5_54 rfl rfl ?_
  refine s_iand X2 hx hby (n := 58) d5_57 rfl ?_
  refine s_bipush X2 hx hby (n := 60) (v := (24 : Int32)) d5_58 rfl rfl ?_
  refine s_ishl X2 hx hby (n := 61) d5_60 rfl ?_
  refine s_ior X2 hx hby (n := 62) d5_61 rfl ?_
  refine s_callS X2 hx hby hml hZ (n := 65) hown (hw _ (List.mem_of_getElem? (i := 41) rfl)) (hw _ (List.mem_of_getElem? (i := 42) rfl)) (hw _ (List.mem_of_getElem? (i := 21) rfl)) (hw _ (List.mem_of_getElem? (i := 43) rfl)) (by decide) (rmMix l Z a0 hw (own_mix (own_mix (0 : Int32) ((((b0 &&& (255 : Int32)) ||| ((b1 &&& (255 : Int32)) <<< ((8 : Int32) &&& 31))) ||| ((b2 &&& (255 : Int32)) <<< ((16 : Int32) &&& 31))) ||| ((b3 &&& (255 : Int32)) <<< ((24 : Int32) &&& 31)))) ((((b4 &&& (255 : Int32)) ||| ((b5 &&& (255 : Int32)) <<< ((8 : Int32) &&& 31))) ||| ((b6 &&& (255 : Int32)) <<< ((16 : Int32) &&& 31))) ||| ((b7 &&& (255 : Int32)) <<< ((24 : Int32) &&& 31)))) ((((b8 &&& (255 : Int32)) ||| ((b9 &&& (255 : Int32)) <<< ((8 : Int32) &&& 31))) ||| ((b10 &&& (255 : Int32)) <<< ((16 : Int32) &&& 31))) ||| ((b11 &&& (255 : Int32)) <<< ((24 : Int32) &&& 31))) h0 n0) e2 (by decide) 0 (by decide) (by decide) (by decide) pd_0 [(.int (own_mix (own_mix (0 : Int32) ((((b0 &&& (255 : Int32)) ||| ((b1 &&& (255 : Int32)) <<< ((8 : Int32) &&& 31))) ||| ((b2 &&& (255 : Int32)) <<< ((16 : Int32) &&& 31))) ||| ((b3 &&& (255 : Int32)) <<< ((24 : Int32) &&& 31)))) ((((b4 &&& (255 : Int32)) ||| ((b5 &&& (255 : Int32)) <<< ((8 : Int32) &&& 31))) ||| ((b6 &&& (255 : Int32)) <<< ((16 : Int32) &&& 31))) ||| ((b7 &&& (255 : Int32)) <<< ((24 : Int32) &&& 31))))), (.int ((((b8 &&& (255 : Int32)) ||| ((b9 &&& (255 : Int32)) <<< ((8 : Int32) &&& 31))) ||| ((b10 &&& (255 : Int32)) <<< ((16 : Int32) &&& 31))) ||| ((b11 &&& (255 : Int32)) <<< ((24 : Int32) &&& 31))))] [] rfl rfl rfl (Nat.le_of_eq rfl) rfl d5_62 rfl ?_
  intro T3 L3 v3 X3 q3c
  obtain ⟨rfl, e3, N3⟩ := q3c
  show OEnds p e below s _ _ _ T3 (mkF m 65 #[.val (.ref a), .val (.int (own_mix (own_mix (0 : Int32) ((((b0 &&& (255 : Int32)) ||| ((b1 &&& (255 : Int32)) <<< ((8 : Int32) &&& 31))) ||| ((b2 &&& (255 : Int32)) <<< ((16 : Int32) &&& 31))) ||| ((b3 &&& (255 : Int32)) <<< ((24 : Int32) &&& 31)))) ((((b4 &&& (255 : Int32)) ||| ((b5 &&& (255 : Int32)) <<< ((8 : Int32) &&& 31))) ||| ((b6 &&& (255 : Int32)) <<< ((16 : Int32) &&& 31))) ||| ((b7 &&& (255 : Int32)) <<< ((24 : Int32) &&& 31))))), .val (.int (12 : Int32)), .val (.int (8 : Int32)), .unset] [(.int (own_mix (own_mix (own_mix (0 : Int32) ((((b0 &&& (255 : Int32)) ||| ((b1 &&& (255 : Int32)) <<< ((8 : Int32) &&& 31))) ||| ((b2 &&& (255 : Int32)) <<< ((16 : Int32) &&& 31))) ||| ((b3 &&& (255 : Int32)) <<< ((24 : Int32) &&& 31)))) ((((b4 &&& (255 : Int32)) ||| ((b5 &&& (255 : Int32)) <<< ((8 : Int32) &&& 31))) ||| ((b6 &&& (255 : Int32)) <<< ((16 : Int32) &&& 31))) ||| ((b7 &&& (255 : Int32)) <<< ((24 : Int32) &&& 31)))) ((((b8 &&& (255 : Int32)) ||| ((b9 &&& (255 : Int32)) <<< ((8 : Int32) &&& 31))) ||| ((b10 &&& (255 : Int32)) <<< ((16 : Int32) &&& 31))) ||| ((b11 &&& (255 : Int32)) <<< ((24 : Int32) &&& 31)))))])
  have M3 := Fr.app M2 N3
  refine s_istoreN X3 hx hby (n := 66) (L' := #[.val (.ref a), .val (.int (own_mix (own_mix (own_mix (0 : Int32) ((((b0 &&& (255 : Int32)) ||| ((b1 &&& (255 : Int32)) <<< ((8 : Int32) &&& 31))) ||| ((b2 &&& (255 : Int32)) <<< ((16 : Int32) &&& 31))) ||| ((b3 &&& (255 : Int32)) <<< ((24 : Int32) &&& 31)))) ((((b4 &&& (255 : Int32)) ||| ((b5 &&& (255 : Int32)) <<< ((8 : Int32) &&& 31))) ||| ((b6 &&& (255 : Int32)) <<< ((16 : Int32) &&& 31))) ||| ((b7 &&& (255 : Int32)) <<< ((24 : Int32) &&& 31)))) ((((b8 &&& (255 : Int32)) ||| ((b9 &&& (255 : Int32)) <<< ((8 : Int32) &&& 31))) ||| ((b10 &&& (255 : Int32)) <<< ((16 : Int32) &&& 31))) ||| ((b11 &&& (255 : Int32)) <<< ((24 : Int32) &&& 31))))), .val (.int (12 : Int32)), .val (.int (8 : Int32)), .unset]) d5_65 rfl rfl ?_
  refine s_iincC X3 hx hby (n := 69) (v := (4 : Int32)) (x := (8 : Int32)) (z := (12 : Int32)) (L' := #[.val (.ref a), .val (.int (own_mix (own_mix (own_mix (0 : Int32) ((((b0 &&& (255 : Int32)) ||| ((b1 &&& (255 : Int32)) <<< ((8 : Int32) &&& 31))) ||| ((b2 &&& (255 : Int32)) <<< ((16 : Int32) &&& 31))) ||| ((b3 &&& (255 : Int32)) <<< ((24 : Int32) &&& 31)))) ((((b4 &&& (255 : Int32)) ||| ((b5 &&& (255 : Int32)) <<< ((8 : Int32) &&& 31))) ||| ((b6 &&& (255 : Int32)) <<< ((16 : Int32) &&& 31))) ||| ((b7 &&& (255 : Int32)) <<< ((24 : Int32) &&& 31)))) ((((b8 &&& (255 : Int32)) ||| ((b9 &&& (255 : Int32)) <<< ((8 : Int32) &&& 31))) ||| ((b10 &&& (255 : Int32)) <<< ((16 : Int32) &&& 31))) ||| ((b11 &&& (255 : Int32)) <<< ((24 : Int32) &&& 31))))), .val (.int (12 : Int32)), .val (.int (12 : Int32)), .unset]) d5_66 rfl rfl (by decide) rfl rfl ?_
  refine s_goto X3 hx hby (n := 10) d5_69 (by decide) (by decide) ?_
  refine s_iloadN X3 hx hby (n := 11) (x := (12 : Int32)) d5_10 rfl rfl ?_
  refine s_iloadN X3 hx hby (n := 12) (x := (12 : Int32)) d5_11 rfl rfl ?_
  refine s_icmpY X3 hx hby (n := 72) d5_12 (by decide) (by decide) (by decide) ?_
  refine s_iloadN X3 hx hby (n := 73) (x := (12 : Int32)) d5_72 rfl rfl ?_
  refine s_aloadN X3 hx hby (n := 74) (x := (.ref a)) d5_73 rfl rfl rfl ?_
  refine s_arraylength X3 hx hby hZ (n := 75) e3 Ar (z := (12 : Int32)) Sz (by decide) d5_74 rfl ?_
  refine s_icmpY X3 hx hby (n := 119) d5_75 (by decide) (by decide) (by decide) ?_
  refine s_iloadN X3 hx hby (n := 120) (x := (own_mix (own_mix (own_mix (0 : Int32) ((((b0 &&& (255 : Int32)) ||| ((b1 &&& (255 : Int32)) <<< ((8 : Int32) &&& 31))) ||| ((b2 &&& (255 : Int32)) <<< ((16 : Int32) &&& 31))) ||| ((b3 &&& (255 : Int32)) <<< ((24 : Int32) &&& 31)))) ((((b4 &&& (255 : Int32)) ||| ((b5 &&& (255 : Int32)) <<< ((8 : Int32) &&& 31))) ||| ((b6 &&& (255 : Int32)) <<< ((16 : Int32) &&& 31))) ||| ((b7 &&& (255 : Int32)) <<< ((24 : Int32) &&& 31)))) ((((b8 &&& (255 : Int32)) ||| ((b9 &&& (255 : Int32)) <<< ((8 : Int32) &&& 31))) ||| ((b10 &&& (255 : Int32)) <<< ((16 : Int32) &&& 31))) ||| ((b11 &&& (255 : Int32)) <<< ((24 : Int32) &&& 31))))) d5_119 rfl rfl ?_
  refine s_aloadN X3 hx hby (n := 121) (x := (.ref a)) d5_120 rfl rfl rfl ?_
  refine s_arraylength X3 hx hby hZ (n := 122) e3 Ar (z := (12 : Int32)) Sz (by decide) d5_121 rfl ?_
  refine s_callS X3 hx hby hml hZ (n := 125) hown (hw _ (List.mem_of_getElem? (i := 32) rfl)) (hw _ (List.mem_of_getElem? (i := 33) rfl)) (hw _ (List.mem_of_getElem? (i := 21) rfl)) (hw _ (List.mem_of_getElem? (i := 34) rfl)) (by decide) (rmFin l Z a0 hw (own_mix (own_mix (own_mix (0 : Int32) ((((b0 &&& (255 : Int32)) ||| ((b1 &&& (255 : Int32)) <<< ((8 : Int32) &&& 31))) ||| ((b2 &&& (255 : Int32)) <<< ((16 : Int32) &&& 31))) ||| ((b3 &&& (255 : Int32)) <<< ((24 : Int32) &&& 31)))) ((((b4 &&& (255 : Int32)) ||| ((b5 &&& (255 : Int32)) <<< ((8 : Int32) &&& 31))) ||| ((b6 &&& (255 : Int32)) <<< ((16 : Int32) &&& 31))) ||| ((b7 &&& (255 : Int32)) <<< ((24 : Int32) &&& 31)))) ((((b8 &&& (255 : Int32)) ||| ((b9 &&& (255 : Int32)) <<< ((8 : Int32) &&& 31))) ||| ((b10 &&& (255 : Int32)) <<< ((16 : Int32) &&& 31))) ||| ((b11 &&& (255 : Int32)) <<< ((24 : Int32) &&& 31)))) (12 : Int32) h0 n0) e3 (by decide) 0 (by decide) (by decide) (by decide) pd_0 [(.int (own_mix (own_mix (own_mix (0 : Int32) ((((b0 &&& (255 : Int32)) ||| ((b1 &&& (255 : Int32)) <<< ((8 : Int32) &&& 31))) ||| ((b2 &&& (255 : Int32)) <<< ((16 : Int32) &&& 31))) ||| ((b3 &&& (255 : Int32)) <<< ((24 : Int32) &&& 31)))) ((((b4 &&& (255 : Int32)) ||| ((b5 &&& (255 : Int32)) <<< ((8 : Int32) &&& 31))) ||| ((b6 &&& (255 : Int32)) <<< ((16 : Int32) &&& 31))) ||| ((b7 &&& (255 : Int32)) <<< ((24 : Int32) &&& 31)))) ((((b8 &&& (255 : Int32)) ||| ((b9 &&& (255 : Int32)) <<< ((8 : Int32) &&& 31))) ||| ((b10 &&& (255 : Int32)) <<< ((16 : Int32) &&& 31))) ||| ((b11 &&& (255 : Int32)) <<< ((24 : Int32) &&& 31))))), (.int (12 : Int32))] [] rfl rfl rfl (Nat.le_of_eq rfl) rfl d5_122 rfl ?_
  intro T4 L4 v4 X4 q4c
  obtain ⟨rfl, e4, N4⟩ := q4c
  show OEnds p e below s _ _ _ T4 (mkF m 125 #[.val (.ref a), .val (.int (own_mix (own_mix (own_mix (0 : Int32) ((((b0 &&& (255 : Int32)) ||| ((b1 &&& (255 : Int32)) <<< ((8 : Int32) &&& 31))) ||| ((b2 &&& (255 : Int32)) <<< ((16 : Int32) &&& 31))) ||| ((b3 &&& (255 : Int32)) <<< ((24 : Int32) &&& 31)))) ((((b4 &&& (255 : Int32)) ||| ((b5 &&& (255 : Int32)) <<< ((8 : Int32) &&& 31))) ||| ((b6 &&& (255 : Int32)) <<< ((16 : Int32) &&& 31))) ||| ((b7 &&& (255 : Int32)) <<< ((24 : Int32) &&& 31)))) ((((b8 &&& (255 : Int32)) ||| ((b9 &&& (255 : Int32)) <<< ((8 : Int32) &&& 31))) ||| ((b10 &&& (255 : Int32)) <<< ((16 : Int32) &&& 31))) ||| ((b11 &&& (255 : Int32)) <<< ((24 : Int32) &&& 31))))), .val (.int (12 : Int32)), .val (.int (12 : Int32)), .unset] [(.int (own_fin (own_mix (own_mix (own_mix (0 : Int32) ((((b0 &&& (255 : Int32)) ||| ((b1 &&& (255 : Int32)) <<< ((8 : Int32) &&& 31))) ||| ((b2 &&& (255 : Int32)) <<< ((16 : Int32) &&& 31))) ||| ((b3 &&& (255 : Int32)) <<< ((24 : Int32) &&& 31)))) ((((b4 &&& (255 : Int32)) ||| ((b5 &&& (255 : Int32)) <<< ((8 : Int32) &&& 31))) ||| ((b6 &&& (255 : Int32)) <<< ((16 : Int32) &&& 31))) ||| ((b7 &&& (255 : Int32)) <<< ((24 : Int32) &&& 31)))) ((((b8 &&& (255 : Int32)) ||| ((b9 &&& (255 : Int32)) <<< ((8 : Int32) &&& 31))) ||| ((b10 &&& (255 : Int32)) <<< ((16 : Int32) &&& 31))) ||| ((b11 &&& (255 : Int32)) <<< ((24 : Int32) &&& 31)))) (12 : Int32)))])
  have M4 := Fr.app M3 N4
  exact s_retI X4 hx hby hlk hret d5_125 (by decide) (by decide) ⟨rfl, e4, M4⟩
theorem own_word (b0 b1 b2 b3 x : Int32) (h0 : b0.toInt % 256 = x.toInt % 256) (h1 : b1.toInt % 256 = x.toInt / 256 % 256) (h2 : b2.toInt % 256 = x.toInt / 65536 % 256) (h3 : b3.toInt % 256 = x.toInt / 16777216 % 256) :
    ((((b0 &&& (255 : Int32)) ||| ((b1 &&& (255 : Int32)) <<< ((8 : Int32) &&& 31))) ||| ((b2 &&& (255 : Int32)) <<< ((16 : Int32) &&& 31))) ||| ((b3 &&& (255 : Int32)) <<< ((24 : Int32) &&& 31))) = x := by
  have m0 := c_mask b0 255 8 (by decide) (by decide)
  have m1 := c_mask b1 255 8 (by decide) (by decide)
  have m2 := c_mask b2 255 8 (by decide) (by decide)
  have m3 := c_mask b3 255 8 (by decide) (by decide)
  have s1 := c_ishl (b1 &&& 255) 8 8 (by decide)
  have s2 := c_ishl (b2 &&& 255) 16 16 (by decide)
  have s3 := c_ishl (b3 &&& 255) 24 24 (by decide)
  have r1 := rng32 ((b1 &&& (255 : Int32)) <<< ((8 : Int32) &&& 31))
  have r2 := rng32 ((b2 &&& (255 : Int32)) <<< ((16 : Int32) &&& 31))
  have r3 := rng32 ((b3 &&& (255 : Int32)) <<< ((24 : Int32) &&& 31))
  generalize e0 : (b0 &&& (255 : Int32)) = y0 at *
  generalize e1 : ((b1 &&& (255 : Int32)) <<< ((8 : Int32) &&& 31)) = y1 at *
  generalize e2 : ((b2 &&& (255 : Int32)) <<< ((16 : Int32) &&& 31)) = y2 at *
  generalize e3 : ((b3 &&& (255 : Int32)) <<< ((24 : Int32) &&& 31)) = y3 at *
  have o1 := c_or' y0 y1 8 (by decide) 256 (by decide) (by omega) (by omega) (by omega)
  have q1 := rng32 (y0 ||| y1)
  have o2 := c_or' (y0 ||| y1) y2 16 (by decide) 65536 (by decide) (by omega) (by omega) (by omega)
  have q2 := rng32 ((y0 ||| y1) ||| y2)
  have o3 := c_or' ((y0 ||| y1) ||| y2) y3 24 (by decide) 16777216 (by decide) (by omega) (by omega) (by omega)
  have q3 := rng32 (((y0 ||| y1) ||| y2) ||| y3)
  have qx := rng32 x
  apply Int32.toInt_inj.mp
  omega
theorem own_by (v : Int32) : (nar .byte v.toInt8.toInt32).toInt % 256 = v.toInt % 256 := by
  have h2 := c_i2b v
  have h3 := c_i2b v.toInt8.toInt32
  show (v.toInt8.toInt32).toInt8.toInt32.toInt % 256 = _
  omega
theorem own_sh (v q : Int32) (k : Nat) (hk : q.toBitVec.toNat % 32 = k) (h0 : 0 < k) : (XT.ushr v q).toInt = (v.toInt % 4294967296) / (2 ^ k : Nat) := c_iushr v q k hk h0
theorem own_wp (x : Int32) : (((((nar .byte (x).toInt8.toInt32) &&& (255 : Int32)) ||| (((nar .byte (XT.ushr x (8 : Int32)).toInt8.toInt32) &&& (255 : Int32)) <<< ((8 : Int32) &&& 31))) ||| (((nar .byte (XT.ushr x (16 : Int32)).toInt8.toInt32) &&& (255 : Int32)) <<< ((16 : Int32) &&& 31))) ||| (((nar .byte (XT.ushr x (24 : Int32)).toInt8.toInt32) &&& (255 : Int32)) <<< ((24 : Int32) &&& 31))) = x := by
  have r := rng32 x
  apply own_word
  · rw [own_by]
  · rw [own_by, own_sh _ _ 8 (by decide) (by decide)]; omega
  · rw [own_by, own_sh _ _ 16 (by decide) (by decide)]; omega
  · rw [own_by, own_sh _ _ 24 (by decide) (by decide)]; omega
theorem own_z (y : Int32) : (0 : Int32) ||| y = y := by simp
theorem own_t1 (x : Int32) : ((0 : Int32) ||| ((nar .byte (x).toInt8.toInt32) &&& (255 : Int32))) = (x &&& (255 : Int32)) := by
  have m0 := c_mask (nar .byte (x).toInt8.toInt32) 255 8 (by decide) (by decide)
  have b0 := own_by x
  have mx := c_mask x 255 8 (by decide) (by decide)
  rw [own_z]
  apply Int32.toInt_inj.mp
  omega
theorem own_t2 (x : Int32) : ((((0 : Int32) ||| ((nar .byte (XT.ushr x (8 : Int32)).toInt8.toInt32) &&& (255 : Int32))) <<< ((8 : Int32) &&& 31)) ||| ((nar .byte (x).toInt8.toInt32) &&& (255 : Int32))) = (x &&& (65535 : Int32)) := by
  have m0 := c_mask (nar .byte (x).toInt8.toInt32) 255 8 (by decide) (by decide)
  have m1 := c_mask (nar .byte (XT.ushr x (8 : Int32)).toInt8.toInt32) 255 8 (by decide) (by decide)
  have b0 := own_by x
  have b1 := own_by (XT.ushr x (8 : Int32))
  rw [own_sh _ _ 8 (by decide) (by decide)] at b1
  have mx := c_mask x 65535 16 (by decide) (by decide)
  have r := rng32 x
  rw [own_z]
  have s1 := c_ishl ((nar .byte (XT.ushr x (8 : Int32)).toInt8.toInt32) &&& 255) 8 8 (by decide)
  have r1 := rng32 (((nar .byte (XT.ushr x (8 : Int32)).toInt8.toInt32) &&& (255 : Int32)) <<< ((8 : Int32) &&& 31))
  generalize ((nar .byte (x).toInt8.toInt32) &&& (255 : Int32)) = y0 at *
  generalize (((nar .byte (XT.ushr x (8 : Int32)).toInt8.toInt32) &&& (255 : Int32)) <<< ((8 : Int32) &&& 31)) = y1 at *
  have o1 := c_or y1 y0 8 (by decide) 256 (by decide) (by omega) (by omega) (by omega)
  have q1 := rng32 (y1 ||| y0)
  apply Int32.toInt_inj.mp
  omega
theorem own_t3 (x : Int32) : ((((((0 : Int32) ||| ((nar .byte (XT.ushr x (16 : Int32)).toInt8.toInt32) &&& (255 : Int32))) <<< ((8 : Int32) &&& 31)) ||| ((nar .byte (XT.ushr x (8 : Int32)).toInt8.toInt32) &&& (255 : Int32))) <<< ((8 : Int32) &&& 31)) ||| ((nar .byte (x).toInt8.toInt32) &&& (255 : Int32))) = (x &&& (16777215 : Int32)) := by
  have m0 := c_mask (nar .byte (x).toInt8.toInt32) 255 8 (by decide) (by decide)
  have m1 := c_mask (nar .byte (XT.ushr x (8 : Int32)).toInt8.toInt32) 255 8 (by decide) (by decide)
  have m2 := c_mask (nar .byte (XT.ushr x (16 : Int32)).toInt8.toInt32) 255 8 (by decide) (by decide)
  have b0 := own_by x
  have b1 := own_by (XT.ushr x (8 : Int32))
  have b2 := own_by (XT.ushr x (16 : Int32))
  rw [own_sh _ _ 8 (by decide) (by decide)] at b1
  rw [own_sh _ _ 16 (by decide) (by decide)] at b2
  have mx := c_mask x 16777215 24 (by decide) (by decide)
  have r := rng32 x
  rw [own_z]
  have s1 := c_ishl ((nar .byte (XT.ushr x (16 : Int32)).toInt8.toInt32) &&& 255) 8 8 (by decide)
  have r1 := rng32 (((nar .byte (XT.ushr x (16 : Int32)).toInt8.toInt32) &&& (255 : Int32)) <<< ((8 : Int32) &&& 31))
  generalize ((nar .byte (x).toInt8.toInt32) &&& (255 : Int32)) = y0 at *
  generalize ((nar .byte (XT.ushr x (8 : Int32)).toInt8.toInt32) &&& (255 : Int32)) = y1 at *
  generalize (((nar .byte (XT.ushr x (16 : Int32)).toInt8.toInt32) &&& (255 : Int32)) <<< ((8 : Int32) &&& 31)) = y2 at *
  have o1 := c_or y2 y1 8 (by decide) 256 (by decide) (by omega) (by omega) (by omega)
  have q1 := rng32 (y2 ||| y1)
  generalize (y2 ||| y1) = y3 at *
  have s2 := c_ishl y3 8 8 (by decide)
  have r2 := rng32 (y3 <<< ((8 : Int32) &&& 31))
  generalize (y3 <<< ((8 : Int32) &&& 31)) = y4 at *
  have o2 := c_or y4 y0 8 (by decide) 256 (by decide) (by omega) (by omega) (by omega)
  have q2 := rng32 (y4 ||| y0)
  apply Int32.toInt_inj.mp
  omega
theorem own_13 (x : Int32) : ((x &&& (2147483647 : Int32)) % (13 : Int32)) = (0 : Int32) ∨ ((x &&& (2147483647 : Int32)) % (13 : Int32)) = (1 : Int32) ∨ ((x &&& (2147483647 : Int32)) % (13 : Int32)) = (2 : Int32) ∨ ((x &&& (2147483647 : Int32)) % (13 : Int32)) = (3 : Int32) ∨ ((x &&& (2147483647 : Int32)) % (13 : Int32)) = (4 : Int32) ∨ ((x &&& (2147483647 : Int32)) % (13 : Int32)) = (5 : Int32) ∨ ((x &&& (2147483647 : Int32)) % (13 : Int32)) = (6 : Int32) ∨ ((x &&& (2147483647 : Int32)) % (13 : Int32)) = (7 : Int32) ∨ ((x &&& (2147483647 : Int32)) % (13 : Int32)) = (8 : Int32) ∨ ((x &&& (2147483647 : Int32)) % (13 : Int32)) = (9 : Int32) ∨ ((x &&& (2147483647 : Int32)) % (13 : Int32)) = (10 : Int32) ∨ ((x &&& (2147483647 : Int32)) % (13 : Int32)) = (11 : Int32) ∨ ((x &&& (2147483647 : Int32)) % (13 : Int32)) = (12 : Int32) := by
  have h1 := c_mask x 2147483647 31 (by decide) (by decide)
  have h2 := (c_irem (x &&& 2147483647) 13 13 (by decide)).1 (by omega)
  have k : ∀ z : Int32, ((x &&& (2147483647 : Int32)) % (13 : Int32)).toInt = z.toInt → ((x &&& (2147483647 : Int32)) % (13 : Int32)) = z := fun z q => Int32.toInt_inj.mp q
  have hh : ((x &&& (2147483647 : Int32)) % (13 : Int32)).toInt = 0 ∨ ((x &&& (2147483647 : Int32)) % (13 : Int32)).toInt = 1 ∨ ((x &&& (2147483647 : Int32)) % (13 : Int32)).toInt = 2 ∨ ((x &&& (2147483647 : Int32)) % (13 : Int32)).toInt = 3 ∨ ((x &&& (2147483647 : Int32)) % (13 : Int32)).toInt = 4 ∨ ((x &&& (2147483647 : Int32)) % (13 : Int32)).toInt = 5 ∨ ((x &&& (2147483647 : Int32)) % (13 : Int32)).toInt = 6 ∨ ((x &&& (2147483647 : Int32)) % (13 : Int32)).toInt = 7 ∨ ((x &&& (2147483647 : Int32)) % (13 : Int32)).toInt = 8 ∨ ((x &&& (2147483647 : Int32)) % (13 : Int32)).toInt = 9 ∨ ((x &&& (2147483647 : Int32)) % (13 : Int32)).toInt = 10 ∨ ((x &&& (2147483647 : Int32)) % (13 : Int32)).toInt = 11 ∨ ((x &&& (2147483647 : Int32)) % (13 : Int32)).toInt = 12 := by omega
  rcases hh with q | q | q | q | q | q | q | q | q | q | q | q | q
  · exact Or.inl (k 0 (by rw [q]; decide))
  · exact Or.inr (Or.inl (k 1 (by rw [q]; decide)))
  · exact Or.inr (Or.inr (Or.inl (k 2 (by rw [q]; decide))))
  · exact Or.inr (Or.inr (Or.inr (Or.inl (k 3 (by rw [q]; decide)))))
  · exact Or.inr (Or.inr (Or.inr (Or.inr (Or.inl (k 4 (by rw [q]; decide))))))
  · exact Or.inr (Or.inr (Or.inr (Or.inr (Or.inr (Or.inl (k 5 (by rw [q]; decide)))))))
  · exact Or.inr (Or.inr (Or.inr (Or.inr (Or.inr (Or.inr (Or.inl (k 6 (by rw [q]; decide))))))))
  · exact Or.inr (Or.inr (Or.inr (Or.inr (Or.inr (Or.inr (Or.inr (Or.inl (k 7 (by rw [q]; decide)))))))))
  · exact Or.inr (Or.inr (Or.inr (Or.inr (Or.inr (Or.inr (Or.inr (Or.inr (Or.inl (k 8 (by rw [q]; decide))))))))))
  · exact Or.inr (Or.inr (Or.inr (Or.inr (Or.inr (Or.inr (Or.inr (Or.inr (Or.inr (Or.inl (k 9 (by rw [q]; decide)))))))))))
  · exact Or.inr (Or.inr (Or.inr (Or.inr (Or.inr (Or.inr (Or.inr (Or.inr (Or.inr (Or.inr (Or.inl (k 10 (by rw [q]; decide))))))))))))
  · exact Or.inr (Or.inr (Or.inr (Or.inr (Or.inr (Or.inr (Or.inr (Or.inr (Or.inr (Or.inr (Or.inr (Or.inl (k 11 (by rw [q]; decide)))))))))))))
  · exact Or.inr (Or.inr (Or.inr (Or.inr (Or.inr (Or.inr (Or.inr (Or.inr (Or.inr (Or.inr (Or.inr (Or.inr (k 12 (by rw [q]; decide)))))))))))))
set_option maxRecDepth 65536 in
set_option maxHeartbeats 40000000 in
theorem rm0_0 (l : Launch) (Z : State) (a0 : Array Value) (hw : ∀ d ∈ tables_1, d.before a0 Z = true) (p0 p1 p2 p3 : Int32) (qn : ((p3 &&& (2147483647 : Int32)) % (13 : Int32)) = (0 : Int32)) (h0 : Heap) (n0 : Nat) (Z0 : n0 ≤ h0.size) :
    OCon l Z x code maxLocals ret tables_1 room_1 #[(.int p0), (.int p1), (.int p2), (.int p3)] h0 (fun v h L => v = some (.int 1) ∧ Fr n0 L) := by
  refine con (plainFor_of_name pn0) ?_
  intro p e s m below meth c s₁ hx hby hml hZ hown hnm hret hlk X0 e0
  refine entry (ef0 m p0 p1 p2 p3) ?_
  have M0 := Fr.nil n0
  refine s_iloadN X0 hx hby (n := 1) (x := p3) at_0 rfl rfl ?_
  refine s_ldcI X0 hx hby hZ (n := 3) hown (hw _ (List.mem_of_getElem? (i := 0) rfl)) at_1 rfl ?_
  refine s_iand X0 hx hby (n := 4) at_3 rfl ?_
  refine s_bipush X0 hx hby (n := 6) (v := (13 : Int32)) at_4 rfl rfl ?_
  refine s_irem X0 hx hby (n := 7) at_6 (by decide) rfl ?_
  refine s_fold (z := (0 : Int32)) qn ?_
  refine s_istore X0 hx hby (n := 9) (L' := #[.val (.int p0), .val (.int p1), .val (.int p2), .val (.int p3), .val (.int (0 : Int32)), .unset, .unset, .unset, .unset, .unset, .unset]) at_7 rfl rfl ?_
  refine s_iload X0 hx hby (n := 11) (x := (0 : Int32)) at_9 rfl rfl ?_
  refine s_newP X0 hx hby hZ (n := 13) (hw _ (List.mem_of_getElem? (i := 1) rfl)) (ty := .byte) rfl e0 (by decide) 0 (by decide) (by decide) (by decide) (by decide) at_11 rfl ?_
  intro T1 h1 cA o ho X1 e1 E1 A1
  have S1 : (newA cA .byte (0 : Int32)).slots.size = (0 : Int32).toNatClampNeg := sz_new _ _ _
  have no : n0 ≤ o := by rw [ho]; exact Z0
  refine s_astore X1 hx hby (n := 15) (L' := #[.val (.int p0), .val (.int p1), .val (.int p2), .val (.int p3), .val (.int (0 : Int32)), .val (.ref o), .unset, .unset, .unset, .unset, .unset]) at_13 rfl rfl rfl ?_
  refine s_aload X1 hx hby (n := 17) (x := (.ref o)) at_15 rfl rfl rfl ?_
  refine s_iconst X1 hx hby (n := 18) (v := (0 : Int32)) at_17 rfl rfl ?_
  refine s_iloadN X1 hx hby (n := 19) (x := p0) at_18 rfl rfl ?_
  refine s_callS X1 hx hby hml hZ (n := 22) hown (hw _ (List.mem_of_getElem? (i := 2) rfl)) (hw _ (List.mem_of_getElem? (i := 3) rfl)) (hw _ (List.mem_of_getElem? (i := 4) rfl)) (hw _ (List.mem_of_getElem? (i := 5) rfl)) (by decide) (rmOut l Z a0 hw o (newA cA .byte (0 : Int32)) (0 : Int32) (0 : Int32) p0 h1 n0 A1 S1 (by decide) (by decide)) e1 (by decide) 0 (by decide) (by decide) (by decide) pd_2 [(.ref o), (.int (0 : Int32)), (.int p0)] [] rfl rfl rfl (Nat.le_of_eq rfl) rfl at_19 rfl ?_
  intro T2 L2 v2 X2 q2c
  obtain ⟨rfl, e2, N2⟩ := q2c
  show OEnds p e below s _ _ _ T2 (mkF m 22 #[.val (.int p0), .val (.int p1), .val (.int p2), .val (.int p3), .val (.int (0 : Int32)), .val (.ref o), .unset, .unset, .unset, .unset, .unset] [])
  have M2 := Fr.app M0 N2
  refine s_aload X2 hx hby (n := 24) (x := (.ref o)) at_22 rfl rfl rfl ?_
  refine s_iconst X2 hx hby (n := 25) (v := (1 : Int32)) at_24 rfl rfl ?_
  refine s_iloadN X2 hx hby (n := 26) (x := p0) at_25 rfl rfl ?_
  refine s_bipush X2 hx hby (n := 28) (v := (8 : Int32)) at_26 rfl rfl ?_
  refine s_iushr X2 hx hby (n := 29) at_28 rfl ?_
  refine s_callS X2 hx hby hml hZ (n := 32) hown (hw _ (List.mem_of_getElem? (i := 2) rfl)) (hw _ (List.mem_of_getElem? (i := 3) rfl)) (hw _ (List.mem_of_getElem? (i := 4) rfl)) (hw _ (List.mem_of_getElem? (i := 5) rfl)) (by decide) (rmOut l Z a0 hw o (newA cA .byte (0 : Int32)) (0 : Int32) (1 : Int32) (XT.ushr p0 (8 : Int32)) h1 n0 A1 S1 (by decide) (by decide)) e2 (by decide) 0 (by decide) (by decide) (by decide) pd_2 [(.ref o), (.int (1 : Int32)), (.int (XT.ushr p0 (8 : Int32)))] [] rfl rfl rfl (Nat.le_of_eq rfl) rfl at_29 rfl ?_
  intro T3 L3 v3 X3 q3c
  obtain ⟨rfl, e3, N3⟩ := q3c
  show OEnds p e below s _ _ _ T3 (mkF m 32 #[.val (.int p0), .val (.int p1), .val (.int p2), .val (.int p3), .val (.int (0 : Int32)), .val (.ref o), .unset, .unset, .unset, .unset, .unset] [])
  have M3 := Fr.app M2 N3
  refine s_aload X3 hx hby (n := 34) (x := (.ref o)) at_32 rfl rfl rfl ?_
  refine s_iconst X3 hx hby (n := 35) (v := (2 : Int32)) at_34 rfl rfl ?_
  refine s_iloadN X3 hx hby (n := 36) (x := p0) at_35 rfl rfl ?_
  refine s_bipush X3 hx hby (n := 38) (v := (16 : Int32)) at_36 rfl rfl ?_
  refine s_iushr X3 hx hby (n := 39) at_38 rfl ?_
  refine s_callS X3 hx hby hml hZ (n := 42) hown (hw _ (List.mem_of_getElem? (i := 2) rfl)) (hw _ (List.mem_of_getElem? (i := 3) rfl)) (hw _ (List.mem_of_getElem? (i := 4) rfl)) (hw _ (List.mem_of_getElem? (i := 5) rfl)) (by decide) (rmOut l Z a0 hw o (newA cA .byte (0 : Int32)) (0 : Int32) (2 : Int32) (XT.ushr p0 (16 : Int32)) h1 n0 A1 S1 (by decide) (by decide)) e3 (by decide) 0 (by decide) (by decide) (by decide) pd_2 [(.ref o), (.int (2 : Int32)), (.int (XT.ushr p0 (16 : Int32)))] [] rfl rfl rfl (Nat.le_of_eq rfl) rfl at_39 rfl ?_
  intro T4 L4 v4 X4 q4c
  obtain ⟨rfl, e4, N4⟩ := q4c
  show OEnds p e below s _ _ _ T4 (mkF m 42 #[.val (.int p0), .val (.int p1), .val (.int p2), .val (.int p3), .val (.int (0 : Int32)), .val (.ref o), .unset, .unset, .unset, .unset, .unset] [])
  have M4 := Fr.app M3 N4
  refine s_aload X4 hx hby (n := 44) (x := (.ref o)) at_42 rfl rfl rfl ?_
  refine s_iconst X4 hx hby (n := 45) (v := (3 : Int32)) at_44 rfl rfl ?_
  refine s_iloadN X4 hx hby (n := 46) (x := p0) at_45 rfl rfl ?_
  refine s_bipush X4 hx hby (n := 48) (v := (24 : Int32)) at_46 rfl rfl ?_
  refine s_iushr X4 hx hby (n := 49) at_48 rfl ?_
  refine s_callS X4 hx hby hml hZ (n := 52) hown (hw _ (List.mem_of_getElem? (i := 2) rfl)) (hw _ (List.mem_of_getElem? (i := 3) rfl)) (hw _ (List.mem_of_getElem? (i := 4) rfl)) (hw _ (List.mem_of_getElem? (i := 5) rfl)) (by decide) (rmOut l Z a0 hw o (newA cA .byte (0 : Int32)) (0 : Int32) (3 : Int32) (XT.ushr p0 (24 : Int32)) h1 n0 A1 S1 (by decide) (by decide)) e4 (by decide) 0 (by decide) (by decide) (by decide) pd_2 [(.ref o), (.int (3 : Int32)), (.int (XT.ushr p0 (24 : Int32)))] [] rfl rfl rfl (Nat.le_of_eq rfl) rfl at_49 rfl ?_
  intro T5 L5 v5 X5 q5c
  obtain ⟨rfl, e5, N5⟩ := q5c
  show OEnds p e below s _ _ _ T5 (mkF m 52 #[.val (.int p0), .val (.int p1), .val (.int p2), .val (.int p3), .val (.int (0 : Int32)), .val (.ref o), .unset, .unset, .unset, .unset, .unset] [])
  have M5 := Fr.app M4 N5
  refine s_aload X5 hx hby (n := 54) (x := (.ref o)) at_52 rfl rfl rfl ?_
  refine s_iconst X5 hx hby (n := 55) (v := (4 : Int32)) at_54 rfl rfl ?_
  refine s_iloadN X5 hx hby (n := 56) (x := p1) at_55 rfl rfl ?_
  refine s_callS X5 hx hby hml hZ (n := 59) hown (hw _ (List.mem_of_getElem? (i := 2) rfl)) (hw _ (List.mem_of_getElem? (i := 3) rfl)) (hw _ (List.mem_of_getElem? (i := 4) rfl)) (hw _ (List.mem_of_getElem? (i := 5) rfl)) (by decide) (rmOut l Z a0 hw o (newA cA .byte (0 : Int32)) (0 : Int32) (4 : Int32) p1 h1 n0 A1 S1 (by decide) (by decide)) e5 (by decide) 0 (by decide) (by decide) (by decide) pd_2 [(.ref o), (.int (4 : Int32)), (.int p1)] [] rfl rfl rfl (Nat.le_of_eq rfl) rfl at_56 rfl ?_
  intro T6 L6 v6 X6 q6c
  obtain ⟨rfl, e6, N6⟩ := q6c
  show OEnds p e below s _ _ _ T6 (mkF m 59 #[.val (.int p0), .val (.int p1), .val (.int p2), .val (.int p3), .val (.int (0 : Int32)), .val (.ref o), .unset, .unset, .unset, .unset, .unset] [])
  have M6 := Fr.app M5 N6
  refine s_aload X6 hx hby (n := 61) (x := (.ref o)) at_59 rfl rfl rfl ?_
  refine s_iconst X6 hx hby (n := 62) (v := (5 : Int32)) at_61 rfl rfl ?_
  refine s_iloadN X6 hx hby (n := 63) (x := p1) at_62 rfl rfl ?_
  refine s_bipush X6 hx hby (n := 65) (v := (8 : Int32)) at_63 rfl rfl ?_
  refine s_iushr X6 hx hby (n := 66) at_65 rfl ?_
  refine s_callS X6 hx hby hml hZ (n := 69) hown (hw _ (List.mem_of_getElem? (i := 2) rfl)) (hw _ (List.mem_of_getElem? (i := 3) rfl)) (hw _ (List.mem_of_getElem? (i := 4) rfl)) (hw _ (List.mem_of_getElem? (i := 5) rfl)) (by decide) (rmOut l Z a0 hw o (newA cA .byte (0 : Int32)) (0 : Int32) (5 : Int32) (XT.ushr p1 (8 : Int32)) h1 n0 A1 S1 (by decide) (by decide)) e6 (by decide) 0 (by decide) (by decide) (by decide) pd_2 [(.ref o), (.int (5 : Int32)), (.int (XT.ushr p1 (8 : Int32)))] [] rfl rfl rfl (Nat.le_of_eq rfl) rfl at_66 rfl ?_
  intro T7 L7 v7 X7 q7c
  obtain ⟨rfl, e7, N7⟩ := q7c
  show OEnds p e below s _ _ _ T7 (mkF m 69 #[.val (.int p0), .val (.int p1), .val (.int p2), .val (.int p3), .val (.int (0 : Int32)), .val (.ref o), .unset, .unset, .unset, .unset, .unset] [])
  have M7 := Fr.app M6 N7
  refine s_aload X7 hx hby (n := 71) (x := (.ref o)) at_69 rfl rfl rfl ?_
  refine s_bipush X7 hx hby (n := 73) (v := (6 : Int32)) at_71 rfl rfl ?_
  refine s_iloadN X7 hx hby (n := 74) (x := p1) at_73 rfl rfl ?_
  refine s_bipush X7 hx hby (n := 76) (v := (16 : Int32)) at_74 rfl rfl ?_
  refine s_iushr X7 hx hby (n := 77) at_76 rfl ?_
  refine s_callS X7 hx hby hml hZ (n := 80) hown (hw _ (List.mem_of_getElem? (i := 2) rfl)) (hw _ (List.mem_of_getElem? (i := 3) rfl)) (hw _ (List.mem_of_getElem? (i := 4) rfl)) (hw _ (List.mem_of_getElem? (i := 5) rfl)) (by decide) (rmOut l Z a0 hw o (newA cA .byte (0 : Int32)) (0 : Int32) (6 : Int32) (XT.ushr p1 (16 : Int32)) h1 n0 A1 S1 (by decide) (by decide)) e7 (by decide) 0 (by decide) (by decide) (by decide) pd_2 [(.ref o), (.int (6 : Int32)), (.int (XT.ushr p1 (16 : Int32)))] [] rfl rfl rfl (Nat.le_of_eq rfl) rfl at_77 rfl ?_
  intro T8 L8 v8 X8 q8c
  obtain ⟨rfl, e8, N8⟩ := q8c
  show OEnds p e below s _ _ _ T8 (mkF m 80 #[.val (.int p0), .val (.int p1), .val (.int p2), .val (.int p3), .val (.int (0 : Int32)), .val (.ref o), .unset, .unset, .unset, .unset, .unset] [])
  have M8 := Fr.app M7 N8
  refine s_aload X8 hx hby (n := 82) (x := (.ref o)) at_80 rfl rfl rfl ?_
  refine s_bipush X8 hx hby (n := 84) (v := (7 : Int32)) at_82 rfl rfl ?_
  refine s_iloadN X8 hx hby (n := 85) (x := p1) at_84 rfl rfl ?_
  refine s_bipush X8 hx hby (n := 87) (v := (24 : Int32)) at_85 rfl rfl ?_
  refine s_iushr X8 hx hby (n := 88) at_87 rfl ?_
  refine s_callS X8 hx hby hml hZ (n := 91) hown (hw _ (List.mem_of_getElem? (i := 2) rfl)) (hw _ (List.mem_of_getElem? (i := 3) rfl)) (hw _ (List.mem_of_getElem? (i := 4) rfl)) (hw _ (List.mem_of_getElem? (i := 5) rfl)) (by decide) (rmOut l Z a0 hw o (newA cA .byte (0 : Int32)) (0 : Int32) (7 : Int32) (XT.ushr p1 (24 : Int32)) h1 n0 A1 S1 (by decide) (by decide)) e8 (by decide) 0 (by decide) (by decide) (by decide) pd_2 [(.ref o), (.int (7 : Int32)), (.int (XT.ushr p1 (24 : Int32)))] [] rfl rfl rfl (Nat.le_of_eq rfl) rfl at_88 rfl ?_
  intro T9 L9 v9 X9 q9c
  obtain ⟨rfl, e9, N9⟩ := q9c
  show OEnds p e below s _ _ _ T9 (mkF m 91 #[.val (.int p0), .val (.int p1), .val (.int p2), .val (.int p3), .val (.int (0 : Int32)), .val (.ref o), .unset, .unset, .unset, .unset, .unset] [])
  have M9 := Fr.app M8 N9
  refine s_aload X9 hx hby (n := 93) (x := (.ref o)) at_91 rfl rfl rfl ?_
  refine s_bipush X9 hx hby (n := 95) (v := (8 : Int32)) at_93 rfl rfl ?_
  refine s_iloadN X9 hx hby (n := 96) (x := p2) at_95 rfl rfl ?_
  refine s_callS X9 hx hby hml hZ (n := 99) hown (hw _ (List.mem_of_getElem? (i := 2) rfl)) (hw _ (List.mem_of_getElem? (i := 3) rfl)) (hw _ (List.mem_of_getElem? (i := 4) rfl)) (hw _ (List.mem_of_getElem? (i := 5) rfl)) (by decide) (rmOut l Z a0 hw o (newA cA .byte (0 : Int32)) (0 : Int32) (8 : Int32) p2 h1 n0 A1 S1 (by decide) (by decide)) e9 (by decide) 0 (by decide) (by decide) (by decide) pd_2 [(.ref o), (.int (8 : Int32)), (.int p2)] [] rfl rfl rfl (Nat.le_of_eq rfl) rfl at_96 rfl ?_
  intro T10 L10 v10 X10 q10c
  obtain ⟨rfl, e10, N10⟩ := q10c
  show OEnds p e below s _ _ _ T10 (mkF m 99 #[.val (.int p0), .val (.int p1), .val (.int p2), .val (.int p3), .val (.int (0 : Int32)), .val (.ref o), .unset, .unset, .unset, .unset, .unset] [])
  have M10 := Fr.app M9 N10
  refine s_aload X10 hx hby (n := 101) (x := (.ref o)) at_99 rfl rfl rfl ?_
  refine s_bipush X10 hx hby (n := 103) (v := (9 : Int32)) at_101 rfl rfl ?_
  refine s_iloadN X10 hx hby (n := 104) (x := p2) at_103 rfl rfl ?_
  refine s_bipush X10 hx hby (n := 106) (v := (8 : Int32)) at_104 rfl rfl ?_
  refine s_iushr X10 hx hby (n := 107) at_106 rfl ?_
  refine s_callS X10 hx hby hml hZ (n := 110) hown (hw _ (List.mem_of_getElem? (i := 2) rfl)) (hw _ (List.mem_of_getElem? (i := 3) rfl)) (hw _ (List.mem_of_getElem? (i := 4) rfl)) (hw _ (List.mem_of_getElem? (i := 5) rfl)) (by decide) (rmOut l Z a0 hw o (newA cA .byte (0 : Int32)) (0 : Int32) (9 : Int32) (XT.ushr p2 (8 : Int32)) h1 n0 A1 S1 (by decide) (by decide)) e10 (by decide) 0 (by decide) (by decide) (by decide) pd_2 [(.ref o), (.int (9 : Int32)), (.int (XT.ushr p2 (8 : Int32)))] [] rfl rfl rfl (Nat.le_of_eq rfl) rfl at_107 rfl ?_
  intro T11 L11 v11 X11 q11c
  obtain ⟨rfl, e11, N11⟩ := q11c
  show OEnds p e below s _ _ _ T11 (mkF m 110 #[.val (.int p0), .val (.int p1), .val (.int p2), .val (.int p3), .val (.int (0 : Int32)), .val (.ref o), .unset, .unset, .unset, .unset, .unset] [])
  have M11 := Fr.app M10 N11
  refine s_aload X11 hx hby (n := 112) (x := (.ref o)) at_110 rfl rfl rfl ?_
  refine s_bipush X11 hx hby (n := 114) (v := (10 : Int32)) at_112 rfl rfl ?_
  refine s_iloadN X11 hx hby (n := 115) (x := p2) at_114 rfl rfl ?_
  refine s_bipush X11 hx hby (n := 117) (v := (16 : Int32)) at_115 rfl rfl ?_
  refine s_iushr X11 hx hby (n := 118) at_117 rfl ?_
  refine s_callS X11 hx hby hml hZ (n := 121) hown (hw _ (List.mem_of_getElem? (i := 2) rfl)) (hw _ (List.mem_of_getElem? (i := 3) rfl)) (hw _ (List.mem_of_getElem? (i := 4) rfl)) (hw _ (List.mem_of_getElem? (i := 5) rfl)) (by decide) (rmOut l Z a0 hw o (newA cA .byte (0 : Int32)) (0 : Int32) (10 : Int32) (XT.ushr p2 (16 : Int32)) h1 n0 A1 S1 (by decide) (by decide)) e11 (by decide) 0 (by decide) (by decide) (by decide) pd_2 [(.ref o), (.int (10 : Int32)), (.int (XT.ushr p2 (16 : Int32)))] [] rfl rfl rfl (Nat.le_of_eq rfl) rfl at_118 rfl ?_
  intro T12 L12 v12 X12 q12c
  obtain ⟨rfl, e12, N12⟩ := q12c
  show OEnds p e below s _ _ _ T12 (mkF m 121 #[.val (.int p0), .val (.int p1), .val (.int p2), .val (.int p3), .val (.int (0 : Int32)), .val (.ref o), .unset, .unset, .unset, .unset, .unset] [])
  have M12 := Fr.app M11 N12
  refine s_aload X12 hx hby (n := 123) (x := (.ref o)) at_121 rfl rfl rfl ?_
  refine s_bipush X12 hx hby (n := 125) (v := (11 : Int32)) at_123 rfl rfl ?_
  refine s_iloadN X12 hx hby (n := 126) (x := p2) at_125 rfl rfl ?_
  refine s_bipush X12 hx hby (n := 128) (v := (24 : Int32)) at_126 rfl rfl ?_
  refine s_iushr X12 hx hby (n := 129) at_128 rfl ?_
  refine s_callS X12 hx hby hml hZ (n := 132) hown (hw _ (List.mem_of_getElem? (i := 2) rfl)) (hw _ (List.mem_of_getElem? (i := 3) rfl)) (hw _ (List.mem_of_getElem? (i := 4) rfl)) (hw _ (List.mem_of_getElem? (i := 5) rfl)) (by decide) (rmOut l Z a0 hw o (newA cA .byte (0 : Int32)) (0 : Int32) (11 : Int32) (XT.ushr p2 (24 : Int32)) h1 n0 A1 S1 (by decide) (by decide)) e12 (by decide) 0 (by decide) (by decide) (by decide) pd_2 [(.ref o), (.int (11 : Int32)), (.int (XT.ushr p2 (24 : Int32)))] [] rfl rfl rfl (Nat.le_of_eq rfl) rfl at_129 rfl ?_
  intro T13 L13 v13 X13 q13c
  obtain ⟨rfl, e13, N13⟩ := q13c
  show OEnds p e below s _ _ _ T13 (mkF m 132 #[.val (.int p0), .val (.int p1), .val (.int p2), .val (.int p3), .val (.int (0 : Int32)), .val (.ref o), .unset, .unset, .unset, .unset, .unset] [])
  have M13 := Fr.app M12 N13
  refine s_iload X13 hx hby (n := 134) (x := (0 : Int32)) at_132 rfl rfl ?_
  refine s_iconst X13 hx hby (n := 135) (v := (2 : Int32)) at_134 rfl rfl ?_
  refine s_iushr X13 hx hby (n := 136) at_135 rfl ?_
  refine s_fold (z := (0 : Int32)) (by decide) ?_
  refine s_istore X13 hx hby (n := 138) (L' := #[.val (.int p0), .val (.int p1), .val (.int p2), .val (.int p3), .val (.int (0 : Int32)), .val (.ref o), .val (.int (0 : Int32)), .unset, .unset, .unset, .unset]) at_136 rfl rfl ?_
  refine s_iload X13 hx hby (n := 140) (x := (0 : Int32)) at_138 rfl rfl ?_
  refine s_iconst X13 hx hby (n := 141) (v := (3 : Int32)) at_140 rfl rfl ?_
  refine s_iand X13 hx hby (n := 142) at_141 rfl ?_
  refine s_fold (z := (0 : Int32)) (by decide) ?_
  refine s_istore X13 hx hby (n := 144) (L' := #[.val (.int p0), .val (.int p1), .val (.int p2), .val (.int p3), .val (.int (0 : Int32)), .val (.ref o), .val (.int (0 : Int32)), .val (.int (0 : Int32)), .unset, .unset, .unset]) at_142 rfl rfl ?_
  refine s_iconst X13 hx hby (n := 145) (v := (0 : Int32)) at_144 rfl rfl ?_
  refine s_istore X13 hx hby (n := 147) (L' := #[.val (.int p0), .val (.int p1), .val (.int p2), .val (.int p3), .val (.int (0 : Int32)), .val (.ref o), .val (.int (0 : Int32)), .val (.int (0 : Int32)), .val (.int (0 : Int32)), .unset, .unset]) at_145 rfl rfl ?_
  refine s_iload X13 hx hby (n := 149) (x := (0 : Int32)) at_147 rfl rfl ?_
  refine s_iconst X13 hx hby (n := 150) (v := (1 : Int32)) at_149 rfl rfl ?_
  refine s_icmpY X13 hx hby (n := 161) at_150 (by decide) (by decide) (by decide) ?_
  refine s_iload X13 hx hby (n := 163) (x := (0 : Int32)) at_161 rfl rfl ?_
  refine s_iconst X13 hx hby (n := 164) (v := (2 : Int32)) at_163 rfl rfl ?_
  refine s_icmpY X13 hx hby (n := 175) at_164 (by decide) (by decide) (by decide) ?_
  refine s_iload X13 hx hby (n := 177) (x := (0 : Int32)) at_175 rfl rfl ?_
  refine s_iconst X13 hx hby (n := 178) (v := (3 : Int32)) at_177 rfl rfl ?_
  refine s_icmpY X13 hx hby (n := 189) at_178 (by decide) (by decide) (by decide) ?_
  refine s_iload X13 hx hby (n := 191) (x := (0 : Int32)) at_189 rfl rfl ?_
  refine s_ifY X13 hx hby (n := 240) at_191 (by decide) (by decide) (by decide) ?_
  refine s_iload X13 hx hby (n := 242) (x := (0 : Int32)) at_240 rfl rfl ?_
  refine s_iload X13 hx hby (n := 244) (x := (0 : Int32)) at_242 rfl rfl ?_
  refine s_callS X13 hx hby hml hZ (n := 247) hown (hw _ (List.mem_of_getElem? (i := 14) rfl)) (hw _ (List.mem_of_getElem? (i := 15) rfl)) (hw _ (List.mem_of_getElem? (i := 4) rfl)) (hw _ (List.mem_of_getElem? (i := 16) rfl)) (by decide) (rmFin' l Z a0 hw (0 : Int32) (0 : Int32) h1 n0) e13 (by decide) 0 (by decide) (by decide) (by decide) pd_0 [(.int (0 : Int32)), (.int (0 : Int32))] [] rfl rfl rfl (Nat.le_of_eq rfl) rfl at_244 rfl ?_
  intro T14 L14 v14 X14 q14c
  obtain ⟨rfl, e14, N14⟩ := q14c
  show OEnds p e below s _ _ _ T14 (mkF m 247 #[.val (.int p0), .val (.int p1), .val (.int p2), .val (.int p3), .val (.int (0 : Int32)), .val (.ref o), .val (.int (0 : Int32)), .val (.int (0 : Int32)), .val (.int (0 : Int32)), .unset, .unset] [(.int (own_fin (0 : Int32) (0 : Int32)))])
  have M14 := Fr.app M13 N14
  refine s_istore X14 hx hby (n := 249) (L' := #[.val (.int p0), .val (.int p1), .val (.int p2), .val (.int p3), .val (.int (0 : Int32)), .val (.ref o), .val (.int (0 : Int32)), .val (.int (0 : Int32)), .val (.int (0 : Int32)), .val (.int (own_fin (0 : Int32) (0 : Int32))), .unset]) at_247 rfl rfl ?_
  refine s_aload X14 hx hby (n := 251) (x := (.ref o)) at_249 rfl rfl rfl ?_
  refine s_callS X14 hx hby hml hZ (n := 254) hown (hw _ (List.mem_of_getElem? (i := 19) rfl)) (hw _ (List.mem_of_getElem? (i := 20) rfl)) (hw _ (List.mem_of_getElem? (i := 21) rfl)) (hw _ (List.mem_of_getElem? (i := 22) rfl)) (by decide) (rmH0 l Z a0 hw o (newA cA .byte (0 : Int32))  h1 n0 A1 S1 ) e14 (by decide) 0 (by decide) (by decide) (by decide) pd_3 [(.ref o)] [] rfl rfl rfl (Nat.le_of_eq rfl) rfl at_251 rfl ?_
  intro T15 L15 v15 X15 q15c
  obtain ⟨rfl, e15, N15⟩ := q15c
  show OEnds p e below s _ _ _ T15 (mkF m 254 #[.val (.int p0), .val (.int p1), .val (.int p2), .val (.int p3), .val (.int (0 : Int32)), .val (.ref o), .val (.int (0 : Int32)), .val (.int (0 : Int32)), .val (.int (0 : Int32)), .val (.int (own_fin (0 : Int32) (0 : Int32))), .unset] [(.int (own_fin (0 : Int32) (0 : Int32)))])
  have M15 := Fr.app M14 N15
  refine s_iload X15 hx hby (n := 256) (x := (own_fin (0 : Int32) (0 : Int32))) at_254 rfl rfl ?_
  refine s_icmpN X15 hx hby (n := 259) at_256 (XT.ii_ne_f rfl) rfl ?_
  refine s_iconst X15 hx hby (n := 260) (v := (1 : Int32)) at_259 rfl rfl ?_
  refine s_goto X15 hx hby (n := 264) at_260 (by decide) (by decide) ?_
  exact s_retN X15 hx hby hlk hret (t := .boolean) (by simp) (z' := (1 : Int32)) (by decide) at_264 (by decide) (by decide) ⟨rfl, M15⟩
set_option maxRecDepth 65536 in
set_option maxHeartbeats 40000000 in
theorem rm0_1 (l : Launch) (Z : State) (a0 : Array Value) (hw : ∀ d ∈ tables_1, d.before a0 Z = true) (p0 p1 p2 p3 : Int32) (qn : ((p3 &&& (2147483647 : Int32)) % (13 : Int32)) = (1 : Int32)) (h0 : Heap) (n0 : Nat) (Z0 : n0 ≤ h0.size) :
    OCon l Z x code maxLocals ret tables_1 room_1 #[(.int p0), (.int p1), (.int p2), (.int p3)] h0 (fun v h L => v = some (.int 1) ∧ Fr n0 L) := by
  refine con (plainFor_of_name pn0) ?_
  intro p e s m below meth c s₁ hx hby hml hZ hown hnm hret hlk X0 e0
  refine entry (ef0 m p0 p1 p2 p3) ?_
  have M0 := Fr.nil n0
  refine s_iloadN X0 hx hby (n := 1) (x := p3) at_0 rfl rfl ?_
  refine s_ldcI X0 hx hby hZ (n := 3) hown (hw _ (List.mem_of_getElem? (i := 0) rfl)) at_1 rfl ?_
  refine s_iand X0 hx hby (n := 4) at_3 rfl ?_
  refine s_bipush X0 hx hby (n := 6) (v := (13 : Int32)) at_4 rfl rfl ?_
  refine s_irem X0 hx hby (n := 7) at_6 (by decide) rfl ?_
  refine s_fold (z := (1 : Int32)) qn ?_
  refine s_istore X0 hx hby (n := 9) (L' := #[.val (.int p0), .val (.int p1), .val (.int p2), .val (.int p3), .val (.int (1 : Int32)), .unset, .unset, .unset, .unset, .unset, .unset]) at_7 rfl rfl ?_
  refine s_iload X0 hx hby (n := 11) (x := (1 : Int32)) at_9 rfl rfl ?_
  refine s_newP X0 hx hby hZ (n := 13) (hw _ (List.mem_of_getElem? (i := 1) rfl)) (ty := .byte) rfl e0 (by decide) 1 (by decide) (by decide) (by decide) (by decide) at_11 rfl ?_
  intro T1 h1 cA o ho X1 e1 E1 A1
  have S1 : (newA cA .byte (1 : Int32)).slots.size = (1 : Int32).toNatClampNeg := sz_new _ _ _
  have no : n0 ≤ o := by rw [ho]; exact Z0
  refine s_astore X1 hx hby (n := 15) (L' := #[.val (.int p0), .val (.int p1), .val (.int p2), .val (.int p3), .val (.int (1 : Int32)), .val (.ref o), .unset, .unset, .unset, .unset, .unset]) at_13 rfl rfl rfl ?_
  refine s_aload X1 hx hby (n := 17) (x := (.ref o)) at_15 rfl rfl rfl ?_
  refine s_iconst X1 hx hby (n := 18) (v := (0 : Int32)) at_17 rfl rfl ?_
  refine s_iloadN X1 hx hby (n := 19) (x := p0) at_18 rfl rfl ?_
  refine s_callS X1 hx hby hml hZ (n := 22) hown (hw _ (List.mem_of_getElem? (i := 2) rfl)) (hw _ (List.mem_of_getElem? (i := 3) rfl)) (hw _ (List.mem_of_getElem? (i := 4) rfl)) (hw _ (List.mem_of_getElem? (i := 5) rfl)) (by decide) (rmIn l Z a0 hw o (newA cA .byte (1 : Int32)) (1 : Int32) (0 : Int32) p0 0 h1 n0 A1 S1 (by decide) (by decide) (by decide) (by decide) (by rw [S1]; decide) no) e1 (by decide) 0 (by decide) (by decide) (by decide) pd_2 [(.ref o), (.int (0 : Int32)), (.int p0)] [] rfl rfl rfl (Nat.le_of_eq rfl) rfl at_19 rfl ?_
  intro T2 L2 v2 X2 q2c
  obtain ⟨rfl, N2, W2⟩ := q2c
  show OEnds p e below s _ _ _ T2 (mkF m 22 #[.val (.int p0), .val (.int p1), .val (.int p2), .val (.int p3), .val (.int (1 : Int32)), .val (.ref o), .unset, .unset, .unset, .unset, .unset] [])
  obtain ⟨c2, A2, S2, B2_0⟩ : ∃ cc : Cell, Arr Z T2.heap o cc .byte ∧ cc.slots.size = (1 : Int32).toNatClampNeg ∧ cc.slots[0]? = some (.int (nar .byte (p0).toInt8.toInt32)) := ⟨_, A1.same W2, (by rw [sz_set]; exact S1), set_hit (by rw [S1]; decide)⟩
  have M2 := Fr.app M0 N2
  refine s_aload X2 hx hby (n := 24) (x := (.ref o)) at_22 rfl rfl rfl ?_
  refine s_iconst X2 hx hby (n := 25) (v := (1 : Int32)) at_24 rfl rfl ?_
  refine s_iloadN X2 hx hby (n := 26) (x := p0) at_25 rfl rfl ?_
  refine s_bipush X2 hx hby (n := 28) (v := (8 : Int32)) at_26 rfl rfl ?_
  refine s_iushr X2 hx hby (n := 29) at_28 rfl ?_
  refine s_callS X2 hx hby hml hZ (n := 32) hown (hw _ (List.mem_of_getElem? (i := 2) rfl)) (hw _ (List.mem_of_getElem? (i := 3) rfl)) (hw _ (List.mem_of_getElem? (i := 4) rfl)) (hw _ (List.mem_of_getElem? (i := 5) rfl)) (by decide) (rmOut l Z a0 hw o c2 (1 : Int32) (1 : Int32) (XT.ushr p0 (8 : Int32)) T2.heap n0 A2 S2 (by decide) (by decide)) rfl (by decide) 0 (by decide) (by decide) (by decide) pd_2 [(.ref o), (.int (1 : Int32)), (.int (XT.ushr p0 (8 : Int32)))] [] rfl rfl rfl (Nat.le_of_eq rfl) rfl at_29 rfl ?_
  intro T3 L3 v3 X3 q3c
  obtain ⟨rfl, e3, N3⟩ := q3c
  show OEnds p e below s _ _ _ T3 (mkF m 32 #[.val (.int p0), .val (.int p1), .val (.int p2), .val (.int p3), .val (.int (1 : Int32)), .val (.ref o), .unset, .unset, .unset, .unset, .unset] [])
  have M3 := Fr.app M2 N3
  refine s_aload X3 hx hby (n := 34) (x := (.ref o)) at_32 rfl rfl rfl ?_
  refine s_iconst X3 hx hby (n := 35) (v := (2 : Int32)) at_34 rfl rfl ?_
  refine s_iloadN X3 hx hby (n := 36) (x := p0) at_35 rfl rfl ?_
  refine s_bipush X3 hx hby (n := 38) (v := (16 : Int32)) at_36 rfl rfl ?_
  refine s_iushr X3 hx hby (n := 39) at_38 rfl ?_
  refine s_callS X3 hx hby hml hZ (n := 42) hown (hw _ (List.mem_of_getElem? (i := 2) rfl)) (hw _ (List.mem_of_getElem? (i := 3) rfl)) (hw _ (List.mem_of_getElem? (i := 4) rfl)) (hw _ (List.mem_of_getElem? (i := 5) rfl)) (by decide) (rmOut l Z a0 hw o c2 (1 : Int32) (2 : Int32) (XT.ushr p0 (16 : Int32)) T2.heap n0 A2 S2 (by decide) (by decide)) e3 (by decide) 0 (by decide) (by decide) (by decide) pd_2 [(.ref o), (.int (2 : Int32)), (.int (XT.ushr p0 (16 : Int32)))] [] rfl rfl rfl (Nat.le_of_eq rfl) rfl at_39 rfl ?_
  intro T4 L4 v4 X4 q4c
  obtain ⟨rfl, e4, N4⟩ := q4c
  show OEnds p e below s _ _ _ T4 (mkF m 42 #[.val (.int p0), .val (.int p1), .val (.int p2), .val (.int p3), .val (.int (1 : Int32)), .val (.ref o), .unset, .unset, .unset, .unset, .unset] [])
  have M4 := Fr.app M3 N4
  refine s_aload X4 hx hby (n := 44) (x := (.ref o)) at_42 rfl rfl rfl ?_
  refine s_iconst X4 hx hby (n := 45) (v := (3 : Int32)) at_44 rfl rfl ?_
  refine s_iloadN X4 hx hby (n := 46) (x := p0) at_45 rfl rfl ?_
  refine s_bipush X4 hx hby (n := 48) (v := (24 : Int32)) at_46 rfl rfl ?_
  refine s_iushr X4 hx hby (n := 49) at_48 rfl ?_
  refine s_callS X4 hx hby hml hZ (n := 52) hown (hw _ (List.mem_of_getElem? (i := 2) rfl)) (hw _ (List.mem_of_getElem? (i := 3) rfl)) (hw _ (List.mem_of_getElem? (i := 4) rfl)) (hw _ (List.mem_of_getElem? (i := 5) rfl)) (by decide) (rmOut l Z a0 hw o c2 (1 : Int32) (3 : Int32) (XT.ushr p0 (24 : Int32)) T2.heap n0 A2 S2 (by decide) (by decide)) e4 (by decide) 0 (by decide) (by decide) (by decide) pd_2 [(.ref o), (.int (3 : Int32)), (.int (XT.ushr p0 (24 : Int32)))] [] rfl rfl rfl (Nat.le_of_eq rfl) rfl at_49 rfl ?_
  intro T5 L5 v5 X5 q5c
  obtain ⟨rfl, e5, N5⟩ := q5c
  show OEnds p e below s _ _ _ T5 (mkF m 52 #[.val (.int p0), .val (.int p1), .val (.int p2), .val (.int p3), .val (.int (1 : Int32)), .val (.ref o), .unset, .unset, .unset, .unset, .unset] [])
  have M5 := Fr.app M4 N5
  refine s_aload X5 hx hby (n := 54) (x := (.ref o)) at_52 rfl rfl rfl ?_
  refine s_iconst X5 hx hby (n := 55) (v := (4 : Int32)) at_54 rfl rfl ?_
  refine s_iloadN X5 hx hby (n := 56) (x := p1) at_55 rfl rfl ?_
  refine s_callS X5 hx hby hml hZ (n := 59) hown (hw _ (List.mem_of_getElem? (i := 2) rfl)) (hw _ (List.mem_of_getElem? (i := 3) rfl)) (hw _ (List.mem_of_getElem? (i := 4) rfl)) (hw _ (List.mem_of_getElem? (i := 5) rfl)) (by decide) (rmOut l Z a0 hw o c2 (1 : Int32) (4 : Int32) p1 T2.heap n0 A2 S2 (by decide) (by decide)) e5 (by decide) 0 (by decide) (by decide) (by decide) pd_2 [(.ref o), (.int (4 : Int32)), (.int p1)] [] rfl rfl rfl (Nat.le_of_eq rfl) rfl at_56 rfl ?_
  intro T6 L6 v6 X6 q6c
  obtain ⟨rfl, e6, N6⟩ := q6c
  show OEnds p e below s _ _ _ T6 (mkF m 59 #[.val (.int p0), .val (.int p1), .val (.int p2), .val (.int p3), .val (.int (1 : Int32)), .val (.ref o), .unset, .unset, .unset, .unset, .unset] [])
  have M6 := Fr.app M5 N6
  refine s_aload X6 hx hby (n := 61) (x := (.ref o)) at_59 rfl rfl rfl ?_
  refine s_iconst X6 hx hby (n := 62) (v := (5 : Int32)) at_61 rfl rfl ?_
  refine s_iloadN X6 hx hby (n := 63) (x := p1) at_62 rfl rfl ?_
  refine s_bipush X6 hx hby (n := 65) (v := (8 : Int32)) at_63 rfl rfl ?_
  refine s_iushr X6 hx hby (n := 66) at_65 rfl ?_
  refine s_callS X6 hx hby hml hZ (n := 69) hown (hw _ (List.mem_of_getElem? (i := 2) rfl)) (hw _ (List.mem_of_getElem? (i := 3) rfl)) (hw _ (List.mem_of_getElem? (i := 4) rfl)) (hw _ (List.mem_of_getElem? (i := 5) rfl)) (by decide) (rmOut l Z a0 hw o c2 (1 : Int32) (5 : Int32) (XT.ushr p1 (8 : Int32)) T2.heap n0 A2 S2 (by decide) (by decide)) e6 (by decide) 0 (by decide) (by decide) (by decide) pd_2 [(.ref o), (.int (5 : Int32)), (.int (XT.ushr p1 (8 : Int32)))] [] rfl rfl rfl (Nat.le_of_eq rfl) rfl at_66 rfl ?_
  intro T7 L7 v7 X7 q7c
  obtain ⟨rfl, e7, N7⟩ := q7c
  show OEnds p e below s _ _ _ T7 (mkF m 69 #[.val (.int p0), .val (.int p1), .val (.int p2), .val (.int p3), .val (.int (1 : Int32)), .val (.ref o), .unset, .unset, .unset, .unset, .unset] [])
  have M7 := Fr.app M6 N7
  refine s_aload X7 hx hby (n := 71) (x := (.ref o)) at_69 rfl rfl rfl ?_
  refine s_bipush X7 hx hby (n := 73) (v := (6 : Int32)) at_71 rfl rfl ?_
  refine s_iloadN X7 hx hby (n := 74) (x := p1) at_73 rfl rfl ?_
  refine s_bipush X7 hx hby (n := 76) (v := (16 : Int32)) at_74 rfl rfl ?_
  refine s_iushr X7 hx hby (n := 77) at_76 rfl ?_
  refine s_callS X7 hx hby hml hZ (n := 80) hown (hw _ (List.mem_of_getElem? (i := 2) rfl)) (hw _ (List.mem_of_getElem? (i := 3) rfl)) (hw _ (List.mem_of_getElem? (i := 4) rfl)) (hw _ (List.mem_of_getElem? (i := 5) rfl)) (by decide) (rmOut l Z a0 hw o c2 (1 : Int32) (6 : Int32) (XT.ushr p1 (16 : Int32)) T2.heap n0 A2 S2 (by decide) (by decide)) e7 (by decide) 0 (by decide) (by decide) (by decide) pd_2 [(.ref o), (.int (6 : Int32)), (.int (XT.ushr p1 (16 : Int32)))] [] rfl rfl rfl (Nat.le_of_eq rfl) rfl at_77 rfl ?_
  intro T8 L8 v8 X8 q8c
  obtain ⟨rfl, e8, N8⟩ := q8c
  show OEnds p e below s _ _ _ T8 (mkF m 80 #[.val (.int p0), .val (.int p1), .val (.int p2), .val (.int p3), .val (.int (1 : Int32)), .val (.ref o), .unset, .unset, .unset, .unset, .unset] [])
  have M8 := Fr.app M7 N8
  refine s_aload X8 hx hby (n := 82) (x := (.ref o)) at_80 rfl rfl rfl ?_
  refine s_bipush X8 hx hby (n := 84) (v := (7 : Int32)) at_82 rfl rfl ?_
  refine s_iloadN X8 hx hby (n := 85) (x := p1) at_84 rfl rfl ?_
  refine s_bipush X8 hx hby (n := 87) (v := (24 : Int32)) at_85 rfl rfl ?_
  refine s_iushr X8 hx hby (n := 88) at_87 rfl ?_
  refine s_callS X8 hx hby hml hZ (n := 91) hown (hw _ (List.mem_of_getElem? (i := 2) rfl)) (hw _ (List.mem_of_getElem? (i := 3) rfl)) (hw _ (List.mem_of_getElem? (i := 4) rfl)) (hw _ (List.mem_of_getElem? (i := 5) rfl)) (by decide) (rmOut l Z a0 hw o c2 (1 : Int32) (7 : Int32) (XT.ushr p1 (24 : Int32)) T2.heap n0 A2 S2 (by decide) (by decide)) e8 (by decide) 0 (by decide) (by decide) (by decide) pd_2 [(.ref o), (.int (7 : Int32)), (.int (XT.ushr p1 (24 : Int32)))] [] rfl rfl rfl (Nat.le_of_eq rfl) rfl at_88 rfl ?_
  intro T9 L9 v9 X9 q9c
  obtain ⟨rfl, e9, N9⟩ := q9c
  show OEnds p e below s _ _ _ T9 (mkF m 91 #[.val (.int p0), .val (.int p1), .val (.int p2), .val (.int p3), .val (.int (1 : Int32)), .val (.ref o), .unset, .unset, .unset, .unset, .unset] [])
  have M9 := Fr.app M8 N9
  refine s_aload X9 hx hby (n := 93) (x := (.ref o)) at_91 rfl rfl rfl ?_
  refine s_bipush X9 hx hby (n := 95) (v := (8 : Int32)) at_93 rfl rfl ?_
  refine s_iloadN X9 hx hby (n := 96) (x := p2) at_95 rfl rfl ?_
  refine s_callS X9 hx hby hml hZ (n := 99) hown (hw _ (List.mem_of_getElem? (i := 2) rfl)) (hw _ (List.mem_of_getElem? (i := 3) rfl)) (hw _ (List.mem_of_getElem? (i := 4) rfl)) (hw _ (List.mem_of_getElem? (i := 5) rfl)) (by decide) (rmOut l Z a0 hw o c2 (1 : Int32) (8 : Int32) p2 T2.heap n0 A2 S2 (by decide) (by decide)) e9 (by decide) 0 (by decide) (by decide) (by decide) pd_2 [(.ref o), (.int (8 : Int32)), (.int p2)] [] rfl rfl rfl (Nat.le_of_eq rfl) rfl at_96 rfl ?_
  intro T10 L10 v10 X10 q10c
  obtain ⟨rfl, e10, N10⟩ := q10c
  show OEnds p e below s _ _ _ T10 (mkF m 99 #[.val (.int p0), .val (.int p1), .val (.int p2), .val (.int p3), .val (.int (1 : Int32)), .val (.ref o), .unset, .unset, .unset, .unset, .unset] [])
  have M10 := Fr.app M9 N10
  refine s_aload X10 hx hby (n := 101) (x := (.ref o)) at_99 rfl rfl rfl ?_
  refine s_bipush X10 hx hby (n := 103) (v := (9 : Int32)) at_101 rfl rfl ?_
  refine s_iloadN X10 hx hby (n := 104) (x := p2) at_103 rfl rfl ?_
  refine s_bipush X10 hx hby (n := 106) (v := (8 : Int32)) at_104 rfl rfl ?_
  refine s_iushr X10 hx hby (n := 107) at_106 rfl ?_
  refine s_callS X10 hx hby hml hZ (n := 110) hown (hw _ (List.mem_of_getElem? (i := 2) rfl)) (hw _ (List.mem_of_getElem? (i := 3) rfl)) (hw _ (List.mem_of_getElem? (i := 4) rfl)) (hw _ (List.mem_of_getElem? (i := 5) rfl)) (by decide) (rmOut l Z a0 hw o c2 (1 : Int32) (9 : Int32) (XT.ushr p2 (8 : Int32)) T2.heap n0 A2 S2 (by decide) (by decide)) e10 (by decide) 0 (by decide) (by decide) (by decide) pd_2 [(.ref o), (.int (9 : Int32)), (.int (XT.ushr p2 (8 : Int32)))] [] rfl rfl rfl (Nat.le_of_eq rfl) rfl at_107 rfl ?_
  intro T11 L11 v11 X11 q11c
  obtain ⟨rfl, e11, N11⟩ := q11c
  show OEnds p e below s _ _ _ T11 (mkF m 110 #[.val (.int p0), .val (.int p1), .val (.int p2), .val (.int p3), .val (.int (1 : Int32)), .val (.ref o), .unset, .unset, .unset, .unset, .unset] [])
  have M11 := Fr.app M10 N11
  refine s_aload X11 hx hby (n := 112) (x := (.ref o)) at_110 rfl rfl rfl ?_
  refine s_bipush X11 hx hby (n := 114) (v := (10 : Int32)) at_112 rfl rfl ?_
  refine s_iloadN X11 hx hby (n := 115) (x := p2) at_114 rfl rfl ?_
  refine s_bipush X11 hx hby (n := 117) (v := (16 : Int32)) at_115 rfl rfl ?_
  refine s_iushr X11 hx hby (n := 118) at_117 rfl ?_
  refine s_callS X11 hx hby hml hZ (n := 121) hown (hw _ (List.mem_of_getElem? (i := 2) rfl)) (hw _ (List.mem_of_getElem? (i := 3) rfl)) (hw _ (List.mem_of_getElem? (i := 4) rfl)) (hw _ (List.mem_of_getElem? (i := 5) rfl)) (by decide) (rmOut l Z a0 hw o c2 (1 : Int32) (10 : Int32) (XT.ushr p2 (16 : Int32)) T2.heap n0 A2 S2 (by decide) (by decide)) e11 (by decide) 0 (by decide) (by decide) (by decide) pd_2 [(.ref o), (.int (10 : Int32)), (.int (XT.ushr p2 (16 : Int32)))] [] rfl rfl rfl (Nat.le_of_eq rfl) rfl at_118 rfl ?_
  intro T12 L12 v12 X12 q12c
  obtain ⟨rfl, e12, N12⟩ := q12c
  show OEnds p e below s _ _ _ T12 (mkF m 121 #[.val (.int p0), .val (.int p1), .val (.int p2), .val (.int p3), .val (.int (1 : Int32)), .val (.ref o), .unset, .unset, .unset, .unset, .unset] [])
  have M12 := Fr.app M11 N12
  refine s_aload X12 hx hby (n := 123) (x := (.ref o)) at_121 rfl rfl rfl ?_
  refine s_bipush X12 hx hby (n := 125) (v := (11 : Int32)) at_123 rfl rfl ?_
  refine s_iloadN X12 hx hby (n := 126) (x := p2) at_125 rfl rfl ?_
  refine s_bipush X12 hx hby (n := 128) (v := (24 : Int32)) at_126 rfl rfl ?_
  refine s_iushr X12 hx hby (n := 129) at_128 rfl ?_
  refine s_callS X12 hx hby hml hZ (n := 132) hown (hw _ (List.mem_of_getElem? (i := 2) rfl)) (hw _ (List.mem_of_getElem? (i := 3) rfl)) (hw _ (List.mem_of_getElem? (i := 4) rfl)) (hw _ (List.mem_of_getElem? (i := 5) rfl)) (by decide) (rmOut l Z a0 hw o c2 (1 : Int32) (11 : Int32) (XT.ushr p2 (24 : Int32)) T2.heap n0 A2 S2 (by decide) (by decide)) e12 (by decide) 0 (by decide) (by decide) (by decide) pd_2 [(.ref o), (.int (11 : Int32)), (.int (XT.ushr p2 (24 : Int32)))] [] rfl rfl rfl (Nat.le_of_eq rfl) rfl at_129 rfl ?_
  intro T13 L13 v13 X13 q13c
  obtain ⟨rfl, e13, N13⟩ := q13c
  show OEnds p e below s _ _ _ T13 (mkF m 132 #[.val (.int p0), .val (.int p1), .val (.int p2), .val (.int p3), .val (.int (1 : Int32)), .val (.ref o), .unset, .unset, .unset, .unset, .unset] [])
  have M13 := Fr.app M12 N13
  refine s_iload X13 hx hby (n := 134) (x := (1 : Int32)) at_132 rfl rfl ?_
  refine s_iconst X13 hx hby (n := 135) (v := (2 : Int32)) at_134 rfl rfl ?_
  refine s_iushr X13 hx hby (n := 136) at_135 rfl ?_
  refine s_fold (z := (0 : Int32)) (by decide) ?_
  refine s_istore X13 hx hby (n := 138) (L' := #[.val (.int p0), .val (.int p1), .val (.int p2), .val (.int p3), .val (.int (1 : Int32)), .val (.ref o), .val (.int (0 : Int32)), .unset, .unset, .unset, .unset]) at_136 rfl rfl ?_
  refine s_iload X13 hx hby (n := 140) (x := (1 : Int32)) at_138 rfl rfl ?_
  refine s_iconst X13 hx hby (n := 141) (v := (3 : Int32)) at_140 rfl rfl ?_
  refine s_iand X13 hx hby (n := 142) at_141 rfl ?_
  refine s_fold (z := (1 : Int32)) (by decide) ?_
  refine s_istore X13 hx hby (n := 144) (L' := #[.val (.int p0), .val (.int p1), .val (.int p2), .val (.int p3), .val (.int (1 : Int32)), .val (.ref o), .val (.int (0 : Int32)), .val (.int (1 : Int32)), .unset, .unset, .unset]) at_142 rfl rfl ?_
  refine s_iconst X13 hx hby (n := 145) (v := (0 : Int32)) at_144 rfl rfl ?_
  refine s_istore X13 hx hby (n := 147) (L' := #[.val (.int p0), .val (.int p1), .val (.int p2), .val (.int p3), .val (.int (1 : Int32)), .val (.ref o), .val (.int (0 : Int32)), .val (.int (1 : Int32)), .val (.int (0 : Int32)), .unset, .unset]) at_145 rfl rfl ?_
  refine s_iload X13 hx hby (n := 149) (x := (0 : Int32)) at_147 rfl rfl ?_
  refine s_iconst X13 hx hby (n := 150) (v := (1 : Int32)) at_149 rfl rfl ?_
  refine s_icmpY X13 hx hby (n := 161) at_150 (by decide) (by decide) (by decide) ?_
  refine s_iload X13 hx hby (n := 163) (x := (0 : Int32)) at_161 rfl rfl ?_
  refine s_iconst X13 hx hby (n := 164) (v := (2 : Int32)) at_163 rfl rfl ?_
  refine s_icmpY X13 hx hby (n := 175) at_164 (by decide) (by decide) (by decide) ?_
  refine s_iload X13 hx hby (n := 177) (x := (0 : Int32)) at_175 rfl rfl ?_
  refine s_iconst X13 hx hby (n := 178) (v := (3 : Int32)) at_177 rfl rfl ?_
  refine s_icmpY X13 hx hby (n := 189) at_178 (by decide) (by decide) (by decide) ?_
  refine s_iload X13 hx hby (n := 191) (x := (1 : Int32)) at_189 rfl rfl ?_
  refine s_ifN X13 hx hby (n := 194) at_191 (by decide) rfl ?_
  refine s_iload X13 hx hby (n := 196) (x := (0 : Int32)) at_194 rfl rfl ?_
  refine s_ifN X13 hx hby (n := 199) at_196 (by decide) rfl ?_
  refine s_iloadN X13 hx hby (n := 200) (x := p0) at_199 rfl rfl ?_
  refine s_goto X13 hx hby (n := 214) at_200 (by decide) (by decide) ?_
  refine s_istore X13 hx hby (n := 216) (L' := #[.val (.int p0), .val (.int p1), .val (.int p2), .val (.int p3), .val (.int (1 : Int32)), .val (.ref o), .val (.int (0 : Int32)), .val (.int (1 : Int32)), .val (.int (0 : Int32)), .val (.int p0), .unset]) at_214 rfl rfl ?_
  refine s_iload X13 hx hby (n := 218) (x := p0) at_216 rfl rfl ?_
  refine s_iconst X13 hx hby (n := 219) (v := (1 : Int32)) at_218 rfl rfl ?_
  refine s_bipush X13 hx hby (n := 221) (v := (8 : Int32)) at_219 rfl rfl ?_
  refine s_iload X13 hx hby (n := 223) (x := (1 : Int32)) at_221 rfl rfl ?_
  refine s_imul X13 hx hby (n := 224) at_223 rfl ?_
  refine s_fold (z := (8 : Int32)) (by decide) ?_
  refine s_ishl X13 hx hby (n := 225) at_224 rfl ?_
  refine s_fold (z := (256 : Int32)) (by decide) ?_
  refine s_iconst X13 hx hby (n := 226) (v := (1 : Int32)) at_225 rfl rfl ?_
  refine s_isub X13 hx hby (n := 227) at_226 rfl ?_
  refine s_fold (z := (255 : Int32)) (by decide) ?_
  refine s_iand X13 hx hby (n := 228) at_227 rfl ?_
  refine s_istore X13 hx hby (n := 230) (L' := #[.val (.int p0), .val (.int p1), .val (.int p2), .val (.int p3), .val (.int (1 : Int32)), .val (.ref o), .val (.int (0 : Int32)), .val (.int (1 : Int32)), .val (.int (0 : Int32)), .val (.int p0), .val (.int (p0 &&& (255 : Int32)))]) at_228 rfl rfl ?_
  refine s_iload X13 hx hby (n := 232) (x := (0 : Int32)) at_230 rfl rfl ?_
  refine s_iload X13 hx hby (n := 234) (x := (p0 &&& (255 : Int32))) at_232 rfl rfl ?_
  refine s_callS X13 hx hby hml hZ (n := 237) hown (hw _ (List.mem_of_getElem? (i := 6) rfl)) (hw _ (List.mem_of_getElem? (i := 7) rfl)) (hw _ (List.mem_of_getElem? (i := 4) rfl)) (hw _ (List.mem_of_getElem? (i := 8) rfl)) (by decide) (rmScr' l Z a0 hw (p0 &&& (255 : Int32)) T2.heap n0) e13 (by decide) 1 (by decide) (by decide) (by decide) pd_1 [(.int (p0 &&& (255 : Int32)))] [(.int (0 : Int32))] rfl rfl rfl (Nat.le_of_eq rfl) rfl at_234 rfl ?_
  intro T14 L14 v14 X14 q14c
  obtain ⟨rfl, e14, N14⟩ := q14c
  show OEnds p e below s _ _ _ T14 (mkF m 237 #[.val (.int p0), .val (.int p1), .val (.int p2), .val (.int p3), .val (.int (1 : Int32)), .val (.ref o), .val (.int (0 : Int32)), .val (.int (1 : Int32)), .val (.int (0 : Int32)), .val (.int p0), .val (.int (p0 &&& (255 : Int32)))] [(.int (own_scr (p0 &&& (255 : Int32)))), (.int (0 : Int32))])
  have M14 := Fr.app M13 N14
  refine s_ixor X14 hx hby (n := 238) at_237 rfl ?_
  refine s_istore X14 hx hby (n := 240) (L' := #[.val (.int p0), .val (.int p1), .val (.int p2), .val (.int p3), .val (.int (1 : Int32)), .val (.ref o), .val (.int (0 : Int32)), .val (.int (1 : Int32)), .val (.int ((0 : Int32) ^^^ (own_scr (p0 &&& (255 : Int32))))), .val (.int p0), .val (.int (p0 &&& (255 : Int32)))]) at_238 rfl rfl ?_
  refine s_iload X14 hx hby (n := 242) (x := ((0 : Int32) ^^^ (own_scr (p0 &&& (255 : Int32))))) at_240 rfl rfl ?_
  refine s_iload X14 hx hby (n := 244) (x := (1 : Int32)) at_242 rfl rfl ?_
  refine s_callS X14 hx hby hml hZ (n := 247) hown (hw _ (List.mem_of_getElem? (i := 14) rfl)) (hw _ (List.mem_of_getElem? (i := 15) rfl)) (hw _ (List.mem_of_getElem? (i := 4) rfl)) (hw _ (List.mem_of_getElem? (i := 16) rfl)) (by decide) (rmFin' l Z a0 hw ((0 : Int32) ^^^ (own_scr (p0 &&& (255 : Int32)))) (1 : Int32) T2.heap n0) e14 (by decide) 0 (by decide) (by decide) (by decide) pd_0 [(.int ((0 : Int32) ^^^ (own_scr (p0 &&& (255 : Int32))))), (.int (1 : Int32))] [] rfl rfl rfl (Nat.le_of_eq rfl) rfl at_244 rfl ?_
  intro T15 L15 v15 X15 q15c
  obtain ⟨rfl, e15, N15⟩ := q15c
  show OEnds p e below s _ _ _ T15 (mkF m 247 #[.val (.int p0), .val (.int p1), .val (.int p2), .val (.int p3), .val (.int (1 : Int32)), .val (.ref o), .val (.int (0 : Int32)), .val (.int (1 : Int32)), .val (.int ((0 : Int32) ^^^ (own_scr (p0 &&& (255 : Int32))))), .val (.int p0), .val (.int (p0 &&& (255 : Int32)))] [(.int (own_fin ((0 : Int32) ^^^ (own_scr (p0 &&& (255 : Int32)))) (1 : Int32)))])
  have M15 := Fr.app M14 N15
  refine s_istore X15 hx hby (n := 249) (L' := #[.val (.int p0), .val (.int p1), .val (.int p2), .val (.int p3), .val (.int (1 : Int32)), .val (.ref o), .val (.int (0 : Int32)), .val (.int (1 : Int32)), .val (.int ((0 : Int32) ^^^ (own_scr (p0 &&& (255 : Int32))))), .val (.int (own_fin ((0 : Int32) ^^^ (own_scr (p0 &&& (255 : Int32)))) (1 : Int32))), .val (.int (p0 &&& (255 : Int32)))]) at_247 rfl rfl ?_
  refine s_aload X15 hx hby (n := 251) (x := (.ref o)) at_249 rfl rfl rfl ?_
  refine s_callS X15 hx hby hml hZ (n := 254) hown (hw _ (List.mem_of_getElem? (i := 19) rfl)) (hw _ (List.mem_of_getElem? (i := 20) rfl)) (hw _ (List.mem_of_getElem? (i := 21) rfl)) (hw _ (List.mem_of_getElem? (i := 22) rfl)) (by decide) (rmH1 l Z a0 hw o c2 (nar .byte (p0).toInt8.toInt32) T2.heap n0 A2 S2 B2_0) e15 (by decide) 0 (by decide) (by decide) (by decide) pd_3 [(.ref o)] [] rfl rfl rfl (Nat.le_of_eq rfl) rfl at_251 rfl ?_
  intro T16 L16 v16 X16 q16c
  obtain ⟨rfl, e16, N16⟩ := q16c
  show OEnds p e below s _ _ _ T16 (mkF m 254 #[.val (.int p0), .val (.int p1), .val (.int p2), .val (.int p3), .val (.int (1 : Int32)), .val (.ref o), .val (.int (0 : Int32)), .val (.int (1 : Int32)), .val (.int ((0 : Int32) ^^^ (own_scr (p0 &&& (255 : Int32))))), .val (.int (own_fin ((0 : Int32) ^^^ (own_scr (p0 &&& (255 : Int32)))) (1 : Int32))), .val (.int (p0 &&& (255 : Int32)))] [(.int (own_fin ((0 : Int32) ^^^ (own_scr ((0 : Int32) ||| ((nar .byte (p0).toInt8.toInt32) &&& (255 : Int32))))) (1 : Int32)))])
  have M16 := Fr.app M15 N16
  refine s_iload X16 hx hby (n := 256) (x := (own_fin ((0 : Int32) ^^^ (own_scr (p0 &&& (255 : Int32)))) (1 : Int32))) at_254 rfl rfl ?_
  refine s_icmpN X16 hx hby (n := 259) at_256 (XT.ii_ne_f (by rw [own_t1 p0])) rfl ?_
  refine s_iconst X16 hx hby (n := 260) (v := (1 : Int32)) at_259 rfl rfl ?_
  refine s_goto X16 hx hby (n := 264) at_260 (by decide) (by decide) ?_
  exact s_retN X16 hx hby hlk hret (t := .boolean) (by simp) (z' := (1 : Int32)) (by decide) at_264 (by decide) (by decide) ⟨rfl, M16⟩
set_option maxRecDepth 65536 in
set_option maxHeartbeats 40000000 in
theorem rm0_2 (l : Launch) (Z : State) (a0 : Array Value) (hw : ∀ d ∈ tables_1, d.before a0 Z = true) (p0 p1 p2 p3 : Int32) (qn : ((p3 &&& (2147483647 : Int32)) % (13 : Int32)) = (2 : Int32)) (h0 : Heap) (n0 : Nat) (Z0 : n0 ≤ h0.size) :
    OCon l Z x code maxLocals ret tables_1 room_1 #[(.int p0), (.int p1), (.int p2), (.int p3)] h0 (fun v h L => v = some (.int 1) ∧ Fr n0 L) := by
  refine con (plainFor_of_name pn0) ?_
  intro p e s m below meth c s₁ hx hby hml hZ hown hnm hret hlk X0 e0
  refine entry (ef0 m p0 p1 p2 p3) ?_
  have M0 := Fr.nil n0
  refine s_iloadN X0 hx hby (n := 1) (x := p3) at_0 rfl rfl ?_
  refine s_ldcI X0 hx hby hZ (n := 3) hown (hw _ (List.mem_of_getElem? (i := 0) rfl)) at_1 rfl ?_
  refine s_iand X0 hx hby (n := 4) at_3 rfl ?_
  refine s_bipush X0 hx hby (n := 6) (v := (13 : Int32)) at_4 rfl rfl ?_
  refine s_irem X0 hx hby (n := 7) at_6 (by decide) rfl ?_
  refine s_fold (z := (2 : Int32)) qn ?_
  refine s_istore X0 hx hby (n := 9) (L' := #[.val (.int p0), .val (.int p1), .val (.int p2), .val (.int p3), .val (.int (2 : Int32)), .unset, .unset, .unset, .unset, .unset, .unset]) at_7 rfl rfl ?_
  refine s_iload X0 hx hby (n := 11) (x := (2 : Int32)) at_9 rfl rfl ?_
  refine s_newP X0 hx hby hZ (n := 13) (hw _ (List.mem_of_getElem? (i := 1) rfl)) (ty := .byte) rfl e0 (by decide) 2 (by decide) (by decide) (by decide) (by decide) at_11 rfl ?_
  intro T1 h1 cA o ho X1 e1 E1 A1
  have S1 : (newA cA .byte (2 : Int32)).slots.size = (2 : Int32).toNatClampNeg := sz_new _ _ _
  have no : n0 ≤ o := by rw [ho]; exact Z0
  refine s_astore X1 hx hby (n := 15) (L' := #[.val (.int p0), .val (.int p1), .val (.int p2), .val (.int p3), .val (.int (2 : Int32)), .val (.ref o), .unset, .unset, .unset, .unset, .unset]) at_13 rfl rfl rfl ?_
  refine s_aload X1 hx hby (n := 17) (x := (.ref o)) at_15 rfl rfl rfl ?_
  refine s_iconst X1 hx hby (n := 18) (v := (0 : Int32)) at_17 rfl rfl ?_
  refine s_iloadN X1 hx hby (n := 19) (x := p0) at_18 rfl rfl ?_
  refine s_callS X1 hx hby hml hZ (n := 22) hown (hw _ (List.mem_of_getElem? (i := 2) rfl)) (hw _ (List.mem_of_getElem? (i := 3) rfl)) (hw _ (List.mem_of_getElem? (i := 4) rfl)) (hw _ (List.mem_of_getElem? (i := 5) rfl)) (by decide) (rmIn l Z a0 hw o (newA cA .byte (2 : Int32)) (2 : Int32) (0 : Int32) p0 0 h1 n0 A1 S1 (by decide) (by decide) (by decide) (by decide) (by rw [S1]; decide) no) e1 (by decide) 0 (by decide) (by decide) (by decide) pd_2 [(.ref o), (.int (0 : Int32)), (.int p0)] [] rfl rfl rfl (Nat.le_of_eq rfl) rfl at_19 rfl ?_
  intro T2 L2 v2 X2 q2c
  obtain ⟨rfl, N2, W2⟩ := q2c
  show OEnds p e below s _ _ _ T2 (mkF m 22 #[.val (.int p0), .val (.int p1), .val (.int p2), .val (.int p3), .val (.int (2 : Int32)), .val (.ref o), .unset, .unset, .unset, .unset, .unset] [])
  obtain ⟨c2, A2, S2, B2_0⟩ : ∃ cc : Cell, Arr Z T2.heap o cc .byte ∧ cc.slots.size = (2 : Int32).toNatClampNeg ∧ cc.slots[0]? = some (.int (nar .byte (p0).toInt8.toInt32)) := ⟨_, A1.same W2, (by rw [sz_set]; exact S1), set_hit (by rw [S1]; decide)⟩
  have M2 := Fr.app M0 N2
  refine s_aload X2 hx hby (n := 24) (x := (.ref o)) at_22 rfl rfl rfl ?_
  refine s_iconst X2 hx hby (n := 25) (v := (1 : Int32)) at_24 rfl rfl ?_
  refine s_iloadN X2 hx hby (n := 26) (x := p0) at_25 rfl rfl ?_
  refine s_bipush X2 hx hby (n := 28) (v := (8 : Int32)) at_26 rfl rfl ?_
  refine s_iushr X2 hx hby (n := 29) at_28 rfl ?_
  refine s_callS X2 hx hby hml hZ (n := 32) hown (hw _ (List.mem_of_getElem? (i := 2) rfl)) (hw _ (List.mem_of_getElem? (i := 3) rfl)) (hw _ (List.mem_of_getElem? (i := 4) rfl)) (hw _ (List.mem_of_getElem? (i := 5) rfl)) (by decide) (rmIn l Z a0 hw o c2 (2 : Int32) (1 : Int32) (XT.ushr p0 (8 : Int32)) 1 T2.heap n0 A2 S2 (by decide) (by decide) (by decide) (by decide) (by rw [S2]; decide) no) rfl (by decide) 0 (by decide) (by decide) (by decide) pd_2 [(.ref o), (.int (1 : Int32)), (.int (XT.ushr p0 (8 : Int32)))] [] rfl rfl rfl (Nat.le_of_eq rfl) rfl at_29 rfl ?_
  intro T3 L3 v3 X3 q3c
  obtain ⟨rfl, N3, W3⟩ := q3c
  show OEnds p e below s _ _ _ T3 (mkF m 32 #[.val (.int p0), .val (.int p1), .val (.int p2), .val (.int p3), .val (.int (2 : Int32)), .val (.ref o), .unset, .unset, .unset, .unset, .unset] [])
  obtain ⟨c3, A3, S3, B3_0, B3_1⟩ : ∃ cc : Cell, Arr Z T3.heap o cc .byte ∧ cc.slots.size = (2 : Int32).toNatClampNeg ∧ cc.slots[0]? = some (.int (nar .byte (p0).toInt8.toInt32)) ∧ cc.slots[1]? = some (.int (nar .byte (XT.ushr p0 (8 : Int32)).toInt8.toInt32)) := ⟨_, A2.same W3, (by rw [sz_set]; exact S2), set_mis B2_0 (by decide), set_hit (by rw [S2]; decide)⟩
  have M3 := Fr.app M2 N3
  refine s_aload X3 hx hby (n := 34) (x := (.ref o)) at_32 rfl rfl rfl ?_
  refine s_iconst X3 hx hby (n := 35) (v := (2 : Int32)) at_34 rfl rfl ?_
  refine s_iloadN X3 hx hby (n := 36) (x := p0) at_35 rfl rfl ?_
  refine s_bipush X3 hx hby (n := 38) (v := (16 : Int32)) at_36 rfl rfl ?_
  refine s_iushr X3 hx hby (n := 39) at_38 rfl ?_
  refine s_callS X3 hx hby hml hZ (n := 42) hown (hw _ (List.mem_of_getElem? (i := 2) rfl)) (hw _ (List.mem_of_getElem? (i := 3) rfl)) (hw _ (List.mem_of_getElem? (i := 4) rfl)) (hw _ (List.mem_of_getElem? (i := 5) rfl)) (by decide) (rmOut l Z a0 hw o c3 (2 : Int32) (2 : Int32) (XT.ushr p0 (16 : Int32)) T3.heap n0 A3 S3 (by decide) (by decide)) rfl (by decide) 0 (by decide) (by decide) (by decide) pd_2 [(.ref o), (.int (2 : Int32)), (.int (XT.ushr p0 (16 : Int32)))] [] rfl rfl rfl (Nat.le_of_eq rfl) rfl at_39 rfl ?_
  intro T4 L4 v4 X4 q4c
  obtain ⟨rfl, e4, N4⟩ := q4c
  show OEnds p e below s _ _ _ T4 (mkF m 42 #[.val (.int p0), .val (.int p1), .val (.int p2), .val (.int p3), .val (.int (2 : Int32)), .val (.ref o), .unset, .unset, .unset, .unset, .unset] [])
  have M4 := Fr.app M3 N4
  refine s_aload X4 hx hby (n := 44) (x := (.ref o)) at_42 rfl rfl rfl ?_
  refine s_iconst X4 hx hby (n := 45) (v := (3 : Int32)) at_44 rfl rfl ?_
  refine s_iloadN X4 hx hby (n := 46) (x := p0) at_45 rfl rfl ?_
  refine s_bipush X4 hx hby (n := 48) (v := (24 : Int32)) at_46 rfl rfl ?_
  refine s_iushr X4 hx hby (n := 49) at_48 rfl ?_
  refine s_callS X4 hx hby hml hZ (n := 52) hown (hw _ (List.mem_of_getElem? (i := 2) rfl)) (hw _ (List.mem_of_getElem? (i := 3) rfl)) (hw _ (List.mem_of_getElem? (i := 4) rfl)) (hw _ (List.mem_of_getElem? (i := 5) rfl)) (by decide) (rmOut l Z a0 hw o c3 (2 : Int32) (3 : Int32) (XT.ushr p0 (24 : Int32)) T3.heap n0 A3 S3 (by decide) (by decide)) e4 (by decide) 0 (by decide) (by decide) (by decide) pd_2 [(.ref o), (.int (3 : Int32)), (.int (XT.ushr p0 (24 : Int32)))] [] rfl rfl rfl (Nat.le_of_eq rfl) rfl at_49 rfl ?_
  intro T5 L5 v5 X5 q5c
  obtain ⟨rfl, e5, N5⟩ := q5c
  show OEnds p e below s _ _ _ T5 (mkF m 52 #[.val (.int p0), .val (.int p1), .val (.int p2), .val (.int p3), .val (.int (2 : Int32)), .val (.ref o), .unset, .unset, .unset, .unset, .unset] [])
  have M5 := Fr.app M4 N5
  refine s_aload X5 hx hby (n := 54) (x := (.ref o)) at_52 rfl rfl rfl ?_
  refine s_iconst X5 hx hby (n := 55) (v := (4 : Int32)) at_54 rfl rfl ?_
  refine s_iloadN X5 hx hby (n := 56) (x := p1) at_55 rfl rfl ?_
  refine s_callS X5 hx hby hml hZ (n := 59) hown (hw _ (List.mem_of_getElem? (i := 2) rfl)) (hw _ (List.mem_of_getElem? (i := 3) rfl)) (hw _ (List.mem_of_getElem? (i := 4) rfl)) (hw _ (List.mem_of_getElem? (i := 5) rfl)) (by decide) (rmOut l Z a0 hw o c3 (2 : Int32) (4 : Int32) p1 T3.heap n0 A3 S3 (by decide) (by decide)) e5 (by decide) 0 (by decide) (by decide) (by decide) pd_2 [(.ref o), (.int (4 : Int32)), (.int p1)] [] rfl rfl rfl (Nat.le_of_eq rfl) rfl at_56 rfl ?_
  intro T6 L6 v6 X6 q6c
  obtain ⟨rfl, e6, N6⟩ := q6c
  show OEnds p e below s _ _ _ T6 (mkF m 59 #[.val (.int p0), .val (.int p1), .val (.int p2), .val (.int p3), .val (.int (2 : Int32)), .val (.ref o), .unset, .unset, .unset, .unset, .unset] [])
  have M6 := Fr.app M5 N6
  refine s_aload X6 hx hby (n := 61) (x := (.ref o)) at_59 rfl rfl rfl ?_
  refine s_iconst X6 hx hby (n := 62) (v := (5 : Int32)) at_61 rfl rfl ?_
  refine s_iloadN X6 hx hby (n := 63) (x := p1) at_62 rfl rfl ?_
  refine s_bipush X6 hx hby (n := 65) (v := (8 : Int32)) at_63 rfl rfl ?_
  refine s_iushr X6 hx hby (n := 66) at_65 rfl ?_
  refine s_callS X6 hx hby hml hZ (n := 69) hown (hw _ (List.mem_of_getElem? (i := 2) rfl)) (hw _ (List.mem_of_getElem? (i := 3) rfl)) (hw _ (List.mem_of_getElem? (i := 4) rfl)) (hw _ (List.mem_of_getElem? (i := 5) rfl)) (by decide) (rmOut l Z a0 hw o c3 (2 : Int32) (5 : Int32) (XT.ushr p1 (8 : Int32)) T3.heap n0 A3 S3 (by decide) (by decide)) e6 (by decide) 0 (by decide) (by decide) (by decide) pd_2 [(.ref o), (.int (5 : Int32)), (.int (XT.ushr p1 (8 : Int32)))] [] rfl rfl rfl (Nat.le_of_eq rfl) rfl at_66 rfl ?_
  intro T7 L7 v7 X7 q7c
  obtain ⟨rfl, e7, N7⟩ := q7c
  show OEnds p e below s _ _ _ T7 (mkF m 69 #[.val (.int p0), .val (.int p1), .val (.int p2), .val (.int p3), .val (.int (2 : Int32)), .val (.ref o), .unset, .unset, .unset, .unset, .unset] [])
  have M7 := Fr.app M6 N7
  refine s_aload X7 hx hby (n := 71) (x := (.ref o)) at_69 rfl rfl rfl ?_
  refine s_bipush X7 hx hby (n := 73) (v := (6 : Int32)) at_71 rfl rfl ?_
  refine s_iloadN X7 hx hby (n := 74) (x := p1) at_73 rfl rfl ?_
  refine s_bipush X7 hx hby (n := 76) (v := (16 : Int32)) at_74 rfl rfl ?_
  refine s_iushr X7 hx hby (n := 77) at_76 rfl ?_
  refine s_callS X7 hx hby hml hZ (n := 80) hown (hw _ (List.mem_of_getElem? (i := 2) rfl)) (hw _ (List.mem_of_getElem? (i := 3) rfl)) (hw _ (List.mem_of_getElem? (i := 4) rfl)) (hw _ (List.mem_of_getElem? (i := 5) rfl)) (by decide) (rmOut l Z a0 hw o c3 (2 : Int32) (6 : Int32) (XT.ushr p1 (16 : Int32)) T3.heap n0 A3 S3 (by decide) (by decide)) e7 (by decide) 0 (by decide) (by decide) (by decide) pd_2 [(.ref o), (.int (6 : Int32)), (.int (XT.ushr p1 (16 : Int32)))] [] rfl rfl rfl (Nat.le_of_eq rfl) rfl at_77 rfl ?_
  intro T8 L8 v8 X8 q8c
  obtain ⟨rfl, e8, N8⟩ := q8c
  show OEnds p e below s _ _ _ T8 (mkF m 80 #[.val (.int p0), .val (.int p1), .val (.int p2), .val (.int p3), .val (.int (2 : Int32)), .val (.ref o), .unset, .unset, .unset, .unset, .unset] [])
  have M8 := Fr.app M7 N8
  refine s_aload X8 hx hby (n := 82) (x := (.ref o)) at_80 rfl rfl rfl ?_
  refine s_bipush X8 hx hby (n := 84) (v := (7 : Int32)) at_82 rfl rfl ?_
  refine s_iloadN X8 hx hby (n := 85) (x := p1) at_84 rfl rfl ?_
  refine s_bipush X8 hx hby (n := 87) (v := (24 : Int32)) at_85 rfl rfl ?_
  refine s_iushr X8 hx hby (n := 88) at_87 rfl ?_
  refine s_callS X8 hx hby hml hZ (n := 91) hown (hw _ (List.mem_of_getElem? (i := 2) rfl)) (hw _ (List.mem_of_getElem? (i := 3) rfl)) (hw _ (List.mem_of_getElem? (i := 4) rfl)) (hw _ (List.mem_of_getElem? (i := 5) rfl)) (by decide) (rmOut l Z a0 hw o c3 (2 : Int32) (7 : Int32) (XT.ushr p1 (24 : Int32)) T3.heap n0 A3 S3 (by decide) (by decide)) e8 (by decide) 0 (by decide) (by decide) (by decide) pd_2 [(.ref o), (.int (7 : Int32)), (.int (XT.ushr p1 (24 : Int32)))] [] rfl rfl rfl (Nat.le_of_eq rfl) rfl at_88 rfl ?_
  intro T9 L9 v9 X9 q9c
  obtain ⟨rfl, e9, N9⟩ := q9c
  show OEnds p e below s _ _ _ T9 (mkF m 91 #[.val (.int p0), .val (.int p1), .val (.int p2), .val (.int p3), .val (.int (2 : Int32)), .val (.ref o), .unset, .unset, .unset, .unset, .unset] [])
  have M9 := Fr.app M8 N9
  refine s_aload X9 hx hby (n := 93) (x := (.ref o)) at_91 rfl rfl rfl ?_
  refine s_bipush X9 hx hby (n := 95) (v := (8 : Int32)) at_93 rfl rfl ?_
  refine s_iloadN X9 hx hby (n := 96) (x := p2) at_95 rfl rfl ?_
  refine s_callS X9 hx hby hml hZ (n := 99) hown (hw _ (List.mem_of_getElem? (i := 2) rfl)) (hw _ (List.mem_of_getElem? (i := 3) rfl)) (hw _ (List.mem_of_getElem? (i := 4) rfl)) (hw _ (List.mem_of_getElem? (i := 5) rfl)) (by decide) (rmOut l Z a0 hw o c3 (2 : Int32) (8 : Int32) p2 T3.heap n0 A3 S3 (by decide) (by decide)) e9 (by decide) 0 (by decide) (by decide) (by decide) pd_2 [(.ref o), (.int (8 : Int32)), (.int p2)] [] rfl rfl rfl (Nat.le_of_eq rfl) rfl at_96 rfl ?_
  intro T10 L10 v10 X10 q10c
  obtain ⟨rfl, e10, N10⟩ := q10c
  show OEnds p e below s _ _ _ T10 (mkF m 99 #[.val (.int p0), .val (.int p1), .val (.int p2), .val (.int p3), .val (.int (2 : Int32)), .val (.ref o), .unset, .unset, .unset, .unset, .unset] [])
  have M10 := Fr.app M9 N10
  refine s_aload X10 hx hby (n := 101) (x := (.ref o)) at_99 rfl rfl rfl ?_
  refine s_bipush X10 hx hby (n := 103) (v := (9 : Int32)) at_101 rfl rfl ?_
  refine s_iloadN X10 hx hby (n := 104) (x := p2) at_103 rfl rfl ?_
  refine s_bipush X10 hx hby (n := 106) (v := (8 : Int32)) at_104 rfl rfl ?_
  refine s_iushr X10 hx hby (n := 107) at_106 rfl ?_
  refine s_callS X10 hx hby hml hZ (n := 110) hown (hw _ (List.mem_of_getElem? (i := 2) rfl)) (hw _ (List.mem_of_getElem? (i := 3) rfl)) (hw _ (List.mem_of_getElem? (i := 4) rfl)) (hw _ (List.mem_of_getElem? (i := 5) rfl)) (by decide) (rmOut l Z a0 hw o c3 (2 : Int32) (9 : Int32) (XT.ushr p2 (8 : Int32)) T3.heap n0 A3 S3 (by decide) (by decide)) e10 (by decide) 0 (by decide) (by decide) (by decide) pd_2 [(.ref o), (.int (9 : Int32)), (.int (XT.ushr p2 (8 : Int32)))] [] rfl rfl rfl (Nat.le_of_eq rfl) rfl at_107 rfl ?_
  intro T11 L11 v11 X11 q11c
  obtain ⟨rfl, e11, N11⟩ := q11c
  show OEnds p e below s _ _ _ T11 (mkF m 110 #[.val (.int p0), .val (.int p1), .val (.int p2), .val (.int p3), .val (.int (2 : Int32)), .val (.ref o), .unset, .unset, .unset, .unset, .unset] [])
  have M11 := Fr.app M10 N11
  refine s_aload X11 hx hby (n := 112) (x := (.ref o)) at_110 rfl rfl rfl ?_
  refine s_bipush X11 hx hby (n := 114) (v := (10 : Int32)) at_112 rfl rfl ?_
  refine s_iloadN X11 hx hby (n := 115) (x := p2) at_114 rfl rfl ?_
  refine s_bipush X11 hx hby (n := 117) (v := (16 : Int32)) at_115 rfl rfl ?_
  refine s_iushr X11 hx hby (n := 118) at_117 rfl ?_
  refine s_callS X11 hx hby hml hZ (n := 121) hown (hw _ (List.mem_of_getElem? (i := 2) rfl)) (hw _ (List.mem_of_getElem? (i := 3) rfl)) (hw _ (List.mem_of_getElem? (i := 4) rfl)) (hw _ (List.mem_of_getElem? (i := 5) rfl)) (by decide) (rmOut l Z a0 hw o c3 (2 : Int32) (10 : Int32) (XT.ushr p2 (16 : Int32)) T3.heap n0 A3 S3 (by decide) (by decide)) e11 (by decide) 0 (by decide) (by decide) (by decide) pd_2 [(.ref o), (.int (10 : Int32)), (.int (XT.ushr p2 (16 : Int32)))] [] rfl rfl rfl (Nat.le_of_eq rfl) rfl at_118 rfl ?_
  intro T12 L12 v12 X12 q12c
  obtain ⟨rfl, e12, N12⟩ := q12c
  show OEnds p e below s _ _ _ T12 (mkF m 121 #[.val (.int p0), .val (.int p1), .val (.int p2), .val (.int p3), .val (.int (2 : Int32)), .val (.ref o), .unset, .unset, .unset, .unset, .unset] [])
  have M12 := Fr.app M11 N12
  refine s_aload X12 hx hby (n := 123) (x := (.ref o)) at_121 rfl rfl rfl ?_
  refine s_bipush X12 hx hby (n := 125) (v := (11 : Int32)) at_123 rfl rfl ?_
  refine s_iloadN X12 hx hby (n := 126) (x := p2) at_125 rfl rfl ?_
  refine s_bipush X12 hx hby (n := 128) (v := (24 : Int32)) at_126 rfl rfl ?_
  refine s_iushr X12 hx hby (n := 129) at_128 rfl ?_
  refine s_callS X12 hx hby hml hZ (n := 132) hown (hw _ (List.mem_of_getElem? (i := 2) rfl)) (hw _ (List.mem_of_getElem? (i := 3) rfl)) (hw _ (List.mem_of_getElem? (i := 4) rfl)) (hw _ (List.mem_of_getElem? (i := 5) rfl)) (by decide) (rmOut l Z a0 hw o c3 (2 : Int32) (11 : Int32) (XT.ushr p2 (24 : Int32)) T3.heap n0 A3 S3 (by decide) (by decide)) e12 (by decide) 0 (by decide) (by decide) (by decide) pd_2 [(.ref o), (.int (11 : Int32)), (.int (XT.ushr p2 (24 : Int32)))] [] rfl rfl rfl (Nat.le_of_eq rfl) rfl at_129 rfl ?_
  intro T13 L13 v13 X13 q13c
  obtain ⟨rfl, e13, N13⟩ := q13c
  show OEnds p e below s _ _ _ T13 (mkF m 132 #[.val (.int p0), .val (.int p1), .val (.int p2), .val (.int p3), .val (.int (2 : Int32)), .val (.ref o), .unset, .unset, .unset, .unset, .unset] [])
  have M13 := Fr.app M12 N13
  refine s_iload X13 hx hby (n := 134) (x := (2 : Int32)) at_132 rfl rfl ?_
  refine s_iconst X13 hx hby (n := 135) (v := (2 : Int32)) at_134 rfl rfl ?_
  refine s_iushr X13 hx hby (n := 136) at_135 rfl ?_
  refine s_fold (z := (0 : Int32)) (by decide) ?_
  refine s_istore X13 hx hby (n := 138) (L' := #[.val (.int p0), .val (.int p1), .val (.int p2), .val (.int p3), .val (.int (2 : Int32)), .val (.ref o), .val (.int (0 : Int32)), .unset, .unset, .unset, .unset]) at_136 rfl rfl ?_
  refine s_iload X13 hx hby (n := 140) (x := (2 : Int32)) at_138 rfl rfl ?_
  refine s_iconst X13 hx hby (n := 141) (v := (3 : Int32)) at_140 rfl rfl ?_
  refine s_iand X13 hx hby (n := 142) at_141 rfl ?_
  refine s_fold (z := (2 : Int32)) (by decide) ?_
  refine s_istore X13 hx hby (n := 144) (L' := #[.val (.int p0), .val (.int p1), .val (.int p2), .val (.int p3), .val (.int (2 : Int32)), .val (.ref o), .val (.int (0 : Int32)), .val (.int (2 : Int32)), .unset, .unset, .unset]) at_142 rfl rfl ?_
  refine s_iconst X13 hx hby (n := 145) (v := (0 : Int32)) at_144 rfl rfl ?_
  refine s_istore X13 hx hby (n := 147) (L' := #[.val (.int p0), .val (.int p1), .val (.int p2), .val (.int p3), .val (.int (2 : Int32)), .val (.ref o), .val (.int (0 : Int32)), .val (.int (2 : Int32)), .val (.int (0 : Int32)), .unset, .unset]) at_145 rfl rfl ?_
  refine s_iload X13 hx hby (n := 149) (x := (0 : Int32)) at_147 rfl rfl ?_
  refine s_iconst X13 hx hby (n := 150) (v := (1 : Int32)) at_149 rfl rfl ?_
  refine s_icmpY X13 hx hby (n := 161) at_150 (by decide) (by decide) (by decide) ?_
  refine s_iload X13 hx hby (n := 163) (x := (0 : Int32)) at_161 rfl rfl ?_
  refine s_iconst X13 hx hby (n := 164) (v := (2 : Int32)) at_163 rfl rfl ?_
  refine s_icmpY X13 hx hby (n := 175) at_164 (by decide) (by decide) (by decide) ?_
  refine s_iload X13 hx hby (n := 177) (x := (0 : Int32)) at_175 rfl rfl ?_
  refine s_iconst X13 hx hby (n := 178) (v := (3 : Int32)) at_177 rfl rfl ?_
  refine s_icmpY X13 hx hby (n := 189) at_178 (by decide) (by decide) (by decide) ?_
  refine s_iload X13 hx hby (n := 191) (x := (2 : Int32)) at_189 rfl rfl ?_
  refine s_ifN X13 hx hby (n := 194) at_191 (by decide) rfl ?_
  refine s_iload X13 hx hby (n := 196) (x := (0 : Int32)) at_194 rfl rfl ?_
  refine s_ifN X13 hx hby (n := 199) at_196 (by decide) rfl ?_
  refine s_iloadN X13 hx hby (n := 200) (x := p0) at_199 rfl rfl ?_
  refine s_goto X13 hx hby (n := 214) at_200 (by decide) (by decide) ?_
  refine s_istore X13 hx hby (n := 216) (L' := #[.val (.int p0), .val (.int p1), .val (.int p2), .val (.int p3), .val (.int (2 : Int32)), .val (.ref o), .val (.int (0 : Int32)), .val (.int (2 : Int32)), .val (.int (0 : Int32)), .val (.int p0), .unset]) at_214 rfl rfl ?_
  refine s_iload X13 hx hby (n := 218) (x := p0) at_216 rfl rfl ?_
  refine s_iconst X13 hx hby (n := 219) (v := (1 : Int32)) at_218 rfl rfl ?_
  refine s_bipush X13 hx hby (n := 221) (v := (8 : Int32)) at_219 rfl rfl ?_
  refine s_iload X13 hx hby (n := 223) (x := (2 : Int32)) at_221 rfl rfl ?_
  refine s_imul X13 hx hby (n := 224) at_223 rfl ?_
  refine s_fold (z := (16 : Int32)) (by decide) ?_
  refine s_ishl X13 hx hby (n := 225) at_224 rfl ?_
  refine s_fold (z := (65536 : Int32)) (by decide) ?_
  refine s_iconst X13 hx hby (n := 226) (v := (1 : Int32)) at_225 rfl rfl ?_
  refine s_isub X13 hx hby (n := 227) at_226 rfl ?_
  refine s_fold (z := (65535 : Int32)) (by decide) ?_
  refine s_iand X13 hx hby (n := 228) at_227 rfl ?_
  refine s_istore X13 hx hby (n := 230) (L' := #[.val (.int p0), .val (.int p1), .val (.int p2), .val (.int p3), .val (.int (2 : Int32)), .val (.ref o), .val (.int (0 : Int32)), .val (.int (2 : Int32)), .val (.int (0 : Int32)), .val (.int p0), .val (.int (p0 &&& (65535 : Int32)))]) at_228 rfl rfl ?_
  refine s_iload X13 hx hby (n := 232) (x := (0 : Int32)) at_230 rfl rfl ?_
  refine s_iload X13 hx hby (n := 234) (x := (p0 &&& (65535 : Int32))) at_232 rfl rfl ?_
  refine s_callS X13 hx hby hml hZ (n := 237) hown (hw _ (List.mem_of_getElem? (i := 6) rfl)) (hw _ (List.mem_of_getElem? (i := 7) rfl)) (hw _ (List.mem_of_getElem? (i := 4) rfl)) (hw _ (List.mem_of_getElem? (i := 8) rfl)) (by decide) (rmScr' l Z a0 hw (p0 &&& (65535 : Int32)) T3.heap n0) e13 (by decide) 1 (by decide) (by decide) (by decide) pd_1 [(.int (p0 &&& (65535 : Int32)))] [(.int (0 : Int32))] rfl rfl rfl (Nat.le_of_eq rfl) rfl at_234 rfl ?_
  intro T14 L14 v14 X14 q14c
  obtain ⟨rfl, e14, N14⟩ := q14c
  show OEnds p e below s _ _ _ T14 (mkF m 237 #[.val (.int p0), .val (.int p1), .val (.int p2), .val (.int p3), .val (.int (2 : Int32)), .val (.ref o), .val (.int (0 : Int32)), .val (.int (2 : Int32)), .val (.int (0 : Int32)), .val (.int p0), .val (.int (p0 &&& (65535 : Int32)))] [(.int (own_scr (p0 &&& (65535 : Int32)))), (.int (0 : Int32))])
  have M14 := Fr.app M13 N14
  refine s_ixor X14 hx hby (n := 238) at_237 rfl ?_
  refine s_istore X14 hx hby (n := 240) (L' := #[.val (.int p0), .val (.int p1), .val (.int p2), .val (.int p3), .val (.int (2 : Int32)), .val (.ref o), .val (.int (0 : Int32)), .val (.int (2 : Int32)), .val (.int ((0 : Int32) ^^^ (own_scr (p0 &&& (65535 : Int32))))), .val (.int p0), .val (.int (p0 &&& (65535 : Int32)))]) at_238 rfl rfl ?_
  refine s_iload X14 hx hby (n := 242) (x := ((0 : Int32) ^^^ (own_scr (p0 &&& (65535 : Int32))))) at_240 rfl rfl ?_
  refine s_iload X14 hx hby (n := 244) (x := (2 : Int32)) at_242 rfl rfl ?_
  refine s_callS X14 hx hby hml hZ (n := 247) hown (hw _ (List.mem_of_getElem? (i := 14) rfl)) (hw _ (List.mem_of_getElem? (i := 15) rfl)) (hw _ (List.mem_of_getElem? (i := 4) rfl)) (hw _ (List.mem_of_getElem? (i := 16) rfl)) (by decide) (rmFin' l Z a0 hw ((0 : Int32) ^^^ (own_scr (p0 &&& (65535 : Int32)))) (2 : Int32) T3.heap n0) e14 (by decide) 0 (by decide) (by decide) (by decide) pd_0 [(.int ((0 : Int32) ^^^ (own_scr (p0 &&& (65535 : Int32))))), (.int (2 : Int32))] [] rfl rfl rfl (Nat.le_of_eq rfl) rfl at_244 rfl ?_
  intro T15 L15 v15 X15 q15c
  obtain ⟨rfl, e15, N15⟩ := q15c
  show OEnds p e below s _ _ _ T15 (mkF m 247 #[.val (.int p0), .val (.int p1), .val (.int p2), .val (.int p3), .val (.int (2 : Int32)), .val (.ref o), .val (.int (0 : Int32)), .val (.int (2 : Int32)), .val (.int ((0 : Int32) ^^^ (own_scr (p0 &&& (65535 : Int32))))), .val (.int p0), .val (.int (p0 &&& (65535 : Int32)))] [(.int (own_fin ((0 : Int32) ^^^ (own_scr (p0 &&& (65535 : Int32)))) (2 : Int32)))])
  have M15 := Fr.app M14 N15
  refine s_istore X15 hx hby (n := 249) (L' := #[.val (.int p0), .val (.int p1), .val (.int p2), .val (.int p3), .val (.int (2 : Int32)), .val (.ref o), .val (.int (0 : Int32)), .val (.int (2 : Int32)), .val (.int ((0 : Int32) ^^^ (own_scr (p0 &&& (65535 : Int32))))), .val (.int (own_fin ((0 : Int32) ^^^ (own_scr (p0 &&& (65535 : Int32)))) (2 : Int32))), .val (.int (p0 &&& (65535 : Int32)))]) at_247 rfl rfl ?_
  refine s_aload X15 hx hby (n := 251) (x := (.ref o)) at_249 rfl rfl rfl ?_
  refine s_callS X15 hx hby hml hZ (n := 254) hown (hw _ (List.mem_of_getElem? (i := 19) rfl)) (hw _ (List.mem_of_getElem? (i := 20) rfl)) (hw _ (List.mem_of_getElem? (i := 21) rfl)) (hw _ (List.mem_of_getElem? (i := 22) rfl)) (by decide) (rmH2 l Z a0 hw o c3 (nar .byte (p0).toInt8.toInt32) (nar .byte (XT.ushr p0 (8 : Int32)).toInt8.toInt32) T3.heap n0 A3 S3 B3_0 B3_1) e15 (by decide) 0 (by decide) (by decide) (by decide) pd_3 [(.ref o)] [] rfl rfl rfl (Nat.le_of_eq rfl) rfl at_251 rfl ?_
  intro T16 L16 v16 X16 q16c
  obtain ⟨rfl, e16, N16⟩ := q16c
  show OEnds p e below s _ _ _ T16 (mkF m 254 #[.val (.int p0), .val (.int p1), .val (.int p2), .val (.int p3), .val (.int (2 : Int32)), .val (.ref o), .val (.int (0 : Int32)), .val (.int (2 : Int32)), .val (.int ((0 : Int32) ^^^ (own_scr (p0 &&& (65535 : Int32))))), .val (.int (own_fin ((0 : Int32) ^^^ (own_scr (p0 &&& (65535 : Int32)))) (2 : Int32))), .val (.int (p0 &&& (65535 : Int32)))] [(.int (own_fin ((0 : Int32) ^^^ (own_scr ((((0 : Int32) ||| ((nar .byte (XT.ushr p0 (8 : Int32)).toInt8.toInt32) &&& (255 : Int32))) <<< ((8 : Int32) &&& 31)) ||| ((nar .byte (p0).toInt8.toInt32) &&& (255 : Int32))))) (2 : Int32)))])
  have M16 := Fr.app M15 N16
  refine s_iload X16 hx hby (n := 256) (x := (own_fin ((0 : Int32) ^^^ (own_scr (p0 &&& (65535 : Int32)))) (2 : Int32))) at_254 rfl rfl ?_
  refine s_icmpN X16 hx hby (n := 259) at_256 (XT.ii_ne_f (by rw [own_t2 p0])) rfl ?_
  refine s_iconst X16 hx hby (n := 260) (v := (1 : Int32)) at_259 rfl rfl ?_
  refine s_goto X16 hx hby (n := 264) at_260 (by decide) (by decide) ?_
  exact s_retN X16 hx hby hlk hret (t := .boolean) (by simp) (z' := (1 : Int32)) (by decide) at_264 (by decide) (by decide) ⟨rfl, M16⟩
set_option maxRecDepth 65536 in
set_option maxHeartbeats 40000000 in
theorem rm0_3 (l : Launch) (Z : State) (a0 : Array Value) (hw : ∀ d ∈ tables_1, d.before a0 Z = true) (p0 p1 p2 p3 : Int32) (qn : ((p3 &&& (2147483647 : Int32)) % (13 : Int32)) = (3 : Int32)) (h0 : Heap) (n0 : Nat) (Z0 : n0 ≤ h0.size) :
    OCon l Z x code maxLocals ret tables_1 room_1 #[(.int p0), (.int p1), (.int p2), (.int p3)] h0 (fun v h L => v = some (.int 1) ∧ Fr n0 L) := by
  refine con (plainFor_of_name pn0) ?_
  intro p e s m below meth c s₁ hx hby hml hZ hown hnm hret hlk X0 e0
  refine entry (ef0 m p0 p1 p2 p3) ?_
  have M0 := Fr.nil n0
  refine s_iloadN X0 hx hby (n := 1) (x := p3) at_0 rfl rfl ?_
  refine s_ldcI X0 hx hby hZ (n := 3) hown (hw _ (List.mem_of_getElem? (i := 0) rfl)) at_1 rfl ?_
  refine s_iand X0 hx hby (n := 4) at_3 rfl ?_
  refine s_bipush X0 hx hby (n := 6) (v := (13 : Int32)) at_4 rfl rfl ?_
  refine s_irem X0 hx hby (n := 7) at_6 (by decide) rfl ?_
  refine s_fold (z := (3 : Int32)) qn ?_
  refine s_istore X0 hx hby (n := 9) (L' := #[.val (.int p0), .val (.int p1), .val (.int p2), .val (.int p3), .val (.int (3 : Int32)), .unset, .unset, .unset, .unset, .unset, .unset]) at_7 rfl rfl ?_
  refine s_iload X0 hx hby (n := 11) (x := (3 : Int32)) at_9 rfl rfl ?_
  refine s_newP X0 hx hby hZ (n := 13) (hw _ (List.mem_of_getElem? (i := 1) rfl)) (ty := .byte) rfl e0 (by decide) 3 (by decide) (by decide) (by decide) (by decide) at_11 rfl ?_
  intro T1 h1 cA o ho X1 e1 E1 A1
  have S1 : (newA cA .byte (3 : Int32)).slots.size = (3 : Int32).toNatClampNeg := sz_new _ _ _
  have no : n0 ≤ o := by rw [ho]; exact Z0
  refine s_astore X1 hx hby (n := 15) (L' := #[.val (.int p0), .val (.int p1), .val (.int p2), .val (.int p3), .val (.int (3 : Int32)), .val (.ref o), .unset, .unset, .unset, .unset, .unset]) at_13 rfl rfl rfl ?_
  refine s_aload X1 hx hby (n := 17) (x := (.ref o)) at_15 rfl rfl rfl ?_
  refine s_iconst X1 hx hby (n := 18) (v := (0 : Int32)) at_17 rfl rfl ?_
  refine s_iloadN X1 hx hby (n := 19) (x := p0) at_18 rfl rfl ?_
  refine s_callS X1 hx hby hml hZ (n := 22) hown (hw _ (List.mem_of_getElem? (i := 2) rfl)) (hw _ (List.mem_of_getElem? (i := 3) rfl)) (hw _ (List.mem_of_getElem? (i := 4) rfl)) (hw _ (List.mem_of_getElem? (i := 5) rfl)) (by decide) (rmIn l Z a0 hw o (newA cA .byte (3 : Int32)) (3 : Int32) (0 : Int32) p0 0 h1 n0 A1 S1 (by decide) (by decide) (by decide) (by decide) (by rw [S1]; decide) no) e1 (by decide) 0 (by decide) (by decide) (by decide) pd_2 [(.ref o), (.int (0 : Int32)), (.int p0)] [] rfl rfl rfl (Nat.le_of_eq rfl) rfl at_19 rfl ?_
  intro T2 L2 v2 X2 q2c
  obtain ⟨rfl, N2, W2⟩ := q2c
  show OEnds p e below s _ _ _ T2 (mkF m 22 #[.val (.int p0), .val (.int p1), .val (.int p2), .val (.int p3), .val (.int (3 : Int32)), .val (.ref o), .unset, .unset, .unset, .unset, .unset] [])
  obtain ⟨c2, A2, S2, B2_0⟩ : ∃ cc : Cell, Arr Z T2.heap o cc .byte ∧ cc.slots.size = (3 : Int32).toNatClampNeg ∧ cc.slots[0]? = some (.int (nar .byte (p0).toInt8.toInt32)) := ⟨_, A1.same W2, (by rw [sz_set]; exact S1), set_hit (by rw [S1]; decide)⟩
  have M2 := Fr.app M0 N2
  refine s_aload X2 hx hby (n := 24) (x := (.ref o)) at_22 rfl rfl rfl ?_
  refine s_iconst X2 hx hby (n := 25) (v := (1 : Int32)) at_24 rfl rfl ?_
  refine s_iloadN X2 hx hby (n := 26) (x := p0) at_25 rfl rfl ?_
  refine s_bipush X2 hx hby (n := 28) (v := (8 : Int32)) at_26 rfl rfl ?_
  refine s_iushr X2 hx hby (n := 29) at_28 rfl ?_
  refine s_callS X2 hx hby hml hZ (n := 32) hown (hw _ (List.mem_of_getElem? (i := 2) rfl)) (hw _ (List.mem_of_getElem? (i := 3) rfl)) (hw _ (List.mem_of_getElem? (i := 4) rfl)) (hw _ (List.mem_of_getElem? (i := 5) rfl)) (by decide) (rmIn l Z a0 hw o c2 (3 : Int32) (1 : Int32) (XT.ushr p0 (8 : Int32)) 1 T2.heap n0 A2 S2 (by decide) (by decide) (by decide) (by decide) (by rw [S2]; decide) no) rfl (by decide) 0 (by decide) (by decide) (by decide) pd_2 [(.ref o), (.int (1 : Int32)), (.int (XT.ushr p0 (8 : Int32)))] [] rfl rfl rfl (Nat.le_of_eq rfl) rfl at_29 rfl ?_
  intro T3 L3 v3 X3 q3c
  obtain ⟨rfl, N3, W3⟩ := q3c
  show OEnds p e below s _ _ _ T3 (mkF m 32 #[.val (.int p0), .val (.int p1), .val (.int p2), .val (.int p3), .val (.int (3 : Int32)), .val (.ref o), .unset, .unset, .unset, .unset, .unset] [])
  obtain ⟨c3, A3, S3, B3_0, B3_1⟩ : ∃ cc : Cell, Arr Z T3.heap o cc .byte ∧ cc.slots.size = (3 : Int32).toNatClampNeg ∧ cc.slots[0]? = some (.int (nar .byte (p0).toInt8.toInt32)) ∧ cc.slots[1]? = some (.int (nar .byte (XT.ushr p0 (8 : Int32)).toInt8.toInt32)) := ⟨_, A2.same W3, (by rw [sz_set]; exact S2), set_mis B2_0 (by decide), set_hit (by rw [S2]; decide)⟩
  have M3 := Fr.app M2 N3
  refine s_aload X3 hx hby (n := 34) (x := (.ref o)) at_32 rfl rfl rfl ?_
  refine s_iconst X3 hx hby (n := 35) (v := (2 : Int32)) at_34 rfl rfl ?_
  refine s_iloadN X3 hx hby (n := 36) (x := p0) at_35 rfl rfl ?_
  refine s_bipush X3 hx hby (n := 38) (v := (16 : Int32)) at_36 rfl rfl ?_
  refine s_iushr X3 hx hby (n := 39) at_38 rfl ?_
  refine s_callS X3 hx hby hml hZ (n := 42) hown (hw _ (List.mem_of_getElem? (i := 2) rfl)) (hw _ (List.mem_of_getElem? (i := 3) rfl)) (hw _ (List.mem_of_getElem? (i := 4) rfl)) (hw _ (List.mem_of_getElem? (i := 5) rfl)) (by decide) (rmIn l Z a0 hw o c3 (3 : Int32) (2 : Int32) (XT.ushr p0 (16 : Int32)) 2 T3.heap n0 A3 S3 (by decide) (by decide) (by decide) (by decide) (by rw [S3]; decide) no) rfl (by decide) 0 (by decide) (by decide) (by decide) pd_2 [(.ref o), (.int (2 : Int32)), (.int (XT.ushr p0 (16 : Int32)))] [] rfl rfl rfl (Nat.le_of_eq rfl) rfl at_39 rfl ?_
  intro T4 L4 v4 X4 q4c
  obtain ⟨rfl, N4, W4⟩ := q4c
  show OEnds p e below s _ _ _ T4 (mkF m 42 #[.val (.int p0), .val (.int p1), .val (.int p2), .val (.int p3), .val (.int (3 : Int32)), .val (.ref o), .unset, .unset, .unset, .unset, .unset] [])
  obtain ⟨c4, A4, S4, B4_0, B4_1, B4_2⟩ : ∃ cc : Cell, Arr Z T4.heap o cc .byte ∧ cc.slots.size = (3 : Int32).toNatClampNeg ∧ cc.slots[0]? = some (.int (nar .byte (p0).toInt8.toInt32)) ∧ cc.slots[1]? = some (.int (nar .byte (XT.ushr p0 (8 : Int32)).toInt8.toInt32)) ∧ cc.slots[2]? = some (.int (nar .byte (XT.ushr p0 (16 : Int32)).toInt8.toInt32)) := ⟨_, A3.same W4, (by rw [sz_set]; exact S3), set_mis B3_0 (by decide), set_mis B3_1 (by decide), set_hit (by rw [S3]; decide)⟩
  have M4 := Fr.app M3 N4
  refine s_aload X4 hx hby (n := 44) (x := (.ref o)) at_42 rfl rfl rfl ?_
  refine s_iconst X4 hx hby (n := 45) (v := (3 : Int32)) at_44 rfl rfl ?_
  refine s_iloadN X4 hx hby (n := 46) (x := p0) at_45 rfl rfl ?_
  refine s_bipush X4 hx hby (n := 48) (v := (24 : Int32)) at_46 rfl rfl ?_
  refine s_iushr X4 hx hby (n := 49) at_48 rfl ?_
  refine s_callS X4 hx hby hml hZ (n := 52) hown (hw _ (List.mem_of_getElem? (i := 2) rfl)) (hw _ (List.mem_of_getElem? (i := 3) rfl)) (hw _ (List.mem_of_getElem? (i := 4) rfl)) (hw _ (List.mem_of_getElem? (i := 5) rfl)) (by decide) (rmOut l Z a0 hw o c4 (3 : Int32) (3 : Int32) (XT.ushr p0 (24 : Int32)) T4.heap n0 A4 S4 (by decide) (by decide)) rfl (by decide) 0 (by decide) (by decide) (by decide) pd_2 [(.ref o), (.int (3 : Int32)), (.int (XT.ushr p0 (24 : Int32)))] [] rfl rfl rfl (Nat.le_of_eq rfl) rfl at_49 rfl ?_
  intro T5 L5 v5 X5 q5c
  obtain ⟨rfl, e5, N5⟩ := q5c
  show OEnds p e below s _ _ _ T5 (mkF m 52 #[.val (.int p0), .val (.int p1), .val (.int p2), .val (.int p3), .val (.int (3 : Int32)), .val (.ref o), .unset, .unset, .unset, .unset, .unset] [])
  have M5 := Fr.app M4 N5
  refine s_aload X5 hx hby (n := 54) (x := (.ref o)) at_52 rfl rfl rfl ?_
  refine s_iconst X5 hx hby (n := 55) (v := (4 : Int32)) at_54 rfl rfl ?_
  refine s_iloadN X5 hx hby (n := 56) (x := p1) at_55 rfl rfl ?_
  refine s_callS X5 hx hby hml hZ (n := 59) hown (hw _ (List.mem_of_getElem? (i := 2) rfl)) (hw _ (List.mem_of_getElem? (i := 3) rfl)) (hw _ (List.mem_of_getElem? (i := 4) rfl)) (hw _ (List.mem_of_getElem? (i := 5) rfl)) (by decide) (rmOut l Z a0 hw o c4 (3 : Int32) (4 : Int32) p1 T4.heap n0 A4 S4 (by decide) (by decide)) e5 (by decide) 0 (by decide) (by decide) (by decide) pd_2 [(.ref o), (.int (4 : Int32)), (.int p1)] [] rfl rfl rfl (Nat.le_of_eq rfl) rfl at_56 rfl ?_
  intro T6 L6 v6 X6 q6c
  obtain ⟨rfl, e6, N6⟩ := q6c
  show OEnds p e below s _ _ _ T6 (mkF m 59 #[.val (.int p0), .val (.int p1), .val (.int p2), .val (.int p3), .val (.int (3 : Int32)), .val (.ref o), .unset, .unset, .unset, .unset, .unset] [])
  have M6 := Fr.app M5 N6
  refine s_aload X6 hx hby (n := 61) (x := (.ref o)) at_59 rfl rfl rfl ?_
  refine s_iconst X6 hx hby (n := 62) (v := (5 : Int32)) at_61 rfl rfl ?_
  refine s_iloadN X6 hx hby (n := 63) (x := p1) at_62 rfl rfl ?_
  refine s_bipush X6 hx hby (n := 65) (v := (8 : Int32)) at_63 rfl rfl ?_
  refine s_iushr X6 hx hby (n := 66) at_65 rfl ?_
  refine s_callS X6 hx hby hml hZ (n := 69) hown (hw _ (List.mem_of_getElem? (i := 2) rfl)) (hw _ (List.mem_of_getElem? (i := 3) rfl)) (hw _ (List.mem_of_getElem? (i := 4) rfl)) (hw _ (List.mem_of_getElem? (i := 5) rfl)) (by decide) (rmOut l Z a0 hw o c4 (3 : Int32) (5 : Int32) (XT.ushr p1 (8 : Int32)) T4.heap n0 A4 S4 (by decide) (by decide)) e6 (by decide) 0 (by decide) (by decide) (by decide) pd_2 [(.ref o), (.int (5 : Int32)), (.int (XT.ushr p1 (8 : Int32)))] [] rfl rfl rfl (Nat.le_of_eq rfl) rfl at_66 rfl ?_
  intro T7 L7 v7 X7 q7c
  obtain ⟨rfl, e7, N7⟩ := q7c
  show OEnds p e below s _ _ _ T7 (mkF m 69 #[.val (.int p0), .val (.int p1), .val (.int p2), .val (.int p3), .val (.int (3 : Int32)), .val (.ref o), .unset, .unset, .unset, .unset, .unset] [])
  have M7 := Fr.app M6 N7
  refine s_aload X7 hx hby (n := 71) (x := (.ref o)) at_69 rfl rfl rfl ?_
  refine s_bipush X7 hx hby (n := 73) (v := (6 : Int32)) at_71 rfl rfl ?_
  refine s_iloadN X7 hx hby (n := 74) (x := p1) at_73 rfl rfl ?_
  refine s_bipush X7 hx hby (n := 76) (v := (16 : Int32)) at_74 rfl rfl ?_
  refine s_iushr X7 hx hby (n := 77) at_76 rfl ?_
  refine s_callS X7 hx hby hml hZ (n := 80) hown (hw _ (List.mem_of_getElem? (i := 2) rfl)) (hw _ (List.mem_of_getElem? (i := 3) rfl)) (hw _ (List.mem_of_getElem? (i := 4) rfl)) (hw _ (List.mem_of_getElem? (i := 5) rfl)) (by decide) (rmOut l Z a0 hw o c4 (3 : Int32) (6 : Int32) (XT.ushr p1 (16 : Int32)) T4.heap n0 A4 S4 (by decide) (by decide)) e7 (by decide) 0 (by decide) (by decide) (by decide) pd_2 [(.ref o), (.int (6 : Int32)), (.int (XT.ushr p1 (16 : Int32)))] [] rfl rfl rfl (Nat.le_of_eq rfl) rfl at_77 rfl ?_
  intro T8 L8 v8 X8 q8c
  obtain ⟨rfl, e8, N8⟩ := q8c
  show OEnds p e below s _ _ _ T8 (mkF m 80 #[.val (.int p0), .val (.int p1), .val (.int p2), .val (.int p3), .val (.int (3 : Int32)), .val (.ref o), .unset, .unset, .unset, .unset, .unset] [])
  have M8 := Fr.app M7 N8
  refine s_aload X8 hx hby (n := 82) (x := (.ref o)) at_80 rfl rfl rfl ?_
  refine s_bipush X8 hx hby (n := 84) (v := (7 : Int32)) at_82 rfl rfl ?_
  refine s_iloadN X8 hx hby (n := 85) (x := p1) at_84 rfl rfl ?_
  refine s_bipush X8 hx hby (n := 87) (v := (24 : Int32)) at_85 rfl rfl ?_
  refine s_iushr X8 hx hby (n := 88) at_87 rfl ?_
  refine s_callS X8 hx hby hml hZ (n := 91) hown (hw _ (List.mem_of_getElem? (i := 2) rfl)) (hw _ (List.mem_of_getElem? (i := 3) rfl)) (hw _ (List.mem_of_getElem? (i := 4) rfl)) (hw _ (List.mem_of_getElem? (i := 5) rfl)) (by decide) (rmOut l Z a0 hw o c4 (3 : Int32) (7 : Int32) (XT.ushr p1 (24 : Int32)) T4.heap n0 A4 S4 (by decide) (by decide)) e8 (by decide) 0 (by decide) (by decide) (by decide) pd_2 [(.ref o), (.int (7 : Int32)), (.int (XT.ushr p1 (24 : Int32)))] [] rfl rfl rfl (Nat.le_of_eq rfl) rfl at_88 rfl ?_
  intro T9 L9 v9 X9 q9c
  obtain ⟨rfl, e9, N9⟩ := q9c
  show OEnds p e below s _ _ _ T9 (mkF m 91 #[.val (.int p0), .val (.int p1), .val (.int p2), .val (.int p3), .val (.int (3 : Int32)), .val (.ref o), .unset, .unset, .unset, .unset, .unset] [])
  have M9 := Fr.app M8 N9
  refine s_aload X9 hx hby (n := 93) (x := (.ref o)) at_91 rfl rfl rfl ?_
  refine s_bipush X9 hx hby (n := 95) (v := (8 : Int32)) at_93 rfl rfl ?_
  refine s_iloadN X9 hx hby (n := 96) (x := p2) at_95 rfl rfl ?_
  refine s_callS X9 hx hby hml hZ (n := 99) hown (hw _ (List.mem_of_getElem? (i := 2) rfl)) (hw _ (List.mem_of_getElem? (i := 3) rfl)) (hw _ (List.mem_of_getElem? (i := 4) rfl)) (hw _ (List.mem_of_getElem? (i := 5) rfl)) (by decide) (rmOut l Z a0 hw o c4 (3 : Int32) (8 : Int32) p2 T4.heap n0 A4 S4 (by decide) (by decide)) e9 (by decide) 0 (by decide) (by decide) (by decide) pd_2 [(.ref o), (.int (8 : Int32)), (.int p2)] [] rfl rfl rfl (Nat.le_of_eq rfl) rfl at_96 rfl ?_
  intro T10 L10 v10 X10 q10c
  obtain ⟨rfl, e10, N10⟩ := q10c
  show OEnds p e below s _ _ _ T10 (mkF m 99 #[.val (.int p0), .val (.int p1), .val (.int p2), .val (.int p3), .val (.int (3 : Int32)), .val (.ref o), .unset, .unset, .unset, .unset, .unset] [])
  have M10 := Fr.app M9 N10
  refine s_aload X10 hx hby (n := 101) (x := (.ref o)) at_99 rfl rfl rfl ?_
  refine s_bipush X10 hx hby (n := 103) (v := (9 : Int32)) at_101 rfl rfl ?_
  refine s_iloadN X10 hx hby (n := 104) (x := p2) at_103 rfl rfl ?_
  refine s_bipush X10 hx hby (n := 106) (v := (8 : Int32)) at_104 rfl rfl ?_
  refine s_iushr X10 hx hby (n := 107) at_106 rfl ?_
  refine s_callS X10 hx hby hml hZ (n := 110) hown (hw _ (List.mem_of_getElem? (i := 2) rfl)) (hw _ (List.mem_of_getElem? (i := 3) rfl)) (hw _ (List.mem_of_getElem? (i := 4) rfl)) (hw _ (List.mem_of_getElem? (i := 5) rfl)) (by decide) (rmOut l Z a0 hw o c4 (3 : Int32) (9 : Int32) (XT.ushr p2 (8 : Int32)) T4.heap n0 A4 S4 (by decide) (by decide)) e10 (by decide) 0 (by decide) (by decide) (by decide) pd_2 [(.ref o), (.int (9 : Int32)), (.int (XT.ushr p2 (8 : Int32)))] [] rfl rfl rfl (Nat.le_of_eq rfl) rfl at_107 rfl ?_
  intro T11 L11 v11 X11 q11c
  obtain ⟨rfl, e11, N11⟩ := q11c
  show OEnds p e below s _ _ _ T11 (mkF m 110 #[.val (.int p0), .val (.int p1), .val (.int p2), .val (.int p3), .val (.int (3 : Int32)), .val (.ref o), .unset, .unset, .unset, .unset, .unset] [])
  have M11 := Fr.app M10 N11
  refine s_aload X11 hx hby (n := 112) (x := (.ref o)) at_110 rfl rfl rfl ?_
  refine s_bipush X11 hx hby (n := 114) (v := (10 : Int32)) at_112 rfl rfl ?_
  refine s_iloadN X11 hx hby (n := 115) (x := p2) at_114 rfl rfl ?_
  refine s_bipush X11 hx hby (n := 117) (v := (16 : Int32)) at_115 rfl rfl ?_
  refine s_iushr X11 hx hby (n := 118) at_117 rfl ?_
  refine s_callS X11 hx hby hml hZ (n := 121) hown (hw _ (List.mem_of_getElem? (i := 2) rfl)) (hw _ (List.mem_of_getElem? (i := 3) rfl)) (hw _ (List.mem_of_getElem? (i := 4) rfl)) (hw _ (List.mem_of_getElem? (i := 5) rfl)) (by decide) (rmOut l Z a0 hw o c4 (3 : Int32) (10 : Int32) (XT.ushr p2 (16 : Int32)) T4.heap n0 A4 S4 (by decide) (by decide)) e11 (by decide) 0 (by decide) (by decide) (by decide) pd_2 [(.ref o), (.int (10 : Int32)), (.int (XT.ushr p2 (16 : Int32)))] [] rfl rfl rfl (Nat.le_of_eq rfl) rfl at_118 rfl ?_
  intro T12 L12 v12 X12 q12c
  obtain ⟨rfl, e12, N12⟩ := q12c
  show OEnds p e below s _ _ _ T12 (mkF m 121 #[.val (.int p0), .val (.int p1), .val (.int p2), .val (.int p3), .val (.int (3 : Int32)), .val (.ref o), .unset, .unset, .unset, .unset, .unset] [])
  have M12 := Fr.app M11 N12
  refine s_aload X12 hx hby (n := 123) (x := (.ref o)) at_121 rfl rfl rfl ?_
  refine s_bipush X12 hx hby (n := 125) (v := (11 : Int32)) at_123 rfl rfl ?_
  refine s_iloadN X12 hx hby (n := 126) (x := p2) at_125 rfl rfl ?_
  refine s_bipush X12 hx hby (n := 128) (v := (24 : Int32)) at_126 rfl rfl ?_
  refine s_iushr X12 hx hby (n := 129) at_128 rfl ?_
  refine s_callS X12 hx hby hml hZ (n := 132) hown (hw _ (List.mem_of_getElem? (i := 2) rfl)) (hw _ (List.mem_of_getElem? (i := 3) rfl)) (hw _ (List.mem_of_getElem? (i := 4) rfl)) (hw _ (List.mem_of_getElem? (i := 5) rfl)) (by decide) (rmOut l Z a0 hw o c4 (3 : Int32) (11 : Int32) (XT.ushr p2 (24 : Int32)) T4.heap n0 A4 S4 (by decide) (by decide)) e12 (by decide) 0 (by decide) (by decide) (by decide) pd_2 [(.ref o), (.int (11 : Int32)), (.int (XT.ushr p2 (24 : Int32)))] [] rfl rfl rfl (Nat.le_of_eq rfl) rfl at_129 rfl ?_
  intro T13 L13 v13 X13 q13c
  obtain ⟨rfl, e13, N13⟩ := q13c
  show OEnds p e below s _ _ _ T13 (mkF m 132 #[.val (.int p0), .val (.int p1), .val (.int p2), .val (.int p3), .val (.int (3 : Int32)), .val (.ref o), .unset, .unset, .unset, .unset, .unset] [])
  have M13 := Fr.app M12 N13
  refine s_iload X13 hx hby (n := 134) (x := (3 : Int32)) at_132 rfl rfl ?_
  refine s_iconst X13 hx hby (n := 135) (v := (2 : Int32)) at_134 rfl rfl ?_
  refine s_iushr X13 hx hby (n := 136) at_135 rfl ?_
  refine s_fold (z := (0 : Int32)) (by decide) ?_
  refine s_istore X13 hx hby (n := 138) (L' := #[.val (.int p0), .val (.int p1), .val (.int p2), .val (.int p3), .val (.int (3 : Int32)), .val (.ref o), .val (.int (0 : Int32)), .unset, .unset, .unset, .unset]) at_136 rfl rfl ?_
  refine s_iload X13 hx hby (n := 140) (x := (3 : Int32)) at_138 rfl rfl ?_
  refine s_iconst X13 hx hby (n := 141) (v := (3 : Int32)) at_140 rfl rfl ?_
  refine s_iand X13 hx hby (n := 142) at_141 rfl ?_
  refine s_fold (z := (3 : Int32)) (by decide) ?_
  refine s_istore X13 hx hby (n := 144) (L' := #[.val (.int p0), .val (.int p1), .val (.int p2), .val (.int p3), .val (.int (3 : Int32)), .val (.ref o), .val (.int (0 : Int32)), .val (.int (3 : Int32)), .unset, .unset, .unset]) at_142 rfl rfl ?_
  refine s_iconst X13 hx hby (n := 145) (v := (0 : Int32)) at_144 rfl rfl ?_
  refine s_istore X13 hx hby (n := 147) (L' := #[.val (.int p0), .val (.int p1), .val (.int p2), .val (.int p3), .val (.int (3 : Int32)), .val (.ref o), .val (.int (0 : Int32)), .val (.int (3 : Int32)), .val (.int (0 : Int32)), .unset, .unset]) at_145 rfl rfl ?_
  refine s_iload X13 hx hby (n := 149) (x := (0 : Int32)) at_147 rfl rfl ?_
  refine s_iconst X13 hx hby (n := 150) (v := (1 : Int32)) at_149 rfl rfl ?_
  refine s_icmpY X13 hx hby (n := 161) at_150 (by decide) (by decide) (by decide) ?_
  refine s_iload X13 hx hby (n := 163) (x := (0 : Int32)) at_161 rfl rfl ?_
  refine s_iconst X13 hx hby (n := 164) (v := (2 : Int32)) at_163 rfl rfl ?_
  refine s_icmpY X13 hx hby (n := 175) at_164 (by decide) (by decide) (by decide) ?_
  refine s_iload X13 hx hby (n := 177) (x := (0 : Int32)) at_175 rfl rfl ?_
  refine s_iconst X13 hx hby (n := 178) (v := (3 : Int32)) at_177 rfl rfl ?_
  refine s_icmpY X13 hx hby (n := 189) at_178 (by decide) (by decide) (by decide) ?_
  refine s_iload X13 hx hby (n := 191) (x := (3 : Int32)) at_189 rfl rfl ?_
  refine s_ifN X13 hx hby (n := 194) at_191 (by decide) rfl ?_
  refine s_iload X13 hx hby (n := 196) (x := (0 : Int32)) at_194 rfl rfl ?_
  refine s_ifN X13 hx hby (n := 199) at_196 (by decide) rfl ?_
  refine s_iloadN X13 hx hby (n := 200) (x := p0) at_199 rfl rfl ?_
  refine s_goto X13 hx hby (n := 214) at_200 (by decide) (by decide) ?_
  refine s_istore X13 hx hby (n := 216) (L' := #[.val (.int p0), .val (.int p1), .val (.int p2), .val (.int p3), .val (.int (3 : Int32)), .val (.ref o), .val (.int (0 : Int32)), .val (.int (3 : Int32)), .val (.int (0 : Int32)), .val (.int p0), .unset]) at_214 rfl rfl ?_
  refine s_iload X13 hx hby (n := 218) (x := p0) at_216 rfl rfl ?_
  refine s_iconst X13 hx hby (n := 219) (v := (1 : Int32)) at_218 rfl rfl ?_
  refine s_bipush X13 hx hby (n := 221) (v := (8 : Int32)) at_219 rfl rfl ?_
  refine s_iload X13 hx hby (n := 223) (x := (3 : Int32)) at_221 rfl rfl ?_
  refine s_imul X13 hx hby (n := 224) at_223 rfl ?_
  refine s_fold (z := (24 : Int32)) (by decide) ?_
  refine s_ishl X13 hx hby (n := 225) at_224 rfl ?_
  refine s_fold (z := (16777216 : Int32)) (by decide) ?_
  refine s_iconst X13 hx hby (n := 226) (v := (1 : Int32)) at_225 rfl rfl ?_
  refine s_isub X13 hx hby (n := 227) at_226 rfl ?_
  refine s_fold (z := (16777215 : Int32)) (by decide) ?_
  refine s_iand X13 hx hby (n := 228) at_227 rfl ?_
  refine s_istore X13 hx hby (n := 230) (L' := #[.val (.int p0), .val (.int p1), .val (.int p2), .val (.int p3), .val (.int (3 : Int32)), .val (.ref o), .val (.int (0 : Int32)), .val (.int (3 : Int32)), .val (.int (0 : Int32)), .val (.int p0), .val (.int (p0 &&& (16777215 : Int32)))]) at_228 rfl rfl ?_
  refine s_iload X13 hx hby (n := 232) (x := (0 : Int32)) at_230 rfl rfl ?_
  refine s_iload X13 hx hby (n := 234) (x := (p0 &&& (16777215 : Int32))) at_232 rfl rfl ?_
  refine s_callS X13 hx hby hml hZ (n := 237) hown (hw _ (List.mem_of_getElem? (i := 6) rfl)) (hw _ (List.mem_of_getElem? (i := 7) rfl)) (hw _ (List.mem_of_getElem? (i := 4) rfl)) (hw _ (List.mem_of_getElem? (i := 8) rfl)) (by decide) (rmScr' l Z a0 hw (p0 &&& (16777215 : Int32)) T4.heap n0) e13 (by decide) 1 (by decide) (by decide) (by decide) pd_1 [(.int (p0 &&& (16777215 : Int32)))] [(.int (0 : Int32))] rfl rfl rfl (Nat.le_of_eq rfl) rfl at_234 rfl ?_
  intro T14 L14 v14 X14 q14c
  obtain ⟨rfl, e14, N14⟩ := q14c
  show OEnds p e below s _ _ _ T14 (mkF m 237 #[.val (.int p0), .val (.int p1), .val (.int p2), .val (.int p3), .val (.int (3 : Int32)), .val (.ref o), .val (.int (0 : Int32)), .val (.int (3 : Int32)), .val (.int (0 : Int32)), .val (.int p0), .val (.int (p0 &&& (16777215 : Int32)))] [(.int (own_scr (p0 &&& (16777215 : Int32)))), (.int (0 : Int32))])
  have M14 := Fr.app M13 N14
  refine s_ixor X14 hx hby (n := 238) at_237 rfl ?_
  refine s_istore X14 hx hby (n := 240) (L' := #[.val (.int p0), .val (.int p1), .val (.int p2), .val (.int p3), .val (.int (3 : Int32)), .val (.ref o), .val (.int (0 : Int32)), .val (.int (3 : Int32)), .val (.int ((0 : Int32) ^^^ (own_scr (p0 &&& (16777215 : Int32))))), .val (.int p0), .val (.int (p0 &&& (16777215 : Int32)))]) at_238 rfl rfl ?_
  refine s_iload X14 hx hby (n := 242) (x := ((0 : Int32) ^^^ (own_scr (p0 &&& (16777215 : Int32))))) at_240 rfl rfl ?_
  refine s_iload X14 hx hby (n := 244) (x := (3 : Int32)) at_242 rfl rfl ?_
  refine s_callS X14 hx hby hml hZ (n := 247) hown (hw _ (List.mem_of_getElem? (i := 14) rfl)) (hw _ (List.mem_of_getElem? (i := 15) rfl)) (hw _ (List.mem_of_getElem? (i := 4) rfl)) (hw _ (List.mem_of_getElem? (i := 16) rfl)) (by decide) (rmFin' l Z a0 hw ((0 : Int32) ^^^ (own_scr (p0 &&& (16777215 : Int32)))) (3 : Int32) T4.heap n0) e14 (by decide) 0 (by decide) (by decide) (by decide) pd_0 [(.int ((0 : Int32) ^^^ (own_scr (p0 &&& (16777215 : Int32))))), (.int (3 : Int32))] [] rfl rfl rfl (Nat.le_of_eq rfl) rfl at_244 rfl ?_
  intro T15 L15 v15 X15 q15c
  obtain ⟨rfl, e15, N15⟩ := q15c
  show OEnds p e below s _ _ _ T15 (mkF m 247 #[.val (.int p0), .val (.int p1), .val (.int p2), .val (.int p3), .val (.int (3 : Int32)), .val (.ref o), .val (.int (0 : Int32)), .val (.int (3 : Int32)), .val (.int ((0 : Int32) ^^^ (own_scr (p0 &&& (16777215 : Int32))))), .val (.int p0), .val (.int (p0 &&& (16777215 : Int32)))] [(.int (own_fin ((0 : Int32) ^^^ (own_scr (p0 &&& (16777215 : Int32)))) (3 : Int32)))])
  have M15 := Fr.app M14 N15
  refine s_istore X15 hx hby (n := 249) (L' := #[.val (.int p0), .val (.int p1), .val (.int p2), .val (.int p3), .val (.int (3 : Int32)), .val (.ref o), .val (.int (0 : Int32)), .val (.int (3 : Int32)), .val (.int ((0 : Int32) ^^^ (own_scr (p0 &&& (16777215 : Int32))))), .val (.int (own_fin ((0 : Int32) ^^^ (own_scr (p0 &&& (16777215 : Int32)))) (3 : Int32))), .val (.int (p0 &&& (16777215 : Int32)))]) at_247 rfl rfl ?_
  refine s_aload X15 hx hby (n := 251) (x := (.ref o)) at_249 rfl rfl rfl ?_
  refine s_callS X15 hx hby hml hZ (n := 254) hown (hw _ (List.mem_of_getElem? (i := 19) rfl)) (hw _ (List.mem_of_getElem? (i := 20) rfl)) (hw _ (List.mem_of_getElem? (i := 21) rfl)) (hw _ (List.mem_of_getElem? (i := 22) rfl)) (by decide) (rmH3 l Z a0 hw o c4 (nar .byte (p0).toInt8.toInt32) (nar .byte (XT.ushr p0 (8 : Int32)).toInt8.toInt32) (nar .byte (XT.ushr p0 (16 : Int32)).toInt8.toInt32) T4.heap n0 A4 S4 B4_0 B4_1 B4_2) e15 (by decide) 0 (by decide) (by decide) (by decide) pd_3 [(.ref o)] [] rfl rfl rfl (Nat.le_of_eq rfl) rfl at_251 rfl ?_
  intro T16 L16 v16 X16 q16c
  obtain ⟨rfl, e16, N16⟩ := q16c
  show OEnds p e below s _ _ _ T16 (mkF m 254 #[.val (.int p0), .val (.int p1), .val (.int p2), .val (.int p3), .val (.int (3 : Int32)), .val (.ref o), .val (.int (0 : Int32)), .val (.int (3 : Int32)), .val (.int ((0 : Int32) ^^^ (own_scr (p0 &&& (16777215 : Int32))))), .val (.int (own_fin ((0 : Int32) ^^^ (own_scr (p0 &&& (16777215 : Int32)))) (3 : Int32))), .val (.int (p0 &&& (16777215 : Int32)))] [(.int (own_fin ((0 : Int32) ^^^ (own_scr ((((((0 : Int32) ||| ((nar .byte (XT.ushr p0 (16 : Int32)).toInt8.toInt32) &&& (255 : Int32))) <<< ((8 : Int32) &&& 31)) ||| ((nar .byte (XT.ushr p0 (8 : Int32)).toInt8.toInt32) &&& (255 : Int32))) <<< ((8 : Int32) &&& 31)) ||| ((nar .byte (p0).toInt8.toInt32) &&& (255 : Int32))))) (3 : Int32)))])
  have M16 := Fr.app M15 N16
  refine s_iload X16 hx hby (n := 256) (x := (own_fin ((0 : Int32) ^^^ (own_scr (p0 &&& (16777215 : Int32)))) (3 : Int32))) at_254 rfl rfl ?_
  refine s_icmpN X16 hx hby (n := 259) at_256 (XT.ii_ne_f (by rw [own_t3 p0])) rfl ?_
  refine s_iconst X16 hx hby (n := 260) (v := (1 : Int32)) at_259 rfl rfl ?_
  refine s_goto X16 hx hby (n := 264) at_260 (by decide) (by decide) ?_
  exact s_retN X16 hx hby hlk hret (t := .boolean) (by simp) (z' := (1 : Int32)) (by decide) at_264 (by decide) (by decide) ⟨rfl, M16⟩
set_option maxRecDepth 65536 in
set_option maxHeartbeats 40000000 in
theorem rm0_4 (l : Launch) (Z : State) (a0 : Array Value) (hw : ∀ d ∈ tables_1, d.before a0 Z = true) (p0 p1 p2 p3 : Int32) (qn : ((p3 &&& (2147483647 : Int32)) % (13 : Int32)) = (4 : Int32)) (h0 : Heap) (n0 : Nat) (Z0 : n0 ≤ h0.size) :
    OCon l Z x code maxLocals ret tables_1 room_1 #[(.int p0), (.int p1), (.int p2), (.int p3)] h0 (fun v h L => v = some (.int 1) ∧ Fr n0 L) := by
  refine con (plainFor_of_name pn0) ?_
  intro p e s m below meth c s₁ hx hby hml hZ hown hnm hret hlk X0 e0
  refine entry (ef0 m p0 p1 p2 p3) ?_
  have M0 := Fr.nil n0
  refine s_iloadN X0 hx hby (n := 1) (x := p3) at_0 rfl rfl ?_
  refine s_ldcI X0 hx hby hZ (n := 3) hown (hw _ (List.mem_of_getElem? (i := 0) rfl)) at_1 rfl ?_
  refine s_iand X0 hx hby (n := 4) at_3 rfl ?_
  refine s_bipush X0 hx hby (n := 6) (v := (13 : Int32)) at_4 rfl rfl ?_
  refine s_irem X0 hx hby (n := 7) at_6 (by decide) rfl ?_
  refine s_fold (z := (4 : Int32)) qn ?_
  refine s_istore X0 hx hby (n := 9) (L' := #[.val (.int p0), .val (.int p1), .val (.int p2), .val (.int p3), .val (.int (4 : Int32)), .unset, .unset, .unset, .unset, .unset, .unset]) at_7 rfl rfl ?_
  refine s_iload X0 hx hby (n := 11) (x := (4 : Int32)) at_9 rfl rfl ?_
  refine s_newP X0 hx hby hZ (n := 13) (hw _ (List.mem_of_getElem? (i := 1) rfl)) (ty := .byte) rfl e0 (by decide) 4 (by decide) (by decide) (by decide) (by decide) at_11 rfl ?_
  intro T1 h1 cA o ho X1 e1 E1 A1
  have S1 : (newA cA .byte (4 : Int32)).slots.size = (4 : Int32).toNatClampNeg := sz_new _ _ _
  have no : n0 ≤ o := by rw [ho]; exact Z0
  refine s_astore X1 hx hby (n := 15) (L' := #[.val (.int p0), .val (.int p1), .val (.int p2), .val (.int p3), .val (.int (4 : Int32)), .val (.ref o), .unset, .unset, .unset, .unset, .unset]) at_13 rfl rfl rfl ?_
  refine s_aload X1 hx hby (n := 17) (x := (.ref o)) at_15 rfl rfl rfl ?_
  refine s_iconst X1 hx hby (n := 18) (v := (0 : Int32)) at_17 rfl rfl ?_
  refine s_iloadN X1 hx hby (n := 19) (x := p0) at_18 rfl rfl ?_
  refine s_callS X1 hx hby hml hZ (n := 22) hown (hw _ (List.mem_of_getElem? (i := 2) rfl)) (hw _ (List.mem_of_getElem? (i := 3) rfl)) (hw _ (List.mem_of_getElem? (i := 4) rfl)) (hw _ (List.mem_of_getElem? (i := 5) rfl)) (by decide) (rmIn l Z a0 hw o (newA cA .byte (4 : Int32)) (4 : Int32) (0 : Int32) p0 0 h1 n0 A1 S1 (by decide) (by decide) (by decide) (by decide) (by rw [S1]; decide) no) e1 (by decide) 0 (by decide) (by decide) (by decide) pd_2 [(.ref o), (.int (0 : Int32)), (.int p0)] [] rfl rfl rfl (Nat.le_of_eq rfl) rfl at_19 rfl ?_
  intro T2 L2 v2 X2 q2c
  obtain ⟨rfl, N2, W2⟩ := q2c
  show OEnds p e below s _ _ _ T2 (mkF m 22 #[.val (.int p0), .val (.int p1), .val (.int p2), .val (.int p3), .val (.int (4 : Int32)), .val (.ref o), .unset, .unset, .unset, .unset, .unset] [])
  obtain ⟨c2, A2, S2, B2_0⟩ : ∃ cc : Cell, Arr Z T2.heap o cc .byte ∧ cc.slots.size = (4 : Int32).toNatClampNeg ∧ cc.slots[0]? = some (.int (nar .byte (p0).toInt8.toInt32)) := ⟨_, A1.same W2, (by rw [sz_set]; exact S1), set_hit (by rw [S1]; decide)⟩
  have M2 := Fr.app M0 N2
  refine s_aload X2 hx hby (n := 24) (x := (.ref o)) at_22 rfl rfl rfl ?_
  refine s_iconst X2 hx hby (n := 25) (v := (1 : Int32)) at_24 rfl rfl ?_
  refine s_iloadN X2 hx hby (n := 26) (x := p0) at_25 rfl rfl ?_
  refine s_bipush X2 hx hby (n := 28) (v := (8 : Int32)) at_26 rfl rfl ?_
  refine s_iushr X2 hx hby (n := 29) at_28 rfl ?_
  refine s_callS X2 hx hby hml hZ (n := 32) hown (hw _ (List.mem_of_getElem? (i := 2) rfl)) (hw _ (List.mem_of_getElem? (i := 3) rfl)) (hw _ (List.mem_of_getElem? (i := 4) rfl)) (hw _ (List.mem_of_getElem? (i := 5) rfl)) (by decide) (rmIn l Z a0 hw o c2 (4 : Int32) (1 : Int32) (XT.ushr p0 (8 : Int32)) 1 T2.heap n0 A2 S2 (by decide) (by decide) (by decide) (by decide) (by rw [S2]; decide) no) rfl (by decide) 0 (by decide) (by decide) (by decide) pd_2 [(.ref o), (.int (1 : Int32)), (.int (XT.ushr p0 (8 : Int32)))] [] rfl rfl rfl (Nat.le_of_eq rfl) rfl at_29 rfl ?_
  intro T3 L3 v3 X3 q3c
  obtain ⟨rfl, N3, W3⟩ := q3c
  show OEnds p e below s _ _ _ T3 (mkF m 32 #[.val (.int p0), .val (.int p1), .val (.int p2), .val (.int p3), .val (.int (4 : Int32)), .val (.ref o), .unset, .unset, .unset, .unset, .unset] [])
  obtain ⟨c3, A3, S3, B3_0, B3_1⟩ : ∃ cc : Cell, Arr Z T3.heap o cc .byte ∧ cc.slots.size = (4 : Int32).toNatClampNeg ∧ cc.slots[0]? = some (.int (nar .byte (p0).toInt8.toInt32)) ∧ cc.slots[1]? = some (.int (nar .byte (XT.ushr p0 (8 : Int32)).toInt8.toInt32)) := ⟨_, A2.same W3, (by rw [sz_set]; exact S2), set_mis B2_0 (by decide), set_hit (by rw [S2]; decide)⟩
  have M3 := Fr.app M2 N3
  refine s_aload X3 hx hby (n := 34) (x := (.ref o)) at_32 rfl rfl rfl ?_
  refine s_iconst X3 hx hby (n := 35) (v := (2 : Int32)) at_34 rfl rfl ?_
  refine s_iloadN X3 hx hby (n := 36) (x := p0) at_35 rfl rfl ?_
  refine s_bipush X3 hx hby (n := 38) (v := (16 : Int32)) at_36 rfl rfl ?_
  refine s_iushr X3 hx hby (n := 39) at_38 rfl ?_
  refine s_callS X3 hx hby hml hZ (n := 42) hown (hw _ (List.mem_of_getElem? (i := 2) rfl)) (hw _ (List.mem_of_getElem? (i := 3) rfl)) (hw _ (List.mem_of_getElem? (i := 4) rfl)) (hw _ (List.mem_of_getElem? (i := 5) rfl)) (by decide) (rmIn l Z a0 hw o c3 (4 : Int32) (2 : Int32) (XT.ushr p0 (16 : Int32)) 2 T3.heap n0 A3 S3 (by decide) (by decide) (by decide) (by decide) (by rw [S3]; decide) no) rfl (by decide) 0 (by decide) (by decide) (by decide) pd_2 [(.ref o), (.int (2 : Int32)), (.int (XT.ushr p0 (16 : Int32)))] [] rfl rfl rfl (Nat.le_of_eq rfl) rfl at_39 rfl ?_
  intro T4 L4 v4 X4 q4c
  obtain ⟨rfl, N4, W4⟩ := q4c
  show OEnds p e below s _ _ _ T4 (mkF m 42 #[.val (.int p0), .val (.int p1), .val (.int p2), .val (.int p3), .val (.int (4 : Int32)), .val (.ref o), .unset, .unset, .unset, .unset, .unset] [])
  obtain ⟨c4, A4, S4, B4_0, B4_1, B4_2⟩ : ∃ cc : Cell, Arr Z T4.heap o cc .byte ∧ cc.slots.size = (4 : Int32).toNatClampNeg ∧ cc.slots[0]? = some (.int (nar .byte (p0).toInt8.toInt32)) ∧ cc.slots[1]? = some (.int (nar .byte (XT.ushr p0 (8 : Int32)).toInt8.toInt32)) ∧ cc.slots[2]? = some (.int (nar .byte (XT.ushr p0 (16 : Int32)).toInt8.toInt32)) := ⟨_, A3.same W4, (by rw [sz_set]; exact S3), set_mis B3_0 (by decide), set_mis B3_1 (by decide), set_hit (by rw [S3]; decide)⟩
  have M4 := Fr.app M3 N4
  refine s_aload X4 hx hby (n := 44) (x := (.ref o)) at_42 rfl rfl rfl ?_
  refine s_iconst X4 hx hby (n := 45) (v := (3 : Int32)) at_44 rfl rfl ?_
  refine s_iloadN X4 hx hby (n := 46) (x := p0) at_45 rfl rfl ?_
  refine s_bipush X4 hx hby (n := 48) (v := (24 : Int32)) at_46 rfl rfl ?_
  refine s_iushr X4 hx hby (n := 49) at_48 rfl ?_
  refine s_callS X4 hx hby hml hZ (n := 52) hown (hw _ (List.mem_of_getElem? (i := 2) rfl)) (hw _ (List.mem_of_getElem? (i := 3) rfl)) (hw _ (List.mem_of_getElem? (i := 4) rfl)) (hw _ (List.mem_of_getElem? (i := 5) rfl)) (by decide) (rmIn l Z a0 hw o c4 (4 : Int32) (3 : Int32) (XT.ushr p0 (24 : Int32)) 3 T4.heap n0 A4 S4 (by decide) (by decide) (by decide) (by decide) (by rw [S4]; decide) no) rfl (by decide) 0 (by decide) (by decide) (by decide) pd_2 [(.ref o), (.int (3 : Int32)), (.int (XT.ushr p0 (24 : Int32)))] [] rfl rfl rfl (Nat.le_of_eq rfl) rfl at_49 rfl ?_
  intro T5 L5 v5 X5 q5c
  obtain ⟨rfl, N5, W5⟩ := q5c
  show OEnds p e below s _ _ _ T5 (mkF m 52 #[.val (.int p0), .val (.int p1), .val (.int p2), .val (.int p3), .val (.int (4 : Int32)), .val (.ref o), .unset, .unset, .unset, .unset, .unset] [])
  obtain ⟨c5, A5, S5, B5_0, B5_1, B5_2, B5_3⟩ : ∃ cc : Cell, Arr Z T5.heap o cc .byte ∧ cc.slots.size = (4 : Int32).toNatClampNeg ∧ cc.slots[0]? = some (.int (nar .byte (p0).toInt8.toInt32)) ∧ cc.slots[1]? = some (.int (nar .byte (XT.ushr p0 (8 : Int32)).toInt8.toInt32)) ∧ cc.slots[2]? = some (.int (nar .byte (XT.ushr p0 (16 : Int32)).toInt8.toInt32)) ∧ cc.slots[3]? = some (.int (nar .byte (XT.ushr p0 (24 : Int32)).toInt8.toInt32)) := ⟨_, A4.same W5, (by rw [sz_set]; exact S4), set_mis B4_0 (by decide), set_mis B4_1 (by decide), set_mis B4_2 (by decide), set_hit (by rw [S4]; decide)⟩
  have M5 := Fr.app M4 N5
  refine s_aload X5 hx hby (n := 54) (x := (.ref o)) at_52 rfl rfl rfl ?_
  refine s_iconst X5 hx hby (n := 55) (v := (4 : Int32)) at_54 rfl rfl ?_
  refine s_iloadN X5 hx hby (n := 56) (x := p1) at_55 rfl rfl ?_
  refine s_callS X5 hx hby hml hZ (n := 59) hown (hw _ (List.mem_of_getElem? (i := 2) rfl)) (hw _ (List.mem_of_getElem? (i := 3) rfl)) (hw _ (List.mem_of_getElem? (i := 4) rfl)) (hw _ (List.mem_of_getElem? (i := 5) rfl)) (by decide) (rmOut l Z a0 hw o c5 (4 : Int32) (4 : Int32) p1 T5.heap n0 A5 S5 (by decide) (by decide)) rfl (by decide) 0 (by decide) (by decide) (by decide) pd_2 [(.ref o), (.int (4 : Int32)), (.int p1)] [] rfl rfl rfl (Nat.le_of_eq rfl) rfl at_56 rfl ?_
  intro T6 L6 v6 X6 q6c
  obtain ⟨rfl, e6, N6⟩ := q6c
  show OEnds p e below s _ _ _ T6 (mkF m 59 #[.val (.int p0), .val (.int p1), .val (.int p2), .val (.int p3), .val (.int (4 : Int32)), .val (.ref o), .unset, .unset, .unset, .unset, .unset] [])
  have M6 := Fr.app M5 N6
  refine s_aload X6 hx hby (n := 61) (x := (.ref o)) at_59 rfl rfl rfl ?_
  refine s_iconst X6 hx hby (n := 62) (v := (5 : Int32)) at_61 rfl rfl ?_
  refine s_iloadN X6 hx hby (n := 63) (x := p1) at_62 rfl rfl ?_
  refine s_bipush X6 hx hby (n := 65) (v := (8 : Int32)) at_63 rfl rfl ?_
  refine s_iushr X6 hx hby (n := 66) at_65 rfl ?_
  refine s_callS X6 hx hby hml hZ (n := 69) hown (hw _ (List.mem_of_getElem? (i := 2) rfl)) (hw _ (List.mem_of_getElem? (i := 3) rfl)) (hw _ (List.mem_of_getElem? (i := 4) rfl)) (hw _ (List.mem_of_getElem? (i := 5) rfl)) (by decide) (rmOut l Z a0 hw o c5 (4 : Int32) (5 : Int32) (XT.ushr p1 (8 : Int32)) T5.heap n0 A5 S5 (by decide) (by decide)) e6 (by decide) 0 (by decide) (by decide) (by decide) pd_2 [(.ref o), (.int (5 : Int32)), (.int (XT.ushr p1 (8 : Int32)))] [] rfl rfl rfl (Nat.le_of_eq rfl) rfl at_66 rfl ?_
  intro T7 L7 v7 X7 q7c
  obtain ⟨rfl, e7, N7⟩ := q7c
  show OEnds p e below s _ _ _ T7 (mkF m 69 #[.val (.int p0), .val (.int p1), .val (.int p2), .val (.int p3), .val (.int (4 : Int32)), .val (.ref o), .unset, .unset, .unset, .unset, .unset] [])
  have M7 := Fr.app M6 N7
  refine s_aload X7 hx hby (n := 71) (x := (.ref o)) at_69 rfl rfl rfl ?_
  refine s_bipush X7 hx hby (n := 73) (v := (6 : Int32)) at_71 rfl rfl ?_
  refine s_iloadN X7 hx hby (n := 74) (x := p1) at_73 rfl rfl ?_
  refine s_bipush X7 hx hby (n := 76) (v := (16 : Int32)) at_74 rfl rfl ?_
  refine s_iushr X7 hx hby (n := 77) at_76 rfl ?_
  refine s_callS X7 hx hby hml hZ (n := 80) hown (hw _ (List.mem_of_getElem? (i := 2) rfl)) (hw _ (List.mem_of_getElem? (i := 3) rfl)) (hw _ (List.mem_of_getElem? (i := 4) rfl)) (hw _ (List.mem_of_getElem? (i := 5) rfl)) (by decide) (rmOut l Z a0 hw o c5 (4 : Int32) (6 : Int32) (XT.ushr p1 (16 : Int32)) T5.heap n0 A5 S5 (by decide) (by decide)) e7 (by decide) 0 (by decide) (by decide) (by decide) pd_2 [(.ref o), (.int (6 : Int32)), (.int (XT.ushr p1 (16 : Int32)))] [] rfl rfl rfl (Nat.le_of_eq rfl) rfl at_77 rfl ?_
  intro T8 L8 v8 X8 q8c
  obtain ⟨rfl, e8, N8⟩ := q8c
  show OEnds p e below s _ _ _ T8 (mkF m 80 #[.val (.int p0), .val (.int p1), .val (.int p2), .val (.int p3), .val (.int (4 : Int32)), .val (.ref o), .unset, .unset, .unset, .unset, .unset] [])
  have M8 := Fr.app M7 N8
  refine s_aload X8 hx hby (n := 82) (x := (.ref o)) at_80 rfl rfl rfl ?_
  refine s_bipush X8 hx hby (n := 84) (v := (7 : Int32)) at_82 rfl rfl ?_
  refine s_iloadN X8 hx hby (n := 85) (x := p1) at_84 rfl rfl ?_
  refine s_bipush X8 hx hby (n := 87) (v := (24 : Int32)) at_85 rfl rfl ?_
  refine s_iushr X8 hx hby (n := 88) at_87 rfl ?_
  refine s_callS X8 hx hby hml hZ (n := 91) hown (hw _ (List.mem_of_getElem? (i := 2) rfl)) (hw _ (List.mem_of_getElem? (i := 3) rfl)) (hw _ (List.mem_of_getElem? (i := 4) rfl)) (hw _ (List.mem_of_getElem? (i := 5) rfl)) (by decide) (rmOut l Z a0 hw o c5 (4 : Int32) (7 : Int32) (XT.ushr p1 (24 : Int32)) T5.heap n0 A5 S5 (by decide) (by decide)) e8 (by decide) 0 (by decide) (by decide) (by decide) pd_2 [(.ref o), (.int (7 : Int32)), (.int (XT.ushr p1 (24 : Int32)))] [] rfl rfl rfl (Nat.le_of_eq rfl) rfl at_88 rfl ?_
  intro T9 L9 v9 X9 q9c
  obtain ⟨rfl, e9, N9⟩ := q9c
  show OEnds p e below s _ _ _ T9 (mkF m 91 #[.val (.int p0), .val (.int p1), .val (.int p2), .val (.int p3), .val (.int (4 : Int32)), .val (.ref o), .unset, .unset, .unset, .unset, .unset] [])
  have M9 := Fr.app M8 N9
  refine s_aload X9 hx hby (n := 93) (x := (.ref o)) at_91 rfl rfl rfl ?_
  refine s_bipush X9 hx hby (n := 95) (v := (8 : Int32)) at_93 rfl rfl ?_
  refine s_iloadN X9 hx hby (n := 96) (x := p2) at_95 rfl rfl ?_
  refine s_callS X9 hx hby hml hZ (n := 99) hown (hw _ (List.mem_of_getElem? (i := 2) rfl)) (hw _ (List.mem_of_getElem? (i := 3) rfl)) (hw _ (List.mem_of_getElem? (i := 4) rfl)) (hw _ (List.mem_of_getElem? (i := 5) rfl)) (by decide) (rmOut l Z a0 hw o c5 (4 : Int32) (8 : Int32) p2 T5.heap n0 A5 S5 (by decide) (by decide)) e9 (by decide) 0 (by decide) (by decide) (by decide) pd_2 [(.ref o), (.int (8 : Int32)), (.int p2)] [] rfl rfl rfl (Nat.le_of_eq rfl) rfl at_96 rfl ?_
  intro T10 L10 v10 X10 q10c
  obtain ⟨rfl, e10, N10⟩ := q10c
  show OEnds p e below s _ _ _ T10 (mkF m 99 #[.val (.int p0), .val (.int p1), .val (.int p2), .val (.int p3), .val (.int (4 : Int32)), .val (.ref o), .unset, .unset, .unset, .unset, .unset] [])
  have M10 := Fr.app M9 N10
  refine s_aload X10 hx hby (n := 101) (x := (.ref o)) at_99 rfl rfl rfl ?_
  refine s_bipush X10 hx hby (n := 103) (v := (9 : Int32)) at_101 rfl rfl ?_
  refine s_iloadN X10 hx hby (n := 104) (x := p2) at_103 rfl rfl ?_
  refine s_bipush X10 hx hby (n := 106) (v := (8 : Int32)) at_104 rfl rfl ?_
  refine s_iushr X10 hx hby (n := 107) at_106 rfl ?_
  refine s_callS X10 hx hby hml hZ (n := 110) hown (hw _ (List.mem_of_getElem? (i := 2) rfl)) (hw _ (List.mem_of_getElem? (i := 3) rfl)) (hw _ (List.mem_of_getElem? (i := 4) rfl)) (hw _ (List.mem_of_getElem? (i := 5) rfl)) (by decide) (rmOut l Z a0 hw o c5 (4 : Int32) (9 : Int32) (XT.ushr p2 (8 : Int32)) T5.heap n0 A5 S5 (by decide) (by decide)) e10 (by decide) 0 (by decide) (by decide) (by decide) pd_2 [(.ref o), (.int (9 : Int32)), (.int (XT.ushr p2 (8 : Int32)))] [] rfl rfl rfl (Nat.le_of_eq rfl) rfl at_107 rfl ?_
  intro T11 L11 v11 X11 q11c
  obtain ⟨rfl, e11, N11⟩ := q11c
  show OEnds p e below s _ _ _ T11 (mkF m 110 #[.val (.int p0), .val (.int p1), .val (.int p2), .val (.int p3), .val (.int (4 : Int32)), .val (.ref o), .unset, .unset, .unset, .unset, .unset] [])
  have M11 := Fr.app M10 N11
  refine s_aload X11 hx hby (n := 112) (x := (.ref o)) at_110 rfl rfl rfl ?_
  refine s_bipush X11 hx hby (n := 114) (v := (10 : Int32)) at_112 rfl rfl ?_
  refine s_iloadN X11 hx hby (n := 115) (x := p2) at_114 rfl rfl ?_
  refine s_bipush X11 hx hby (n := 117) (v := (16 : Int32)) at_115 rfl rfl ?_
  refine s_iushr X11 hx hby (n := 118) at_117 rfl ?_
  refine s_callS X11 hx hby hml hZ (n := 121) hown (hw _ (List.mem_of_getElem? (i := 2) rfl)) (hw _ (List.mem_of_getElem? (i := 3) rfl)) (hw _ (List.mem_of_getElem? (i := 4) rfl)) (hw _ (List.mem_of_getElem? (i := 5) rfl)) (by decide) (rmOut l Z a0 hw o c5 (4 : Int32) (10 : Int32) (XT.ushr p2 (16 : Int32)) T5.heap n0 A5 S5 (by decide) (by decide)) e11 (by decide) 0 (by decide) (by decide) (by decide) pd_2 [(.ref o), (.int (10 : Int32)), (.int (XT.ushr p2 (16 : Int32)))] [] rfl rfl rfl (Nat.le_of_eq rfl) rfl at_118 rfl ?_
  intro T12 L12 v12 X12 q12c
  obtain ⟨rfl, e12, N12⟩ := q12c
  show OEnds p e below s _ _ _ T12 (mkF m 121 #[.val (.int p0), .val (.int p1), .val (.int p2), .val (.int p3), .val (.int (4 : Int32)), .val (.ref o), .unset, .unset, .unset, .unset, .unset] [])
  have M12 := Fr.app M11 N12
  refine s_aload X12 hx hby (n := 123) (x := (.ref o)) at_121 rfl rfl rfl ?_
  refine s_bipush X12 hx hby (n := 125) (v := (11 : Int32)) at_123 rfl rfl ?_
  refine s_iloadN X12 hx hby (n := 126) (x := p2) at_125 rfl rfl ?_
  refine s_bipush X12 hx hby (n := 128) (v := (24 : Int32)) at_126 rfl rfl ?_
  refine s_iushr X12 hx hby (n := 129) at_128 rfl ?_
  refine s_callS X12 hx hby hml hZ (n := 132) hown (hw _ (List.mem_of_getElem? (i := 2) rfl)) (hw _ (List.mem_of_getElem? (i := 3) rfl)) (hw _ (List.mem_of_getElem? (i := 4) rfl)) (hw _ (List.mem_of_getElem? (i := 5) rfl)) (by decide) (rmOut l Z a0 hw o c5 (4 : Int32) (11 : Int32) (XT.ushr p2 (24 : Int32)) T5.heap n0 A5 S5 (by decide) (by decide)) e12 (by decide) 0 (by decide) (by decide) (by decide) pd_2 [(.ref o), (.int (11 : Int32)), (.int (XT.ushr p2 (24 : Int32)))] [] rfl rfl rfl (Nat.le_of_eq rfl) rfl at_129 rfl ?_
  intro T13 L13 v13 X13 q13c
  obtain ⟨rfl, e13, N13⟩ := q13c
  show OEnds p e below s _ _ _ T13 (mkF m 132 #[.val (.int p0), .val (.int p1), .val (.int p2), .val (.int p3), .val (.int (4 : Int32)), .val (.ref o), .unset, .unset, .unset, .unset, .unset] [])
  have M13 := Fr.app M12 N13
  refine s_iload X13 hx hby (n := 134) (x := (4 : Int32)) at_132 rfl rfl ?_
  refine s_iconst X13 hx hby (n := 135) (v := (2 : Int32)) at_134 rfl rfl ?_
  refine s_iushr X13 hx hby (n := 136) at_135 rfl ?_
  refine s_fold (z := (1 : Int32)) (by decide) ?_
  refine s_istore X13 hx hby (n := 138) (L' := #[.val (.int p0), .val (.int p1), .val (.int p2), .val (.int p3), .val (.int (4 : Int32)), .val (.ref o), .val (.int (1 : Int32)), .unset, .unset, .unset, .unset]) at_136 rfl rfl ?_
  refine s_iload X13 hx hby (n := 140) (x := (4 : Int32)) at_138 rfl rfl ?_
  refine s_iconst X13 hx hby (n := 141) (v := (3 : Int32)) at_140 rfl rfl ?_
  refine s_iand X13 hx hby (n := 142) at_141 rfl ?_
  refine s_fold (z := (0 : Int32)) (by decide) ?_
  refine s_istore X13 hx hby (n := 144) (L' := #[.val (.int p0), .val (.int p1), .val (.int p2), .val (.int p3), .val (.int (4 : Int32)), .val (.ref o), .val (.int (1 : Int32)), .val (.int (0 : Int32)), .unset, .unset, .unset]) at_142 rfl rfl ?_
  refine s_iconst X13 hx hby (n := 145) (v := (0 : Int32)) at_144 rfl rfl ?_
  refine s_istore X13 hx hby (n := 147) (L' := #[.val (.int p0), .val (.int p1), .val (.int p2), .val (.int p3), .val (.int (4 : Int32)), .val (.ref o), .val (.int (1 : Int32)), .val (.int (0 : Int32)), .val (.int (0 : Int32)), .unset, .unset]) at_145 rfl rfl ?_
  refine s_iload X13 hx hby (n := 149) (x := (1 : Int32)) at_147 rfl rfl ?_
  refine s_iconst X13 hx hby (n := 150) (v := (1 : Int32)) at_149 rfl rfl ?_
  refine s_icmpN X13 hx hby (n := 153) at_150 (by decide) rfl ?_
  refine s_iload X13 hx hby (n := 155) (x := (0 : Int32)) at_153 rfl rfl ?_
  refine s_iloadN X13 hx hby (n := 156) (x := p0) at_155 rfl rfl ?_
  refine s_callS X13 hx hby hml hZ (n := 159) hown (hw _ (List.mem_of_getElem? (i := 37) rfl)) (hw _ (List.mem_of_getElem? (i := 38) rfl)) (hw _ (List.mem_of_getElem? (i := 4) rfl)) (hw _ (List.mem_of_getElem? (i := 39) rfl)) (by decide) (rmMix' l Z a0 hw (0 : Int32) p0 T5.heap n0) e13 (by decide) 0 (by decide) (by decide) (by decide) pd_0 [(.int (0 : Int32)), (.int p0)] [] rfl rfl rfl (Nat.le_of_eq rfl) rfl at_156 rfl ?_
  intro T14 L14 v14 X14 q14c
  obtain ⟨rfl, e14, N14⟩ := q14c
  show OEnds p e below s _ _ _ T14 (mkF m 159 #[.val (.int p0), .val (.int p1), .val (.int p2), .val (.int p3), .val (.int (4 : Int32)), .val (.ref o), .val (.int (1 : Int32)), .val (.int (0 : Int32)), .val (.int (0 : Int32)), .unset, .unset] [(.int (own_mix (0 : Int32) p0))])
  have M14 := Fr.app M13 N14
  refine s_istore X14 hx hby (n := 161) (L' := #[.val (.int p0), .val (.int p1), .val (.int p2), .val (.int p3), .val (.int (4 : Int32)), .val (.ref o), .val (.int (1 : Int32)), .val (.int (0 : Int32)), .val (.int (own_mix (0 : Int32) p0)), .unset, .unset]) at_159 rfl rfl ?_
  refine s_iload X14 hx hby (n := 163) (x := (1 : Int32)) at_161 rfl rfl ?_
  refine s_iconst X14 hx hby (n := 164) (v := (2 : Int32)) at_163 rfl rfl ?_
  refine s_icmpY X14 hx hby (n := 175) at_164 (by decide) (by decide) (by decide) ?_
  refine s_iload X14 hx hby (n := 177) (x := (1 : Int32)) at_175 rfl rfl ?_
  refine s_iconst X14 hx hby (n := 178) (v := (3 : Int32)) at_177 rfl rfl ?_
  refine s_icmpY X14 hx hby (n := 189) at_178 (by decide) (by decide) (by decide) ?_
  refine s_iload X14 hx hby (n := 191) (x := (0 : Int32)) at_189 rfl rfl ?_
  refine s_ifY X14 hx hby (n := 240) at_191 (by decide) (by decide) (by decide) ?_
  refine s_iload X14 hx hby (n := 242) (x := (own_mix (0 : Int32) p0)) at_240 rfl rfl ?_
  refine s_iload X14 hx hby (n := 244) (x := (4 : Int32)) at_242 rfl rfl ?_
  refine s_callS X14 hx hby hml hZ (n := 247) hown (hw _ (List.mem_of_getElem? (i := 14) rfl)) (hw _ (List.mem_of_getElem? (i := 15) rfl)) (hw _ (List.mem_of_getElem? (i := 4) rfl)) (hw _ (List.mem_of_getElem? (i := 16) rfl)) (by decide) (rmFin' l Z a0 hw (own_mix (0 : Int32) p0) (4 : Int32) T5.heap n0) e14 (by decide) 0 (by decide) (by decide) (by decide) pd_0 [(.int (own_mix (0 : Int32) p0)), (.int (4 : Int32))] [] rfl rfl rfl (Nat.le_of_eq rfl) rfl at_244 rfl ?_
  intro T15 L15 v15 X15 q15c
  obtain ⟨rfl, e15, N15⟩ := q15c
  show OEnds p e below s _ _ _ T15 (mkF m 247 #[.val (.int p0), .val (.int p1), .val (.int p2), .val (.int p3), .val (.int (4 : Int32)), .val (.ref o), .val (.int (1 : Int32)), .val (.int (0 : Int32)), .val (.int (own_mix (0 : Int32) p0)), .unset, .unset] [(.int (own_fin (own_mix (0 : Int32) p0) (4 : Int32)))])
  have M15 := Fr.app M14 N15
  refine s_istore X15 hx hby (n := 249) (L' := #[.val (.int p0), .val (.int p1), .val (.int p2), .val (.int p3), .val (.int (4 : Int32)), .val (.ref o), .val (.int (1 : Int32)), .val (.int (0 : Int32)), .val (.int (own_mix (0 : Int32) p0)), .val (.int (own_fin (own_mix (0 : Int32) p0) (4 : Int32))), .unset]) at_247 rfl rfl ?_
  refine s_aload X15 hx hby (n := 251) (x := (.ref o)) at_249 rfl rfl rfl ?_
  refine s_callS X15 hx hby hml hZ (n := 254) hown (hw _ (List.mem_of_getElem? (i := 19) rfl)) (hw _ (List.mem_of_getElem? (i := 20) rfl)) (hw _ (List.mem_of_getElem? (i := 21) rfl)) (hw _ (List.mem_of_getElem? (i := 22) rfl)) (by decide) (rmH4 l Z a0 hw o c5 (nar .byte (p0).toInt8.toInt32) (nar .byte (XT.ushr p0 (8 : Int32)).toInt8.toInt32) (nar .byte (XT.ushr p0 (16 : Int32)).toInt8.toInt32) (nar .byte (XT.ushr p0 (24 : Int32)).toInt8.toInt32) T5.heap n0 A5 S5 B5_0 B5_1 B5_2 B5_3) e15 (by decide) 0 (by decide) (by decide) (by decide) pd_3 [(.ref o)] [] rfl rfl rfl (Nat.le_of_eq rfl) rfl at_251 rfl ?_
  intro T16 L16 v16 X16 q16c
  obtain ⟨rfl, e16, N16⟩ := q16c
  show OEnds p e below s _ _ _ T16 (mkF m 254 #[.val (.int p0), .val (.int p1), .val (.int p2), .val (.int p3), .val (.int (4 : Int32)), .val (.ref o), .val (.int (1 : Int32)), .val (.int (0 : Int32)), .val (.int (own_mix (0 : Int32) p0)), .val (.int (own_fin (own_mix (0 : Int32) p0) (4 : Int32))), .unset] [(.int (own_fin (own_mix (0 : Int32) (((((nar .byte (p0).toInt8.toInt32) &&& (255 : Int32)) ||| (((nar .byte (XT.ushr p0 (8 : Int32)).toInt8.toInt32) &&& (255 : Int32)) <<< ((8 : Int32) &&& 31))) ||| (((nar .byte (XT.ushr p0 (16 : Int32)).toInt8.toInt32) &&& (255 : Int32)) <<< ((16 : Int32) &&& 31))) ||| (((nar .byte (XT.ushr p0 (24 : Int32)).toInt8.toInt32) &&& (255 : Int32)) <<< ((24 : Int32) &&& 31)))) (4 : Int32)))])
  have M16 := Fr.app M15 N16
  refine s_iload X16 hx hby (n := 256) (x := (own_fin (own_mix (0 : Int32) p0) (4 : Int32))) at_254 rfl rfl ?_
  refine s_icmpN X16 hx hby (n := 259) at_256 (XT.ii_ne_f (by rw [own_wp p0])) rfl ?_
  refine s_iconst X16 hx hby (n := 260) (v := (1 : Int32)) at_259 rfl rfl ?_
  refine s_goto X16 hx hby (n := 264) at_260 (by decide) (by decide) ?_
  exact s_retN X16 hx hby hlk hret (t := .boolean) (by simp) (z' := (1 : Int32)) (by decide) at_264 (by decide) (by decide) ⟨rfl, M16⟩
set_option maxRecDepth 65536 in
set_option maxHeartbeats 40000000 in
theorem rm0_5 (l : Launch) (Z : State) (a0 : Array Value) (hw : ∀ d ∈ tables_1, d.before a0 Z = true) (p0 p1 p2 p3 : Int32) (qn : ((p3 &&& (2147483647 : Int32)) % (13 : Int32)) = (5 : Int32)) (h0 : Heap) (n0 : Nat) (Z0 : n0 ≤ h0.size) :
    OCon l Z x code maxLocals ret tables_1 room_1 #[(.int p0), (.int p1), (.int p2), (.int p3)] h0 (fun v h L => v = some (.int 1) ∧ Fr n0 L) := by
  refine con (plainFor_of_name pn0) ?_
  intro p e s m below meth c s₁ hx hby hml hZ hown hnm hret hlk X0 e0
  refine entry (ef0 m p0 p1 p2 p3) ?_
  have M0 := Fr.nil n0
  refine s_iloadN X0 hx hby (n := 1) (x := p3) at_0 rfl rfl ?_
  refine s_ldcI X0 hx hby hZ (n := 3) hown (hw _ (List.mem_of_getElem? (i := 0) rfl)) at_1 rfl ?_
  refine s_iand X0 hx hby (n := 4) at_3 rfl ?_
  refine s_bipush X0 hx hby (n := 6) (v := (13 : Int32)) at_4 rfl rfl ?_
  refine s_irem X0 hx hby (n := 7) at_6 (by decide) rfl ?_
  refine s_fold (z := (5 : Int32)) qn ?_
  refine s_istore X0 hx hby (n := 9) (L' := #[.val (.int p0), .val (.int p1), .val (.int p2), .val (.int p3), .val (.int (5 : Int32)), .unset, .unset, .unset, .unset, .unset, .unset]) at_7 rfl rfl ?_
  refine s_iload X0 hx hby (n := 11) (x := (5 : Int32)) at_9 rfl rfl ?_
  refine s_newP X0 hx hby hZ (n := 13) (hw _ (List.mem_of_getElem? (i := 1) rfl)) (ty := .byte) rfl e0 (by decide) 5 (by decide) (by decide) (by decide) (by decide) at_11 rfl ?_
  intro T1 h1 cA o ho X1 e1 E1 A1
  have S1 : (newA cA .byte (5 : Int32)).slots.size = (5 : Int32).toNatClampNeg := sz_new _ _ _
  have no : n0 ≤ o := by rw [ho]; exact Z0
  refine s_astore X1 hx hby (n := 15) (L' := #[.val (.int p0), .val (.int p1), .val (.int p2), .val (.int p3), .val (.int (5 : Int32)), .val (.ref o), .unset, .unset, .unset, .unset, .unset]) at_13 rfl rfl rfl ?_
  refine s_aload X1 hx hby (n := 17) (x := (.ref o)) at_15 rfl rfl rfl ?_
  refine s_iconst X1 hx hby (n := 18) (v := (0 : Int32)) at_17 rfl rfl ?_
  refine s_iloadN X1 hx hby (n := 19) (x := p0) at_18 rfl rfl ?_
  refine s_callS X1 hx hby hml hZ (n := 22) hown (hw _ (List.mem_of_getElem? (i := 2) rfl)) (hw _ (List.mem_of_getElem? (i := 3) rfl)) (hw _ (List.mem_of_getElem? (i := 4) rfl)) (hw _ (List.mem_of_getElem? (i := 5) rfl)) (by decide) (rmIn l Z a0 hw o (newA cA .byte (5 : Int32)) (5 : Int32) (0 : Int32) p0 0 h1 n0 A1 S1 (by decide) (by decide) (by decide) (by decide) (by rw [S1]; decide) no) e1 (by decide) 0 (by decide) (by decide) (by decide) pd_2 [(.ref o), (.int (0 : Int32)), (.int p0)] [] rfl rfl rfl (Nat.le_of_eq rfl) rfl at_19 rfl ?_
  intro T2 L2 v2 X2 q2c
  obtain ⟨rfl, N2, W2⟩ := q2c
  show OEnds p e below s _ _ _ T2 (mkF m 22 #[.val (.int p0), .val (.int p1), .val (.int p2), .val (.int p3), .val (.int (5 : Int32)), .val (.ref o), .unset, .unset, .unset, .unset, .unset] [])
  obtain ⟨c2, A2, S2, B2_0⟩ : ∃ cc : Cell, Arr Z T2.heap o cc .byte ∧ cc.slots.size = (5 : Int32).toNatClampNeg ∧ cc.slots[0]? = some (.int (nar .byte (p0).toInt8.toInt32)) := ⟨_, A1.same W2, (by rw [sz_set]; exact S1), set_hit (by rw [S1]; decide)⟩
  have M2 := Fr.app M0 N2
  refine s_aload X2 hx hby (n := 24) (x := (.ref o)) at_22 rfl rfl rfl ?_
  refine s_iconst X2 hx hby (n := 25) (v := (1 : Int32)) at_24 rfl rfl ?_
  refine s_iloadN X2 hx hby (n := 26) (x := p0) at_25 rfl rfl ?_
  refine s_bipush X2 hx hby (n := 28) (v := (8 : Int32)) at_26 rfl rfl ?_
  refine s_iushr X2 hx hby (n := 29) at_28 rfl ?_
  refine s_callS X2 hx hby hml hZ (n := 32) hown (hw _ (List.mem_of_getElem? (i := 2) rfl)) (hw _ (List.mem_of_getElem? (i := 3) rfl)) (hw _ (List.mem_of_getElem? (i := 4) rfl)) (hw _ (List.mem_of_getElem? (i := 5) rfl)) (by decide) (rmIn l Z a0 hw o c2 (5 : Int32) (1 : Int32) (XT.ushr p0 (8 : Int32)) 1 T2.heap n0 A2 S2 (by decide) (by decide) (by decide) (by decide) (by rw [S2]; decide) no) rfl (by decide) 0 (by decide) (by decide) (by decide) pd_2 [(.ref o), (.int (1 : Int32)), (.int (XT.ushr p0 (8 : Int32)))] [] rfl rfl rfl (Nat.le_of_eq rfl) rfl at_29 rfl ?_
  intro T3 L3 v3 X3 q3c
  obtain ⟨rfl, N3, W3⟩ := q3c
  show OEnds p e below s _ _ _ T3 (mkF m 32 #[.val (.int p0), .val (.int p1), .val (.int p2), .val (.int p3), .val (.int (5 : Int32)), .val (.ref o), .unset, .unset, .unset, .unset, .unset] [])
  obtain ⟨c3, A3, S3, B3_0, B3_1⟩ : ∃ cc : Cell, Arr Z T3.heap o cc .byte ∧ cc.slots.size = (5 : Int32).toNatClampNeg ∧ cc.slots[0]? = some (.int (nar .byte (p0).toInt8.toInt32)) ∧ cc.slots[1]? = some (.int (nar .byte (XT.ushr p0 (8 : Int32)).toInt8.toInt32)) := ⟨_, A2.same W3, (by rw [sz_set]; exact S2), set_mis B2_0 (by decide), set_hit (by rw [S2]; decide)⟩
  have M3 := Fr.app M2 N3
  refine s_aload X3 hx hby (n := 34) (x := (.ref o)) at_32 rfl rfl rfl ?_
  refine s_iconst X3 hx hby (n := 35) (v := (2 : Int32)) at_34 rfl rfl ?_
  refine s_iloadN X3 hx hby (n := 36) (x := p0) at_35 rfl rfl ?_
  refine s_bipush X3 hx hby (n := 38) (v := (16 : Int32)) at_36 rfl rfl ?_
  refine s_iushr X3 hx hby (n := 39) at_38 rfl ?_
  refine s_callS X3 hx hby hml hZ (n := 42) hown (hw _ (List.mem_of_getElem? (i := 2) rfl)) (hw _ (List.mem_of_getElem? (i := 3) rfl)) (hw _ (List.mem_of_getElem? (i := 4) rfl)) (hw _ (List.mem_of_getElem? (i := 5) rfl)) (by decide) (rmIn l Z a0 hw o c3 (5 : Int32) (2 : Int32) (XT.ushr p0 (16 : Int32)) 2 T3.heap n0 A3 S3 (by decide) (by decide) (by decide) (by decide) (by rw [S3]; decide) no) rfl (by decide) 0 (by decide) (by decide) (by decide) pd_2 [(.ref o), (.int (2 : Int32)), (.int (XT.ushr p0 (16 : Int32)))] [] rfl rfl rfl (Nat.le_of_eq rfl) rfl at_39 rfl ?_
  intro T4 L4 v4 X4 q4c
  obtain ⟨rfl, N4, W4⟩ := q4c
  show OEnds p e below s _ _ _ T4 (mkF m 42 #[.val (.int p0), .val (.int p1), .val (.int p2), .val (.int p3), .val (.int (5 : Int32)), .val (.ref o), .unset, .unset, .unset, .unset, .unset] [])
  obtain ⟨c4, A4, S4, B4_0, B4_1, B4_2⟩ : ∃ cc : Cell, Arr Z T4.heap o cc .byte ∧ cc.slots.size = (5 : Int32).toNatClampNeg ∧ cc.slots[0]? = some (.int (nar .byte (p0).toInt8.toInt32)) ∧ cc.slots[1]? = some (.int (nar .byte (XT.ushr p0 (8 : Int32)).toInt8.toInt32)) ∧ cc.slots[2]? = some (.int (nar .byte (XT.ushr p0 (16 : Int32)).toInt8.toInt32)) := ⟨_, A3.same W4, (by rw [sz_set]; exact S3), set_mis B3_0 (by decide), set_mis B3_1 (by decide), set_hit (by rw [S3]; decide)⟩
  have M4 := Fr.app M3 N4
  refine s_aload X4 hx hby (n := 44) (x := (.ref o)) at_42 rfl rfl rfl ?_
  refine s_iconst X4 hx hby (n := 45) (v := (3 : Int32)) at_44 rfl rfl ?_
  refine s_iloadN X4 hx hby (n := 46) (x := p0) at_45 rfl rfl ?_
  refine s_bipush X4 hx hby (n := 48) (v := (24 : Int32)) at_46 rfl rfl ?_
  refine s_iushr X4 hx hby (n := 49) at_48 rfl ?_
  refine s_callS X4 hx hby hml hZ (n := 52) hown (hw _ (List.mem_of_getElem? (i := 2) rfl)) (hw _ (List.mem_of_getElem? (i := 3) rfl)) (hw _ (List.mem_of_getElem? (i := 4) rfl)) (hw _ (List.mem_of_getElem? (i := 5) rfl)) (by decide) (rmIn l Z a0 hw o c4 (5 : Int32) (3 : Int32) (XT.ushr p0 (24 : Int32)) 3 T4.heap n0 A4 S4 (by decide) (by decide) (by decide) (by decide) (by rw [S4]; decide) no) rfl (by decide) 0 (by decide) (by decide) (by decide) pd_2 [(.ref o), (.int (3 : Int32)), (.int (XT.ushr p0 (24 : Int32)))] [] rfl rfl rfl (Nat.le_of_eq rfl) rfl at_49 rfl ?_
  intro T5 L5 v5 X5 q5c
  obtain ⟨rfl, N5, W5⟩ := q5c
  show OEnds p e below s _ _ _ T5 (mkF m 52 #[.val (.int p0), .val (.int p1), .val (.int p2), .val (.int p3), .val (.int (5 : Int32)), .val (.ref o), .unset, .unset, .unset, .unset, .unset] [])
  obtain ⟨c5, A5, S5, B5_0, B5_1, B5_2, B5_3⟩ : ∃ cc : Cell, Arr Z T5.heap o cc .byte ∧ cc.slots.size = (5 : Int32).toNatClampNeg ∧ cc.slots[0]? = some (.int (nar .byte (p0).toInt8.toInt32)) ∧ cc.slots[1]? = some (.int (nar .byte (XT.ushr p0 (8 : Int32)).toInt8.toInt32)) ∧ cc.slots[2]? = some (.int (nar .byte (XT.ushr p0 (16 : Int32)).toInt8.toInt32)) ∧ cc.slots[3]? = some (.int (nar .byte (XT.ushr p0 (24 : Int32)).toInt8.toInt32)) := ⟨_, A4.same W5, (by rw [sz_set]; exact S4), set_mis B4_0 (by decide), set_mis B4_1 (by decide), set_mis B4_2 (by decide), set_hit (by rw [S4]; decide)⟩
  have M5 := Fr.app M4 N5
  refine s_aload X5 hx hby (n := 54) (x := (.ref o)) at_52 rfl rfl rfl ?_
  refine s_iconst X5 hx hby (n := 55) (v := (4 : Int32)) at_54 rfl rfl ?_
  refine s_iloadN X5 hx hby (n := 56) (x := p1) at_55 rfl rfl ?_
  refine s_callS X5 hx hby hml hZ (n := 59) hown (hw _ (List.mem_of_getElem? (i := 2) rfl)) (hw _ (List.mem_of_getElem? (i := 3) rfl)) (hw _ (List.mem_of_getElem? (i := 4) rfl)) (hw _ (List.mem_of_getElem? (i := 5) rfl)) (by decide) (rmIn l Z a0 hw o c5 (5 : Int32) (4 : Int32) p1 4 T5.heap n0 A5 S5 (by decide) (by decide) (by decide) (by decide) (by rw [S5]; decide) no) rfl (by decide) 0 (by decide) (by decide) (by decide) pd_2 [(.ref o), (.int (4 : Int32)), (.int p1)] [] rfl rfl rfl (Nat.le_of_eq rfl) rfl at_56 rfl ?_
  intro T6 L6 v6 X6 q6c
  obtain ⟨rfl, N6, W6⟩ := q6c
  show OEnds p e below s _ _ _ T6 (mkF m 59 #[.val (.int p0), .val (.int p1), .val (.int p2), .val (.int p3), .val (.int (5 : Int32)), .val (.ref o), .unset, .unset, .unset, .unset, .unset] [])
  obtain ⟨c6, A6, S6, B6_0, B6_1, B6_2, B6_3, B6_4⟩ : ∃ cc : Cell, Arr Z T6.heap o cc .byte ∧ cc.slots.size = (5 : Int32).toNatClampNeg ∧ cc.slots[0]? = some (.int (nar .byte (p0).toInt8.toInt32)) ∧ cc.slots[1]? = some (.int (nar .byte (XT.ushr p0 (8 : Int32)).toInt8.toInt32)) ∧ cc.slots[2]? = some (.int (nar .byte (XT.ushr p0 (16 : Int32)).toInt8.toInt32)) ∧ cc.slots[3]? = some (.int (nar .byte (XT.ushr p0 (24 : Int32)).toInt8.toInt32)) ∧ cc.slots[4]? = some (.int (nar .byte (p1).toInt8.toInt32)) := ⟨_, A5.same W6, (by rw [sz_set]; exact S5), set_mis B5_0 (by decide), set_mis B5_1 (by decide), set_mis B5_2 (by decide), set_mis B5_3 (by decide), set_hit (by rw [S5]; decide)⟩
  have M6 := Fr.app M5 N6
  refine s_aload X6 hx hby (n := 61) (x := (.ref o)) at_59 rfl rfl rfl ?_
  refine s_iconst X6 hx hby (n := 62) (v := (5 : Int32)) at_61 rfl rfl ?_
  refine s_iloadN X6 hx hby (n := 63) (x := p1) at_62 rfl rfl ?_
  refine s_bipush X6 hx hby (n := 65) (v := (8 : Int32)) at_63 rfl rfl ?_
  refine s_iushr X6 hx hby (n := 66) at_65 rfl ?_
  refine s_callS X6 hx hby hml hZ (n := 69) hown (hw _ (List.mem_of_getElem? (i := 2) rfl)) (hw _ (List.mem_of_getElem? (i := 3) rfl)) (hw _ (List.mem_of_getElem? (i := 4) rfl)) (hw _ (List.mem_of_getElem? (i := 5) rfl)) (by decide) (rmOut l Z a0 hw o c6 (5 : Int32) (5 : Int32) (XT.ushr p1 (8 : Int32)) T6.heap n0 A6 S6 (by decide) (by decide)) rfl (by decide) 0 (by decide) (by decide) (by decide) pd_2 [(.ref o), (.int (5 : Int32)), (.int (XT.ushr p1 (8 : Int32)))] [] rfl rfl rfl (Nat.le_of_eq rfl) rfl at_66 rfl ?_
  intro T7 L7 v7 X7 q7c
  obtain ⟨rfl, e7, N7⟩ := q7c
  show OEnds p e below s _ _ _ T7 (mkF m 69 #[.val (.int p0), .val (.int p1), .val (.int p2), .val (.int p3), .val (.int (5 : Int32)), .val (.ref o), .unset, .unset, .unset, .unset, .unset] [])
  have M7 := Fr.app M6 N7
  refine s_aload X7 hx hby (n := 71) (x := (.ref o)) at_69 rfl rfl rfl ?_
  refine s_bipush X7 hx hby (n := 73) (v := (6 : Int32)) at_71 rfl rfl ?_
  refine s_iloadN X7 hx hby (n := 74) (x := p1) at_73 rfl rfl ?_
  refine s_bipush X7 hx hby (n := 76) (v := (16 : Int32)) at_74 rfl rfl ?_
  refine s_iushr X7 hx hby (n := 77) at_76 rfl ?_
  refine s_callS X7 hx hby hml hZ (n := 80) hown (hw _ (List.mem_of_getElem? (i := 2) rfl)) (hw _ (List.mem_of_getElem? (i := 3) rfl)) (hw _ (List.mem_of_getElem? (i := 4) rfl)) (hw _ (List.mem_of_getElem? (i := 5) rfl)) (by decide) (rmOut l Z a0 hw o c6 (5 : Int32) (6 : Int32) (XT.ushr p1 (16 : Int32)) T6.heap n0 A6 S6 (by decide) (by decide)) e7 (by decide) 0 (by decide) (by decide) (by decide) pd_2 [(.ref o), (.int (6 : Int32)), (.int (XT.ushr p1 (16 : Int32)))] [] rfl rfl rfl (Nat.le_of_eq rfl) rfl at_77 rfl ?_
  intro T8 L8 v8 X8 q8c
  obtain ⟨rfl, e8, N8⟩ := q8c
  show OEnds p e below s _ _ _ T8 (mkF m 80 #[.val (.int p0), .val (.int p1), .val (.int p2), .val (.int p3), .val (.int (5 : Int32)), .val (.ref o), .unset, .unset, .unset, .unset, .unset] [])
  have M8 := Fr.app M7 N8
  refine s_aload X8 hx hby (n := 82) (x := (.ref o)) at_80 rfl rfl rfl ?_
  refine s_bipush X8 hx hby (n := 84) (v := (7 : Int32)) at_82 rfl rfl ?_
  refine s_iloadN X8 hx hby (n := 85) (x := p1) at_84 rfl rfl ?_
  refine s_bipush X8 hx hby (n := 87) (v := (24 : Int32)) at_85 rfl rfl ?_
  refine s_iushr X8 hx hby (n := 88) at_87 rfl ?_
  refine s_callS X8 hx hby hml hZ (n := 91) hown (hw _ (List.mem_of_getElem? (i := 2) rfl)) (hw _ (List.mem_of_getElem? (i := 3) rfl)) (hw _ (List.mem_of_getElem? (i := 4) rfl)) (hw _ (List.mem_of_getElem? (i := 5) rfl)) (by decide) (rmOut l Z a0 hw o c6 (5 : Int32) (7 : Int32) (XT.ushr p1 (24 : Int32)) T6.heap n0 A6 S6 (by decide) (by decide)) e8 (by decide) 0 (by decide) (by decide) (by decide) pd_2 [(.ref o), (.int (7 : Int32)), (.int (XT.ushr p1 (24 : Int32)))] [] rfl rfl rfl (Nat.le_of_eq rfl) rfl at_88 rfl ?_
  intro T9 L9 v9 X9 q9c
  obtain ⟨rfl, e9, N9⟩ := q9c
  show OEnds p e below s _ _ _ T9 (mkF m 91 #[.val (.int p0), .val (.int p1), .val (.int p2), .val (.int p3), .val (.int (5 : Int32)), .val (.ref o), .unset, .unset, .unset, .unset, .unset] [])
  have M9 := Fr.app M8 N9
  refine s_aload X9 hx hby (n := 93) (x := (.ref o)) at_91 rfl rfl rfl ?_
  refine s_bipush X9 hx hby (n := 95) (v := (8 : Int32)) at_93 rfl rfl ?_
  refine s_iloadN X9 hx hby (n := 96) (x := p2) at_95 rfl rfl ?_
  refine s_callS X9 hx hby hml hZ (n := 99) hown (hw _ (List.mem_of_getElem? (i := 2) rfl)) (hw _ (List.mem_of_getElem? (i := 3) rfl)) (hw _ (List.mem_of_getElem? (i := 4) rfl)) (hw _ (List.mem_of_getElem? (i := 5) rfl)) (by decide) (rmOut l Z a0 hw o c6 (5 : Int32) (8 : Int32) p2 T6.heap n0 A6 S6 (by decide) (by decide)) e9 (by decide) 0 (by decide) (by decide) (by decide) pd_2 [(.ref o), (.int (8 : Int32)), (.int p2)] [] rfl rfl rfl (Nat.le_of_eq rfl) rfl at_96 rfl ?_
  intro T10 L10 v10 X10 q10c
  obtain ⟨rfl, e10, N10⟩ := q10c
  show OEnds p e below s _ _ _ T10 (mkF m 99 #[.val (.int p0), .val (.int p1), .val (.int p2), .val (.int p3), .val (.int (5 : Int32)), .val (.ref o), .unset, .unset, .unset, .unset, .unset] [])
  have M10 := Fr.app M9 N10
  refine s_aload X10 hx hby (n := 101) (x := (.ref o)) at_99 rfl rfl rfl ?_
  refine s_bipush X10 hx hby (n := 103) (v := (9 : Int32)) at_101 rfl rfl ?_
  refine s_iloadN X10 hx hby (n := 104) (x := p2) at_103 rfl rfl ?_
  refine s_bipush X10 hx hby (n := 106) (v := (8 : Int32)) at_104 rfl rfl ?_
  refine s_iushr X10 hx hby (n := 107) at_106 rfl ?_
  refine s_callS X10 hx hby hml hZ (n := 110) hown (hw _ (List.mem_of_getElem? (i := 2) rfl)) (hw _ (List.mem_of_getElem? (i := 3) rfl)) (hw _ (List.mem_of_getElem? (i := 4) rfl)) (hw _ (List.mem_of_getElem? (i := 5) rfl)) (by decide) (rmOut l Z a0 hw o c6 (5 : Int32) (9 : Int32) (XT.ushr p2 (8 : Int32)) T6.heap n0 A6 S6 (by decide) (by decide)) e10 (by decide) 0 (by decide) (by decide) (by decide) pd_2 [(.ref o), (.int (9 : Int32)), (.int (XT.ushr p2 (8 : Int32)))] [] rfl rfl rfl (Nat.le_of_eq rfl) rfl at_107 rfl ?_
  intro T11 L11 v11 X11 q11c
  obtain ⟨rfl, e11, N11⟩ := q11c
  show OEnds p e below s _ _ _ T11 (mkF m 110 #[.val (.int p0), .val (.int p1), .val (.int p2), .val (.int p3), .val (.int (5 : Int32)), .val (.ref o), .unset, .unset, .unset, .unset, .unset] [])
  have M11 := Fr.app M10 N11
  refine s_aload X11 hx hby (n := 112) (x := (.ref o)) at_110 rfl rfl rfl ?_
  refine s_bipush X11 hx hby (n := 114) (v := (10 : Int32)) at_112 rfl rfl ?_
  refine s_iloadN X11 hx hby (n := 115) (x := p2) at_114 rfl rfl ?_
  refine s_bipush X11 hx hby (n := 117) (v := (16 : Int32)) at_115 rfl rfl ?_
  refine s_iushr X11 hx hby (n := 118) at_117 rfl ?_
  refine s_callS X11 hx hby hml hZ (n := 121) hown (hw _ (List.mem_of_getElem? (i := 2) rfl)) (hw _ (List.mem_of_getElem? (i := 3) rfl)) (hw _ (List.mem_of_getElem? (i := 4) rfl)) (hw _ (List.mem_of_getElem? (i := 5) rfl)) (by decide) (rmOut l Z a0 hw o c6 (5 : Int32) (10 : Int32) (XT.ushr p2 (16 : Int32)) T6.heap n0 A6 S6 (by decide) (by decide)) e11 (by decide) 0 (by decide) (by decide) (by decide) pd_2 [(.ref o), (.int (10 : Int32)), (.int (XT.ushr p2 (16 : Int32)))] [] rfl rfl rfl (Nat.le_of_eq rfl) rfl at_118 rfl ?_
  intro T12 L12 v12 X12 q12c
  obtain ⟨rfl, e12, N12⟩ := q12c
  show OEnds p e below s _ _ _ T12 (mkF m 121 #[.val (.int p0), .val (.int p1), .val (.int p2), .val (.int p3), .val (.int (5 : Int32)), .val (.ref o), .unset, .unset, .unset, .unset, .unset] [])
  have M12 := Fr.app M11 N12
  refine s_aload X12 hx hby (n := 123) (x := (.ref o)) at_121 rfl rfl rfl ?_
  refine s_bipush X12 hx hby (n := 125) (v := (11 : Int32)) at_123 rfl rfl ?_
  refine s_iloadN X12 hx hby (n := 126) (x := p2) at_125 rfl rfl ?_
  refine s_bipush X12 hx hby (n := 128) (v := (24 : Int32)) at_126 rfl rfl ?_
  refine s_iushr X12 hx hby (n := 129) at_128 rfl ?_
  refine s_callS X12 hx hby hml hZ (n := 132) hown (hw _ (List.mem_of_getElem? (i := 2) rfl)) (hw _ (List.mem_of_getElem? (i := 3) rfl)) (hw _ (List.mem_of_getElem? (i := 4) rfl)) (hw _ (List.mem_of_getElem? (i := 5) rfl)) (by decide) (rmOut l Z a0 hw o c6 (5 : Int32) (11 : Int32) (XT.ushr p2 (24 : Int32)) T6.heap n0 A6 S6 (by decide) (by decide)) e12 (by decide) 0 (by decide) (by decide) (by decide) pd_2 [(.ref o), (.int (11 : Int32)), (.int (XT.ushr p2 (24 : Int32)))] [] rfl rfl rfl (Nat.le_of_eq rfl) rfl at_129 rfl ?_
  intro T13 L13 v13 X13 q13c
  obtain ⟨rfl, e13, N13⟩ := q13c
  show OEnds p e below s _ _ _ T13 (mkF m 132 #[.val (.int p0), .val (.int p1), .val (.int p2), .val (.int p3), .val (.int (5 : Int32)), .val (.ref o), .unset, .unset, .unset, .unset, .unset] [])
  have M13 := Fr.app M12 N13
  refine s_iload X13 hx hby (n := 134) (x := (5 : Int32)) at_132 rfl rfl ?_
  refine s_iconst X13 hx hby (n := 135) (v := (2 : Int32)) at_134 rfl rfl ?_
  refine s_iushr X13 hx hby (n := 136) at_135 rfl ?_
  refine s_fold (z := (1 : Int32)) (by decide) ?_
  refine s_istore X13 hx hby (n := 138) (L' := #[.val (.int p0), .val (.int p1), .val (.int p2), .val (.int p3), .val (.int (5 : Int32)), .val (.ref o), .val (.int (1 : Int32)), .unset, .unset, .unset, .unset]) at_136 rfl rfl ?_
  refine s_iload X13 hx hby (n := 140) (x := (5 : Int32)) at_138 rfl rfl ?_
  refine s_iconst X13 hx hby (n := 141) (v := (3 : Int32)) at_140 rfl rfl ?_
  refine s_iand X13 hx hby (n := 142) at_141 rfl ?_
  refine s_fold (z := (1 : Int32)) (by decide) ?_
  refine s_istore X13 hx hby (n := 144) (L' := #[.val (.int p0), .val (.int p1), .val (.int p2), .val (.int p3), .val (.int (5 : Int32)), .val (.ref o), .val (.int (1 : Int32)), .val (.int (1 : Int32)), .unset, .unset, .unset]) at_142 rfl rfl ?_
  refine s_iconst X13 hx hby (n := 145) (v := (0 : Int32)) at_144 rfl rfl ?_
  refine s_istore X13 hx hby (n := 147) (L' := #[.val (.int p0), .val (.int p1), .val (.int p2), .val (.int p3), .val (.int (5 : Int32)), .val (.ref o), .val (.int (1 : Int32)), .val (.int (1 : Int32)), .val (.int (0 : Int32)), .unset, .unset]) at_145 rfl rfl ?_
  refine s_iload X13 hx hby (n := 149) (x := (1 : Int32)) at_147 rfl rfl ?_
  refine s_iconst X13 hx hby (n := 150) (v := (1 : Int32)) at_149 rfl rfl ?_
  refine s_icmpN X13 hx hby (n := 153) at_150 (by decide) rfl ?_
  refine s_iload X13 hx hby (n := 155) (x := (0 : Int32)) at_153 rfl rfl ?_
  refine s_iloadN X13 hx hby (n := 156) (x := p0) at_155 rfl rfl ?_
  refine s_callS X13 hx hby hml hZ (n := 159) hown (hw _ (List.mem_of_getElem? (i := 37) rfl)) (hw _ (List.mem_of_getElem? (i := 38) rfl)) (hw _ (List.mem_of_getElem? (i := 4) rfl)) (hw _ (List.mem_of_getElem? (i := 39) rfl)) (by decide) (rmMix' l Z a0 hw (0 : Int32) p0 T6.heap n0) e13 (by decide) 0 (by decide) (by decide) (by decide) pd_0 [(.int (0 : Int32)), (.int p0)] [] rfl rfl rfl (Nat.le_of_eq rfl) rfl at_156 rfl ?_
  intro T14 L14 v14 X14 q14c
  obtain ⟨rfl, e14, N14⟩ := q14c
  show OEnds p e below s _ _ _ T14 (mkF m 159 #[.val (.int p0), .val (.int p1), .val (.int p2), .val (.int p3), .val (.int (5 : Int32)), .val (.ref o), .val (.int (1 : Int32)), .val (.int (1 : Int32)), .val (.int (0 : Int32)), .unset, .unset] [(.int (own_mix (0 : Int32) p0))])
  have M14 := Fr.app M13 N14
  refine s_istore X14 hx hby (n := 161) (L' := #[.val (.int p0), .val (.int p1), .val (.int p2), .val (.int p3), .val (.int (5 : Int32)), .val (.ref o), .val (.int (1 : Int32)), .val (.int (1 : Int32)), .val (.int (own_mix (0 : Int32) p0)), .unset, .unset]) at_159 rfl rfl ?_
  refine s_iload X14 hx hby (n := 163) (x := (1 : Int32)) at_161 rfl rfl ?_
  refine s_iconst X14 hx hby (n := 164) (v := (2 : Int32)) at_163 rfl rfl ?_
  refine s_icmpY X14 hx hby (n := 175) at_164 (by decide) (by decide) (by decide) ?_
  refine s_iload X14 hx hby (n := 177) (x := (1 : Int32)) at_175 rfl rfl ?_
  refine s_iconst X14 hx hby (n := 178) (v := (3 : Int32)) at_177 rfl rfl ?_
  refine s_icmpY X14 hx hby (n := 189) at_178 (by decide) (by decide) (by decide) ?_
  refine s_iload X14 hx hby (n := 191) (x := (1 : Int32)) at_189 rfl rfl ?_
  refine s_ifN X14 hx hby (n := 194) at_191 (by decide) rfl ?_
  refine s_iload X14 hx hby (n := 196) (x := (1 : Int32)) at_194 rfl rfl ?_
  refine s_ifY X14 hx hby (n := 203) at_196 (by decide) (by decide) (by decide) ?_
  refine s_iload X14 hx hby (n := 205) (x := (1 : Int32)) at_203 rfl rfl ?_
  refine s_iconst X14 hx hby (n := 206) (v := (1 : Int32)) at_205 rfl rfl ?_
  refine s_icmpN X14 hx hby (n := 209) at_206 (by decide) rfl ?_
  refine s_iloadN X14 hx hby (n := 210) (x := p1) at_209 rfl rfl ?_
  refine s_goto X14 hx hby (n := 214) at_210 (by decide) (by decide) ?_
  refine s_istore X14 hx hby (n := 216) (L' := #[.val (.int p0), .val (.int p1), .val (.int p2), .val (.int p3), .val (.int (5 : Int32)), .val (.ref o), .val (.int (1 : Int32)), .val (.int (1 : Int32)), .val (.int (own_mix (0 : Int32) p0)), .val (.int p1), .unset]) at_214 rfl rfl ?_
  refine s_iload X14 hx hby (n := 218) (x := p1) at_216 rfl rfl ?_
  refine s_iconst X14 hx hby (n := 219) (v := (1 : Int32)) at_218 rfl rfl ?_
  refine s_bipush X14 hx hby (n := 221) (v := (8 : Int32)) at_219 rfl rfl ?_
  refine s_iload X14 hx hby (n := 223) (x := (1 : Int32)) at_221 rfl rfl ?_
  refine s_imul X14 hx hby (n := 224) at_223 rfl ?_
  refine s_fold (z := (8 : Int32)) (by decide) ?_
  refine s_ishl X14 hx hby (n := 225) at_224 rfl ?_
  refine s_fold (z := (256 : Int32)) (by decide) ?_
  refine s_iconst X14 hx hby (n := 226) (v := (1 : Int32)) at_225 rfl rfl ?_
  refine s_isub X14 hx hby (n := 227) at_226 rfl ?_
  refine s_fold (z := (255 : Int32)) (by decide) ?_
  refine s_iand X14 hx hby (n := 228) at_227 rfl ?_
  refine s_istore X14 hx hby (n := 230) (L' := #[.val (.int p0), .val (.int p1), .val (.int p2), .val (.int p3), .val (.int (5 : Int32)), .val (.ref o), .val (.int (1 : Int32)), .val (.int (1 : Int32)), .val (.int (own_mix (0 : Int32) p0)), .val (.int p1), .val (.int (p1 &&& (255 : Int32)))]) at_228 rfl rfl ?_
  refine s_iload X14 hx hby (n := 232) (x := (own_mix (0 : Int32) p0)) at_230 rfl rfl ?_
  refine s_iload X14 hx hby (n := 234) (x := (p1 &&& (255 : Int32))) at_232 rfl rfl ?_
  refine s_callS X14 hx hby hml hZ (n := 237) hown (hw _ (List.mem_of_getElem? (i := 6) rfl)) (hw _ (List.mem_of_getElem? (i := 7) rfl)) (hw _ (List.mem_of_getElem? (i := 4) rfl)) (hw _ (List.mem_of_getElem? (i := 8) rfl)) (by decide) (rmScr' l Z a0 hw (p1 &&& (255 : Int32)) T6.heap n0) e14 (by decide) 1 (by decide) (by decide) (by decide) pd_1 [(.int (p1 &&& (255 : Int32)))] [(.int (own_mix (0 : Int32) p0))] rfl rfl rfl (Nat.le_of_eq rfl) rfl at_234 rfl ?_
  intro T15 L15 v15 X15 q15c
  obtain ⟨rfl, e15, N15⟩ := q15c
  show OEnds p e below s _ _ _ T15 (mkF m 237 #[.val (.int p0), .val (.int p1), .val (.int p2), .val (.int p3), .val (.int (5 : Int32)), .val (.ref o), .val (.int (1 : Int32)), .val (.int (1 : Int32)), .val (.int (own_mix (0 : Int32) p0)), .val (.int p1), .val (.int (p1 &&& (255 : Int32)))] [(.int (own_scr (p1 &&& (255 : Int32)))), (.int (own_mix (0 : Int32) p0))])
  have M15 := Fr.app M14 N15
  refine s_ixor X15 hx hby (n := 238) at_237 rfl ?_
  refine s_istore X15 hx hby (n := 240) (L' := #[.val (.int p0), .val (.int p1), .val (.int p2), .val (.int p3), .val (.int (5 : Int32)), .val (.ref o), .val (.int (1 : Int32)), .val (.int (1 : Int32)), .val (.int ((own_mix (0 : Int32) p0) ^^^ (own_scr (p1 &&& (255 : Int32))))), .val (.int p1), .val (.int (p1 &&& (255 : Int32)))]) at_238 rfl rfl ?_
  refine s_iload X15 hx hby (n := 242) (x := ((own_mix (0 : Int32) p0) ^^^ (own_scr (p1 &&& (255 : Int32))))) at_240 rfl rfl ?_
  refine s_iload X15 hx hby (n := 244) (x := (5 : Int32)) at_242 rfl rfl ?_
  refine s_callS X15 hx hby hml hZ (n := 247) hown (hw _ (List.mem_of_getElem? (i := 14) rfl)) (hw _ (List.mem_of_getElem? (i := 15) rfl)) (hw _ (List.mem_of_getElem? (i := 4) rfl)) (hw _ (List.mem_of_getElem? (i := 16) rfl)) (by decide) (rmFin' l Z a0 hw ((own_mix (0 : Int32) p0) ^^^ (own_scr (p1 &&& (255 : Int32)))) (5 : Int32) T6.heap n0) e15 (by decide) 0 (by decide) (by decide) (by decide) pd_0 [(.int ((own_mix (0 : Int32) p0) ^^^ (own_scr (p1 &&& (255 : Int32))))), (.int (5 : Int32))] [] rfl rfl rfl (Nat.le_of_eq rfl) rfl at_244 rfl ?_
  intro T16 L16 v16 X16 q16c
  obtain ⟨rfl, e16, N16⟩ := q16c
  show OEnds p e below s _ _ _ T16 (mkF m 247 #[.val (.int p0), .val (.int p1), .val (.int p2), .val (.int p3), .val (.int (5 : Int32)), .val (.ref o), .val (.int (1 : Int32)), .val (.int (1 : Int32)), .val (.int ((own_mix (0 : Int32) p0) ^^^ (own_scr (p1 &&& (255 : Int32))))), .val (.int p1), .val (.int (p1 &&& (255 : Int32)))] [(.int (own_fin ((own_mix (0 : Int32) p0) ^^^ (own_scr (p1 &&& (255 : Int32)))) (5 : Int32)))])
  have M16 := Fr.app M15 N16
  refine s_istore X16 hx hby (n := 249) (L' := #[.val (.int p0), .val (.int p1), .val (.int p2), .val (.int p3), .val (.int (5 : Int32)), .val (.ref o), .val (.int (1 : Int32)), .val (.int (1 : Int32)), .val (.int ((own_mix (0 : Int32) p0) ^^^ (own_scr (p1 &&& (255 : Int32))))), .val (.int (own_fin ((own_mix (0 : Int32) p0) ^^^ (own_scr (p1 &&& (255 : Int32)))) (5 : Int32))), .val (.int (p1 &&& (255 : Int32)))]) at_247 rfl rfl ?_
  refine s_aload X16 hx hby (n := 251) (x := (.ref o)) at_249 rfl rfl rfl ?_
  refine s_callS X16 hx hby hml hZ (n := 254) hown (hw _ (List.mem_of_getElem? (i := 19) rfl)) (hw _ (List.mem_of_getElem? (i := 20) rfl)) (hw _ (List.mem_of_getElem? (i := 21) rfl)) (hw _ (List.mem_of_getElem? (i := 22) rfl)) (by decide) (rmH5 l Z a0 hw o c6 (nar .byte (p0).toInt8.toInt32) (nar .byte (XT.ushr p0 (8 : Int32)).toInt8.toInt32) (nar .byte (XT.ushr p0 (16 : Int32)).toInt8.toInt32) (nar .byte (XT.ushr p0 (24 : Int32)).toInt8.toInt32) (nar .byte (p1).toInt8.toInt32) T6.heap n0 A6 S6 B6_0 B6_1 B6_2 B6_3 B6_4) e16 (by decide) 0 (by decide) (by decide) (by decide) pd_3 [(.ref o)] [] rfl rfl rfl (Nat.le_of_eq rfl) rfl at_251 rfl ?_
  intro T17 L17 v17 X17 q17c
  obtain ⟨rfl, e17, N17⟩ := q17c
  show OEnds p e below s _ _ _ T17 (mkF m 254 #[.val (.int p0), .val (.int p1), .val (.int p2), .val (.int p3), .val (.int (5 : Int32)), .val (.ref o), .val (.int (1 : Int32)), .val (.int (1 : Int32)), .val (.int ((own_mix (0 : Int32) p0) ^^^ (own_scr (p1 &&& (255 : Int32))))), .val (.int (own_fin ((own_mix (0 : Int32) p0) ^^^ (own_scr (p1 &&& (255 : Int32)))) (5 : Int32))), .val (.int (p1 &&& (255 : Int32)))] [(.int (own_fin ((own_mix (0 : Int32) (((((nar .byte (p0).toInt8.toInt32) &&& (255 : Int32)) ||| (((nar .byte (XT.ushr p0 (8 : Int32)).toInt8.toInt32) &&& (255 : Int32)) <<< ((8 : Int32) &&& 31))) ||| (((nar .byte (XT.ushr p0 (16 : Int32)).toInt8.toInt32) &&& (255 : Int32)) <<< ((16 : Int32) &&& 31))) ||| (((nar .byte (XT.ushr p0 (24 : Int32)).toInt8.toInt32) &&& (255 : Int32)) <<< ((24 : Int32) &&& 31)))) ^^^ (own_scr ((0 : Int32) ||| ((nar .byte (p1).toInt8.toInt32) &&& (255 : Int32))))) (5 : Int32)))])
  have M17 := Fr.app M16 N17
  refine s_iload X17 hx hby (n := 256) (x := (own_fin ((own_mix (0 : Int32) p0) ^^^ (own_scr (p1 &&& (255 : Int32)))) (5 : Int32))) at_254 rfl rfl ?_
  refine s_icmpN X17 hx hby (n := 259) at_256 (XT.ii_ne_f (by rw [own_wp p0, own_t1 p1])) rfl ?_
  refine s_iconst X17 hx hby (n := 260) (v := (1 : Int32)) at_259 rfl rfl ?_
  refine s_goto X17 hx hby (n := 264) at_260 (by decide) (by decide) ?_
  exact s_retN X17 hx hby hlk hret (t := .boolean) (by simp) (z' := (1 : Int32)) (by decide) at_264 (by decide) (by decide) ⟨rfl, M17⟩
set_option maxRecDepth 65536 in
set_option maxHeartbeats 40000000 in
theorem rm0_6 (l : Launch) (Z : State) (a0 : Array Value) (hw : ∀ d ∈ tables_1, d.before a0 Z = true) (p0 p1 p2 p3 : Int32) (qn : ((p3 &&& (2147483647 : Int32)) % (13 : Int32)) = (6 : Int32)) (h0 : Heap) (n0 : Nat) (Z0 : n0 ≤ h0.size) :
    OCon l Z x code maxLocals ret tables_1 room_1 #[(.int p0), (.int p1), (.int p2), (.int p3)] h0 (fun v h L => v = some (.int 1) ∧ Fr n0 L) := by
  refine con (plainFor_of_name pn0) ?_
  intro p e s m below meth c s₁ hx hby hml hZ hown hnm hret hlk X0 e0
  refine entry (ef0 m p0 p1 p2 p3) ?_
  have M0 := Fr.nil n0
  refine s_iloadN X0 hx hby (n := 1) (x := p3) at_0 rfl rfl ?_
  refine s_ldcI X0 hx hby hZ (n := 3) hown (hw _ (List.mem_of_getElem? (i := 0) rfl)) at_1 rfl ?_
  refine s_iand X0 hx hby (n := 4) at_3 rfl ?_
  refine s_bipush X0 hx hby (n := 6) (v := (13 : Int32)) at_4 rfl rfl ?_
  refine s_irem X0 hx hby (n := 7) at_6 (by decide) rfl ?_
  refine s_fold (z := (6 : Int32)) qn ?_
  refine s_istore X0 hx hby (n := 9) (L' := #[.val (.int p0), .val (.int p1), .val (.int p2), .val (.int p3), .val (.int (6 : Int32)), .unset, .unset, .unset, .unset, .unset, .unset]) at_7 rfl rfl ?_
  refine s_iload X0 hx hby (n := 11) (x := (6 : Int32)) at_9 rfl rfl ?_
  refine s_newP X0 hx hby hZ (n := 13) (hw _ (List.mem_of_getElem? (i := 1) rfl)) (ty := .byte) rfl e0 (by decide) 6 (by decide) (by decide) (by decide) (by decide) at_11 rfl ?_
  intro T1 h1 cA o ho X1 e1 E1 A1
  have S1 : (newA cA .byte (6 : Int32)).slots.size = (6 : Int32).toNatClampNeg := sz_new _ _ _
  have no : n0 ≤ o := by rw [ho]; exact Z0
  refine s_astore X1 hx hby (n := 15) (L' := #[.val (.int p0), .val (.int p1), .val (.int p2), .val (.int p3), .val (.int (6 : Int32)), .val (.ref o), .unset, .unset, .unset, .unset, .unset]) at_13 rfl rfl rfl ?_
  refine s_aload X1 hx hby (n := 17) (x := (.ref o)) at_15 rfl rfl rfl ?_
  refine s_iconst X1 hx hby (n := 18) (v := (0 : Int32)) at_17 rfl rfl ?_
  refine s_iloadN X1 hx hby (n := 19) (x := p0) at_18 rfl rfl ?_
  refine s_callS X1 hx hby hml hZ (n := 22) hown (hw _ (List.mem_of_getElem? (i := 2) rfl)) (hw _ (List.mem_of_getElem? (i := 3) rfl)) (hw _ (List.mem_of_getElem? (i := 4) rfl)) (hw _ (List.mem_of_getElem? (i := 5) rfl)) (by decide) (rmIn l Z a0 hw o (newA cA .byte (6 : Int32)) (6 : Int32) (0 : Int32) p0 0 h1 n0 A1 S1 (by decide) (by decide) (by decide) (by decide) (by rw [S1]; decide) no) e1 (by decide) 0 (by decide) (by decide) (by decide) pd_2 [(.ref o), (.int (0 : Int32)), (.int p0)] [] rfl rfl rfl (Nat.le_of_eq rfl) rfl at_19 rfl ?_
  intro T2 L2 v2 X2 q2c
  obtain ⟨rfl, N2, W2⟩ := q2c
  show OEnds p e below s _ _ _ T2 (mkF m 22 #[.val (.int p0), .val (.int p1), .val (.int p2), .val (.int p3), .val (.int (6 : Int32)), .val (.ref o), .unset, .unset, .unset, .unset, .unset] [])
  obtain ⟨c2, A2, S2, B2_0⟩ : ∃ cc : Cell, Arr Z T2.heap o cc .byte ∧ cc.slots.size = (6 : Int32).toNatClampNeg ∧ cc.slots[0]? = some (.int (nar .byte (p0).toInt8.toInt32)) := ⟨_, A1.same W2, (by rw [sz_set]; exact S1), set_hit (by rw [S1]; decide)⟩
  have M2 := Fr.app M0 N2
  refine s_aload X2 hx hby (n := 24) (x := (.ref o)) at_22 rfl rfl rfl ?_
  refine s_iconst X2 hx hby (n := 25) (v := (1 : Int32)) at_24 rfl rfl ?_
  refine s_iloadN X2 hx hby (n := 26) (x := p0) at_25 rfl rfl ?_
  refine s_bipush X2 hx hby (n := 28) (v := (8 : Int32)) at_26 rfl rfl ?_
  refine s_iushr X2 hx hby (n := 29) at_28 rfl ?_
  refine s_callS X2 hx hby hml hZ (n := 32) hown (hw _ (List.mem_of_getElem? (i := 2) rfl)) (hw _ (List.mem_of_getElem? (i := 3) rfl)) (hw _ (List.mem_of_getElem? (i := 4) rfl)) (hw _ (List.mem_of_getElem? (i := 5) rfl)) (by decide) (rmIn l Z a0 hw o c2 (6 : Int32) (1 : Int32) (XT.ushr p0 (8 : Int32)) 1 T2.heap n0 A2 S2 (by decide) (by decide) (by decide) (by decide) (by rw [S2]; decide) no) rfl (by decide) 0 (by decide) (by decide) (by decide) pd_2 [(.ref o), (.int (1 : Int32)), (.int (XT.ushr p0 (8 : Int32)))] [] rfl rfl rfl (Nat.le_of_eq rfl) rfl at_29 rfl ?_
  intro T3 L3 v3 X3 q3c
  obtain ⟨rfl, N3, W3⟩ := q3c
  show OEnds p e below s _ _ _ T3 (mkF m 32 #[.val (.int p0), .val (.int p1), .val (.int p2), .val (.int p3), .val (.int (6 : Int32)), .val (.ref o), .unset, .unset, .unset, .unset, .unset] [])
  obtain ⟨c3, A3, S3, B3_0, B3_1⟩ : ∃ cc : Cell, Arr Z T3.heap o cc .byte ∧ cc.slots.size = (6 : Int32).toNatClampNeg ∧ cc.slots[0]? = some (.int (nar .byte (p0).toInt8.toInt32)) ∧ cc.slots[1]? = some (.int (nar .byte (XT.ushr p0 (8 : Int32)).toInt8.toInt32)) := ⟨_, A2.same W3, (by rw [sz_set]; exact S2), set_mis B2_0 (by decide), set_hit (by rw [S2]; decide)⟩
  have M3 := Fr.app M2 N3
  refine s_aload X3 hx hby (n := 34) (x := (.ref o)) at_32 rfl rfl rfl ?_
  refine s_iconst X3 hx hby (n := 35) (v := (2 : Int32)) at_34 rfl rfl ?_
  refine s_iloadN X3 hx hby (n := 36) (x := p0) at_35 rfl rfl ?_
  refine s_bipush X3 hx hby (n := 38) (v := (16 : Int32)) at_36 rfl rfl ?_
  refine s_iushr X3 hx hby (n := 39) at_38 rfl ?_
  refine s_callS X3 hx hby hml hZ (n := 42) hown (hw _ (List.mem_of_getElem? (i := 2) rfl)) (hw _ (List.mem_of_getElem? (i := 3) rfl)) (hw _ (List.mem_of_getElem? (i := 4) rfl)) (hw _ (List.mem_of_getElem? (i := 5) rfl)) (by decide) (rmIn l Z a0 hw o c3 (6 : Int32) (2 : Int32) (XT.ushr p0 (16 : Int32)) 2 T3.heap n0 A3 S3 (by decide) (by decide) (by decide) (by decide) (by rw [S3]; decide) no) rfl (by decide) 0 (by decide) (by decide) (by decide) pd_2 [(.ref o), (.int (2 : Int32)), (.int (XT.ushr p0 (16 : Int32)))] [] rfl rfl rfl (Nat.le_of_eq rfl) rfl at_39 rfl ?_
  intro T4 L4 v4 X4 q4c
  obtain ⟨rfl, N4, W4⟩ := q4c
  show OEnds p e below s _ _ _ T4 (mkF m 42 #[.val (.int p0), .val (.int p1), .val (.int p2), .val (.int p3), .val (.int (6 : Int32)), .val (.ref o), .unset, .unset, .unset, .unset, .unset] [])
  obtain ⟨c4, A4, S4, B4_0, B4_1, B4_2⟩ : ∃ cc : Cell, Arr Z T4.heap o cc .byte ∧ cc.slots.size = (6 : Int32).toNatClampNeg ∧ cc.slots[0]? = some (.int (nar .byte (p0).toInt8.toInt32)) ∧ cc.slots[1]? = some (.int (nar .byte (XT.ushr p0 (8 : Int32)).toInt8.toInt32)) ∧ cc.slots[2]? = some (.int (nar .byte (XT.ushr p0 (16 : Int32)).toInt8.toInt32)) := ⟨_, A3.same W4, (by rw [sz_set]; exact S3), set_mis B3_0 (by decide), set_mis B3_1 (by decide), set_hit (by rw [S3]; decide)⟩
  have M4 := Fr.app M3 N4
  refine s_aload X4 hx hby (n := 44) (x := (.ref o)) at_42 rfl rfl rfl ?_
  refine s_iconst X4 hx hby (n := 45) (v := (3 : Int32)) at_44 rfl rfl ?_
  refine s_iloadN X4 hx hby (n := 46) (x := p0) at_45 rfl rfl ?_
  refine s_bipush X4 hx hby (n := 48) (v := (24 : Int32)) at_46 rfl rfl ?_
  refine s_iushr X4 hx hby (n := 49) at_48 rfl ?_
  refine s_callS X4 hx hby hml hZ (n := 52) hown (hw _ (List.mem_of_getElem? (i := 2) rfl)) (hw _ (List.mem_of_getElem? (i := 3) rfl)) (hw _ (List.mem_of_getElem? (i := 4) rfl)) (hw _ (List.mem_of_getElem? (i := 5) rfl)) (by decide) (rmIn l Z a0 hw o c4 (6 : Int32) (3 : Int32) (XT.ushr p0 (24 : Int32)) 3 T4.heap n0 A4 S4 (by decide) (by decide) (by decide) (by decide) (by rw [S4]; decide) no) rfl (by decide) 0 (by decide) (by decide) (by decide) pd_2 [(.ref o), (.int (3 : Int32)), (.int (XT.ushr p0 (24 : Int32)))] [] rfl rfl rfl (Nat.le_of_eq rfl) rfl at_49 rfl ?_
  intro T5 L5 v5 X5 q5c
  obtain ⟨rfl, N5, W5⟩ := q5c
  show OEnds p e below s _ _ _ T5 (mkF m 52 #[.val (.int p0), .val (.int p1), .val (.int p2), .val (.int p3), .val (.int (6 : Int32)), .val (.ref o), .unset, .unset, .unset, .unset, .unset] [])
  obtain ⟨c5, A5, S5, B5_0, B5_1, B5_2, B5_3⟩ : ∃ cc : Cell, Arr Z T5.heap o cc .byte ∧ cc.slots.size = (6 : Int32).toNatClampNeg ∧ cc.slots[0]? = some (.int (nar .byte (p0).toInt8.toInt32)) ∧ cc.slots[1]? = some (.int (nar .byte (XT.ushr p0 (8 : Int32)).toInt8.toInt32)) ∧ cc.slots[2]? = some (.int (nar .byte (XT.ushr p0 (16 : Int32)).toInt8.toInt32)) ∧ cc.slots[3]? = some (.int (nar .byte (XT.ushr p0 (24 : Int32)).toInt8.toInt32)) := ⟨_, A4.same W5, (by rw [sz_set]; exact S4), set_mis B4_0 (by decide), set_mis B4_1 (by decide), set_mis B4_2 (by decide), set_hit (by rw [S4]; decide)⟩
  have M5 := Fr.app M4 N5
  refine s_aload X5 hx hby (n := 54) (x := (.ref o)) at_52 rfl rfl rfl ?_
  refine s_iconst X5 hx hby (n := 55) (v := (4 : Int32)) at_54 rfl rfl ?_
  refine s_iloadN X5 hx hby (n := 56) (x := p1) at_55 rfl rfl ?_
  refine s_callS X5 hx hby hml hZ (n := 59) hown (hw _ (List.mem_of_getElem? (i := 2) rfl)) (hw _ (List.mem_of_getElem? (i := 3) rfl)) (hw _ (List.mem_of_getElem? (i := 4) rfl)) (hw _ (List.mem_of_getElem? (i := 5) rfl)) (by decide) (rmIn l Z a0 hw o c5 (6 : Int32) (4 : Int32) p1 4 T5.heap n0 A5 S5 (by decide) (by decide) (by decide) (by decide) (by rw [S5]; decide) no) rfl (by decide) 0 (by decide) (by decide) (by decide) pd_2 [(.ref o), (.int (4 : Int32)), (.int p1)] [] rfl rfl rfl (Nat.le_of_eq rfl) rfl at_56 rfl ?_
  intro T6 L6 v6 X6 q6c
  obtain ⟨rfl, N6, W6⟩ := q6c
  show OEnds p e below s _ _ _ T6 (mkF m 59 #[.val (.int p0), .val (.int p1), .val (.int p2), .val (.int p3), .val (.int (6 : Int32)), .val (.ref o), .unset, .unset, .unset, .unset, .unset] [])
  obtain ⟨c6, A6, S6, B6_0, B6_1, B6_2, B6_3, B6_4⟩ : ∃ cc : Cell, Arr Z T6.heap o cc .byte ∧ cc.slots.size = (6 : Int32).toNatClampNeg ∧ cc.slots[0]? = some (.int (nar .byte (p0).toInt8.toInt32)) ∧ cc.slots[1]? = some (.int (nar .byte (XT.ushr p0 (8 : Int32)).toInt8.toInt32)) ∧ cc.slots[2]? = some (.int (nar .byte (XT.ushr p0 (16 : Int32)).toInt8.toInt32)) ∧ cc.slots[3]? = some (.int (nar .byte (XT.ushr p0 (24 : Int32)).toInt8.toInt32)) ∧ cc.slots[4]? = some (.int (nar .byte (p1).toInt8.toInt32)) := ⟨_, A5.same W6, (by rw [sz_set]; exact S5), set_mis B5_0 (by decide), set_mis B5_1 (by decide), set_mis B5_2 (by decide), set_mis B5_3 (by decide), set_hit (by rw [S5]; decide)⟩
  have M6 := Fr.app M5 N6
  refine s_aload X6 hx hby (n := 61) (x := (.ref o)) at_59 rfl rfl rfl ?_
  refine s_iconst X6 hx hby (n := 62) (v := (5 : Int32)) at_61 rfl rfl ?_
  refine s_iloadN X6 hx hby (n := 63) (x := p1) at_62 rfl rfl ?_
  refine s_bipush X6 hx hby (n := 65) (v := (8 : Int32)) at_63 rfl rfl ?_
  refine s_iushr X6 hx hby (n := 66) at_65 rfl ?_
  refine s_callS X6 hx hby hml hZ (n := 69) hown (hw _ (List.mem_of_getElem? (i := 2) rfl)) (hw _ (List.mem_of_getElem? (i := 3) rfl)) (hw _ (List.mem_of_getElem? (i := 4) rfl)) (hw _ (List.mem_of_getElem? (i := 5) rfl)) (by decide) (rmIn l Z a0 hw o c6 (6 : Int32) (5 : Int32) (XT.ushr p1 (8 : Int32)) 5 T6.heap n0 A6 S6 (by decide) (by decide) (by decide) (by decide) (by rw [S6]; decide) no) rfl (by decide) 0 (by decide) (by decide) (by decide) pd_2 [(.ref o), (.int (5 : Int32)), (.int (XT.ushr p1 (8 : Int32)))] [] rfl rfl rfl (Nat.le_of_eq rfl) rfl at_66 rfl ?_
  intro T7 L7 v7 X7 q7c
  obtain ⟨rfl, N7, W7⟩ := q7c
  show OEnds p e below s _ _ _ T7 (mkF m 69 #[.val (.int p0), .val (.int p1), .val (.int p2), .val (.int p3), .val (.int (6 : Int32)), .val (.ref o), .unset, .unset, .unset, .unset, .unset] [])
  obtain ⟨c7, A7, S7, B7_0, B7_1, B7_2, B7_3, B7_4, B7_5⟩ : ∃ cc : Cell, Arr Z T7.heap o cc .byte ∧ cc.slots.size = (6 : Int32).toNatClampNeg ∧ cc.slots[0]? = some (.int (nar .byte (p0).toInt8.toInt32)) ∧ cc.slots[1]? = some (.int (nar .byte (XT.ushr p0 (8 : Int32)).toInt8.toInt32)) ∧ cc.slots[2]? = some (.int (nar .byte (XT.ushr p0 (16 : Int32)).toInt8.toInt32)) ∧ cc.slots[3]? = some (.int (nar .byte (XT.ushr p0 (24 : Int32)).toInt8.toInt32)) ∧ cc.slots[4]? = some (.int (nar .byte (p1).toInt8.toInt32)) ∧ cc.slots[5]? = some (.int (nar .byte (XT.ushr p1 (8 : Int32)).toInt8.toInt32)) := ⟨_, A6.same W7, (by rw [sz_set]; exact S6), set_mis B6_0 (by decide), set_mis B6_1 (by decide), set_mis B6_2 (by decide), set_mis B6_3 (by decide), set_mis B6_4 (by decide), set_hit (by rw [S6]; decide)⟩
  have M7 := Fr.app M6 N7
  refine s_aload X7 hx hby (n := 71) (x := (.ref o)) at_69 rfl rfl rfl ?_
  refine s_bipush X7 hx hby (n := 73) (v := (6 : Int32)) at_71 rfl rfl ?_
  refine s_iloadN X7 hx hby (n := 74) (x := p1) at_73 rfl rfl ?_
  refine s_bipush X7 hx hby (n := 76) (v := (16 : Int32)) at_74 rfl rfl ?_
  refine s_iushr X7 hx hby (n := 77) at_76 rfl ?_
  refine s_callS X7 hx hby hml hZ (n := 80) hown (hw _ (List.mem_of_getElem? (i := 2) rfl)) (hw _ (List.mem_of_getElem? (i := 3) rfl)) (hw _ (List.mem_of_getElem? (i := 4) rfl)) (hw _ (List.mem_of_getElem? (i := 5) rfl)) (by decide) (rmOut l Z a0 hw o c7 (6 : Int32) (6 : Int32) (XT.ushr p1 (16 : Int32)) T7.heap n0 A7 S7 (by decide) (by decide)) rfl (by decide) 0 (by decide) (by decide) (by decide) pd_2 [(.ref o), (.int (6 : Int32)), (.int (XT.ushr p1 (16 : Int32)))] [] rfl rfl rfl (Nat.le_of_eq rfl) rfl at_77 rfl ?_
  intro T8 L8 v8 X8 q8c
  obtain ⟨rfl, e8, N8⟩ := q8c
  show OEnds p e below s _ _ _ T8 (mkF m 80 #[.val (.int p0), .val (.int p1), .val (.int p2), .val (.int p3), .val (.int (6 : Int32)), .val (.ref o), .unset, .unset, .unset, .unset, .unset] [])
  have M8 := Fr.app M7 N8
  refine s_aload X8 hx hby (n := 82) (x := (.ref o)) at_80 rfl rfl rfl ?_
  refine s_bipush X8 hx hby (n := 84) (v := (7 : Int32)) at_82 rfl rfl ?_
  refine s_iloadN X8 hx hby (n := 85) (x := p1) at_84 rfl rfl ?_
  refine s_bipush X8 hx hby (n := 87) (v := (24 : Int32)) at_85 rfl rfl ?_
  refine s_iushr X8 hx hby (n := 88) at_87 rfl ?_
  refine s_callS X8 hx hby hml hZ (n := 91) hown (hw _ (List.mem_of_getElem? (i := 2) rfl)) (hw _ (List.mem_of_getElem? (i := 3) rfl)) (hw _ (List.mem_of_getElem? (i := 4) rfl)) (hw _ (List.mem_of_getElem? (i := 5) rfl)) (by decide) (rmOut l Z a0 hw o c7 (6 : Int32) (7 : Int32) (XT.ushr p1 (24 : Int32)) T7.heap n0 A7 S7 (by decide) (by decide)) e8 (by decide) 0 (by decide) (by decide) (by decide) pd_2 [(.ref o), (.int (7 : Int32)), (.int (XT.ushr p1 (24 : Int32)))] [] rfl rfl rfl (Nat.le_of_eq rfl) rfl at_88 rfl ?_
  intro T9 L9 v9 X9 q9c
  obtain ⟨rfl, e9, N9⟩ := q9c
  show OEnds p e below s _ _ _ T9 (mkF m 91 #[.val (.int p0), .val (.int p1), .val (.int p2), .val (.int p3), .val (.int (6 : Int32)), .val (.ref o), .unset, .unset, .unset, .unset, .unset] [])
  have M9 := Fr.app M8 N9
  refine s_aload X9 hx hby (n := 93) (x := (.ref o)) at_91 rfl rfl rfl ?_
  refine s_bipush X9 hx hby (n := 95) (v := (8 : Int32)) at_93 rfl rfl ?_
  refine s_iloadN X9 hx hby (n := 96) (x := p2) at_95 rfl rfl ?_
  refine s_callS X9 hx hby hml hZ (n := 99) hown (hw _ (List.mem_of_getElem? (i := 2) rfl)) (hw _ (List.mem_of_getElem? (i := 3) rfl)) (hw _ (List.mem_of_getElem? (i := 4) rfl)) (hw _ (List.mem_of_getElem? (i := 5) rfl)) (by decide) (rmOut l Z a0 hw o c7 (6 : Int32) (8 : Int32) p2 T7.heap n0 A7 S7 (by decide) (by decide)) e9 (by decide) 0 (by decide) (by decide) (by decide) pd_2 [(.ref o), (.int (8 : Int32)), (.int p2)] [] rfl rfl rfl (Nat.le_of_eq rfl) rfl at_96 rfl ?_
  intro T10 L10 v10 X10 q10c
  obtain ⟨rfl, e10, N10⟩ := q10c
  show OEnds p e below s _ _ _ T10 (mkF m 99 #[.val (.int p0), .val (.int p1), .val (.int p2), .val (.int p3), .val (.int (6 : Int32)), .val (.ref o), .unset, .unset, .unset, .unset, .unset] [])
  have M10 := Fr.app M9 N10
  refine s_aload X10 hx hby (n := 101) (x := (.ref o)) at_99 rfl rfl rfl ?_
  refine s_bipush X10 hx hby (n := 103) (v := (9 : Int32)) at_101 rfl rfl ?_
  refine s_iloadN X10 hx hby (n := 104) (x := p2) at_103 rfl rfl ?_
  refine s_bipush X10 hx hby (n := 106) (v := (8 : Int32)) at_104 rfl rfl ?_
  refine s_iushr X10 hx hby (n := 107) at_106 rfl ?_
  refine s_callS X10 hx hby hml hZ (n := 110) hown (hw _ (List.mem_of_getElem? (i := 2) rfl)) (hw _ (List.mem_of_getElem? (i := 3) rfl)) (hw _ (List.mem_of_getElem? (i := 4) rfl)) (hw _ (List.mem_of_getElem? (i := 5) rfl)) (by decide) (rmOut l Z a0 hw o c7 (6 : Int32) (9 : Int32) (XT.ushr p2 (8 : Int32)) T7.heap n0 A7 S7 (by decide) (by decide)) e10 (by decide) 0 (by decide) (by decide) (by decide) pd_2 [(.ref o), (.int (9 : Int32)), (.int (XT.ushr p2 (8 : Int32)))] [] rfl rfl rfl (Nat.le_of_eq rfl) rfl at_107 rfl ?_
  intro T11 L11 v11 X11 q11c
  obtain ⟨rfl, e11, N11⟩ := q11c
  show OEnds p e below s _ _ _ T11 (mkF m 110 #[.val (.int p0), .val (.int p1), .val (.int p2), .val (.int p3), .val (.int (6 : Int32)), .val (.ref o), .unset, .unset, .unset, .unset, .unset] [])
  have M11 := Fr.app M10 N11
  refine s_aload X11 hx hby (n := 112) (x := (.ref o)) at_110 rfl rfl rfl ?_
  refine s_bipush X11 hx hby (n := 114) (v := (10 : Int32)) at_112 rfl rfl ?_
  refine s_iloadN X11 hx hby (n := 115) (x := p2) at_114 rfl rfl ?_
  refine s_bipush X11 hx hby (n := 117) (v := (16 : Int32)) at_115 rfl rfl ?_
  refine s_iushr X11 hx hby (n := 118) at_117 rfl ?_
  refine s_callS X11 hx hby hml hZ (n := 121) hown (hw _ (List.mem_of_getElem? (i := 2) rfl)) (hw _ (List.mem_of_getElem? (i := 3) rfl)) (hw _ (List.mem_of_getElem? (i := 4) rfl)) (hw _ (List.mem_of_getElem? (i := 5) rfl)) (by decide) (rmOut l Z a0 hw o c7 (6 : Int32) (10 : Int32) (XT.ushr p2 (16 : Int32)) T7.heap n0 A7 S7 (by decide) (by decide)) e11 (by decide) 0 (by decide) (by decide) (by decide) pd_2 [(.ref o), (.int (10 : Int32)), (.int (XT.ushr p2 (16 : Int32)))] [] rfl rfl rfl (Nat.le_of_eq rfl) rfl at_118 rfl ?_
  intro T12 L12 v12 X12 q12c
  obtain ⟨rfl, e12, N12⟩ := q12c
  show OEnds p e below s _ _ _ T12 (mkF m 121 #[.val (.int p0), .val (.int p1), .val (.int p2), .val (.int p3), .val (.int (6 : Int32)), .val (.ref o), .unset, .unset, .unset, .unset, .unset] [])
  have M12 := Fr.app M11 N12
  refine s_aload X12 hx hby (n := 123) (x := (.ref o)) at_121 rfl rfl rfl ?_
  refine s_bipush X12 hx hby (n := 125) (v := (11 : Int32)) at_123 rfl rfl ?_
  refine s_iloadN X12 hx hby (n := 126) (x := p2) at_125 rfl rfl ?_
  refine s_bipush X12 hx hby (n := 128) (v := (24 : Int32)) at_126 rfl rfl ?_
  refine s_iushr X12 hx hby (n := 129) at_128 rfl ?_
  refine s_callS X12 hx hby hml hZ (n := 132) hown (hw _ (List.mem_of_getElem? (i := 2) rfl)) (hw _ (List.mem_of_getElem? (i := 3) rfl)) (hw _ (List.mem_of_getElem? (i := 4) rfl)) (hw _ (List.mem_of_getElem? (i := 5) rfl)) (by decide) (rmOut l Z a0 hw o c7 (6 : Int32) (11 : Int32) (XT.ushr p2 (24 : Int32)) T7.heap n0 A7 S7 (by decide) (by decide)) e12 (by decide) 0 (by decide) (by decide) (by decide) pd_2 [(.ref o), (.int (11 : Int32)), (.int (XT.ushr p2 (24 : Int32)))] [] rfl rfl rfl (Nat.le_of_eq rfl) rfl at_129 rfl ?_
  intro T13 L13 v13 X13 q13c
  obtain ⟨rfl, e13, N13⟩ := q13c
  show OEnds p e below s _ _ _ T13 (mkF m 132 #[.val (.int p0), .val (.int p1), .val (.int p2), .val (.int p3), .val (.int (6 : Int32)), .val (.ref o), .unset, .unset, .unset, .unset, .unset] [])
  have M13 := Fr.app M12 N13
  refine s_iload X13 hx hby (n := 134) (x := (6 : Int32)) at_132 rfl rfl ?_
  refine s_iconst X13 hx hby (n := 135) (v := (2 : Int32)) at_134 rfl rfl ?_
  refine s_iushr X13 hx hby (n := 136) at_135 rfl ?_
  refine s_fold (z := (1 : Int32)) (by decide) ?_
  refine s_istore X13 hx hby (n := 138) (L' := #[.val (.int p0), .val (.int p1), .val (.int p2), .val (.int p3), .val (.int (6 : Int32)), .val (.ref o), .val (.int (1 : Int32)), .unset, .unset, .unset, .unset]) at_136 rfl rfl ?_
  refine s_iload X13 hx hby (n := 140) (x := (6 : Int32)) at_138 rfl rfl ?_
  refine s_iconst X13 hx hby (n := 141) (v := (3 : Int32)) at_140 rfl rfl ?_
  refine s_iand X13 hx hby (n := 142) at_141 rfl ?_
  refine s_fold (z := (2 : Int32)) (by decide) ?_
  refine s_istore X13 hx hby (n := 144) (L' := #[.val (.int p0), .val (.int p1), .val (.int p2), .val (.int p3), .val (.int (6 : Int32)), .val (.ref o), .val (.int (1 : Int32)), .val (.int (2 : Int32)), .unset, .unset, .unset]) at_142 rfl rfl ?_
  refine s_iconst X13 hx hby (n := 145) (v := (0 : Int32)) at_144 rfl rfl ?_
  refine s_istore X13 hx hby (n := 147) (L' := #[.val (.int p0), .val (.int p1), .val (.int p2), .val (.int p3), .val (.int (6 : Int32)), .val (.ref o), .val (.int (1 : Int32)), .val (.int (2 : Int32)), .val (.int (0 : Int32)), .unset, .unset]) at_145 rfl rfl ?_
  refine s_iload X13 hx hby (n := 149) (x := (1 : Int32)) at_147 rfl rfl ?_
  refine s_iconst X13 hx hby (n := 150) (v := (1 : Int32)) at_149 rfl rfl ?_
  refine s_icmpN X13 hx hby (n := 153) at_150 (by decide) rfl ?_
  refine s_iload X13 hx hby (n := 155) (x := (0 : Int32)) at_153 rfl rfl ?_
  refine s_iloadN X13 hx hby (n := 156) (x := p0) at_155 rfl rfl ?_
  refine s_callS X13 hx hby hml hZ (n := 159) hown (hw _ (List.mem_of_getElem? (i := 37) rfl)) (hw _ (List.mem_of_getElem? (i := 38) rfl)) (hw _ (List.mem_of_getElem? (i := 4) rfl)) (hw _ (List.mem_of_getElem? (i := 39) rfl)) (by decide) (rmMix' l Z a0 hw (0 : Int32) p0 T7.heap n0) e13 (by decide) 0 (by decide) (by decide) (by decide) pd_0 [(.int (0 : Int32)), (.int p0)] [] rfl rfl rfl (Nat.le_of_eq rfl) rfl at_156 rfl ?_
  intro T14 L14 v14 X14 q14c
  obtain ⟨rfl, e14, N14⟩ := q14c
  show OEnds p e below s _ _ _ T14 (mkF m 159 #[.val (.int p0), .val (.int p1), .val (.int p2), .val (.int p3), .val (.int (6 : Int32)), .val (.ref o), .val (.int (1 : Int32)), .val (.int (2 : Int32)), .val (.int (0 : Int32)), .unset, .unset] [(.int (own_mix (0 : Int32) p0))])
  have M14 := Fr.app M13 N14
  refine s_istore X14 hx hby (n := 161) (L' := #[.val (.int p0), .val (.int p1), .val (.int p2), .val (.int p3), .val (.int (6 : Int32)), .val (.ref o), .val (.int (1 : Int32)), .val (.int (2 : Int32)), .val (.int (own_mix (0 : Int32) p0)), .unset, .unset]) at_159 rfl rfl ?_
  refine s_iload X14 hx hby (n := 163) (x := (1 : Int32)) at_161 rfl rfl ?_
  refine s_iconst X14 hx hby (n := 164) (v := (2 : Int32)) at_163 rfl rfl ?_
  refine s_icmpY X14 hx hby (n := 175) at_164 (by decide) (by decide) (by decide) ?_
  refine s_iload X14 hx hby (n := 177) (x := (1 : Int32)) at_175 rfl rfl ?_
  refine s_iconst X14 hx hby (n := 178) (v := (3 : Int32)) at_177 rfl rfl ?_
  refine s_icmpY X14 hx hby (n := 189) at_178 (by decide) (by decide) (by decide) ?_
  refine s_iload X14 hx hby (n := 191) (x := (2 : Int32)) at_189 rfl rfl ?_
  refine s_ifN X14 hx hby (n := 194) at_191 (by decide) rfl ?_
  refine s_iload X14 hx hby (n := 196) (x := (1 : Int32)) at_194 rfl rfl ?_
  refine s_ifY X14 hx hby (n := 203) at_196 (by decide) (by decide) (by decide) ?_
  refine s_iload X14 hx hby (n := 205) (x := (1 : Int32)) at_203 rfl rfl ?_
  refine s_iconst X14 hx hby (n := 206) (v := (1 : Int32)) at_205 rfl rfl ?_
  refine s_icmpN X14 hx hby (n := 209) at_206 (by decide) rfl ?_
  refine s_iloadN X14 hx hby (n := 210) (x := p1) at_209 rfl rfl ?_
  refine s_goto X14 hx hby (n := 214) at_210 (by decide) (by decide) ?_
  refine s_istore X14 hx hby (n := 216) (L' := #[.val (.int p0), .val (.int p1), .val (.int p2), .val (.int p3), .val (.int (6 : Int32)), .val (.ref o), .val (.int (1 : Int32)), .val (.int (2 : Int32)), .val (.int (own_mix (0 : Int32) p0)), .val (.int p1), .unset]) at_214 rfl rfl ?_
  refine s_iload X14 hx hby (n := 218) (x := p1) at_216 rfl rfl ?_
  refine s_iconst X14 hx hby (n := 219) (v := (1 : Int32)) at_218 rfl rfl ?_
  refine s_bipush X14 hx hby (n := 221) (v := (8 : Int32)) at_219 rfl rfl ?_
  refine s_iload X14 hx hby (n := 223) (x := (2 : Int32)) at_221 rfl rfl ?_
  refine s_imul X14 hx hby (n := 224) at_223 rfl ?_
  refine s_fold (z := (16 : Int32)) (by decide) ?_
  refine s_ishl X14 hx hby (n := 225) at_224 rfl ?_
  refine s_fold (z := (65536 : Int32)) (by decide) ?_
  refine s_iconst X14 hx hby (n := 226) (v := (1 : Int32)) at_225 rfl rfl ?_
  refine s_isub X14 hx hby (n := 227) at_226 rfl ?_
  refine s_fold (z := (65535 : Int32)) (by decide) ?_
  refine s_iand X14 hx hby (n := 228) at_227 rfl ?_
  refine s_istore X14 hx hby (n := 230) (L' := #[.val (.int p0), .val (.int p1), .val (.int p2), .val (.int p3), .val (.int (6 : Int32)), .val (.ref o), .val (.int (1 : Int32)), .val (.int (2 : Int32)), .val (.int (own_mix (0 : Int32) p0)), .val (.int p1), .val (.int (p1 &&& (65535 : Int32)))]) at_228 rfl rfl ?_
  refine s_iload X14 hx hby (n := 232) (x := (own_mix (0 : Int32) p0)) at_230 rfl rfl ?_
  refine s_iload X14 hx hby (n := 234) (x := (p1 &&& (65535 : Int32))) at_232 rfl rfl ?_
  refine s_callS X14 hx hby hml hZ (n := 237) hown (hw _ (List.mem_of_getElem? (i := 6) rfl)) (hw _ (List.mem_of_getElem? (i := 7) rfl)) (hw _ (List.mem_of_getElem? (i := 4) rfl)) (hw _ (List.mem_of_getElem? (i := 8) rfl)) (by decide) (rmScr' l Z a0 hw (p1 &&& (65535 : Int32)) T7.heap n0) e14 (by decide) 1 (by decide) (by decide) (by decide) pd_1 [(.int (p1 &&& (65535 : Int32)))] [(.int (own_mix (0 : Int32) p0))] rfl rfl rfl (Nat.le_of_eq rfl) rfl at_234 rfl ?_
  intro T15 L15 v15 X15 q15c
  obtain ⟨rfl, e15, N15⟩ := q15c
  show OEnds p e below s _ _ _ T15 (mkF m 237 #[.val (.int p0), .val (.int p1), .val (.int p2), .val (.int p3), .val (.int (6 : Int32)), .val (.ref o), .val (.int (1 : Int32)), .val (.int (2 : Int32)), .val (.int (own_mix (0 : Int32) p0)), .val (.int p1), .val (.int (p1 &&& (65535 : Int32)))] [(.int (own_scr (p1 &&& (65535 : Int32)))), (.int (own_mix (0 : Int32) p0))])
  have M15 := Fr.app M14 N15
  refine s_ixor X15 hx hby (n := 238) at_237 rfl ?_
  refine s_istore X15 hx hby (n := 240) (L' := #[.val (.int p0), .val (.int p1), .val (.int p2), .val (.int p3), .val (.int (6 : Int32)), .val (.ref o), .val (.int (1 : Int32)), .val (.int (2 : Int32)), .val (.int ((own_mix (0 : Int32) p0) ^^^ (own_scr (p1 &&& (65535 : Int32))))), .val (.int p1), .val (.int (p1 &&& (65535 : Int32)))]) at_238 rfl rfl ?_
  refine s_iload X15 hx hby (n := 242) (x := ((own_mix (0 : Int32) p0) ^^^ (own_scr (p1 &&& (65535 : Int32))))) at_240 rfl rfl ?_
  refine s_iload X15 hx hby (n := 244) (x := (6 : Int32)) at_242 rfl rfl ?_
  refine s_callS X15 hx hby hml hZ (n := 247) hown (hw _ (List.mem_of_getElem? (i := 14) rfl)) (hw _ (List.mem_of_getElem? (i := 15) rfl)) (hw _ (List.mem_of_getElem? (i := 4) rfl)) (hw _ (List.mem_of_getElem? (i := 16) rfl)) (by decide) (rmFin' l Z a0 hw ((own_mix (0 : Int32) p0) ^^^ (own_scr (p1 &&& (65535 : Int32)))) (6 : Int32) T7.heap n0) e15 (by decide) 0 (by decide) (by decide) (by decide) pd_0 [(.int ((own_mix (0 : Int32) p0) ^^^ (own_scr (p1 &&& (65535 : Int32))))), (.int (6 : Int32))] [] rfl rfl rfl (Nat.le_of_eq rfl) rfl at_244 rfl ?_
  intro T16 L16 v16 X16 q16c
  obtain ⟨rfl, e16, N16⟩ := q16c
  show OEnds p e below s _ _ _ T16 (mkF m 247 #[.val (.int p0), .val (.int p1), .val (.int p2), .val (.int p3), .val (.int (6 : Int32)), .val (.ref o), .val (.int (1 : Int32)), .val (.int (2 : Int32)), .val (.int ((own_mix (0 : Int32) p0) ^^^ (own_scr (p1 &&& (65535 : Int32))))), .val (.int p1), .val (.int (p1 &&& (65535 : Int32)))] [(.int (own_fin ((own_mix (0 : Int32) p0) ^^^ (own_scr (p1 &&& (65535 : Int32)))) (6 : Int32)))])
  have M16 := Fr.app M15 N16
  refine s_istore X16 hx hby (n := 249) (L' := #[.val (.int p0), .val (.int p1), .val (.int p2), .val (.int p3), .val (.int (6 : Int32)), .val (.ref o), .val (.int (1 : Int32)), .val (.int (2 : Int32)), .val (.int ((own_mix (0 : Int32) p0) ^^^ (own_scr (p1 &&& (65535 : Int32))))), .val (.int (own_fin ((own_mix (0 : Int32) p0) ^^^ (own_scr (p1 &&& (65535 : Int32)))) (6 : Int32))), .val (.int (p1 &&& (65535 : Int32)))]) at_247 rfl rfl ?_
  refine s_aload X16 hx hby (n := 251) (x := (.ref o)) at_249 rfl rfl rfl ?_
  refine s_callS X16 hx hby hml hZ (n := 254) hown (hw _ (List.mem_of_getElem? (i := 19) rfl)) (hw _ (List.mem_of_getElem? (i := 20) rfl)) (hw _ (List.mem_of_getElem? (i := 21) rfl)) (hw _ (List.mem_of_getElem? (i := 22) rfl)) (by decide) (rmH6 l Z a0 hw o c7 (nar .byte (p0).toInt8.toInt32) (nar .byte (XT.ushr p0 (8 : Int32)).toInt8.toInt32) (nar .byte (XT.ushr p0 (16 : Int32)).toInt8.toInt32) (nar .byte (XT.ushr p0 (24 : Int32)).toInt8.toInt32) (nar .byte (p1).toInt8.toInt32) (nar .byte (XT.ushr p1 (8 : Int32)).toInt8.toInt32) T7.heap n0 A7 S7 B7_0 B7_1 B7_2 B7_3 B7_4 B7_5) e16 (by decide) 0 (by decide) (by decide) (by decide) pd_3 [(.ref o)] [] rfl rfl rfl (Nat.le_of_eq rfl) rfl at_251 rfl ?_
  intro T17 L17 v17 X17 q17c
  obtain ⟨rfl, e17, N17⟩ := q17c
  show OEnds p e below s _ _ _ T17 (mkF m 254 #[.val (.int p0), .val (.int p1), .val (.int p2), .val (.int p3), .val (.int (6 : Int32)), .val (.ref o), .val (.int (1 : Int32)), .val (.int (2 : Int32)), .val (.int ((own_mix (0 : Int32) p0) ^^^ (own_scr (p1 &&& (65535 : Int32))))), .val (.int (own_fin ((own_mix (0 : Int32) p0) ^^^ (own_scr (p1 &&& (65535 : Int32)))) (6 : Int32))), .val (.int (p1 &&& (65535 : Int32)))] [(.int (own_fin ((own_mix (0 : Int32) (((((nar .byte (p0).toInt8.toInt32) &&& (255 : Int32)) ||| (((nar .byte (XT.ushr p0 (8 : Int32)).toInt8.toInt32) &&& (255 : Int32)) <<< ((8 : Int32) &&& 31))) ||| (((nar .byte (XT.ushr p0 (16 : Int32)).toInt8.toInt32) &&& (255 : Int32)) <<< ((16 : Int32) &&& 31))) ||| (((nar .byte (XT.ushr p0 (24 : Int32)).toInt8.toInt32) &&& (255 : Int32)) <<< ((24 : Int32) &&& 31)))) ^^^ (own_scr ((((0 : Int32) ||| ((nar .byte (XT.ushr p1 (8 : Int32)).toInt8.toInt32) &&& (255 : Int32))) <<< ((8 : Int32) &&& 31)) ||| ((nar .byte (p1).toInt8.toInt32) &&& (255 : Int32))))) (6 : Int32)))])
  have M17 := Fr.app M16 N17
  refine s_iload X17 hx hby (n := 256) (x := (own_fin ((own_mix (0 : Int32) p0) ^^^ (own_scr (p1 &&& (65535 : Int32)))) (6 : Int32))) at_254 rfl rfl ?_
  refine s_icmpN X17 hx hby (n := 259) at_256 (XT.ii_ne_f (by rw [own_wp p0, own_t2 p1])) rfl ?_
  refine s_iconst X17 hx hby (n := 260) (v := (1 : Int32)) at_259 rfl rfl ?_
  refine s_goto X17 hx hby (n := 264) at_260 (by decide) (by decide) ?_
  exact s_retN X17 hx hby hlk hret (t := .boolean) (by simp) (z' := (1 : Int32)) (by decide) at_264 (by decide) (by decide) ⟨rfl, M17⟩
set_option maxRecDepth 65536 in
set_option maxHeartbeats 40000000 in
theorem rm0_7 (l : Launch) (Z : State) (a0 : Array Value) (hw : ∀ d ∈ tables_1, d.before a0 Z = true) (p0 p1 p2 p3 : Int32) (qn : ((p3 &&& (2147483647 : Int32)) % (13 : Int32)) = (7 : Int32)) (h0 : Heap) (n0 : Nat) (Z0 : n0 ≤ h0.size) :
    OCon l Z x code maxLocals ret tables_1 room_1 #[(.int p0), (.int p1), (.int p2), (.int p3)] h0 (fun v h L => v = some (.int 1) ∧ Fr n0 L) := by
  refine con (plainFor_of_name pn0) ?_
  intro p e s m below meth c s₁ hx hby hml hZ hown hnm hret hlk X0 e0
  refine entry (ef0 m p0 p1 p2 p3) ?_
  have M0 := Fr.nil n0
  refine s_iloadN X0 hx hby (n := 1) (x := p3) at_0 rfl rfl ?_
  refine s_ldcI X0 hx hby hZ (n := 3) hown (hw _ (List.mem_of_getElem? (i := 0) rfl)) at_1 rfl ?_
  refine s_iand X0 hx hby (n := 4) at_3 rfl ?_
  refine s_bipush X0 hx hby (n := 6) (v := (13 : Int32)) at_4 rfl rfl ?_
  refine s_irem X0 hx hby (n := 7) at_6 (by decide) rfl ?_
  refine s_fold (z := (7 : Int32)) qn ?_
  refine s_istore X0 hx hby (n := 9) (L' := #[.val (.int p0), .val (.int p1), .val (.int p2), .val (.int p3), .val (.int (7 : Int32)), .unset, .unset, .unset, .unset, .unset, .unset]) at_7 rfl rfl ?_
  refine s_iload X0 hx hby (n := 11) (x := (7 : Int32)) at_9 rfl rfl ?_
  refine s_newP X0 hx hby hZ (n := 13) (hw _ (List.mem_of_getElem? (i := 1) rfl)) (ty := .byte) rfl e0 (by decide) 7 (by decide) (by decide) (by decide) (by decide) at_11 rfl ?_
  intro T1 h1 cA o ho X1 e1 E1 A1
  have S1 : (newA cA .byte (7 : Int32)).slots.size = (7 : Int32).toNatClampNeg := sz_new _ _ _
  have no : n0 ≤ o := by rw [ho]; exact Z0
  refine s_astore X1 hx hby (n := 15) (L' := #[.val (.int p0), .val (.int p1), .val (.int p2), .val (.int p3), .val (.int (7 : Int32)), .val (.ref o), .unset, .unset, .unset, .unset, .unset]) at_13 rfl rfl rfl ?_
  refine s_aload X1 hx hby (n := 17) (x := (.ref o)) at_15 rfl rfl rfl ?_
  refine s_iconst X1 hx hby (n := 18) (v := (0 : Int32)) at_17 rfl rfl ?_
  refine s_iloadN X1 hx hby (n := 19) (x := p0) at_18 rfl rfl ?_
  refine s_callS X1 hx hby hml hZ (n := 22) hown (hw _ (List.mem_of_getElem? (i := 2) rfl)) (hw _ (List.mem_of_getElem? (i := 3) rfl)) (hw _ (List.mem_of_getElem? (i := 4) rfl)) (hw _ (List.mem_of_getElem? (i := 5) rfl)) (by decide) (rmIn l Z a0 hw o (newA cA .byte (7 : Int32)) (7 : Int32) (0 : Int32) p0 0 h1 n0 A1 S1 (by decide) (by decide) (by decide) (by decide) (by rw [S1]; decide) no) e1 (by decide) 0 (by decide) (by decide) (by decide) pd_2 [(.ref o), (.int (0 : Int32)), (.int p0)] [] rfl rfl rfl (Nat.le_of_eq rfl) rfl at_19 rfl ?_
  intro T2 L2 v2 X2 q2c
  obtain ⟨rfl, N2, W2⟩ := q2c
  show OEnds p e below s _ _ _ T2 (mkF m 22 #[.val (.int p0), .val (.int p1), .val (.int p2), .val (.int p3), .val (.int (7 : Int32)), .val (.ref o), .unset, .unset, .unset, .unset, .unset] [])
  obtain ⟨c2, A2, S2, B2_0⟩ : ∃ cc : Cell, Arr Z T2.heap o cc .byte ∧ cc.slots.size = (7 : Int32).toNatClampNeg ∧ cc.slots[0]? = some (.int (nar .byte (p0).toInt8.toInt32)) := ⟨_, A1.same W2, (by rw [sz_set]; exact S1), set_hit (by rw [S1]; decide)⟩
  have M2 := Fr.app M0 N2
  refine s_aload X2 hx hby (n := 24) (x := (.ref o)) at_22 rfl rfl rfl ?_
  refine s_iconst X2 hx hby (n := 25) (v := (1 : Int32)) at_24 rfl rfl ?_
  refine s_iloadN X2 hx hby (n := 26) (x := p0) at_25 rfl rfl ?_
  refine s_bipush X2 hx hby (n := 28) (v := (8 : Int32)) at_26 rfl rfl ?_
  refine s_iushr X2 hx hby (n := 29) at_28 rfl ?_
  refine s_callS X2 hx hby hml hZ (n := 32) hown (hw _ (List.mem_of_getElem? (i := 2) rfl)) (hw _ (List.mem_of_getElem? (i := 3) rfl)) (hw _ (List.mem_of_getElem? (i := 4) rfl)) (hw _ (List.mem_of_getElem? (i := 5) rfl)) (by decide) (rmIn l Z a0 hw o c2 (7 : Int32) (1 : Int32) (XT.ushr p0 (8 : Int32)) 1 T2.heap n0 A2 S2 (by decide) (by decide) (by decide) (by decide) (by rw [S2]; decide) no) rfl (by decide) 0 (by decide) (by decide) (by decide) pd_2 [(.ref o), (.int (1 : Int32)), (.int (XT.ushr p0 (8 : Int32)))] [] rfl rfl rfl (Nat.le_of_eq rfl) rfl at_29 rfl ?_
  intro T3 L3 v3 X3 q3c
  obtain ⟨rfl, N3, W3⟩ := q3c
  show OEnds p e below s _ _ _ T3 (mkF m 32 #[.val (.int p0), .val (.int p1), .val (.int p2), .val (.int p3), .val (.int (7 : Int32)), .val (.ref o), .unset, .unset, .unset, .unset, .unset] [])
  obtain ⟨c3, A3, S3, B3_0, B3_1⟩ : ∃ cc : Cell, Arr Z T3.heap o cc .byte ∧ cc.slots.size = (7 : Int32).toNatClampNeg ∧ cc.slots[0]? = some (.int (nar .byte (p0).toInt8.toInt32)) ∧ cc.slots[1]? = some (.int (nar .byte (XT.ushr p0 (8 : Int32)).toInt8.toInt32)) := ⟨_, A2.same W3, (by rw [sz_set]; exact S2), set_mis B2_0 (by decide), set_hit (by rw [S2]; decide)⟩
  have M3 := Fr.app M2 N3
  refine s_aload X3 hx hby (n := 34) (x := (.ref o)) at_32 rfl rfl rfl ?_
  refine s_iconst X3 hx hby (n := 35) (v := (2 : Int32)) at_34 rfl rfl ?_
  refine s_iloadN X3 hx hby (n := 36) (x := p0) at_35 rfl rfl ?_
  refine s_bipush X3 hx hby (n := 38) (v := (16 : Int32)) at_36 rfl rfl ?_
  refine s_iushr X3 hx hby (n := 39) at_38 rfl ?_
  refine s_callS X3 hx hby hml hZ (n := 42) hown (hw _ (List.mem_of_getElem? (i := 2) rfl)) (hw _ (List.mem_of_getElem? (i := 3) rfl)) (hw _ (List.mem_of_getElem? (i := 4) rfl)) (hw _ (List.mem_of_getElem? (i := 5) rfl)) (by decide) (rmIn l Z a0 hw o c3 (7 : Int32) (2 : Int32) (XT.ushr p0 (16 : Int32)) 2 T3.heap n0 A3 S3 (by decide) (by decide) (by decide) (by decide) (by rw [S3]; decide) no) rfl (by decide) 0 (by decide) (by decide) (by decide) pd_2 [(.ref o), (.int (2 : Int32)), (.int (XT.ushr p0 (16 : Int32)))] [] rfl rfl rfl (Nat.le_of_eq rfl) rfl at_39 rfl ?_
  intro T4 L4 v4 X4 q4c
  obtain ⟨rfl, N4, W4⟩ := q4c
  show OEnds p e below s _ _ _ T4 (mkF m 42 #[.val (.int p0), .val (.int p1), .val (.int p2), .val (.int p3), .val (.int (7 : Int32)), .val (.ref o), .unset, .unset, .unset, .unset, .unset] [])
  obtain ⟨c4, A4, S4, B4_0, B4_1, B4_2⟩ : ∃ cc : Cell, Arr Z T4.heap o cc .byte ∧ cc.slots.size = (7 : Int32).toNatClampNeg ∧ cc.slots[0]? = some (.int (nar .byte (p0).toInt8.toInt32)) ∧ cc.slots[1]? = some (.int (nar .byte (XT.ushr p0 (8 : Int32)).toInt8.toInt32)) ∧ cc.slots[2]? = some (.int (nar .byte (XT.ushr p0 (16 : Int32)).toInt8.toInt32)) := ⟨_, A3.same W4, (by rw [sz_set]; exact S3), set_mis B3_0 (by decide), set_mis B3_1 (by decide), set_hit (by rw [S3]; decide)⟩
  have M4 := Fr.app M3 N4
  refine s_aload X4 hx hby (n := 44) (x := (.ref o)) at_42 rfl rfl rfl ?_
  refine s_iconst X4 hx hby (n := 45) (v := (3 : Int32)) at_44 rfl rfl ?_
  refine s_iloadN X4 hx hby (n := 46) (x := p0) at_45 rfl rfl ?_
  refine s_bipush X4 hx hby (n := 48) (v := (24 : Int32)) at_46 rfl rfl ?_
  refine s_iushr X4 hx hby (n := 49) at_48 rfl ?_
  refine s_callS X4 hx hby hml hZ (n := 52) hown (hw _ (List.mem_of_getElem? (i := 2) rfl)) (hw _ (List.mem_of_getElem? (i := 3) rfl)) (hw _ (List.mem_of_getElem? (i := 4) rfl)) (hw _ (List.mem_of_getElem? (i := 5) rfl)) (by decide) (rmIn l Z a0 hw o c4 (7 : Int32) (3 : Int32) (XT.ushr p0 (24 : Int32)) 3 T4.heap n0 A4 S4 (by decide) (by decide) (by decide) (by decide) (by rw [S4]; decide) no) rfl (by decide) 0 (by decide) (by decide) (by decide) pd_2 [(.ref o), (.int (3 : Int32)), (.int (XT.ushr p0 (24 : Int32)))] [] rfl rfl rfl (Nat.le_of_eq rfl) rfl at_49 rfl ?_
  intro T5 L5 v5 X5 q5c
  obtain ⟨rfl, N5, W5⟩ := q5c
  show OEnds p e below s _ _ _ T5 (mkF m 52 #[.val (.int p0), .val (.int p1), .val (.int p2), .val (.int p3), .val (.int (7 : Int32)), .val (.ref o), .unset, .unset, .unset, .unset, .unset] [])
  obtain ⟨c5, A5, S5, B5_0, B5_1, B5_2, B5_3⟩ : ∃ cc : Cell, Arr Z T5.heap o cc .byte ∧ cc.slots.size = (7 : Int32).toNatClampNeg ∧ cc.slots[0]? = some (.int (nar .byte (p0).toInt8.toInt32)) ∧ cc.slots[1]? = some (.int (nar .byte (XT.ushr p0 (8 : Int32)).toInt8.toInt32)) ∧ cc.slots[2]? = some (.int (nar .byte (XT.ushr p0 (16 : Int32)).toInt8.toInt32)) ∧ cc.slots[3]? = some (.int (nar .byte (XT.ushr p0 (24 : Int32)).toInt8.toInt32)) := ⟨_, A4.same W5, (by rw [sz_set]; exact S4), set_mis B4_0 (by decide), set_mis B4_1 (by decide), set_mis B4_2 (by decide), set_hit (by rw [S4]; decide)⟩
  have M5 := Fr.app M4 N5
  refine s_aload X5 hx hby (n := 54) (x := (.ref o)) at_52 rfl rfl rfl ?_
  refine s_iconst X5 hx hby (n := 55) (v := (4 : Int32)) at_54 rfl rfl ?_
  refine s_iloadN X5 hx hby (n := 56) (x := p1) at_55 rfl rfl ?_
  refine s_callS X5 hx hby hml hZ (n := 59) hown (hw _ (List.mem_of_getElem? (i := 2) rfl)) (hw _ (List.mem_of_getElem? (i := 3) rfl)) (hw _ (List.mem_of_getElem? (i := 4) rfl)) (hw _ (List.mem_of_getElem? (i := 5) rfl)) (by decide) (rmIn l Z a0 hw o c5 (7 : Int32) (4 : Int32) p1 4 T5.heap n0 A5 S5 (by decide) (by decide) (by decide) (by decide) (by rw [S5]; decide) no) rfl (by decide) 0 (by decide) (by decide) (by decide) pd_2 [(.ref o), (.int (4 : Int32)), (.int p1)] [] rfl rfl rfl (Nat.le_of_eq rfl) rfl at_56 rfl ?_
  intro T6 L6 v6 X6 q6c
  obtain ⟨rfl, N6, W6⟩ := q6c
  show OEnds p e below s _ _ _ T6 (mkF m 59 #[.val (.int p0), .val (.int p1), .val (.int p2), .val (.int p3), .val (.int (7 : Int32)), .val (.ref o), .unset, .unset, .unset, .unset, .unset] [])
  obtain ⟨c6, A6, S6, B6_0, B6_1, B6_2, B6_3, B6_4⟩ : ∃ cc : Cell, Arr Z T6.heap o cc .byte ∧ cc.slots.size = (7 : Int32).toNatClampNeg ∧ cc.slots[0]? = some (.int (nar .byte (p0).toInt8.toInt32)) ∧ cc.slots[1]? = some (.int (nar .byte (XT.ushr p0 (8 : Int32)).toInt8.toInt32)) ∧ cc.slots[2]? = some (.int (nar .byte (XT.ushr p0 (16 : Int32)).toInt8.toInt32)) ∧ cc.slots[3]? = some (.int (nar .byte (XT.ushr p0 (24 : Int32)).toInt8.toInt32)) ∧ cc.slots[4]? = some (.int (nar .byte (p1).toInt8.toInt32)) := ⟨_, A5.same W6, (by rw [sz_set]; exact S5), set_mis B5_0 (by decide), set_mis B5_1 (by decide), set_mis B5_2 (by decide), set_mis B5_3 (by decide), set_hit (by rw [S5]; decide)⟩
  have M6 := Fr.app M5 N6
  refine s_aload X6 hx hby (n := 61) (x := (.ref o)) at_59 rfl rfl rfl ?_
  refine s_iconst X6 hx hby (n := 62) (v := (5 : Int32)) at_61 rfl rfl ?_
  refine s_iloadN X6 hx hby (n := 63) (x := p1) at_62 rfl rfl ?_
  refine s_bipush X6 hx hby (n := 65) (v := (8 : Int32)) at_63 rfl rfl ?_
  refine s_iushr X6 hx hby (n := 66) at_65 rfl ?_
  refine s_callS X6 hx hby hml hZ (n := 69) hown (hw _ (List.mem_of_getElem? (i := 2) rfl)) (hw _ (List.mem_of_getElem? (i := 3) rfl)) (hw _ (List.mem_of_getElem? (i := 4) rfl)) (hw _ (List.mem_of_getElem? (i := 5) rfl)) (by decide) (rmIn l Z a0 hw o c6 (7 : Int32) (5 : Int32) (XT.ushr p1 (8 : Int32)) 5 T6.heap n0 A6 S6 (by decide) (by decide) (by decide) (by decide) (by rw [S6]; decide) no) rfl (by decide) 0 (by decide) (by decide) (by decide) pd_2 [(.ref o), (.int (5 : Int32)), (.int (XT.ushr p1 (8 : Int32)))] [] rfl rfl rfl (Nat.le_of_eq rfl) rfl at_66 rfl ?_
  intro T7 L7 v7 X7 q7c
  obtain ⟨rfl, N7, W7⟩ := q7c
  show OEnds p e below s _ _ _ T7 (mkF m 69 #[.val (.int p0), .val (.int p1), .val (.int p2), .val (.int p3), .val (.int (7 : Int32)), .val (.ref o), .unset, .unset, .unset, .unset, .unset] [])
  obtain ⟨c7, A7, S7, B7_0, B7_1, B7_2, B7_3, B7_4, B7_5⟩ : ∃ cc : Cell, Arr Z T7.heap o cc .byte ∧ cc.slots.size = (7 : Int32).toNatClampNeg ∧ cc.slots[0]? = some (.int (nar .byte (p0).toInt8.toInt32)) ∧ cc.slots[1]? = some (.int (nar .byte (XT.ushr p0 (8 : Int32)).toInt8.toInt32)) ∧ cc.slots[2]? = some (.int (nar .byte (XT.ushr p0 (16 : Int32)).toInt8.toInt32)) ∧ cc.slots[3]? = some (.int (nar .byte (XT.ushr p0 (24 : Int32)).toInt8.toInt32)) ∧ cc.slots[4]? = some (.int (nar .byte (p1).toInt8.toInt32)) ∧ cc.slots[5]? = some (.int (nar .byte (XT.ushr p1 (8 : Int32)).toInt8.toInt32)) := ⟨_, A6.same W7, (by rw [sz_set]; exact S6), set_mis B6_0 (by decide), set_mis B6_1 (by decide), set_mis B6_2 (by decide), set_mis B6_3 (by decide), set_mis B6_4 (by decide), set_hit (by rw [S6]; decide)⟩
  have M7 := Fr.app M6 N7
  refine s_aload X7 hx hby (n := 71) (x := (.ref o)) at_69 rfl rfl rfl ?_
  refine s_bipush X7 hx hby (n := 73) (v := (6 : Int32)) at_71 rfl rfl ?_
  refine s_iloadN X7 hx hby (n := 74) (x := p1) at_73 rfl rfl ?_
  refine s_bipush X7 hx hby (n := 76) (v := (16 : Int32)) at_74 rfl rfl ?_
  refine s_iushr X7 hx hby (n := 77) at_76 rfl ?_
  refine s_callS X7 hx hby hml hZ (n := 80) hown (hw _ (List.mem_of_getElem? (i := 2) rfl)) (hw _ (List.mem_of_getElem? (i := 3) rfl)) (hw _ (List.mem_of_getElem? (i := 4) rfl)) (hw _ (List.mem_of_getElem? (i := 5) rfl)) (by decide) (rmIn l Z a0 hw o c7 (7 : Int32) (6 : Int32) (XT.ushr p1 (16 : Int32)) 6 T7.heap n0 A7 S7 (by decide) (by decide) (by decide) (by decide) (by rw [S7]; decide) no) rfl (by decide) 0 (by decide) (by decide) (by decide) pd_2 [(.ref o), (.int (6 : Int32)), (.int (XT.ushr p1 (16 : Int32)))] [] rfl rfl rfl (Nat.le_of_eq rfl) rfl at_77 rfl ?_
  intro T8 L8 v8 X8 q8c
  obtain ⟨rfl, N8, W8⟩ := q8c
  show OEnds p e below s _ _ _ T8 (mkF m 80 #[.val (.int p0), .val (.int p1), .val (.int p2), .val (.int p3), .val (.int (7 : Int32)), .val (.ref o), .unset, .unset, .unset, .unset, .unset] [])
  obtain ⟨c8, A8, S8, B8_0, B8_1, B8_2, B8_3, B8_4, B8_5, B8_6⟩ : ∃ cc : Cell, Arr Z T8.heap o cc .byte ∧ cc.slots.size = (7 : Int32).toNatClampNeg ∧ cc.slots[0]? = some (.int (nar .byte (p0).toInt8.toInt32)) ∧ cc.slots[1]? = some (.int (nar .byte (XT.ushr p0 (8 : Int32)).toInt8.toInt32)) ∧ cc.slots[2]? = some (.int (nar .byte (XT.ushr p0 (16 : Int32)).toInt8.toInt32)) ∧ cc.slots[3]? = some (.int (nar .byte (XT.ushr p0 (24 : Int32)).toInt8.toInt32)) ∧ cc.slots[4]? = some (.int (nar .byte (p1).toInt8.toInt32)) ∧ cc.slots[5]? = some (.int (nar .byte (XT.ushr p1 (8 : Int32)).toInt8.toInt32)) ∧ cc.slots[6]? = some (.int (nar .byte (XT.ushr p1 (16 : Int32)).toInt8.toInt32)) := ⟨_, A7.same W8, (by rw [sz_set]; exact S7), set_mis B7_0 (by decide), set_mis B7_1 (by decide), set_mis B7_2 (by decide), set_mis B7_3 (by decide), set_mis B7_4 (by decide), set_mis B7_5 (by decide), set_hit (by rw [S7]; decide)⟩
  have M8 := Fr.app M7 N8
  refine s_aload X8 hx hby (n := 82) (x := (.ref o)) at_80 rfl rfl rfl ?_
  refine s_bipush X8 hx hby (n := 84) (v := (7 : Int32)) at_82 rfl rfl ?_
  refine s_iloadN X8 hx hby (n := 85) (x := p1) at_84 rfl rfl ?_
  refine s_bipush X8 hx hby (n := 87) (v := (24 : Int32)) at_85 rfl rfl ?_
  refine s_iushr X8 hx hby (n := 88) at_87 rfl ?_
  refine s_callS X8 hx hby hml hZ (n := 91) hown (hw _ (List.mem_of_getElem? (i := 2) rfl)) (hw _ (List.mem_of_getElem? (i := 3) rfl)) (hw _ (List.mem_of_getElem? (i := 4) rfl)) (hw _ (List.mem_of_getElem? (i := 5) rfl)) (by decide) (rmOut l Z a0 hw o c8 (7 : Int32) (7 : Int32) (XT.ushr p1 (24 : Int32)) T8.heap n0 A8 S8 (by decide) (by decide)) rfl (by decide) 0 (by decide) (by decide) (by decide) pd_2 [(.ref o), (.int (7 : Int32)), (.int (XT.ushr p1 (24 : Int32)))] [] rfl rfl rfl (Nat.le_of_eq rfl) rfl at_88 rfl ?_
  intro T9 L9 v9 X9 q9c
  obtain ⟨rfl, e9, N9⟩ := q9c
  show OEnds p e below s _ _ _ T9 (mkF m 91 #[.val (.int p0), .val (.int p1), .val (.int p2), .val (.int p3), .val (.int (7 : Int32)), .val (.ref o), .unset, .unset, .unset, .unset, .unset] [])
  have M9 := Fr.app M8 N9
  refine s_aload X9 hx hby (n := 93) (x := (.ref o)) at_91 rfl rfl rfl ?_
  refine s_bipush X9 hx hby (n := 95) (v := (8 : Int32)) at_93 rfl rfl ?_
  refine s_iloadN X9 hx hby (n := 96) (x := p2) at_95 rfl rfl ?_
  refine s_callS X9 hx hby hml hZ (n := 99) hown (hw _ (List.mem_of_getElem? (i := 2) rfl)) (hw _ (List.mem_of_getElem? (i := 3) rfl)) (hw _ (List.mem_of_getElem? (i := 4) rfl)) (hw _ (List.mem_of_getElem? (i := 5) rfl)) (by decide) (rmOut l Z a0 hw o c8 (7 : Int32) (8 : Int32) p2 T8.heap n0 A8 S8 (by decide) (by decide)) e9 (by decide) 0 (by decide) (by decide) (by decide) pd_2 [(.ref o), (.int (8 : Int32)), (.int p2)] [] rfl rfl rfl (Nat.le_of_eq rfl) rfl at_96 rfl ?_
  intro T10 L10 v10 X10 q10c
  obtain ⟨rfl, e10, N10⟩ := q10c
  show OEnds p e below s _ _ _ T10 (mkF m 99 #[.val (.int p0), .val (.int p1), .val (.int p2), .val (.int p3), .val (.int (7 : Int32)), .val (.ref o), .unset, .unset, .unset, .unset, .unset] [])
  have M10 := Fr.app M9 N10
  refine s_aload X10 hx hby (n := 101) (x := (.ref o)) at_99 rfl rfl rfl ?_
  refine s_bipush X10 hx hby (n := 103) (v := (9 : Int32)) at_101 rfl rfl ?_
  refine s_iloadN X10 hx hby (n := 104) (x := p2) at_103 rfl rfl ?_
  refine s_bipush X10 hx hby (n := 106) (v := (8 : Int32)) at_104 rfl rfl ?_
  refine s_iushr X10 hx hby (n := 107) at_106 rfl ?_
  refine s_callS X10 hx hby hml hZ (n := 110) hown (hw _ (List.mem_of_getElem? (i := 2) rfl)) (hw _ (List.mem_of_getElem? (i := 3) rfl)) (hw _ (List.mem_of_getElem? (i := 4) rfl)) (hw _ (List.mem_of_getElem? (i := 5) rfl)) (by decide) (rmOut l Z a0 hw o c8 (7 : Int32) (9 : Int32) (XT.ushr p2 (8 : Int32)) T8.heap n0 A8 S8 (by decide) (by decide)) e10 (by decide) 0 (by decide) (by decide) (by decide) pd_2 [(.ref o), (.int (9 : Int32)), (.int (XT.ushr p2 (8 : Int32)))] [] rfl rfl rfl (Nat.le_of_eq rfl) rfl at_107 rfl ?_
  intro T11 L11 v11 X11 q11c
  obtain ⟨rfl, e11, N11⟩ := q11c
  show OEnds p e below s _ _ _ T11 (mkF m 110 #[.val (.int p0), .val (.int p1), .val (.int p2), .val (.int p3), .val (.int (7 : Int32)), .val (.ref o), .unset, .unset, .unset, .unset, .unset] [])
  have M11 := Fr.app M10 N11
  refine s_aload X11 hx hby (n := 112) (x := (.ref o)) at_110 rfl rfl rfl ?_
  refine s_bipush X11 hx hby (n := 114) (v := (10 : Int32)) at_112 rfl rfl ?_
  refine s_iloadN X11 hx hby (n := 115) (x := p2) at_114 rfl rfl ?_
  refine s_bipush X11 hx hby (n := 117) (v := (16 : Int32)) at_115 rfl rfl ?_
  refine s_iushr X11 hx hby (n := 118) at_117 rfl ?_
  refine s_callS X11 hx hby hml hZ (n := 121) hown (hw _ (List.mem_of_getElem? (i := 2) rfl)) (hw _ (List.mem_of_getElem? (i := 3) rfl)) (hw _ (List.mem_of_getElem? (i := 4) rfl)) (hw _ (List.mem_of_getElem? (i := 5) rfl)) (by decide) (rmOut l Z a0 hw o c8 (7 : Int32) (10 : Int32) (XT.ushr p2 (16 : Int32)) T8.heap n0 A8 S8 (by decide) (by decide)) e11 (by decide) 0 (by decide) (by decide) (by decide) pd_2 [(.ref o), (.int (10 : Int32)), (.int (XT.ushr p2 (16 : Int32)))] [] rfl rfl rfl (Nat.le_of_eq rfl) rfl at_118 rfl ?_
  intro T12 L12 v12 X12 q12c
  obtain ⟨rfl, e12, N12⟩ := q12c
  show OEnds p e below s _ _ _ T12 (mkF m 121 #[.val (.int p0), .val (.int p1), .val (.int p2), .val (.int p3), .val (.int (7 : Int32)), .val (.ref o), .unset, .unset, .unset, .unset, .unset] [])
  have M12 := Fr.app M11 N12
  refine s_aload X12 hx hby (n := 123) (x := (.ref o)) at_121 rfl rfl rfl ?_
  refine s_bipush X12 hx hby (n := 125) (v := (11 : Int32)) at_123 rfl rfl ?_
  refine s_iloadN X12 hx hby (n := 126) (x := p2) at_125 rfl rfl ?_
  refine s_bipush X12 hx hby (n := 128) (v := (24 : Int32)) at_126 rfl rfl ?_
  refine s_iushr X12 hx hby (n := 129) at_128 rfl ?_
  refine s_callS X12 hx hby hml hZ (n := 132) hown (hw _ (List.mem_of_getElem? (i := 2) rfl)) (hw _ (List.mem_of_getElem? (i := 3) rfl)) (hw _ (List.mem_of_getElem? (i := 4) rfl)) (hw _ (List.mem_of_getElem? (i := 5) rfl)) (by decide) (rmOut l Z a0 hw o c8 (7 : Int32) (11 : Int32) (XT.ushr p2 (24 : Int32)) T8.heap n0 A8 S8 (by decide) (by decide)) e12 (by decide) 0 (by decide) (by decide) (by decide) pd_2 [(.ref o), (.int (11 : Int32)), (.int (XT.ushr p2 (24 : Int32)))] [] rfl rfl rfl (Nat.le_of_eq rfl) rfl at_129 rfl ?_
  intro T13 L13 v13 X13 q13c
  obtain ⟨rfl, e13, N13⟩ := q13c
  show OEnds p e below s _ _ _ T13 (mkF m 132 #[.val (.int p0), .val (.int p1), .val (.int p2), .val (.int p3), .val (.int (7 : Int32)), .val (.ref o), .unset, .unset, .unset, .unset, .unset] [])
  have M13 := Fr.app M12 N13
  refine s_iload X13 hx hby (n := 134) (x := (7 : Int32)) at_132 rfl rfl ?_
  refine s_iconst X13 hx hby (n := 135) (v := (2 : Int32)) at_134 rfl rfl ?_
  refine s_iushr X13 hx hby (n := 136) at_135 rfl ?_
  refine s_fold (z := (1 : Int32)) (by decide) ?_
  refine s_istore X13 hx hby (n := 138) (L' := #[.val (.int p0), .val (.int p1), .val (.int p2), .val (.int p3), .val (.int (7 : Int32)), .val (.ref o), .val (.int (1 : Int32)), .unset, .unset, .unset, .unset]) at_136 rfl rfl ?_
  refine s_iload X13 hx hby (n := 140) (x := (7 : Int32)) at_138 rfl rfl ?_
  refine s_iconst X13 hx hby (n := 141) (v := (3 : Int32)) at_140 rfl rfl ?_
  refine s_iand X13 hx hby (n := 142) at_141 rfl ?_
  refine s_fold (z := (3 : Int32)) (by decide) ?_
  refine s_istore X13 hx hby (n := 144) (L' := #[.val (.int p0), .val (.int p1), .val (.int p2), .val (.int p3), .val (.int (7 : Int32)), .val (.ref o), .val (.int (1 : Int32)), .val (.int (3 : Int32)), .unset, .unset, .unset]) at_142 rfl rfl ?_
  refine s_iconst X13 hx hby (n := 145) (v := (0 : Int32)) at_144 rfl rfl ?_
  refine s_istore X13 hx hby (n := 147) (L' := #[.val (.int p0), .val (.int p1), .val (.int p2), .val (.int p3), .val (.int (7 : Int32)), .val (.ref o), .val (.int (1 : Int32)), .val (.int (3 : Int32)), .val (.int (0 : Int32)), .unset, .unset]) at_145 rfl rfl ?_
  refine s_iload X13 hx hby (n := 149) (x := (1 : Int32)) at_147 rfl rfl ?_
  refine s_iconst X13 hx hby (n := 150) (v := (1 : Int32)) at_149 rfl rfl ?_
  refine s_icmpN X13 hx hby (n := 153) at_150 (by decide) rfl ?_
  refine s_iload X13 hx hby (n := 155) (x := (0 : Int32)) at_153 rfl rfl ?_
  refine s_iloadN X13 hx hby (n := 156) (x := p0) at_155 rfl rfl ?_
  refine s_callS X13 hx hby hml hZ (n := 159) hown (hw _ (List.mem_of_getElem? (i := 37) rfl)) (hw _ (List.mem_of_getElem? (i := 38) rfl)) (hw _ (List.mem_of_getElem? (i := 4) rfl)) (hw _ (List.mem_of_getElem? (i := 39) rfl)) (by decide) (rmMix' l Z a0 hw (0 : Int32) p0 T8.heap n0) e13 (by decide) 0 (by decide) (by decide) (by decide) pd_0 [(.int (0 : Int32)), (.int p0)] [] rfl rfl rfl (Nat.le_of_eq rfl) rfl at_156 rfl ?_
  intro T14 L14 v14 X14 q14c
  obtain ⟨rfl, e14, N14⟩ := q14c
  show OEnds p e below s _ _ _ T14 (mkF m 159 #[.val (.int p0), .val (.int p1), .val (.int p2), .val (.int p3), .val (.int (7 : Int32)), .val (.ref o), .val (.int (1 : Int32)), .val (.int (3 : Int32)), .val (.int (0 : Int32)), .unset, .unset] [(.int (own_mix (0 : Int32) p0))])
  have M14 := Fr.app M13 N14
  refine s_istore X14 hx hby (n := 161) (L' := #[.val (.int p0), .val (.int p1), .val (.int p2), .val (.int p3), .val (.int (7 : Int32)), .val (.ref o), .val (.int (1 : Int32)), .val (.int (3 : Int32)), .val (.int (own_mix (0 : Int32) p0)), .unset, .unset]) at_159 rfl rfl ?_
  refine s_iload X14 hx hby (n := 163) (x := (1 : Int32)) at_161 rfl rfl ?_
  refine s_iconst X14 hx hby (n := 164) (v := (2 : Int32)) at_163 rfl rfl ?_
  refine s_icmpY X14 hx hby (n := 175) at_164 (by decide) (by decide) (by decide) ?_
  refine s_iload X14 hx hby (n := 177) (x := (1 : Int32)) at_175 rfl rfl ?_
  refine s_iconst X14 hx hby (n := 178) (v := (3 : Int32)) at_177 rfl rfl ?_
  refine s_icmpY X14 hx hby (n := 189) at_178 (by decide) (by decide) (by decide) ?_
  refine s_iload X14 hx hby (n := 191) (x := (3 : Int32)) at_189 rfl rfl ?_
  refine s_ifN X14 hx hby (n := 194) at_191 (by decide) rfl ?_
  refine s_iload X14 hx hby (n := 196) (x := (1 : Int32)) at_194 rfl rfl ?_
  refine s_ifY X14 hx hby (n := 203) at_196 (by decide) (by decide) (by decide) ?_
  refine s_iload X14 hx hby (n := 205) (x := (1 : Int32)) at_203 rfl rfl ?_
  refine s_iconst X14 hx hby (n := 206) (v := (1 : Int32)) at_205 rfl rfl ?_
  refine s_icmpN X14 hx hby (n := 209) at_206 (by decide) rfl ?_
  refine s_iloadN X14 hx hby (n := 210) (x := p1) at_209 rfl rfl ?_
  refine s_goto X14 hx hby (n := 214) at_210 (by decide) (by decide) ?_
  refine s_istore X14 hx hby (n := 216) (L' := #[.val (.int p0), .val (.int p1), .val (.int p2), .val (.int p3), .val (.int (7 : Int32)), .val (.ref o), .val (.int (1 : Int32)), .val (.int (3 : Int32)), .val (.int (own_mix (0 : Int32) p0)), .val (.int p1), .unset]) at_214 rfl rfl ?_
  refine s_iload X14 hx hby (n := 218) (x := p1) at_216 rfl rfl ?_
  refine s_iconst X14 hx hby (n := 219) (v := (1 : Int32)) at_218 rfl rfl ?_
  refine s_bipush X14 hx hby (n := 221) (v := (8 : Int32)) at_219 rfl rfl ?_
  refine s_iload X14 hx hby (n := 223) (x := (3 : Int32)) at_221 rfl rfl ?_
  refine s_imul X14 hx hby (n := 224) at_223 rfl ?_
  refine s_fold (z := (24 : Int32)) (by decide) ?_
  refine s_ishl X14 hx hby (n := 225) at_224 rfl ?_
  refine s_fold (z := (16777216 : Int32)) (by decide) ?_
  refine s_iconst X14 hx hby (n := 226) (v := (1 : Int32)) at_225 rfl rfl ?_
  refine s_isub X14 hx hby (n := 227) at_226 rfl ?_
  refine s_fold (z := (16777215 : Int32)) (by decide) ?_
  refine s_iand X14 hx hby (n := 228) at_227 rfl ?_
  refine s_istore X14 hx hby (n := 230) (L' := #[.val (.int p0), .val (.int p1), .val (.int p2), .val (.int p3), .val (.int (7 : Int32)), .val (.ref o), .val (.int (1 : Int32)), .val (.int (3 : Int32)), .val (.int (own_mix (0 : Int32) p0)), .val (.int p1), .val (.int (p1 &&& (16777215 : Int32)))]) at_228 rfl rfl ?_
  refine s_iload X14 hx hby (n := 232) (x := (own_mix (0 : Int32) p0)) at_230 rfl rfl ?_
  refine s_iload X14 hx hby (n := 234) (x := (p1 &&& (16777215 : Int32))) at_232 rfl rfl ?_
  refine s_callS X14 hx hby hml hZ (n := 237) hown (hw _ (List.mem_of_getElem? (i := 6) rfl)) (hw _ (List.mem_of_getElem? (i := 7) rfl)) (hw _ (List.mem_of_getElem? (i := 4) rfl)) (hw _ (List.mem_of_getElem? (i := 8) rfl)) (by decide) (rmScr' l Z a0 hw (p1 &&& (16777215 : Int32)) T8.heap n0) e14 (by decide) 1 (by decide) (by decide) (by decide) pd_1 [(.int (p1 &&& (16777215 : Int32)))] [(.int (own_mix (0 : Int32) p0))] rfl rfl rfl (Nat.le_of_eq rfl) rfl at_234 rfl ?_
  intro T15 L15 v15 X15 q15c
  obtain ⟨rfl, e15, N15⟩ := q15c
  show OEnds p e below s _ _ _ T15 (mkF m 237 #[.val (.int p0), .val (.int p1), .val (.int p2), .val (.int p3), .val (.int (7 : Int32)), .val (.ref o), .val (.int (1 : Int32)), .val (.int (3 : Int32)), .val (.int (own_mix (0 : Int32) p0)), .val (.int p1), .val (.int (p1 &&& (16777215 : Int32)))] [(.int (own_scr (p1 &&& (16777215 : Int32)))), (.int (own_mix (0 : Int32) p0))])
  have M15 := Fr.app M14 N15
  refine s_ixor X15 hx hby (n := 238) at_237 rfl ?_
  refine s_istore X15 hx hby (n := 240) (L' := #[.val (.int p0), .val (.int p1), .val (.int p2), .val (.int p3), .val (.int (7 : Int32)), .val (.ref o), .val (.int (1 : Int32)), .val (.int (3 : Int32)), .val (.int ((own_mix (0 : Int32) p0) ^^^ (own_scr (p1 &&& (16777215 : Int32))))), .val (.int p1), .val (.int (p1 &&& (16777215 : Int32)))]) at_238 rfl rfl ?_
  refine s_iload X15 hx hby (n := 242) (x := ((own_mix (0 : Int32) p0) ^^^ (own_scr (p1 &&& (16777215 : Int32))))) at_240 rfl rfl ?_
  refine s_iload X15 hx hby (n := 244) (x := (7 : Int32)) at_242 rfl rfl ?_
  refine s_callS X15 hx hby hml hZ (n := 247) hown (hw _ (List.mem_of_getElem? (i := 14) rfl)) (hw _ (List.mem_of_getElem? (i := 15) rfl)) (hw _ (List.mem_of_getElem? (i := 4) rfl)) (hw _ (List.mem_of_getElem? (i := 16) rfl)) (by decide) (rmFin' l Z a0 hw ((own_mix (0 : Int32) p0) ^^^ (own_scr (p1 &&& (16777215 : Int32)))) (7 : Int32) T8.heap n0) e15 (by decide) 0 (by decide) (by decide) (by decide) pd_0 [(.int ((own_mix (0 : Int32) p0) ^^^ (own_scr (p1 &&& (16777215 : Int32))))), (.int (7 : Int32))] [] rfl rfl rfl (Nat.le_of_eq rfl) rfl at_244 rfl ?_
  intro T16 L16 v16 X16 q16c
  obtain ⟨rfl, e16, N16⟩ := q16c
  show OEnds p e below s _ _ _ T16 (mkF m 247 #[.val (.int p0), .val (.int p1), .val (.int p2), .val (.int p3), .val (.int (7 : Int32)), .val (.ref o), .val (.int (1 : Int32)), .val (.int (3 : Int32)), .val (.int ((own_mix (0 : Int32) p0) ^^^ (own_scr (p1 &&& (16777215 : Int32))))), .val (.int p1), .val (.int (p1 &&& (16777215 : Int32)))] [(.int (own_fin ((own_mix (0 : Int32) p0) ^^^ (own_scr (p1 &&& (16777215 : Int32)))) (7 : Int32)))])
  have M16 := Fr.app M15 N16
  refine s_istore X16 hx hby (n := 249) (L' := #[.val (.int p0), .val (.int p1), .val (.int p2), .val (.int p3), .val (.int (7 : Int32)), .val (.ref o), .val (.int (1 : Int32)), .val (.int (3 : Int32)), .val (.int ((own_mix (0 : Int32) p0) ^^^ (own_scr (p1 &&& (16777215 : Int32))))), .val (.int (own_fin ((own_mix (0 : Int32) p0) ^^^ (own_scr (p1 &&& (16777215 : Int32)))) (7 : Int32))), .val (.int (p1 &&& (16777215 : Int32)))]) at_247 rfl rfl ?_
  refine s_aload X16 hx hby (n := 251) (x := (.ref o)) at_249 rfl rfl rfl ?_
  refine s_callS X16 hx hby hml hZ (n := 254) hown (hw _ (List.mem_of_getElem? (i := 19) rfl)) (hw _ (List.mem_of_getElem? (i := 20) rfl)) (hw _ (List.mem_of_getElem? (i := 21) rfl)) (hw _ (List.mem_of_getElem? (i := 22) rfl)) (by decide) (rmH7 l Z a0 hw o c8 (nar .byte (p0).toInt8.toInt32) (nar .byte (XT.ushr p0 (8 : Int32)).toInt8.toInt32) (nar .byte (XT.ushr p0 (16 : Int32)).toInt8.toInt32) (nar .byte (XT.ushr p0 (24 : Int32)).toInt8.toInt32) (nar .byte (p1).toInt8.toInt32) (nar .byte (XT.ushr p1 (8 : Int32)).toInt8.toInt32) (nar .byte (XT.ushr p1 (16 : Int32)).toInt8.toInt32) T8.heap n0 A8 S8 B8_0 B8_1 B8_2 B8_3 B8_4 B8_5 B8_6) e16 (by decide) 0 (by decide) (by decide) (by decide) pd_3 [(.ref o)] [] rfl rfl rfl (Nat.le_of_eq rfl) rfl at_251 rfl ?_
  intro T17 L17 v17 X17 q17c
  obtain ⟨rfl, e17, N17⟩ := q17c
  show OEnds p e below s _ _ _ T17 (mkF m 254 #[.val (.int p0), .val (.int p1), .val (.int p2), .val (.int p3), .val (.int (7 : Int32)), .val (.ref o), .val (.int (1 : Int32)), .val (.int (3 : Int32)), .val (.int ((own_mix (0 : Int32) p0) ^^^ (own_scr (p1 &&& (16777215 : Int32))))), .val (.int (own_fin ((own_mix (0 : Int32) p0) ^^^ (own_scr (p1 &&& (16777215 : Int32)))) (7 : Int32))), .val (.int (p1 &&& (16777215 : Int32)))] [(.int (own_fin ((own_mix (0 : Int32) (((((nar .byte (p0).toInt8.toInt32) &&& (255 : Int32)) ||| (((nar .byte (XT.ushr p0 (8 : Int32)).toInt8.toInt32) &&& (255 : Int32)) <<< ((8 : Int32) &&& 31))) ||| (((nar .byte (XT.ushr p0 (16 : Int32)).toInt8.toInt32) &&& (255 : Int32)) <<< ((16 : Int32) &&& 31))) ||| (((nar .byte (XT.ushr p0 (24 : Int32)).toInt8.toInt32) &&& (255 : Int32)) <<< ((24 : Int32) &&& 31)))) ^^^ (own_scr ((((((0 : Int32) ||| ((nar .byte (XT.ushr p1 (16 : Int32)).toInt8.toInt32) &&& (255 : Int32))) <<< ((8 : Int32) &&& 31)) ||| ((nar .byte (XT.ushr p1 (8 : Int32)).toInt8.toInt32) &&& (255 : Int32))) <<< ((8 : Int32) &&& 31)) ||| ((nar .byte (p1).toInt8.toInt32) &&& (255 : Int32))))) (7 : Int32)))])
  have M17 := Fr.app M16 N17
  refine s_iload X17 hx hby (n := 256) (x := (own_fin ((own_mix (0 : Int32) p0) ^^^ (own_scr (p1 &&& (16777215 : Int32)))) (7 : Int32))) at_254 rfl rfl ?_
  refine s_icmpN X17 hx hby (n := 259) at_256 (XT.ii_ne_f (by rw [own_wp p0, own_t3 p1])) rfl ?_
  refine s_iconst X17 hx hby (n := 260) (v := (1 : Int32)) at_259 rfl rfl ?_
  refine s_goto X17 hx hby (n := 264) at_260 (by decide) (by decide) ?_
  exact s_retN X17 hx hby hlk hret (t := .boolean) (by simp) (z' := (1 : Int32)) (by decide) at_264 (by decide) (by decide) ⟨rfl, M17⟩
set_option maxRecDepth 65536 in
set_option maxHeartbeats 40000000 in
theorem rm0_8 (l : Launch) (Z : State) (a0 : Array Value) (hw : ∀ d ∈ tables_1, d.before a0 Z = true) (p0 p1 p2 p3 : Int32) (qn : ((p3 &&& (2147483647 : Int32)) % (13 : Int32)) = (8 : Int32)) (h0 : Heap) (n0 : Nat) (Z0 : n0 ≤ h0.size) :
    OCon l Z x code maxLocals ret tables_1 room_1 #[(.int p0), (.int p1), (.int p2), (.int p3)] h0 (fun v h L => v = some (.int 1) ∧ Fr n0 L) := by
  refine con (plainFor_of_name pn0) ?_
  intro p e s m below meth c s₁ hx hby hml hZ hown hnm hret hlk X0 e0
  refine entry (ef0 m p0 p1 p2 p3) ?_
  have M0 := Fr.nil n0
  refine s_iloadN X0 hx hby (n := 1) (x := p3) at_0 rfl rfl ?_
  refine s_ldcI X0 hx hby hZ (n := 3) hown (hw _ (List.mem_of_getElem? (i := 0) rfl)) at_1 rfl ?_
  refine s_iand X0 hx hby (n := 4) at_3 rfl ?_
  refine s_bipush X0 hx hby (n := 6) (v := (13 : Int32)) at_4 rfl rfl ?_
  refine s_irem X0 hx hby (n := 7) at_6 (by decide) rfl ?_
  refine s_fold (z := (8 : Int32)) qn ?_
  refine s_istore X0 hx hby (n := 9) (L' := #[.val (.int p0), .val (.int p1), .val (.int p2), .val (.int p3), .val (.int (8 : Int32)), .unset, .unset, .unset, .unset, .unset, .unset]) at_7 rfl rfl ?_
  refine s_iload X0 hx hby (n := 11) (x := (8 : Int32)) at_9 rfl rfl ?_
  refine s_newP X0 hx hby hZ (n := 13) (hw _ (List.mem_of_getElem? (i := 1) rfl)) (ty := .byte) rfl e0 (by decide) 8 (by decide) (by decide) (by decide) (by decide) at_11 rfl ?_
  intro T1 h1 cA o ho X1 e1 E1 A1
  have S1 : (newA cA .byte (8 : Int32)).slots.size = (8 : Int32).toNatClampNeg := sz_new _ _ _
  have no : n0 ≤ o := by rw [ho]; exact Z0
  refine s_astore X1 hx hby (n := 15) (L' := #[.val (.int p0), .val (.int p1), .val (.int p2), .val (.int p3), .val (.int (8 : Int32)), .val (.ref o), .unset, .unset, .unset, .unset, .unset]) at_13 rfl rfl rfl ?_
  refine s_aload X1 hx hby (n := 17) (x := (.ref o)) at_15 rfl rfl rfl ?_
  refine s_iconst X1 hx hby (n := 18) (v := (0 : Int32)) at_17 rfl rfl ?_
  refine s_iloadN X1 hx hby (n := 19) (x := p0) at_18 rfl rfl ?_
  refine s_callS X1 hx hby hml hZ (n := 22) hown (hw _ (List.mem_of_getElem? (i := 2) rfl)) (hw _ (List.mem_of_getElem? (i := 3) rfl)) (hw _ (List.mem_of_getElem? (i := 4) rfl)) (hw _ (List.mem_of_getElem? (i := 5) rfl)) (by decide) (rmIn l Z a0 hw o (newA cA .byte (8 : Int32)) (8 : Int32) (0 : Int32) p0 0 h1 n0 A1 S1 (by decide) (by decide) (by decide) (by decide) (by rw [S1]; decide) no) e1 (by decide) 0 (by decide) (by decide) (by decide) pd_2 [(.ref o), (.int (0 : Int32)), (.int p0)] [] rfl rfl rfl (Nat.le_of_eq rfl) rfl at_19 rfl ?_
  intro T2 L2 v2 X2 q2c
  obtain ⟨rfl, N2, W2⟩ := q2c
  show OEnds p e below s _ _ _ T2 (mkF m 22 #[.val (.int p0), .val (.int p1), .val (.int p2), .val (.int p3), .val (.int (8 : Int32)), .val (.ref o), .unset, .unset, .unset, .unset, .unset] [])
  obtain ⟨c2, A2, S2, B2_0⟩ : ∃ cc : Cell, Arr Z T2.heap o cc .byte ∧ cc.slots.size = (8 : Int32).toNatClampNeg ∧ cc.slots[0]? = some (.int (nar .byte (p0).toInt8.toInt32)) := ⟨_, A1.same W2, (by rw [sz_set]; exact S1), set_hit (by rw [S1]; decide)⟩
  have M2 := Fr.app M0 N2
  refine s_aload X2 hx hby (n := 24) (x := (.ref o)) at_22 rfl rfl rfl ?_
  refine s_iconst X2 hx hby (n := 25) (v := (1 : Int32)) at_24 rfl rfl ?_
  refine s_iloadN X2 hx hby (n := 26) (x := p0) at_25 rfl rfl ?_
  refine s_bipush X2 hx hby (n := 28) (v := (8 : Int32)) at_26 rfl rfl ?_
  refine s_iushr X2 hx hby (n := 29) at_28 rfl ?_
  refine s_callS X2 hx hby hml hZ (n := 32) hown (hw _ (List.mem_of_getElem? (i := 2) rfl)) (hw _ (List.mem_of_getElem? (i := 3) rfl)) (hw _ (List.mem_of_getElem? (i := 4) rfl)) (hw _ (List.mem_of_getElem? (i := 5) rfl)) (by decide) (rmIn l Z a0 hw o c2 (8 : Int32) (1 : Int32) (XT.ushr p0 (8 : Int32)) 1 T2.heap n0 A2 S2 (by decide) (by decide) (by decide) (by decide) (by rw [S2]; decide) no) rfl (by decide) 0 (by decide) (by decide) (by decide) pd_2 [(.ref o), (.int (1 : Int32)), (.int (XT.ushr p0 (8 : Int32)))] [] rfl rfl rfl (Nat.le_of_eq rfl) rfl at_29 rfl ?_
  intro T3 L3 v3 X3 q3c
  obtain ⟨rfl, N3, W3⟩ := q3c
  show OEnds p e below s _ _ _ T3 (mkF m 32 #[.val (.int p0), .val (.int p1), .val (.int p2), .val (.int p3), .val (.int (8 : Int32)), .val (.ref o), .unset, .unset, .unset, .unset, .unset] [])
  obtain ⟨c3, A3, S3, B3_0, B3_1⟩ : ∃ cc : Cell, Arr Z T3.heap o cc .byte ∧ cc.slots.size = (8 : Int32).toNatClampNeg ∧ cc.slots[0]? = some (.int (nar .byte (p0).toInt8.toInt32)) ∧ cc.slots[1]? = some (.int (nar .byte (XT.ushr p0 (8 : Int32)).toInt8.toInt32)) := ⟨_, A2.same W3, (by rw [sz_set]; exact S2), set_mis B2_0 (by decide), set_hit (by rw [S2]; decide)⟩
  have M3 := Fr.app M2 N3
  refine s_aload X3 hx hby (n := 34) (x := (.ref o)) at_32 rfl rfl rfl ?_
  refine s_iconst X3 hx hby (n := 35) (v := (2 : Int32)) at_34 rfl rfl ?_
  refine s_iloadN X3 hx hby (n := 36) (x := p0) at_35 rfl rfl ?_
  refine s_bipush X3 hx hby (n := 38) (v := (16 : Int32)) at_36 rfl rfl ?_
  refine s_iushr X3 hx hby (n := 39) at_38 rfl ?_
  refine s_callS X3 hx hby hml hZ (n := 42) hown (hw _ (List.mem_of_getElem? (i := 2) rfl)) (hw _ (List.mem_of_getElem? (i := 3) rfl)) (hw _ (List.mem_of_getElem? (i := 4) rfl)) (hw _ (List.mem_of_getElem? (i := 5) rfl)) (by decide) (rmIn l Z a0 hw o c3 (8 : Int32) (2 : Int32) (XT.ushr p0 (16 : Int32)) 2 T3.heap n0 A3 S3 (by decide) (by decide) (by decide) (by decide) (by rw [S3]; decide) no) rfl (by decide) 0 (by decide) (by decide) (by decide) pd_2 [(.ref o), (.int (2 : Int32)), (.int (XT.ushr p0 (16 : Int32)))] [] rfl rfl rfl (Nat.le_of_eq rfl) rfl at_39 rfl ?_
  intro T4 L4 v4 X4 q4c
  obtain ⟨rfl, N4, W4⟩ := q4c
  show OEnds p e below s _ _ _ T4 (mkF m 42 #[.val (.int p0), .val (.int p1), .val (.int p2), .val (.int p3), .val (.int (8 : Int32)), .val (.ref o), .unset, .unset, .unset, .unset, .unset] [])
  obtain ⟨c4, A4, S4, B4_0, B4_1, B4_2⟩ : ∃ cc : Cell, Arr Z T4.heap o cc .byte ∧ cc.slots.size = (8 : Int32).toNatClampNeg ∧ cc.slots[0]? = some (.int (nar .byte (p0).toInt8.toInt32)) ∧ cc.slots[1]? = some (.int (nar .byte (XT.ushr p0 (8 : Int32)).toInt8.toInt32)) ∧ cc.slots[2]? = some (.int (nar .byte (XT.ushr p0 (16 : Int32)).toInt8.toInt32)) := ⟨_, A3.same W4, (by rw [sz_set]; exact S3), set_mis B3_0 (by decide), set_mis B3_1 (by decide), set_hit (by rw [S3]; decide)⟩
  have M4 := Fr.app M3 N4
  refine s_aload X4 hx hby (n := 44) (x := (.ref o)) at_42 rfl rfl rfl ?_
  refine s_iconst X4 hx hby (n := 45) (v := (3 : Int32)) at_44 rfl rfl ?_
  refine s_iloadN X4 hx hby (n := 46) (x := p0) at_45 rfl rfl ?_
  refine s_bipush X4 hx hby (n := 48) (v := (24 : Int32)) at_46 rfl rfl ?_
  refine s_iushr X4 hx hby (n := 49) at_48 rfl ?_
  refine s_callS X4 hx hby hml hZ (n := 52) hown (hw _ (List.mem_of_getElem? (i := 2) rfl)) (hw _ (List.mem_of_getElem? (i := 3) rfl)) (hw _ (List.mem_of_getElem? (i := 4) rfl)) (hw _ (List.mem_of_getElem? (i := 5) rfl)) (by decide) (rmIn l Z a0 hw o c4 (8 : Int32) (3 : Int32) (XT.ushr p0 (24 : Int32)) 3 T4.heap n0 A4 S4 (by decide) (by decide) (by decide) (by decide) (by rw [S4]; decide) no) rfl (by decide) 0 (by decide) (by decide) (by decide) pd_2 [(.ref o), (.int (3 : Int32)), (.int (XT.ushr p0 (24 : Int32)))] [] rfl rfl rfl (Nat.le_of_eq rfl) rfl at_49 rfl ?_
  intro T5 L5 v5 X5 q5c
  obtain ⟨rfl, N5, W5⟩ := q5c
  show OEnds p e below s _ _ _ T5 (mkF m 52 #[.val (.int p0), .val (.int p1), .val (.int p2), .val (.int p3), .val (.int (8 : Int32)), .val (.ref o), .unset, .unset, .unset, .unset, .unset] [])
  obtain ⟨c5, A5, S5, B5_0, B5_1, B5_2, B5_3⟩ : ∃ cc : Cell, Arr Z T5.heap o cc .byte ∧ cc.slots.size = (8 : Int32).toNatClampNeg ∧ cc.slots[0]? = some (.int (nar .byte (p0).toInt8.toInt32)) ∧ cc.slots[1]? = some (.int (nar .byte (XT.ushr p0 (8 : Int32)).toInt8.toInt32)) ∧ cc.slots[2]? = some (.int (nar .byte (XT.ushr p0 (16 : Int32)).toInt8.toInt32)) ∧ cc.slots[3]? = some (.int (nar .byte (XT.ushr p0 (24 : Int32)).toInt8.toInt32)) := ⟨_, A4.same W5, (by rw [sz_set]; exact S4), set_mis B4_0 (by decide), set_mis B4_1 (by decide), set_mis B4_2 (by decide), set_hit (by rw [S4]; decide)⟩
  have M5 := Fr.app M4 N5
  refine s_aload X5 hx hby (n := 54) (x := (.ref o)) at_52 rfl rfl rfl ?_
  refine s_iconst X5 hx hby (n := 55) (v := (4 : Int32)) at_54 rfl rfl ?_
  refine s_iloadN X5 hx hby (n := 56) (x := p1) at_55 rfl rfl ?_
  refine s_callS X5 hx hby hml hZ (n := 59) hown (hw _ (List.mem_of_getElem? (i := 2) rfl)) (hw _ (List.mem_of_getElem? (i := 3) rfl)) (hw _ (List.mem_of_getElem? (i := 4) rfl)) (hw _ (List.mem_of_getElem? (i := 5) rfl)) (by decide) (rmIn l Z a0 hw o c5 (8 : Int32) (4 : Int32) p1 4 T5.heap n0 A5 S5 (by decide) (by decide) (by decide) (by decide) (by rw [S5]; decide) no) rfl (by decide) 0 (by decide) (by decide) (by decide) pd_2 [(.ref o), (.int (4 : Int32)), (.int p1)] [] rfl rfl rfl (Nat.le_of_eq rfl) rfl at_56 rfl ?_
  intro T6 L6 v6 X6 q6c
  obtain ⟨rfl, N6, W6⟩ := q6c
  show OEnds p e below s _ _ _ T6 (mkF m 59 #[.val (.int p0), .val (.int p1), .val (.int p2), .val (.int p3), .val (.int (8 : Int32)), .val (.ref o), .unset, .unset, .unset, .unset, .unset] [])
  obtain ⟨c6, A6, S6, B6_0, B6_1, B6_2, B6_3, B6_4⟩ : ∃ cc : Cell, Arr Z T6.heap o cc .byte ∧ cc.slots.size = (8 : Int32).toNatClampNeg ∧ cc.slots[0]? = some (.int (nar .byte (p0).toInt8.toInt32)) ∧ cc.slots[1]? = some (.int (nar .byte (XT.ushr p0 (8 : Int32)).toInt8.toInt32)) ∧ cc.slots[2]? = some (.int (nar .byte (XT.ushr p0 (16 : Int32)).toInt8.toInt32)) ∧ cc.slots[3]? = some (.int (nar .byte (XT.ushr p0 (24 : Int32)).toInt8.toInt32)) ∧ cc.slots[4]? = some (.int (nar .byte (p1).toInt8.toInt32)) := ⟨_, A5.same W6, (by rw [sz_set]; exact S5), set_mis B5_0 (by decide), set_mis B5_1 (by decide), set_mis B5_2 (by decide), set_mis B5_3 (by decide), set_hit (by rw [S5]; decide)⟩
  have M6 := Fr.app M5 N6
  refine s_aload X6 hx hby (n := 61) (x := (.ref o)) at_59 rfl rfl rfl ?_
  refine s_iconst X6 hx hby (n := 62) (v := (5 : Int32)) at_61 rfl rfl ?_
  refine s_iloadN X6 hx hby (n := 63) (x := p1) at_62 rfl rfl ?_
  refine s_bipush X6 hx hby (n := 65) (v := (8 : Int32)) at_63 rfl rfl ?_
  refine s_iushr X6 hx hby (n := 66) at_65 rfl ?_
  refine s_callS X6 hx hby hml hZ (n := 69) hown (hw _ (List.mem_of_getElem? (i := 2) rfl)) (hw _ (List.mem_of_getElem? (i := 3) rfl)) (hw _ (List.mem_of_getElem? (i := 4) rfl)) (hw _ (List.mem_of_getElem? (i := 5) rfl)) (by decide) (rmIn l Z a0 hw o c6 (8 : Int32) (5 : Int32) (XT.ushr p1 (8 : Int32)) 5 T6.heap n0 A6 S6 (by decide) (by decide) (by decide) (by decide) (by rw [S6]; decide) no) rfl (by decide) 0 (by decide) (by decide) (by decide) pd_2 [(.ref o), (.int (5 : Int32)), (.int (XT.ushr p1 (8 : Int32)))] [] rfl rfl rfl (Nat.le_of_eq rfl) rfl at_66 rfl ?_
  intro T7 L7 v7 X7 q7c
  obtain ⟨rfl, N7, W7⟩ := q7c
  show OEnds p e below s _ _ _ T7 (mkF m 69 #[.val (.int p0), .val (.int p1), .val (.int p2), .val (.int p3), .val (.int (8 : Int32)), .val (.ref o), .unset, .unset, .unset, .unset, .unset] [])
  obtain ⟨c7, A7, S7, B7_0, B7_1, B7_2, B7_3, B7_4, B7_5⟩ : ∃ cc : Cell, Arr Z T7.heap o cc .byte ∧ cc.slots.size = (8 : Int32).toNatClampNeg ∧ cc.slots[0]? = some (.int (nar .byte (p0).toInt8.toInt32)) ∧ cc.slots[1]? = some (.int (nar .byte (XT.ushr p0 (8 : Int32)).toInt8.toInt32)) ∧ cc.slots[2]? = some (.int (nar .byte (XT.ushr p0 (16 : Int32)).toInt8.toInt32)) ∧ cc.slots[3]? = some (.int (nar .byte (XT.ushr p0 (24 : Int32)).toInt8.toInt32)) ∧ cc.slots[4]? = some (.int (nar .byte (p1).toInt8.toInt32)) ∧ cc.slots[5]? = some (.int (nar .byte (XT.ushr p1 (8 : Int32)).toInt8.toInt32)) := ⟨_, A6.same W7, (by rw [sz_set]; exact S6), set_mis B6_0 (by decide), set_mis B6_1 (by decide), set_mis B6_2 (by decide), set_mis B6_3 (by decide), set_mis B6_4 (by decide), set_hit (by rw [S6]; decide)⟩
  have M7 := Fr.app M6 N7
  refine s_aload X7 hx hby (n := 71) (x := (.ref o)) at_69 rfl rfl rfl ?_
  refine s_bipush X7 hx hby (n := 73) (v := (6 : Int32)) at_71 rfl rfl ?_
  refine s_iloadN X7 hx hby (n := 74) (x := p1) at_73 rfl rfl ?_
  refine s_bipush X7 hx hby (n := 76) (v := (16 : Int32)) at_74 rfl rfl ?_
  refine s_iushr X7 hx hby (n := 77) at_76 rfl ?_
  refine s_callS X7 hx hby hml hZ (n := 80) hown (hw _ (List.mem_of_getElem? (i := 2) rfl)) (hw _ (List.mem_of_getElem? (i := 3) rfl)) (hw _ (List.mem_of_getElem? (i := 4) rfl)) (hw _ (List.mem_of_getElem? (i := 5) rfl)) (by decide) (rmIn l Z a0 hw o c7 (8 : Int32) (6 : Int32) (XT.ushr p1 (16 : Int32)) 6 T7.heap n0 A7 S7 (by decide) (by decide) (by decide) (by decide) (by rw [S7]; decide) no) rfl (by decide) 0 (by decide) (by decide) (by decide) pd_2 [(.ref o), (.int (6 : Int32)), (.int (XT.ushr p1 (16 : Int32)))] [] rfl rfl rfl (Nat.le_of_eq rfl) rfl at_77 rfl ?_
  intro T8 L8 v8 X8 q8c
  obtain ⟨rfl, N8, W8⟩ := q8c
  show OEnds p e below s _ _ _ T8 (mkF m 80 #[.val (.int p0), .val (.int p1), .val (.int p2), .val (.int p3), .val (.int (8 : Int32)), .val (.ref o), .unset, .unset, .unset, .unset, .unset] [])
  obtain ⟨c8, A8, S8, B8_0, B8_1, B8_2, B8_3, B8_4, B8_5, B8_6⟩ : ∃ cc : Cell, Arr Z T8.heap o cc .byte ∧ cc.slots.size = (8 : Int32).toNatClampNeg ∧ cc.slots[0]? = some (.int (nar .byte (p0).toInt8.toInt32)) ∧ cc.slots[1]? = some (.int (nar .byte (XT.ushr p0 (8 : Int32)).toInt8.toInt32)) ∧ cc.slots[2]? = some (.int (nar .byte (XT.ushr p0 (16 : Int32)).toInt8.toInt32)) ∧ cc.slots[3]? = some (.int (nar .byte (XT.ushr p0 (24 : Int32)).toInt8.toInt32)) ∧ cc.slots[4]? = some (.int (nar .byte (p1).toInt8.toInt32)) ∧ cc.slots[5]? = some (.int (nar .byte (XT.ushr p1 (8 : Int32)).toInt8.toInt32)) ∧ cc.slots[6]? = some (.int (nar .byte (XT.ushr p1 (16 : Int32)).toInt8.toInt32)) := ⟨_, A7.same W8, (by rw [sz_set]; exact S7), set_mis B7_0 (by decide), set_mis B7_1 (by decide), set_mis B7_2 (by decide), set_mis B7_3 (by decide), set_mis B7_4 (by decide), set_mis B7_5 (by decide), set_hit (by rw [S7]; decide)⟩
  have M8 := Fr.app M7 N8
  refine s_aload X8 hx hby (n := 82) (x := (.ref o)) at_80 rfl rfl rfl ?_
  refine s_bipush X8 hx hby (n := 84) (v := (7 : Int32)) at_82 rfl rfl ?_
  refine s_iloadN X8 hx hby (n := 85) (x := p1) at_84 rfl rfl ?_
  refine s_bipush X8 hx hby (n := 87) (v := (24 : Int32)) at_85 rfl rfl ?_
  refine s_iushr X8 hx hby (n := 88) at_87 rfl ?_
  refine s_callS X8 hx hby hml hZ (n := 91) hown (hw _ (List.mem_of_getElem? (i := 2) rfl)) (hw _ (List.mem_of_getElem? (i := 3) rfl)) (hw _ (List.mem_of_getElem? (i := 4) rfl)) (hw _ (List.mem_of_getElem? (i := 5) rfl)) (by decide) (rmIn l Z a0 hw o c8 (8 : Int32) (7 : Int32) (XT.ushr p1 (24 : Int32)) 7 T8.heap n0 A8 S8 (by decide) (by decide) (by decide) (by decide) (by rw [S8]; decide) no) rfl (by decide) 0 (by decide) (by decide) (by decide) pd_2 [(.ref o), (.int (7 : Int32)), (.int (XT.ushr p1 (24 : Int32)))] [] rfl rfl rfl (Nat.le_of_eq rfl) rfl at_88 rfl ?_
  intro T9 L9 v9 X9 q9c
  obtain ⟨rfl, N9, W9⟩ := q9c
  show OEnds p e below s _ _ _ T9 (mkF m 91 #[.val (.int p0), .val (.int p1), .val (.int p2), .val (.int p3), .val (.int (8 : Int32)), .val (.ref o), .unset, .unset, .unset, .unset, .unset] [])
  obtain ⟨c9, A9, S9, B9_0, B9_1, B9_2, B9_3, B9_4, B9_5, B9_6, B9_7⟩ : ∃ cc : Cell, Arr Z T9.heap o cc .byte ∧ cc.slots.size = (8 : Int32).toNatClampNeg ∧ cc.slots[0]? = some (.int (nar .byte (p0).toInt8.toInt32)) ∧ cc.slots[1]? = some (.int (nar .byte (XT.ushr p0 (8 : Int32)).toInt8.toInt32)) ∧ cc.slots[2]? = some (.int (nar .byte (XT.ushr p0 (16 : Int32)).toInt8.toInt32)) ∧ cc.slots[3]? = some (.int (nar .byte (XT.ushr p0 (24 : Int32)).toInt8.toInt32)) ∧ cc.slots[4]? = some (.int (nar .byte (p1).toInt8.toInt32)) ∧ cc.slots[5]? = some (.int (nar .byte (XT.ushr p1 (8 : Int32)).toInt8.toInt32)) ∧ cc.slots[6]? = some (.int (nar .byte (XT.ushr p1 (16 : Int32)).toInt8.toInt32)) ∧ cc.slots[7]? = some (.int (nar .byte (XT.ushr p1 (24 : Int32)).toInt8.toInt32)) := ⟨_, A8.same W9, (by rw [sz_set]; exact S8), set_mis B8_0 (by decide), set_mis B8_1 (by decide), set_mis B8_2 (by decide), set_mis B8_3 (by decide), set_mis B8_4 (by decide), set_mis B8_5 (by decide), set_mis B8_6 (by decide), set_hit (by rw [S8]; decide)⟩
  have M9 := Fr.app M8 N9
  refine s_aload X9 hx hby (n := 93) (x := (.ref o)) at_91 rfl rfl rfl ?_
  refine s_bipush X9 hx hby (n := 95) (v := (8 : Int32)) at_93 rfl rfl ?_
  refine s_iloadN X9 hx hby (n := 96) (x := p2) at_95 rfl rfl ?_
  refine s_callS X9 hx hby hml hZ (n := 99) hown (hw _ (List.mem_of_getElem? (i := 2) rfl)) (hw _ (List.mem_of_getElem? (i := 3) rfl)) (hw _ (List.mem_of_getElem? (i := 4) rfl)) (hw _ (List.mem_of_getElem? (i := 5) rfl)) (by decide) (rmOut l Z a0 hw o c9 (8 : Int32) (8 : Int32) p2 T9.heap n0 A9 S9 (by decide) (by decide)) rfl (by decide) 0 (by decide) (by decide) (by decide) pd_2 [(.ref o), (.int (8 : Int32)), (.int p2)] [] rfl rfl rfl (Nat.le_of_eq rfl) rfl at_96 rfl ?_
  intro T10 L10 v10 X10 q10c
  obtain ⟨rfl, e10, N10⟩ := q10c
  show OEnds p e below s _ _ _ T10 (mkF m 99 #[.val (.int p0), .val (.int p1), .val (.int p2), .val (.int p3), .val (.int (8 : Int32)), .val (.ref o), .unset, .unset, .unset, .unset, .unset] [])
  have M10 := Fr.app M9 N10
  refine s_aload X10 hx hby (n := 101) (x := (.ref o)) at_99 rfl rfl rfl ?_
  refine s_bipush X10 hx hby (n := 103) (v := (9 : Int32)) at_101 rfl rfl ?_
  refine s_iloadN X10 hx hby (n := 104) (x := p2) at_103 rfl rfl ?_
  refine s_bipush X10 hx hby (n := 106) (v := (8 : Int32)) at_104 rfl rfl ?_
  refine s_iushr X10 hx hby (n := 107) at_106 rfl ?_
  refine s_callS X10 hx hby hml hZ (n := 110) hown (hw _ (List.mem_of_getElem? (i := 2) rfl)) (hw _ (List.mem_of_getElem? (i := 3) rfl)) (hw _ (List.mem_of_getElem? (i := 4) rfl)) (hw _ (List.mem_of_getElem? (i := 5) rfl)) (by decide) (rmOut l Z a0 hw o c9 (8 : Int32) (9 : Int32) (XT.ushr p2 (8 : Int32)) T9.heap n0 A9 S9 (by decide) (by decide)) e10 (by decide) 0 (by decide) (by decide) (by decide) pd_2 [(.ref o), (.int (9 : Int32)), (.int (XT.ushr p2 (8 : Int32)))] [] rfl rfl rfl (Nat.le_of_eq rfl) rfl at_107 rfl ?_
  intro T11 L11 v11 X11 q11c
  obtain ⟨rfl, e11, N11⟩ := q11c
  show OEnds p e below s _ _ _ T11 (mkF m 110 #[.val (.int p0), .val (.int p1), .val (.int p2), .val (.int p3), .val (.int (8 : Int32)), .val (.ref o), .unset, .unset, .unset, .unset, .unset] [])
  have M11 := Fr.app M10 N11
  refine s_aload X11 hx hby (n := 112) (x := (.ref o)) at_110 rfl rfl rfl ?_
  refine s_bipush X11 hx hby (n := 114) (v := (10 : Int32)) at_112 rfl rfl ?_
  refine s_iloadN X11 hx hby (n := 115) (x := p2) at_114 rfl rfl ?_
  refine s_bipush X11 hx hby (n := 117) (v := (16 : Int32)) at_115 rfl rfl ?_
  refine s_iushr X11 hx hby (n := 118) at_117 rfl ?_
  refine s_callS X11 hx hby hml hZ (n := 121) hown (hw _ (List.mem_of_getElem? (i := 2) rfl)) (hw _ (List.mem_of_getElem? (i := 3) rfl)) (hw _ (List.mem_of_getElem? (i := 4) rfl)) (hw _ (List.mem_of_getElem? (i := 5) rfl)) (by decide) (rmOut l Z a0 hw o c9 (8 : Int32) (10 : Int32) (XT.ushr p2 (16 : Int32)) T9.heap n0 A9 S9 (by decide) (by decide)) e11 (by decide) 0 (by decide) (by decide) (by decide) pd_2 [(.ref o), (.int (10 : Int32)), (.int (XT.ushr p2 (16 : Int32)))] [] rfl rfl rfl (Nat.le_of_eq rfl) rfl at_118 rfl ?_
  intro T12 L12 v12 X12 q12c
  obtain ⟨rfl, e12, N12⟩ := q12c
  show OEnds p e below s _ _ _ T12 (mkF m 121 #[.val (.int p0), .val (.int p1), .val (.int p2), .val (.int p3), .val (.int (8 : Int32)), .val (.ref o), .unset, .unset, .unset, .unset, .unset] [])
  have M12 := Fr.app M11 N12
  refine s_aload X12 hx hby (n := 123) (x := (.ref o)) at_121 rfl rfl rfl ?_
  refine s_bipush X12 hx hby (n := 125) (v := (11 : Int32)) at_123 rfl rfl ?_
  refine s_iloadN X12 hx hby (n := 126) (x := p2) at_125 rfl rfl ?_
  refine s_bipush X12 hx hby (n := 128) (v := (24 : Int32)) at_126 rfl rfl ?_
  refine s_iushr X12 hx hby (n := 129) at_128 rfl ?_
  refine s_callS X12 hx hby hml hZ (n := 132) hown (hw _ (List.mem_of_getElem? (i := 2) rfl)) (hw _ (List.mem_of_getElem? (i := 3) rfl)) (hw _ (List.mem_of_getElem? (i := 4) rfl)) (hw _ (List.mem_of_getElem? (i := 5) rfl)) (by decide) (rmOut l Z a0 hw o c9 (8 : Int32) (11 : Int32) (XT.ushr p2 (24 : Int32)) T9.heap n0 A9 S9 (by decide) (by decide)) e12 (by decide) 0 (by decide) (by decide) (by decide) pd_2 [(.ref o), (.int (11 : Int32)), (.int (XT.ushr p2 (24 : Int32)))] [] rfl rfl rfl (Nat.le_of_eq rfl) rfl at_129 rfl ?_
  intro T13 L13 v13 X13 q13c
  obtain ⟨rfl, e13, N13⟩ := q13c
  show OEnds p e below s _ _ _ T13 (mkF m 132 #[.val (.int p0), .val (.int p1), .val (.int p2), .val (.int p3), .val (.int (8 : Int32)), .val (.ref o), .unset, .unset, .unset, .unset, .unset] [])
  have M13 := Fr.app M12 N13
  refine s_iload X13 hx hby (n := 134) (x := (8 : Int32)) at_132 rfl rfl ?_
  refine s_iconst X13 hx hby (n := 135) (v := (2 : Int32)) at_134 rfl rfl ?_
  refine s_iushr X13 hx hby (n := 136) at_135 rfl ?_
  refine s_fold (z := (2 : Int32)) (by decide) ?_
  refine s_istore X13 hx hby (n := 138) (L' := #[.val (.int p0), .val (.int p1), .val (.int p2), .val (.int p3), .val (.int (8 : Int32)), .val (.ref o), .val (.int (2 : Int32)), .unset, .unset, .unset, .unset]) at_136 rfl rfl ?_
  refine s_iload X13 hx hby (n := 140) (x := (8 : Int32)) at_138 rfl rfl ?_
  refine s_iconst X13 hx hby (n := 141) (v := (3 : Int32)) at_140 rfl rfl ?_
  refine s_iand X13 hx hby (n := 142) at_141 rfl ?_
  refine s_fold (z := (0 : Int32)) (by decide) ?_
  refine s_istore X13 hx hby (n := 144) (L' := #[.val (.int p0), .val (.int p1), .val (.int p2), .val (.int p3), .val (.int (8 : Int32)), .val (.ref o), .val (.int (2 : Int32)), .val (.int (0 : Int32)), .unset, .unset, .unset]) at_142 rfl rfl ?_
  refine s_iconst X13 hx hby (n := 145) (v := (0 : Int32)) at_144 rfl rfl ?_
  refine s_istore X13 hx hby (n := 147) (L' := #[.val (.int p0), .val (.int p1), .val (.int p2), .val (.int p3), .val (.int (8 : Int32)), .val (.ref o), .val (.int (2 : Int32)), .val (.int (0 : Int32)), .val (.int (0 : Int32)), .unset, .unset]) at_145 rfl rfl ?_
  refine s_iload X13 hx hby (n := 149) (x := (2 : Int32)) at_147 rfl rfl ?_
  refine s_iconst X13 hx hby (n := 150) (v := (1 : Int32)) at_149 rfl rfl ?_
  refine s_icmpN X13 hx hby (n := 153) at_150 (by decide) rfl ?_
  refine s_iload X13 hx hby (n := 155) (x := (0 : Int32)) at_153 rfl rfl ?_
  refine s_iloadN X13 hx hby (n := 156) (x := p0) at_155 rfl rfl ?_
  refine s_callS X13 hx hby hml hZ (n := 159) hown (hw _ (List.mem_of_getElem? (i := 37) rfl)) (hw _ (List.mem_of_getElem? (i := 38) rfl)) (hw _ (List.mem_of_getElem? (i := 4) rfl)) (hw _ (List.mem_of_getElem? (i := 39) rfl)) (by decide) (rmMix' l Z a0 hw (0 : Int32) p0 T9.heap n0) e13 (by decide) 0 (by decide) (by decide) (by decide) pd_0 [(.int (0 : Int32)), (.int p0)] [] rfl rfl rfl (Nat.le_of_eq rfl) rfl at_156 rfl ?_
  intro T14 L14 v14 X14 q14c
  obtain ⟨rfl, e14, N14⟩ := q14c
  show OEnds p e below s _ _ _ T14 (mkF m 159 #[.val (.int p0), .val (.int p1), .val (.int p2), .val (.int p3), .val (.int (8 : Int32)), .val (.ref o), .val (.int (2 : Int32)), .val (.int (0 : Int32)), .val (.int (0 : Int32)), .unset, .unset] [(.int (own_mix (0 : Int32) p0))])
  have M14 := Fr.app M13 N14
  refine s_istore X14 hx hby (n := 161) (L' := #[.val (.int p0), .val (.int p1), .val (.int p2), .val (.int p3), .val (.int (8 : Int32)), .val (.ref o), .val (.int (2 : Int32)), .val (.int (0 : Int32)), .val (.int (own_mix (0 : Int32) p0)), .unset, .unset]) at_159 rfl rfl ?_
  refine s_iload X14 hx hby (n := 163) (x := (2 : Int32)) at_161 rfl rfl ?_
  refine s_iconst X14 hx hby (n := 164) (v := (2 : Int32)) at_163 rfl rfl ?_
  refine s_icmpN X14 hx hby (n := 167) at_164 (by decide) rfl ?_
  refine s_iload X14 hx hby (n := 169) (x := (own_mix (0 : Int32) p0)) at_167 rfl rfl ?_
  refine s_iloadN X14 hx hby (n := 170) (x := p1) at_169 rfl rfl ?_
  refine s_callS X14 hx hby hml hZ (n := 173) hown (hw _ (List.mem_of_getElem? (i := 37) rfl)) (hw _ (List.mem_of_getElem? (i := 38) rfl)) (hw _ (List.mem_of_getElem? (i := 4) rfl)) (hw _ (List.mem_of_getElem? (i := 39) rfl)) (by decide) (rmMix' l Z a0 hw (own_mix (0 : Int32) p0) p1 T9.heap n0) e14 (by decide) 0 (by decide) (by decide) (by decide) pd_0 [(.int (own_mix (0 : Int32) p0)), (.int p1)] [] rfl rfl rfl (Nat.le_of_eq rfl) rfl at_170 rfl ?_
  intro T15 L15 v15 X15 q15c
  obtain ⟨rfl, e15, N15⟩ := q15c
  show OEnds p e below s _ _ _ T15 (mkF m 173 #[.val (.int p0), .val (.int p1), .val (.int p2), .val (.int p3), .val (.int (8 : Int32)), .val (.ref o), .val (.int (2 : Int32)), .val (.int (0 : Int32)), .val (.int (own_mix (0 : Int32) p0)), .unset, .unset] [(.int (own_mix (own_mix (0 : Int32) p0) p1))])
  have M15 := Fr.app M14 N15
  refine s_istore X15 hx hby (n := 175) (L' := #[.val (.int p0), .val (.int p1), .val (.int p2), .val (.int p3), .val (.int (8 : Int32)), .val (.ref o), .val (.int (2 : Int32)), .val (.int (0 : Int32)), .val (.int (own_mix (own_mix (0 : Int32) p0) p1)), .unset, .unset]) at_173 rfl rfl ?_
  refine s_iload X15 hx hby (n := 177) (x := (2 : Int32)) at_175 rfl rfl ?_
  refine s_iconst X15 hx hby (n := 178) (v := (3 : Int32)) at_177 rfl rfl ?_
  refine s_icmpY X15 hx hby (n := 189) at_178 (by decide) (by decide) (by decide) ?_
  refine s_iload X15 hx hby (n := 191) (x := (0 : Int32)) at_189 rfl rfl ?_
  refine s_ifY X15 hx hby (n := 240) at_191 (by decide) (by decide) (by decide) ?_
  refine s_iload X15 hx hby (n := 242) (x := (own_mix (own_mix (0 : Int32) p0) p1)) at_240 rfl rfl ?_
  refine s_iload X15 hx hby (n := 244) (x := (8 : Int32)) at_242 rfl rfl ?_
  refine s_callS X15 hx hby hml hZ (n := 247) hown (hw _ (List.mem_of_getElem? (i := 14) rfl)) (hw _ (List.mem_of_getElem? (i := 15) rfl)) (hw _ (List.mem_of_getElem? (i := 4) rfl)) (hw _ (List.mem_of_getElem? (i := 16) rfl)) (by decide) (rmFin' l Z a0 hw (own_mix (own_mix (0 : Int32) p0) p1) (8 : Int32) T9.heap n0) e15 (by decide) 0 (by decide) (by decide) (by decide) pd_0 [(.int (own_mix (own_mix (0 : Int32) p0) p1)), (.int (8 : Int32))] [] rfl rfl rfl (Nat.le_of_eq rfl) rfl at_244 rfl ?_
  intro T16 L16 v16 X16 q16c
  obtain ⟨rfl, e16, N16⟩ := q16c
  show OEnds p e below s _ _ _ T16 (mkF m 247 #[.val (.int p0), .val (.int p1), .val (.int p2), .val (.int p3), .val (.int (8 : Int32)), .val (.ref o), .val (.int (2 : Int32)), .val (.int (0 : Int32)), .val (.int (own_mix (own_mix (0 : Int32) p0) p1)), .unset, .unset] [(.int (own_fin (own_mix (own_mix (0 : Int32) p0) p1) (8 : Int32)))])
  have M16 := Fr.app M15 N16
  refine s_istore X16 hx hby (n := 249) (L' := #[.val (.int p0), .val (.int p1), .val (.int p2), .val (.int p3), .val (.int (8 : Int32)), .val (.ref o), .val (.int (2 : Int32)), .val (.int (0 : Int32)), .val (.int (own_mix (own_mix (0 : Int32) p0) p1)), .val (.int (own_fin (own_mix (own_mix (0 : Int32) p0) p1) (8 : Int32))), .unset]) at_247 rfl rfl ?_
  refine s_aload X16 hx hby (n := 251) (x := (.ref o)) at_249 rfl rfl rfl ?_
  refine s_callS X16 hx hby hml hZ (n := 254) hown (hw _ (List.mem_of_getElem? (i := 19) rfl)) (hw _ (List.mem_of_getElem? (i := 20) rfl)) (hw _ (List.mem_of_getElem? (i := 21) rfl)) (hw _ (List.mem_of_getElem? (i := 22) rfl)) (by decide) (rmH8 l Z a0 hw o c9 (nar .byte (p0).toInt8.toInt32) (nar .byte (XT.ushr p0 (8 : Int32)).toInt8.toInt32) (nar .byte (XT.ushr p0 (16 : Int32)).toInt8.toInt32) (nar .byte (XT.ushr p0 (24 : Int32)).toInt8.toInt32) (nar .byte (p1).toInt8.toInt32) (nar .byte (XT.ushr p1 (8 : Int32)).toInt8.toInt32) (nar .byte (XT.ushr p1 (16 : Int32)).toInt8.toInt32) (nar .byte (XT.ushr p1 (24 : Int32)).toInt8.toInt32) T9.heap n0 A9 S9 B9_0 B9_1 B9_2 B9_3 B9_4 B9_5 B9_6 B9_7) e16 (by decide) 0 (by decide) (by decide) (by decide) pd_3 [(.ref o)] [] rfl rfl rfl (Nat.le_of_eq rfl) rfl at_251 rfl ?_
  intro T17 L17 v17 X17 q17c
  obtain ⟨rfl, e17, N17⟩ := q17c
  show OEnds p e below s _ _ _ T17 (mkF m 254 #[.val (.int p0), .val (.int p1), .val (.int p2), .val (.int p3), .val (.int (8 : Int32)), .val (.ref o), .val (.int (2 : Int32)), .val (.int (0 : Int32)), .val (.int (own_mix (own_mix (0 : Int32) p0) p1)), .val (.int (own_fin (own_mix (own_mix (0 : Int32) p0) p1) (8 : Int32))), .unset] [(.int (own_fin (own_mix (own_mix (0 : Int32) (((((nar .byte (p0).toInt8.toInt32) &&& (255 : Int32)) ||| (((nar .byte (XT.ushr p0 (8 : Int32)).toInt8.toInt32) &&& (255 : Int32)) <<< ((8 : Int32) &&& 31))) ||| (((nar .byte (XT.ushr p0 (16 : Int32)).toInt8.toInt32) &&& (255 : Int32)) <<< ((16 : Int32) &&& 31))) ||| (((nar .byte (XT.ushr p0 (24 : Int32)).toInt8.toInt32) &&& (255 : Int32)) <<< ((24 : Int32) &&& 31)))) (((((nar .byte (p1).toInt8.toInt32) &&& (255 : Int32)) ||| (((nar .byte (XT.ushr p1 (8 : Int32)).toInt8.toInt32) &&& (255 : Int32)) <<< ((8 : Int32) &&& 31))) ||| (((nar .byte (XT.ushr p1 (16 : Int32)).toInt8.toInt32) &&& (255 : Int32)) <<< ((16 : Int32) &&& 31))) ||| (((nar .byte (XT.ushr p1 (24 : Int32)).toInt8.toInt32) &&& (255 : Int32)) <<< ((24 : Int32) &&& 31)))) (8 : Int32)))])
  have M17 := Fr.app M16 N17
  refine s_iload X17 hx hby (n := 256) (x := (own_fin (own_mix (own_mix (0 : Int32) p0) p1) (8 : Int32))) at_254 rfl rfl ?_
  refine s_icmpN X17 hx hby (n := 259) at_256 (XT.ii_ne_f (by rw [own_wp p0, own_wp p1])) rfl ?_
  refine s_iconst X17 hx hby (n := 260) (v := (1 : Int32)) at_259 rfl rfl ?_
  refine s_goto X17 hx hby (n := 264) at_260 (by decide) (by decide) ?_
  exact s_retN X17 hx hby hlk hret (t := .boolean) (by simp) (z' := (1 : Int32)) (by decide) at_264 (by decide) (by decide) ⟨rfl, M17⟩
set_option maxRecDepth 65536 in
set_option maxHeartbeats 40000000 in
theorem rm0_9 (l : Launch) (Z : State) (a0 : Array Value) (hw : ∀ d ∈ tables_1, d.before a0 Z = true) (p0 p1 p2 p3 : Int32) (qn : ((p3 &&& (2147483647 : Int32)) % (13 : Int32)) = (9 : Int32)) (h0 : Heap) (n0 : Nat) (Z0 : n0 ≤ h0.size) :
    OCon l Z x code maxLocals ret tables_1 room_1 #[(.int p0), (.int p1), (.int p2), (.int p3)] h0 (fun v h L => v = some (.int 1) ∧ Fr n0 L) := by
  refine con (plainFor_of_name pn0) ?_
  intro p e s m below meth c s₁ hx hby hml hZ hown hnm hret hlk X0 e0
  refine entry (ef0 m p0 p1 p2 p3) ?_
  have M0 := Fr.nil n0
  refine s_iloadN X0 hx hby (n := 1) (x := p3) at_0 rfl rfl ?_
  refine s_ldcI X0 hx hby hZ (n := 3) hown (hw _ (List.mem_of_getElem? (i := 0) rfl)) at_1 rfl ?_
  refine s_iand X0 hx hby (n := 4) at_3 rfl ?_
  refine s_bipush X0 hx hby (n := 6) (v := (13 : Int32)) at_4 rfl rfl ?_
  refine s_irem X0 hx hby (n := 7) at_6 (by decide) rfl ?_
  refine s_fold (z := (9 : Int32)) qn ?_
  refine s_istore X0 hx hby (n := 9) (L' := #[.val (.int p0), .val (.int p1), .val (.int p2), .val (.int p3), .val (.int (9 : Int32)), .unset, .unset, .unset, .unset, .unset, .unset]) at_7 rfl rfl ?_
  refine s_iload X0 hx hby (n := 11) (x := (9 : Int32)) at_9 rfl rfl ?_
  refine s_newP X0 hx hby hZ (n := 13) (hw _ (List.mem_of_getElem? (i := 1) rfl)) (ty := .byte) rfl e0 (by decide) 9 (by decide) (by decide) (by decide) (by decide) at_11 rfl ?_
  intro T1 h1 cA o ho X1 e1 E1 A1
  have S1 : (newA cA .byte (9 : Int32)).slots.size = (9 : Int32).toNatClampNeg := sz_new _ _ _
  have no : n0 ≤ o := by rw [ho]; exact Z0
  refine s_astore X1 hx hby (n := 15) (L' := #[.val (.int p0), .val (.int p1), .val (.int p2), .val (.int p3), .val (.int (9 : Int32)), .val (.ref o), .unset, .unset, .unset, .unset, .unset]) at_13 rfl rfl rfl ?_
  refine s_aload X1 hx hby (n := 17) (x := (.ref o)) at_15 rfl rfl rfl ?_
  refine s_iconst X1 hx hby (n := 18) (v := (0 : Int32)) at_17 rfl rfl ?_
  refine s_iloadN X1 hx hby (n := 19) (x := p0) at_18 rfl rfl ?_
  refine s_callS X1 hx hby hml hZ (n := 22) hown (hw _ (List.mem_of_getElem? (i := 2) rfl)) (hw _ (List.mem_of_getElem? (i := 3) rfl)) (hw _ (List.mem_of_getElem? (i := 4) rfl)) (hw _ (List.mem_of_getElem? (i := 5) rfl)) (by decide) (rmIn l Z a0 hw o (newA cA .byte (9 : Int32)) (9 : Int32) (0 : Int32) p0 0 h1 n0 A1 S1 (by decide) (by decide) (by decide) (by decide) (by rw [S1]; decide) no) e1 (by decide) 0 (by decide) (by decide) (by decide) pd_2 [(.ref o), (.int (0 : Int32)), (.int p0)] [] rfl rfl rfl (Nat.le_of_eq rfl) rfl at_19 rfl ?_
  intro T2 L2 v2 X2 q2c
  obtain ⟨rfl, N2, W2⟩ := q2c
  show OEnds p e below s _ _ _ T2 (mkF m 22 #[.val (.int p0), .val (.int p1), .val (.int p2), .val (.int p3), .val (.int (9 : Int32)), .val (.ref o), .unset, .unset, .unset, .unset, .unset] [])
  obtain ⟨c2, A2, S2, B2_0⟩ : ∃ cc : Cell, Arr Z T2.heap o cc .byte ∧ cc.slots.size = (9 : Int32).toNatClampNeg ∧ cc.slots[0]? = some (.int (nar .byte (p0).toInt8.toInt32)) := ⟨_, A1.same W2, (by rw [sz_set]; exact S1), set_hit (by rw [S1]; decide)⟩
  have M2 := Fr.app M0 N2
  refine s_aload X2 hx hby (n := 24) (x := (.ref o)) at_22 rfl rfl rfl ?_
  refine s_iconst X2 hx hby (n := 25) (v := (1 : Int32)) at_24 rfl rfl ?_
  refine s_iloadN X2 hx hby (n := 26) (x := p0) at_25 rfl rfl ?_
  refine s_bipush X2 hx hby (n := 28) (v := (8 : Int32)) at_26 rfl rfl ?_
  refine s_iushr X2 hx hby (n := 29) at_28 rfl ?_
  refine s_callS X2 hx hby hml hZ (n := 32) hown (hw _ (List.mem_of_getElem? (i := 2) rfl)) (hw _ (List.mem_of_getElem? (i := 3) rfl)) (hw _ (List.mem_of_getElem? (i := 4) rfl)) (hw _ (List.mem_of_getElem? (i := 5) rfl)) (by decide) (rmIn l Z a0 hw o c2 (9 : Int32) (1 : Int32) (XT.ushr p0 (8 : Int32)) 1 T2.heap n0 A2 S2 (by decide) (by decide) (by decide) (by decide) (by rw [S2]; decide) no) rfl (by decide) 0 (by decide) (by decide) (by decide) pd_2 [(.ref o), (.int (1 : Int32)), (.int (XT.ushr p0 (8 : Int32)))] [] rfl rfl rfl (Nat.le_of_eq rfl) rfl at_29 rfl ?_
  intro T3 L3 v3 X3 q3c
  obtain ⟨rfl, N3, W3⟩ := q3c
  show OEnds p e below s _ _ _ T3 (mkF m 32 #[.val (.int p0), .val (.int p1), .val (.int p2), .val (.int p3), .val (.int (9 : Int32)), .val (.ref o), .unset, .unset, .unset, .unset, .unset] [])
  obtain ⟨c3, A3, S3, B3_0, B3_1⟩ : ∃ cc : Cell, Arr Z T3.heap o cc .byte ∧ cc.slots.size = (9 : Int32).toNatClampNeg ∧ cc.slots[0]? = some (.int (nar .byte (p0).toInt8.toInt32)) ∧ cc.slots[1]? = some (.int (nar .byte (XT.ushr p0 (8 : Int32)).toInt8.toInt32)) := ⟨_, A2.same W3, (by rw [sz_set]; exact S2), set_mis B2_0 (by decide), set_hit (by rw [S2]; decide)⟩
  have M3 := Fr.app M2 N3
  refine s_aload X3 hx hby (n := 34) (x := (.ref o)) at_32 rfl rfl rfl ?_
  refine s_iconst X3 hx hby (n := 35) (v := (2 : Int32)) at_34 rfl rfl ?_
  refine s_iloadN X3 hx hby (n := 36) (x := p0) at_35 rfl rfl ?_
  refine s_bipush X3 hx hby (n := 38) (v := (16 : Int32)) at_36 rfl rfl ?_
  refine s_iushr X3 hx hby (n := 39) at_38 rfl ?_
  refine s_callS X3 hx hby hml hZ (n := 42) hown (hw _ (List.mem_of_getElem? (i := 2) rfl)) (hw _ (List.mem_of_getElem? (i := 3) rfl)) (hw _ (List.mem_of_getElem? (i := 4) rfl)) (hw _ (List.mem_of_getElem? (i := 5) rfl)) (by decide) (rmIn l Z a0 hw o c3 (9 : Int32) (2 : Int32) (XT.ushr p0 (16 : Int32)) 2 T3.heap n0 A3 S3 (by decide) (by decide) (by decide) (by decide) (by rw [S3]; decide) no) rfl (by decide) 0 (by decide) (by decide) (by decide) pd_2 [(.ref o), (.int (2 : Int32)), (.int (XT.ushr p0 (16 : Int32)))] [] rfl rfl rfl (Nat.le_of_eq rfl) rfl at_39 rfl ?_
  intro T4 L4 v4 X4 q4c
  obtain ⟨rfl, N4, W4⟩ := q4c
  show OEnds p e below s _ _ _ T4 (mkF m 42 #[.val (.int p0), .val (.int p1), .val (.int p2), .val (.int p3), .val (.int (9 : Int32)), .val (.ref o), .unset, .unset, .unset, .unset, .unset] [])
  obtain ⟨c4, A4, S4, B4_0, B4_1, B4_2⟩ : ∃ cc : Cell, Arr Z T4.heap o cc .byte ∧ cc.slots.size = (9 : Int32).toNatClampNeg ∧ cc.slots[0]? = some (.int (nar .byte (p0).toInt8.toInt32)) ∧ cc.slots[1]? = some (.int (nar .byte (XT.ushr p0 (8 : Int32)).toInt8.toInt32)) ∧ cc.slots[2]? = some (.int (nar .byte (XT.ushr p0 (16 : Int32)).toInt8.toInt32)) := ⟨_, A3.same W4, (by rw [sz_set]; exact S3), set_mis B3_0 (by decide), set_mis B3_1 (by decide), set_hit (by rw [S3]; decide)⟩
  have M4 := Fr.app M3 N4
  refine s_aload X4 hx hby (n := 44) (x := (.ref o)) at_42 rfl rfl rfl ?_
  refine s_iconst X4 hx hby (n := 45) (v := (3 : Int32)) at_44 rfl rfl ?_
  refine s_iloadN X4 hx hby (n := 46) (x := p0) at_45 rfl rfl ?_
  refine s_bipush X4 hx hby (n := 48) (v := (24 : Int32)) at_46 rfl rfl ?_
  refine s_iushr X4 hx hby (n := 49) at_48 rfl ?_
  refine s_callS X4 hx hby hml hZ (n := 52) hown (hw _ (List.mem_of_getElem? (i := 2) rfl)) (hw _ (List.mem_of_getElem? (i := 3) rfl)) (hw _ (List.mem_of_getElem? (i := 4) rfl)) (hw _ (List.mem_of_getElem? (i := 5) rfl)) (by decide) (rmIn l Z a0 hw o c4 (9 : Int32) (3 : Int32) (XT.ushr p0 (24 : Int32)) 3 T4.heap n0 A4 S4 (by decide) (by decide) (by decide) (by decide) (by rw [S4]; decide) no) rfl (by decide) 0 (by decide) (by decide) (by decide) pd_2 [(.ref o), (.int (3 : Int32)), (.int (XT.ushr p0 (24 : Int32)))] [] rfl rfl rfl (Nat.le_of_eq rfl) rfl at_49 rfl ?_
  intro T5 L5 v5 X5 q5c
  obtain ⟨rfl, N5, W5⟩ := q5c
  show OEnds p e below s _ _ _ T5 (mkF m 52 #[.val (.int p0), .val (.int p1), .val (.int p2), .val (.int p3), .val (.int (9 : Int32)), .val (.ref o), .unset, .unset, .unset, .unset, .unset] [])
  obtain ⟨c5, A5, S5, B5_0, B5_1, B5_2, B5_3⟩ : ∃ cc : Cell, Arr Z T5.heap o cc .byte ∧ cc.slots.size = (9 : Int32).toNatClampNeg ∧ cc.slots[0]? = some (.int (nar .byte (p0).toInt8.toInt32)) ∧ cc.slots[1]? = some (.int (nar .byte (XT.ushr p0 (8 : Int32)).toInt8.toInt32)) ∧ cc.slots[2]? = some (.int (nar .byte (XT.ushr p0 (16 : Int32)).toInt8.toInt32)) ∧ cc.slots[3]? = some (.int (nar .byte (XT.ushr p0 (24 : Int32)).toInt8.toInt32)) := ⟨_, A4.same W5, (by rw [sz_set]; exact S4), set_mis B4_0 (by decide), set_mis B4_1 (by decide), set_mis B4_2 (by decide), set_hit (by rw [S4]; decide)⟩
  have M5 := Fr.app M4 N5
  refine s_aload X5 hx hby (n := 54) (x := (.ref o)) at_52 rfl rfl rfl ?_
  refine s_iconst X5 hx hby (n := 55) (v := (4 : Int32)) at_54 rfl rfl ?_
  refine s_iloadN X5 hx hby (n := 56) (x := p1) at_55 rfl rfl ?_
  refine s_callS X5 hx hby hml hZ (n := 59) hown (hw _ (List.mem_of_getElem? (i := 2) rfl)) (hw _ (List.mem_of_getElem? (i := 3) rfl)) (hw _ (List.mem_of_getElem? (i := 4) rfl)) (hw _ (List.mem_of_getElem? (i := 5) rfl)) (by decide) (rmIn l Z a0 hw o c5 (9 : Int32) (4 : Int32) p1 4 T5.heap n0 A5 S5 (by decide) (by decide) (by decide) (by decide) (by rw [S5]; decide) no) rfl (by decide) 0 (by decide) (by decide) (by decide) pd_2 [(.ref o), (.int (4 : Int32)), (.int p1)] [] rfl rfl rfl (Nat.le_of_eq rfl) rfl at_56 rfl ?_
  intro T6 L6 v6 X6 q6c
  obtain ⟨rfl, N6, W6⟩ := q6c
  show OEnds p e below s _ _ _ T6 (mkF m 59 #[.val (.int p0), .val (.int p1), .val (.int p2), .val (.int p3), .val (.int (9 : Int32)), .val (.ref o), .unset, .unset, .unset, .unset, .unset] [])
  obtain ⟨c6, A6, S6, B6_0, B6_1, B6_2, B6_3, B6_4⟩ : ∃ cc : Cell, Arr Z T6.heap o cc .byte ∧ cc.slots.size = (9 : Int32).toNatClampNeg ∧ cc.slots[0]? = some (.int (nar .byte (p0).toInt8.toInt32)) ∧ cc.slots[1]? = some (.int (nar .byte (XT.ushr p0 (8 : Int32)).toInt8.toInt32)) ∧ cc.slots[2]? = some (.int (nar .byte (XT.ushr p0 (16 : Int32)).toInt8.toInt32)) ∧ cc.slots[3]? = some (.int (nar .byte (XT.ushr p0 (24 : Int32)).toInt8.toInt32)) ∧ cc.slots[4]? = some (.int (nar .byte (p1).toInt8.toInt32)) := ⟨_, A5.same W6, (by rw [sz_set]; exact S5), set_mis B5_0 (by decide), set_mis B5_1 (by decide), set_mis B5_2 (by decide), set_mis B5_3 (by decide), set_hit (by rw [S5]; decide)⟩
  have M6 := Fr.app M5 N6
  refine s_aload X6 hx hby (n := 61) (x := (.ref o)) at_59 rfl rfl rfl ?_
  refine s_iconst X6 hx hby (n := 62) (v := (5 : Int32)) at_61 rfl rfl ?_
  refine s_iloadN X6 hx hby (n := 63) (x := p1) at_62 rfl rfl ?_
  refine s_bipush X6 hx hby (n := 65) (v := (8 : Int32)) at_63 rfl rfl ?_
  refine s_iushr X6 hx hby (n := 66) at_65 rfl ?_
  refine s_callS X6 hx hby hml hZ (n := 69) hown (hw _ (List.mem_of_getElem? (i := 2) rfl)) (hw _ (List.mem_of_getElem? (i := 3) rfl)) (hw _ (List.mem_of_getElem? (i := 4) rfl)) (hw _ (List.mem_of_getElem? (i := 5) rfl)) (by decide) (rmIn l Z a0 hw o c6 (9 : Int32) (5 : Int32) (XT.ushr p1 (8 : Int32)) 5 T6.heap n0 A6 S6 (by decide) (by decide) (by decide) (by decide) (by rw [S6]; decide) no) rfl (by decide) 0 (by decide) (by decide) (by decide) pd_2 [(.ref o), (.int (5 : Int32)), (.int (XT.ushr p1 (8 : Int32)))] [] rfl rfl rfl (Nat.le_of_eq rfl) rfl at_66 rfl ?_
  intro T7 L7 v7 X7 q7c
  obtain ⟨rfl, N7, W7⟩ := q7c
  show OEnds p e below s _ _ _ T7 (mkF m 69 #[.val (.int p0), .val (.int p1), .val (.int p2), .val (.int p3), .val (.int (9 : Int32)), .val (.ref o), .unset, .unset, .unset, .unset, .unset] [])
  obtain ⟨c7, A7, S7, B7_0, B7_1, B7_2, B7_3, B7_4, B7_5⟩ : ∃ cc : Cell, Arr Z T7.heap o cc .byte ∧ cc.slots.size = (9 : Int32).toNatClampNeg ∧ cc.slots[0]? = some (.int (nar .byte (p0).toInt8.toInt32)) ∧ cc.slots[1]? = some (.int (nar .byte (XT.ushr p0 (8 : Int32)).toInt8.toInt32)) ∧ cc.slots[2]? = some (.int (nar .byte (XT.ushr p0 (16 : Int32)).toInt8.toInt32)) ∧ cc.slots[3]? = some (.int (nar .byte (XT.ushr p0 (24 : Int32)).toInt8.toInt32)) ∧ cc.slots[4]? = some (.int (nar .byte (p1).toInt8.toInt32)) ∧ cc.slots[5]? = some (.int (nar .byte (XT.ushr p1 (8 : Int32)).toInt8.toInt32)) := ⟨_, A6.same W7, (by rw [sz_set]; exact S6), set_mis B6_0 (by decide), set_mis B6_1 (by decide), set_mis B6_2 (by decide), set_mis B6_3 (by decide), set_mis B6_4 (by decide), set_hit (by rw [S6]; decide)⟩
  have M7 := Fr.app M6 N7
  refine s_aload X7 hx hby (n := 71) (x := (.ref o)) at_69 rfl rfl rfl ?_
  refine s_bipush X7 hx hby (n := 73) (v := (6 : Int32)) at_71 rfl rfl ?_
  refine s_iloadN X7 hx hby (n := 74) (x := p1) at_73 rfl rfl ?_
  refine s_bipush X7 hx hby (n := 76) (v := (16 : Int32)) at_74 rfl rfl ?_
  refine s_iushr X7 hx hby (n := 77) at_76 rfl ?_
  refine s_callS X7 hx hby hml hZ (n := 80) hown (hw _ (List.mem_of_getElem? (i := 2) rfl)) (hw _ (List.mem_of_getElem? (i := 3) rfl)) (hw _ (List.mem_of_getElem? (i := 4) rfl)) (hw _ (List.mem_of_getElem? (i := 5) rfl)) (by decide) (rmIn l Z a0 hw o c7 (9 : Int32) (6 : Int32) (XT.ushr p1 (16 : Int32)) 6 T7.heap n0 A7 S7 (by decide) (by decide) (by decide) (by decide) (by rw [S7]; decide) no) rfl (by decide) 0 (by decide) (by decide) (by decide) pd_2 [(.ref o), (.int (6 : Int32)), (.int (XT.ushr p1 (16 : Int32)))] [] rfl rfl rfl (Nat.le_of_eq rfl) rfl at_77 rfl ?_
  intro T8 L8 v8 X8 q8c
  obtain ⟨rfl, N8, W8⟩ := q8c
  show OEnds p e below s _ _ _ T8 (mkF m 80 #[.val (.int p0), .val (.int p1), .val (.int p2), .val (.int p3), .val (.int (9 : Int32)), .val (.ref o), .unset, .unset, .unset, .unset, .unset] [])
  obtain ⟨c8, A8, S8, B8_0, B8_1, B8_2, B8_3, B8_4, B8_5, B8_6⟩ : ∃ cc : Cell, Arr Z T8.heap o cc .byte ∧ cc.slots.size = (9 : Int32).toNatClampNeg ∧ cc.slots[0]? = some (.int (nar .byte (p0).toInt8.toInt32)) ∧ cc.slots[1]? = some (.int (nar .byte (XT.ushr p0 (8 : Int32)).toInt8.toInt32)) ∧ cc.slots[2]? = some (.int (nar .byte (XT.ushr p0 (16 : Int32)).toInt8.toInt32)) ∧ cc.slots[3]? = some (.int (nar .byte (XT.ushr p0 (24 : Int32)).toInt8.toInt32)) ∧ cc.slots[4]? = some (.int (nar .byte (p1).toInt8.toInt32)) ∧ cc.slots[5]? = some (.int (nar .byte (XT.ushr p1 (8 : Int32)).toInt8.toInt32)) ∧ cc.slots[6]? = some (.int (nar .byte (XT.ushr p1 (16 : Int32)).toInt8.toInt32)) := ⟨_, A7.same W8, (by rw [sz_set]; exact S7), set_mis B7_0 (by decide), set_mis B7_1 (by decide), set_mis B7_2 (by decide), set_mis B7_3 (by decide), set_mis B7_4 (by decide), set_mis B7_5 (by decide), set_hit (by rw [S7]; decide)⟩
  have M8 := Fr.app M7 N8
  refine s_aload X8 hx hby (n := 82) (x := (.ref o)) at_80 rfl rfl rfl ?_
  refine s_bipush X8 hx hby (n := 84) (v := (7 : Int32)) at_82 rfl rfl ?_
  refine s_iloadN X8 hx hby (n := 85) (x := p1) at_84 rfl rfl ?_
  refine s_bipush X8 hx hby (n := 87) (v := (24 : Int32)) at_85 rfl rfl ?_
  refine s_iushr X8 hx hby (n := 88) at_87 rfl ?_
  refine s_callS X8 hx hby hml hZ (n := 91) hown (hw _ (List.mem_of_getElem? (i := 2) rfl)) (hw _ (List.mem_of_getElem? (i := 3) rfl)) (hw _ (List.mem_of_getElem? (i := 4) rfl)) (hw _ (List.mem_of_getElem? (i := 5) rfl)) (by decide) (rmIn l Z a0 hw o c8 (9 : Int32) (7 : Int32) (XT.ushr p1 (24 : Int32)) 7 T8.heap n0 A8 S8 (by decide) (by decide) (by decide) (by decide) (by rw [S8]; decide) no) rfl (by decide) 0 (by decide) (by decide) (by decide) pd_2 [(.ref o), (.int (7 : Int32)), (.int (XT.ushr p1 (24 : Int32)))] [] rfl rfl rfl (Nat.le_of_eq rfl) rfl at_88 rfl ?_
  intro T9 L9 v9 X9 q9c
  obtain ⟨rfl, N9, W9⟩ := q9c
  show OEnds p e below s _ _ _ T9 (mkF m 91 #[.val (.int p0), .val (.int p1), .val (.int p2), .val (.int p3), .val (.int (9 : Int32)), .val (.ref o), .unset, .unset, .unset, .unset, .unset] [])
  obtain ⟨c9, A9, S9, B9_0, B9_1, B9_2, B9_3, B9_4, B9_5, B9_6, B9_7⟩ : ∃ cc : Cell, Arr Z T9.heap o cc .byte ∧ cc.slots.size = (9 : Int32).toNatClampNeg ∧ cc.slots[0]? = some (.int (nar .byte (p0).toInt8.toInt32)) ∧ cc.slots[1]? = some (.int (nar .byte (XT.ushr p0 (8 : Int32)).toInt8.toInt32)) ∧ cc.slots[2]? = some (.int (nar .byte (XT.ushr p0 (16 : Int32)).toInt8.toInt32)) ∧ cc.slots[3]? = some (.int (nar .byte (XT.ushr p0 (24 : Int32)).toInt8.toInt32)) ∧ cc.slots[4]? = some (.int (nar .byte (p1).toInt8.toInt32)) ∧ cc.slots[5]? = some (.int (nar .byte (XT.ushr p1 (8 : Int32)).toInt8.toInt32)) ∧ cc.slots[6]? = some (.int (nar .byte (XT.ushr p1 (16 : Int32)).toInt8.toInt32)) ∧ cc.slots[7]? = some (.int (nar .byte (XT.ushr p1 (24 : Int32)).toInt8.toInt32)) := ⟨_, A8.same W9, (by rw [sz_set]; exact S8), set_mis B8_0 (by decide), set_mis B8_1 (by decide), set_mis B8_2 (by decide), set_mis B8_3 (by decide), set_mis B8_4 (by decide), set_mis B8_5 (by decide), set_mis B8_6 (by decide), set_hit (by rw [S8]; decide)⟩
  have M9 := Fr.app M8 N9
  refine s_aload X9 hx hby (n := 93) (x := (.ref o)) at_91 rfl rfl rfl ?_
  refine s_bipush X9 hx hby (n := 95) (v := (8 : Int32)) at_93 rfl rfl ?_
  refine s_iloadN X9 hx hby (n := 96) (x := p2) at_95 rfl rfl ?_
  refine s_callS X9 hx hby hml hZ (n := 99) hown (hw _ (List.mem_of_getElem? (i := 2) rfl)) (hw _ (List.mem_of_getElem? (i := 3) rfl)) (hw _ (List.mem_of_getElem? (i := 4) rfl)) (hw _ (List.mem_of_getElem? (i := 5) rfl)) (by decide) (rmIn l Z a0 hw o c9 (9 : Int32) (8 : Int32) p2 8 T9.heap n0 A9 S9 (by decide) (by decide) (by decide) (by decide) (by rw [S9]; decide) no) rfl (by decide) 0 (by decide) (by decide) (by decide) pd_2 [(.ref o), (.int (8 : Int32)), (.int p2)] [] rfl rfl rfl (Nat.le_of_eq rfl) rfl at_96 rfl ?_
  intro T10 L10 v10 X10 q10c
  obtain ⟨rfl, N10, W10⟩ := q10c
  show OEnds p e below s _ _ _ T10 (mkF m 99 #[.val (.int p0), .val (.int p1), .val (.int p2), .val (.int p3), .val (.int (9 : Int32)), .val (.ref o), .unset, .unset, .unset, .unset, .unset] [])
  obtain ⟨c10, A10, S10, B10_0, B10_1, B10_2, B10_3, B10_4, B10_5, B10_6, B10_7, B10_8⟩ : ∃ cc : Cell, Arr Z T10.heap o cc .byte ∧ cc.slots.size = (9 : Int32).toNatClampNeg ∧ cc.slots[0]? = some (.int (nar .byte (p0).toInt8.toInt32)) ∧ cc.slots[1]? = some (.int (nar .byte (XT.ushr p0 (8 : Int32)).toInt8.toInt32)) ∧ cc.slots[2]? = some (.int (nar .byte (XT.ushr p0 (16 : Int32)).toInt8.toInt32)) ∧ cc.slots[3]? = some (.int (nar .byte (XT.ushr p0 (24 : Int32)).toInt8.toInt32)) ∧ cc.slots[4]? = some (.int (nar .byte (p1).toInt8.toInt32)) ∧ cc.slots[5]? = some (.int (nar .byte (XT.ushr p1 (8 : Int32)).toInt8.toInt32)) ∧ cc.slots[6]? = some (.int (nar .byte (XT.ushr p1 (16 : Int32)).toInt8.toInt32)) ∧ cc.slots[7]? = some (.int (nar .byte (XT.ushr p1 (24 : Int32)).toInt8.toInt32)) ∧ cc.slots[8]? = some (.int (nar .byte (p2).toInt8.toInt32)) := ⟨_, A9.same W10, (by rw [sz_set]; exact S9), set_mis B9_0 (by decide), set_mis B9_1 (by decide), set_mis B9_2 (by decide), set_mis B9_3 (by decide), set_mis B9_4 (by decide), set_mis B9_5 (by decide), set_mis B9_6 (by decide), set_mis B9_7 (by decide), set_hit (by rw [S9]; decide)⟩
  have M10 := Fr.app M9 N10
  refine s_aload X10 hx hby (n := 101) (x := (.ref o)) at_99 rfl rfl rfl ?_
  refine s_bipush X10 hx hby (n := 103) (v := (9 : Int32)) at_101 rfl rfl ?_
  refine s_iloadN X10 hx hby (n := 104) (x := p2) at_103 rfl rfl ?_
  refine s_bipush X10 hx hby (n := 106) (v := (8 : Int32)) at_104 rfl rfl ?_
  refine s_iushr X10 hx hby (n := 107) at_106 rfl ?_
  refine s_callS X10 hx hby hml hZ (n := 110) hown (hw _ (List.mem_of_getElem? (i := 2) rfl)) (hw _ (List.mem_of_getElem? (i := 3) rfl)) (hw _ (List.mem_of_getElem? (i := 4) rfl)) (hw _ (List.mem_of_getElem? (i := 5) rfl)) (by decide) (rmOut l Z a0 hw o c10 (9 : Int32) (9 : Int32) (XT.ushr p2 (8 : Int32)) T10.heap n0 A10 S10 (by decide) (by decide)) rfl (by decide) 0 (by decide) (by decide) (by decide) pd_2 [(.ref o), (.int (9 : Int32)), (.int (XT.ushr p2 (8 : Int32)))] [] rfl rfl rfl (Nat.le_of_eq rfl) rfl at_107 rfl ?_
  intro T11 L11 v11 X11 q11c
  obtain ⟨rfl, e11, N11⟩ := q11c
  show OEnds p e below s _ _ _ T11 (mkF m 110 #[.val (.int p0), .val (.int p1), .val (.int p2), .val (.int p3), .val (.int (9 : Int32)), .val (.ref o), .unset, .unset, .unset, .unset, .unset] [])
  have M11 := Fr.app M10 N11
  refine s_aload X11 hx hby (n := 112) (x := (.ref o)) at_110 rfl rfl rfl ?_
  refine s_bipush X11 hx hby (n := 114) (v := (10 : Int32)) at_112 rfl rfl ?_
  refine s_iloadN X11 hx hby (n := 115) (x := p2) at_114 rfl rfl ?_
  refine s_bipush X11 hx hby (n := 117) (v := (16 : Int32)) at_115 rfl rfl ?_
  refine s_iushr X11 hx hby (n := 118) at_117 rfl ?_
  refine s_callS X11 hx hby hml hZ (n := 121) hown (hw _ (List.mem_of_getElem? (i := 2) rfl)) (hw _ (List.mem_of_getElem? (i := 3) rfl)) (hw _ (List.mem_of_getElem? (i := 4) rfl)) (hw _ (List.mem_of_getElem? (i := 5) rfl)) (by decide) (rmOut l Z a0 hw o c10 (9 : Int32) (10 : Int32) (XT.ushr p2 (16 : Int32)) T10.heap n0 A10 S10 (by decide) (by decide)) e11 (by decide) 0 (by decide) (by decide) (by decide) pd_2 [(.ref o), (.int (10 : Int32)), (.int (XT.ushr p2 (16 : Int32)))] [] rfl rfl rfl (Nat.le_of_eq rfl) rfl at_118 rfl ?_
  intro T12 L12 v12 X12 q12c
  obtain ⟨rfl, e12, N12⟩ := q12c
  show OEnds p e below s _ _ _ T12 (mkF m 121 #[.val (.int p0), .val (.int p1), .val (.int p2), .val (.int p3), .val (.int (9 : Int32)), .val (.ref o), .unset, .unset, .unset, .unset, .unset] [])
  have M12 := Fr.app M11 N12
  refine s_aload X12 hx hby (n := 123) (x := (.ref o)) at_121 rfl rfl rfl ?_
  refine s_bipush X12 hx hby (n := 125) (v := (11 : Int32)) at_123 rfl rfl ?_
  refine s_iloadN X12 hx hby (n := 126) (x := p2) at_125 rfl rfl ?_
  refine s_bipush X12 hx hby (n := 128) (v := (24 : Int32)) at_126 rfl rfl ?_
  refine s_iushr X12 hx hby (n := 129) at_128 rfl ?_
  refine s_callS X12 hx hby hml hZ (n := 132) hown (hw _ (List.mem_of_getElem? (i := 2) rfl)) (hw _ (List.mem_of_getElem? (i := 3) rfl)) (hw _ (List.mem_of_getElem? (i := 4) rfl)) (hw _ (List.mem_of_getElem? (i := 5) rfl)) (by decide) (rmOut l Z a0 hw o c10 (9 : Int32) (11 : Int32) (XT.ushr p2 (24 : Int32)) T10.heap n0 A10 S10 (by decide) (by decide)) e12 (by decide) 0 (by decide) (by decide) (by decide) pd_2 [(.ref o), (.int (11 : Int32)), (.int (XT.ushr p2 (24 : Int32)))] [] rfl rfl rfl (Nat.le_of_eq rfl) rfl at_129 rfl ?_
  intro T13 L13 v13 X13 q13c
  obtain ⟨rfl, e13, N13⟩ := q13c
  show OEnds p e below s _ _ _ T13 (mkF m 132 #[.val (.int p0), .val (.int p1), .val (.int p2), .val (.int p3), .val (.int (9 : Int32)), .val (.ref o), .unset, .unset, .unset, .unset, .unset] [])
  have M13 := Fr.app M12 N13
  refine s_iload X13 hx hby (n := 134) (x := (9 : Int32)) at_132 rfl rfl ?_
  refine s_iconst X13 hx hby (n := 135) (v := (2 : Int32)) at_134 rfl rfl ?_
  refine s_iushr X13 hx hby (n := 136) at_135 rfl ?_
  refine s_fold (z := (2 : Int32)) (by decide) ?_
  refine s_istore X13 hx hby (n := 138) (L' := #[.val (.int p0), .val (.int p1), .val (.int p2), .val (.int p3), .val (.int (9 : Int32)), .val (.ref o), .val (.int (2 : Int32)), .unset, .unset, .unset, .unset]) at_136 rfl rfl ?_
  refine s_iload X13 hx hby (n := 140) (x := (9 : Int32)) at_138 rfl rfl ?_
  refine s_iconst X13 hx hby (n := 141) (v := (3 : Int32)) at_140 rfl rfl ?_
  refine s_iand X13 hx hby (n := 142) at_141 rfl ?_
  refine s_fold (z := (1 : Int32)) (by decide) ?_
  refine s_istore X13 hx hby (n := 144) (L' := #[.val (.int p0), .val (.int p1), .val (.int p2), .val (.int p3), .val (.int (9 : Int32)), .val (.ref o), .val (.int (2 : Int32)), .val (.int (1 : Int32)), .unset, .unset, .unset]) at_142 rfl rfl ?_
  refine s_iconst X13 hx hby (n := 145) (v := (0 : Int32)) at_144 rfl rfl ?_
  refine s_istore X13 hx hby (n := 147) (L' := #[.val (.int p0), .val (.int p1), .val (.int p2), .val (.int p3), .val (.int (9 : Int32)), .val (.ref o), .val (.int (2 : Int32)), .val (.int (1 : Int32)), .val (.int (0 : Int32)), .unset, .unset]) at_145 rfl rfl ?_
  refine s_iload X13 hx hby (n := 149) (x := (2 : Int32)) at_147 rfl rfl ?_
  refine s_iconst X13 hx hby (n := 150) (v := (1 : Int32)) at_149 rfl rfl ?_
  refine s_icmpN X13 hx hby (n := 153) at_150 (by decide) rfl ?_
  refine s_iload X13 hx hby (n := 155) (x := (0 : Int32)) at_153 rfl rfl ?_
  refine s_iloadN X13 hx hby (n := 156) (x := p0) at_155 rfl rfl ?_
  refine s_callS X13 hx hby hml hZ (n := 159) hown (hw _ (List.mem_of_getElem? (i := 37) rfl)) (hw _ (List.mem_of_getElem? (i := 38) rfl)) (hw _ (List.mem_of_getElem? (i := 4) rfl)) (hw _ (List.mem_of_getElem? (i := 39) rfl)) (by decide) (rmMix' l Z a0 hw (0 : Int32) p0 T10.heap n0) e13 (by decide) 0 (by decide) (by decide) (by decide) pd_0 [(.int (0 : Int32)), (.int p0)] [] rfl rfl rfl (Nat.le_of_eq rfl) rfl at_156 rfl ?_
  intro T14 L14 v14 X14 q14c
  obtain ⟨rfl, e14, N14⟩ := q14c
  show OEnds p e below s _ _ _ T14 (mkF m 159 #[.val (.int p0), .val (.int p1), .val (.int p2), .val (.int p3), .val (.int (9 : Int32)), .val (.ref o), .val (.int (2 : Int32)), .val (.int (1 : Int32)), .val (.int (0 : Int32)), .unset, .unset] [(.int (own_mix (0 : Int32) p0))])
  have M14 := Fr.app M13 N14
  refine s_istore X14 hx hby (n := 161) (L' := #[.val (.int p0), .val (.int p1), .val (.int p2), .val (.int p3), .val (.int (9 : Int32)), .val (.ref o), .val (.int (2 : Int32)), .val (.int (1 : Int32)), .val (.int (own_mix (0 : Int32) p0)), .unset, .unset]) at_159 rfl rfl ?_
  refine s_iload X14 hx hby (n := 163) (x := (2 : Int32)) at_161 rfl rfl ?_
  refine s_iconst X14 hx hby (n := 164) (v := (2 : Int32)) at_163 rfl rfl ?_
  refine s_icmpN X14 hx hby (n := 167) at_164 (by decide) rfl ?_
  refine s_iload X14 hx hby (n := 169) (x := (own_mix (0 : Int32) p0)) at_167 rfl rfl ?_
  refine s_iloadN X14 hx hby (n := 170) (x := p1) at_169 rfl rfl ?_
  refine s_callS X14 hx hby hml hZ (n := 173) hown (hw _ (List.mem_of_getElem? (i := 37) rfl)) (hw _ (List.mem_of_getElem? (i := 38) rfl)) (hw _ (List.mem_of_getElem? (i := 4) rfl)) (hw _ (List.mem_of_getElem? (i := 39) rfl)) (by decide) (rmMix' l Z a0 hw (own_mix (0 : Int32) p0) p1 T10.heap n0) e14 (by decide) 0 (by decide) (by decide) (by decide) pd_0 [(.int (own_mix (0 : Int32) p0)), (.int p1)] [] rfl rfl rfl (Nat.le_of_eq rfl) rfl at_170 rfl ?_
  intro T15 L15 v15 X15 q15c
  obtain ⟨rfl, e15, N15⟩ := q15c
  show OEnds p e below s _ _ _ T15 (mkF m 173 #[.val (.int p0), .val (.int p1), .val (.int p2), .val (.int p3), .val (.int (9 : Int32)), .val (.ref o), .val (.int (2 : Int32)), .val (.int (1 : Int32)), .val (.int (own_mix (0 : Int32) p0)), .unset, .unset] [(.int (own_mix (own_mix (0 : Int32) p0) p1))])
  have M15 := Fr.app M14 N15
  refine s_istore X15 hx hby (n := 175) (L' := #[.val (.int p0), .val (.int p1), .val (.int p2), .val (.int p3), .val (.int (9 : Int32)), .val (.ref o), .val (.int (2 : Int32)), .val (.int (1 : Int32)), .val (.int (own_mix (own_mix (0 : Int32) p0) p1)), .unset, .unset]) at_173 rfl rfl ?_
  refine s_iload X15 hx hby (n := 177) (x := (2 : Int32)) at_175 rfl rfl ?_
  refine s_iconst X15 hx hby (n := 178) (v := (3 : Int32)) at_177 rfl rfl ?_
  refine s_icmpY X15 hx hby (n := 189) at_178 (by decide) (by decide) (by decide) ?_
  refine s_iload X15 hx hby (n := 191) (x := (1 : Int32)) at_189 rfl rfl ?_
  refine s_ifN X15 hx hby (n := 194) at_191 (by decide) rfl ?_
  refine s_iload X15 hx hby (n := 196) (x := (2 : Int32)) at_194 rfl rfl ?_
  refine s_ifY X15 hx hby (n := 203) at_196 (by decide) (by decide) (by decide) ?_
  refine s_iload X15 hx hby (n := 205) (x := (2 : Int32)) at_203 rfl rfl ?_
  refine s_iconst X15 hx hby (n := 206) (v := (1 : Int32)) at_205 rfl rfl ?_
  refine s_icmpY X15 hx hby (n := 213) at_206 (by decide) (by decide) (by decide) ?_
  refine s_iloadN X15 hx hby (n := 214) (x := p2) at_213 rfl rfl ?_
  refine s_istore X15 hx hby (n := 216) (L' := #[.val (.int p0), .val (.int p1), .val (.int p2), .val (.int p3), .val (.int (9 : Int32)), .val (.ref o), .val (.int (2 : Int32)), .val (.int (1 : Int32)), .val (.int (own_mix (own_mix (0 : Int32) p0) p1)), .val (.int p2), .unset]) at_214 rfl rfl ?_
  refine s_iload X15 hx hby (n := 218) (x := p2) at_216 rfl rfl ?_
  refine s_iconst X15 hx hby (n := 219) (v := (1 : Int32)) at_218 rfl rfl ?_
  refine s_bipush X15 hx hby (n := 221) (v := (8 : Int32)) at_219 rfl rfl ?_
  refine s_iload X15 hx hby (n := 223) (x := (1 : Int32)) at_221 rfl rfl ?_
  refine s_imul X15 hx hby (n := 224) at_223 rfl ?_
  refine s_fold (z := (8 : Int32)) (by decide) ?_
  refine s_ishl X15 hx hby (n := 225) at_224 rfl ?_
  refine s_fold (z := (256 : Int32)) (by decide) ?_
  refine s_iconst X15 hx hby (n := 226) (v := (1 : Int32)) at_225 rfl rfl ?_
  refine s_isub X15 hx hby (n := 227) at_226 rfl ?_
  refine s_fold (z := (255 : Int32)) (by decide) ?_
  refine s_iand X15 hx hby (n := 228) at_227 rfl ?_
  refine s_istore X15 hx hby (n := 230) (L' := #[.val (.int p0), .val (.int p1), .val (.int p2), .val (.int p3), .val (.int (9 : Int32)), .val (.ref o), .val (.int (2 : Int32)), .val (.int (1 : Int32)), .val (.int (own_mix (own_mix (0 : Int32) p0) p1)), .val (.int p2), .val (.int (p2 &&& (255 : Int32)))]) at_228 rfl rfl ?_
  refine s_iload X15 hx hby (n := 232) (x := (own_mix (own_mix (0 : Int32) p0) p1)) at_230 rfl rfl ?_
  refine s_iload X15 hx hby (n := 234) (x := (p2 &&& (255 : Int32))) at_232 rfl rfl ?_
  refine s_callS X15 hx hby hml hZ (n := 237) hown (hw _ (List.mem_of_getElem? (i := 6) rfl)) (hw _ (List.mem_of_getElem? (i := 7) rfl)) (hw _ (List.mem_of_getElem? (i := 4) rfl)) (hw _ (List.mem_of_getElem? (i := 8) rfl)) (by decide) (rmScr' l Z a0 hw (p2 &&& (255 : Int32)) T10.heap n0) e15 (by decide) 1 (by decide) (by decide) (by decide) pd_1 [(.int (p2 &&& (255 : Int32)))] [(.int (own_mix (own_mix (0 : Int32) p0) p1))] rfl rfl rfl (Nat.le_of_eq rfl) rfl at_234 rfl ?_
  intro T16 L16 v16 X16 q16c
  obtain ⟨rfl, e16, N16⟩ := q16c
  show OEnds p e below s _ _ _ T16 (mkF m 237 #[.val (.int p0), .val (.int p1), .val (.int p2), .val (.int p3), .val (.int (9 : Int32)), .val (.ref o), .val (.int (2 : Int32)), .val (.int (1 : Int32)), .val (.int (own_mix (own_mix (0 : Int32) p0) p1)), .val (.int p2), .val (.int (p2 &&& (255 : Int32)))] [(.int (own_scr (p2 &&& (255 : Int32)))), (.int (own_mix (own_mix (0 : Int32) p0) p1))])
  have M16 := Fr.app M15 N16
  refine s_ixor X16 hx hby (n := 238) at_237 rfl ?_
  refine s_istore X16 hx hby (n := 240) (L' := #[.val (.int p0), .val (.int p1), .val (.int p2), .val (.int p3), .val (.int (9 : Int32)), .val (.ref o), .val (.int (2 : Int32)), .val (.int (1 : Int32)), .val (.int ((own_mix (own_mix (0 : Int32) p0) p1) ^^^ (own_scr (p2 &&& (255 : Int32))))), .val (.int p2), .val (.int (p2 &&& (255 : Int32)))]) at_238 rfl rfl ?_
  refine s_iload X16 hx hby (n := 242) (x := ((own_mix (own_mix (0 : Int32) p0) p1) ^^^ (own_scr (p2 &&& (255 : Int32))))) at_240 rfl rfl ?_
  refine s_iload X16 hx hby (n := 244) (x := (9 : Int32)) at_242 rfl rfl ?_
  refine s_callS X16 hx hby hml hZ (n := 247) hown (hw _ (List.mem_of_getElem? (i := 14) rfl)) (hw _ (List.mem_of_getElem? (i := 15) rfl)) (hw _ (List.mem_of_getElem? (i := 4) rfl)) (hw _ (List.mem_of_getElem? (i := 16) rfl)) (by decide) (rmFin' l Z a0 hw ((own_mix (own_mix (0 : Int32) p0) p1) ^^^ (own_scr (p2 &&& (255 : Int32)))) (9 : Int32) T10.heap n0) e16 (by decide) 0 (by decide) (by decide) (by decide) pd_0 [(.int ((own_mix (own_mix (0 : Int32) p0) p1) ^^^ (own_scr (p2 &&& (255 : Int32))))), (.int (9 : Int32))] [] rfl rfl rfl (Nat.le_of_eq rfl) rfl at_244 rfl ?_
  intro T17 L17 v17 X17 q17c
  obtain ⟨rfl, e17, N17⟩ := q17c
  show OEnds p e below s _ _ _ T17 (mkF m 247 #[.val (.int p0), .val (.int p1), .val (.int p2), .val (.int p3), .val (.int (9 : Int32)), .val (.ref o), .val (.int (2 : Int32)), .val (.int (1 : Int32)), .val (.int ((own_mix (own_mix (0 : Int32) p0) p1) ^^^ (own_scr (p2 &&& (255 : Int32))))), .val (.int p2), .val (.int (p2 &&& (255 : Int32)))] [(.int (own_fin ((own_mix (own_mix (0 : Int32) p0) p1) ^^^ (own_scr (p2 &&& (255 : Int32)))) (9 : Int32)))])
  have M17 := Fr.app M16 N17
  refine s_istore X17 hx hby (n := 249) (L' := #[.val (.int p0), .val (.int p1), .val (.int p2), .val (.int p3), .val (.int (9 : Int32)), .val (.ref o), .val (.int (2 : Int32)), .val (.int (1 : Int32)), .val (.int ((own_mix (own_mix (0 : Int32) p0) p1) ^^^ (own_scr (p2 &&& (255 : Int32))))), .val (.int (own_fin ((own_mix (own_mix (0 : Int32) p0) p1) ^^^ (own_scr (p2 &&& (255 : Int32)))) (9 : Int32))), .val (.int (p2 &&& (255 : Int32)))]) at_247 rfl rfl ?_
  refine s_aload X17 hx hby (n := 251) (x := (.ref o)) at_249 rfl rfl rfl ?_
  refine s_callS X17 hx hby hml hZ (n := 254) hown (hw _ (List.mem_of_getElem? (i := 19) rfl)) (hw _ (List.mem_of_getElem? (i := 20) rfl)) (hw _ (List.mem_of_getElem? (i := 21) rfl)) (hw _ (List.mem_of_getElem? (i := 22) rfl)) (by decide) (rmH9 l Z a0 hw o c10 (nar .byte (p0).toInt8.toInt32) (nar .byte (XT.ushr p0 (8 : Int32)).toInt8.toInt32) (nar .byte (XT.ushr p0 (16 : Int32)).toInt8.toInt32) (nar .byte (XT.ushr p0 (24 : Int32)).toInt8.toInt32) (nar .byte (p1).toInt8.toInt32) (nar .byte (XT.ushr p1 (8 : Int32)).toInt8.toInt32) (nar .byte (XT.ushr p1 (16 : Int32)).toInt8.toInt32) (nar .byte (XT.ushr p1 (24 : Int32)).toInt8.toInt32) (nar .byte (p2).toInt8.toInt32) T10.heap n0 A10 S10 B10_0 B10_1 B10_2 B10_3 B10_4 B10_5 B10_6 B10_7 B10_8) e17 (by decide) 0 (by decide) (by decide) (by decide) pd_3 [(.ref o)] [] rfl rfl rfl (Nat.le_of_eq rfl) rfl at_251 rfl ?_
  intro T18 L18 v18 X18 q18c
  obtain ⟨rfl, e18, N18⟩ := q18c
  show OEnds p e below s _ _ _ T18 (mkF m 254 #[.val (.int p0), .val (.int p1), .val (.int p2), .val (.int p3), .val (.int (9 : Int32)), .val (.ref o), .val (.int (2 : Int32)), .val (.int (1 : Int32)), .val (.int ((own_mix (own_mix (0 : Int32) p0) p1) ^^^ (own_scr (p2 &&& (255 : Int32))))), .val (.int (own_fin ((own_mix (own_mix (0 : Int32) p0) p1) ^^^ (own_scr (p2 &&& (255 : Int32)))) (9 : Int32))), .val (.int (p2 &&& (255 : Int32)))] [(.int (own_fin ((own_mix (own_mix (0 : Int32) (((((nar .byte (p0).toInt8.toInt32) &&& (255 : Int32)) ||| (((nar .byte (XT.ushr p0 (8 : Int32)).toInt8.toInt32) &&& (255 : Int32)) <<< ((8 : Int32) &&& 31))) ||| (((nar .byte (XT.ushr p0 (16 : Int32)).toInt8.toInt32) &&& (255 : Int32)) <<< ((16 : Int32) &&& 31))) ||| (((nar .byte (XT.ushr p0 (24 : Int32)).toInt8.toInt32) &&& (255 : Int32)) <<< ((24 : Int32) &&& 31)))) (((((nar .byte (p1).toInt8.toInt32) &&& (255 : Int32)) ||| (((nar .byte (XT.ushr p1 (8 : Int32)).toInt8.toInt32) &&& (255 : Int32)) <<< ((8 : Int32) &&& 31))) ||| (((nar .byte (XT.ushr p1 (16 : Int32)).toInt8.toInt32) &&& (255 : Int32)) <<< ((16 : Int32) &&& 31))) ||| (((nar .byte (XT.ushr p1 (24 : Int32)).toInt8.toInt32) &&& (255 : Int32)) <<< ((24 : Int32) &&& 31)))) ^^^ (own_scr ((0 : Int32) ||| ((nar .byte (p2).toInt8.toInt32) &&& (255 : Int32))))) (9 : Int32)))])
  have M18 := Fr.app M17 N18
  refine s_iload X18 hx hby (n := 256) (x := (own_fin ((own_mix (own_mix (0 : Int32) p0) p1) ^^^ (own_scr (p2 &&& (255 : Int32)))) (9 : Int32))) at_254 rfl rfl ?_
  refine s_icmpN X18 hx hby (n := 259) at_256 (XT.ii_ne_f (by rw [own_wp p0, own_wp p1, own_t1 p2])) rfl ?_
  refine s_iconst X18 hx hby (n := 260) (v := (1 : Int32)) at_259 rfl rfl ?_
  refine s_goto X18 hx hby (n := 264) at_260 (by decide) (by decide) ?_
  exact s_retN X18 hx hby hlk hret (t := .boolean) (by simp) (z' := (1 : Int32)) (by decide) at_264 (by decide) (by decide) ⟨rfl, M18⟩
set_option maxRecDepth 65536 in
set_option maxHeartbeats 40000000 in
theorem rm0_10 (l : Launch) (Z : State) (a0 : Array Value) (hw : ∀ d ∈ tables_1, d.before a0 Z = true) (p0 p1 p2 p3 : Int32) (qn : ((p3 &&& (2147483647 : Int32)) % (13 : Int32)) = (10 : Int32)) (h0 : Heap) (n0 : Nat) (Z0 : n0 ≤ h0.size) :
    OCon l Z x code maxLocals ret tables_1 room_1 #[(.int p0), (.int p1), (.int p2), (.int p3)] h0 (fun v h L => v = some (.int 1) ∧ Fr n0 L) := by
  refine con (plainFor_of_name pn0) ?_
  intro p e s m below meth c s₁ hx hby hml hZ hown hnm hret hlk X0 e0
  refine entry (ef0 m p0 p1 p2 p3) ?_
  have M0 := Fr.nil n0
  refine s_iloadN X0 hx hby (n := 1) (x := p3) at_0 rfl rfl ?_
  refine s_ldcI X0 hx hby hZ (n := 3) hown (hw _ (List.mem_of_getElem? (i := 0) rfl)) at_1 rfl ?_
  refine s_iand X0 hx hby (n := 4) at_3 rfl ?_
  refine s_bipush X0 hx hby (n := 6) (v := (13 : Int32)) at_4 rfl rfl ?_
  refine s_irem X0 hx hby (n := 7) at_6 (by decide) rfl ?_
  refine s_fold (z := (10 : Int32)) qn ?_
  refine s_istore X0 hx hby (n := 9) (L' := #[.val (.int p0), .val (.int p1), .val (.int p2), .val (.int p3), .val (.int (10 : Int32)), .unset, .unset, .unset, .unset, .unset, .unset]) at_7 rfl rfl ?_
  refine s_iload X0 hx hby (n := 11) (x := (10 : Int32)) at_9 rfl rfl ?_
  refine s_newP X0 hx hby hZ (n := 13) (hw _ (List.mem_of_getElem? (i := 1) rfl)) (ty := .byte) rfl e0 (by decide) 10 (by decide) (by decide) (by decide) (by decide) at_11 rfl ?_
  intro T1 h1 cA o ho X1 e1 E1 A1
  have S1 : (newA cA .byte (10 : Int32)).slots.size = (10 : Int32).toNatClampNeg := sz_new _ _ _
  have no : n0 ≤ o := by rw [ho]; exact Z0
  refine s_astore X1 hx hby (n := 15) (L' := #[.val (.int p0), .val (.int p1), .val (.int p2), .val (.int p3), .val (.int (10 : Int32)), .val (.ref o), .unset, .unset, .unset, .unset, .unset]) at_13 rfl rfl rfl ?_
  refine s_aload X1 hx hby (n := 17) (x := (.ref o)) at_15 rfl rfl rfl ?_
  refine s_iconst X1 hx hby (n := 18) (v := (0 : Int32)) at_17 rfl rfl ?_
  refine s_iloadN X1 hx hby (n := 19) (x := p0) at_18 rfl rfl ?_
  refine s_callS X1 hx hby hml hZ (n := 22) hown (hw _ (List.mem_of_getElem? (i := 2) rfl)) (hw _ (List.mem_of_getElem? (i := 3) rfl)) (hw _ (List.mem_of_getElem? (i := 4) rfl)) (hw _ (List.mem_of_getElem? (i := 5) rfl)) (by decide) (rmIn l Z a0 hw o (newA cA .byte (10 : Int32)) (10 : Int32) (0 : Int32) p0 0 h1 n0 A1 S1 (by decide) (by decide) (by decide) (by decide) (by rw [S1]; decide) no) e1 (by decide) 0 (by decide) (by decide) (by decide) pd_2 [(.ref o), (.int (0 : Int32)), (.int p0)] [] rfl rfl rfl (Nat.le_of_eq rfl) rfl at_19 rfl ?_
  intro T2 L2 v2 X2 q2c
  obtain ⟨rfl, N2, W2⟩ := q2c
  show OEnds p e below s _ _ _ T2 (mkF m 22 #[.val (.int p0), .val (.int p1), .val (.int p2), .val (.int p3), .val (.int (10 : Int32)), .val (.ref o), .unset, .unset, .unset, .unset, .unset] [])
  obtain ⟨c2, A2, S2, B2_0⟩ : ∃ cc : Cell, Arr Z T2.heap o cc .byte ∧ cc.slots.size = (10 : Int32).toNatClampNeg ∧ cc.slots[0]? = some (.int (nar .byte (p0).toInt8.toInt32)) := ⟨_, A1.same W2, (by rw [sz_set]; exact S1), set_hit (by rw [S1]; decide)⟩
  have M2 := Fr.app M0 N2
  refine s_aload X2 hx hby (n := 24) (x := (.ref o)) at_22 rfl rfl rfl ?_
  refine s_iconst X2 hx hby (n := 25) (v := (1 : Int32)) at_24 rfl rfl ?_
  refine s_iloadN X2 hx hby (n := 26) (x := p0) at_25 rfl rfl ?_
  refine s_bipush X2 hx hby (n := 28) (v := (8 : Int32)) at_26 rfl rfl ?_
  refine s_iushr X2 hx hby (n := 29) at_28 rfl ?_
  refine s_callS X2 hx hby hml hZ (n := 32) hown (hw _ (List.mem_of_getElem? (i := 2) rfl)) (hw _ (List.mem_of_getElem? (i := 3) rfl)) (hw _ (List.mem_of_getElem? (i := 4) rfl)) (hw _ (List.mem_of_getElem? (i := 5) rfl)) (by decide) (rmIn l Z a0 hw o c2 (10 : Int32) (1 : Int32) (XT.ushr p0 (8 : Int32)) 1 T2.heap n0 A2 S2 (by decide) (by decide) (by decide) (by decide) (by rw [S2]; decide) no) rfl (by decide) 0 (by decide) (by decide) (by decide) pd_2 [(.ref o), (.int (1 : Int32)), (.int (XT.ushr p0 (8 : Int32)))] [] rfl rfl rfl (Nat.le_of_eq rfl) rfl at_29 rfl ?_
  intro T3 L3 v3 X3 q3c
  obtain ⟨rfl, N3, W3⟩ := q3c
  show OEnds p e below s _ _ _ T3 (mkF m 32 #[.val (.int p0), .val (.int p1), .val (.int p2), .val (.int p3), .val (.int (10 : Int32)), .val (.ref o), .unset, .unset, .unset, .unset, .unset] [])
  obtain ⟨c3, A3, S3, B3_0, B3_1⟩ : ∃ cc : Cell, Arr Z T3.heap o cc .byte ∧ cc.slots.size = (10 : Int32).toNatClampNeg ∧ cc.slots[0]? = some (.int (nar .byte (p0).toInt8.toInt32)) ∧ cc.slots[1]? = some (.int (nar .byte (XT.ushr p0 (8 : Int32)).toInt8.toInt32)) := ⟨_, A2.same W3, (by rw [sz_set]; exact S2), set_mis B2_0 (by decide), set_hit (by rw [S2]; decide)⟩
  have M3 := Fr.app M2 N3
  refine s_aload X3 hx hby (n := 34) (x := (.ref o)) at_32 rfl rfl rfl ?_
  refine s_iconst X3 hx hby (n := 35) (v := (2 : Int32)) at_34 rfl rfl ?_
  refine s_iloadN X3 hx hby (n := 36) (x := p0) at_35 rfl rfl ?_
  refine s_bipush X3 hx hby (n := 38) (v := (16 : Int32)) at_36 rfl rfl ?_
  refine s_iushr X3 hx hby (n := 39) at_38 rfl ?_
  refine s_callS X3 hx hby hml hZ (n := 42) hown (hw _ (List.mem_of_getElem? (i := 2) rfl)) (hw _ (List.mem_of_getElem? (i := 3) rfl)) (hw _ (List.mem_of_getElem? (i := 4) rfl)) (hw _ (List.mem_of_getElem? (i := 5) rfl)) (by decide) (rmIn l Z a0 hw o c3 (10 : Int32) (2 : Int32) (XT.ushr p0 (16 : Int32)) 2 T3.heap n0 A3 S3 (by decide) (by decide) (by decide) (by decide) (by rw [S3]; decide) no) rfl (by decide) 0 (by decide) (by decide) (by decide) pd_2 [(.ref o), (.int (2 : Int32)), (.int (XT.ushr p0 (16 : Int32)))] [] rfl rfl rfl (Nat.le_of_eq rfl) rfl at_39 rfl ?_
  intro T4 L4 v4 X4 q4c
  obtain ⟨rfl, N4, W4⟩ := q4c
  show OEnds p e below s _ _ _ T4 (mkF m 42 #[.val (.int p0), .val (.int p1), .val (.int p2), .val (.int p3), .val (.int (10 : Int32)), .val (.ref o), .unset, .unset, .unset, .unset, .unset] [])
  obtain ⟨c4, A4, S4, B4_0, B4_1, B4_2⟩ : ∃ cc : Cell, Arr Z T4.heap o cc .byte ∧ cc.slots.size = (10 : Int32).toNatClampNeg ∧ cc.slots[0]? = some (.int (nar .byte (p0).toInt8.toInt32)) ∧ cc.slots[1]? = some (.int (nar .byte (XT.ushr p0 (8 : Int32)).toInt8.toInt32)) ∧ cc.slots[2]? = some (.int (nar .byte (XT.ushr p0 (16 : Int32)).toInt8.toInt32)) := ⟨_, A3.same W4, (by rw [sz_set]; exact S3), set_mis B3_0 (by decide), set_mis B3_1 (by decide), set_hit (by rw [S3]; decide)⟩
  have M4 := Fr.app M3 N4
  refine s_aload X4 hx hby (n := 44) (x := (.ref o)) at_42 rfl rfl rfl ?_
  refine s_iconst X4 hx hby (n := 45) (v := (3 : Int32)) at_44 rfl rfl ?_
  refine s_iloadN X4 hx hby (n := 46) (x := p0) at_45 rfl rfl ?_
  refine s_bipush X4 hx hby (n := 48) (v := (24 : Int32)) at_46 rfl rfl ?_
  refine s_iushr X4 hx hby (n := 49) at_48 rfl ?_
  refine s_callS X4 hx hby hml hZ (n := 52) hown (hw _ (List.mem_of_getElem? (i := 2) rfl)) (hw _ (List.mem_of_getElem? (i := 3) rfl)) (hw _ (List.mem_of_getElem? (i := 4) rfl)) (hw _ (List.mem_of_getElem? (i := 5) rfl)) (by decide) (rmIn l Z a0 hw o c4 (10 : Int32) (3 : Int32) (XT.ushr p0 (24 : Int32)) 3 T4.heap n0 A4 S4 (by decide) (by decide) (by decide) (by decide) (by rw [S4]; decide) no) rfl (by decide) 0 (by decide) (by decide) (by decide) pd_2 [(.ref o), (.int (3 : Int32)), (.int (XT.ushr p0 (24 : Int32)))] [] rfl rfl rfl (Nat.le_of_eq rfl) rfl at_49 rfl ?_
  intro T5 L5 v5 X5 q5c
  obtain ⟨rfl, N5, W5⟩ := q5c
  show OEnds p e below s _ _ _ T5 (mkF m 52 #[.val (.int p0), .val (.int p1), .val (.int p2), .val (.int p3), .val (.int (10 : Int32)), .val (.ref o), .unset, .unset, .unset, .unset, .unset] [])
  obtain ⟨c5, A5, S5, B5_0, B5_1, B5_2, B5_3⟩ : ∃ cc : Cell, Arr Z T5.heap o cc .byte ∧ cc.slots.size = (10 : Int32).toNatClampNeg ∧ cc.slots[0]? = some (.int (nar .byte (p0).toInt8.toInt32)) ∧ cc.slots[1]? = some (.int (nar .byte (XT.ushr p0 (8 : Int32)).toInt8.toInt32)) ∧ cc.slots[2]? = some (.int (nar .byte (XT.ushr p0 (16 : Int32)).toInt8.toInt32)) ∧ cc.slots[3]? = some (.int (nar .byte (XT.ushr p0 (24 : Int32)).toInt8.toInt32)) := ⟨_, A4.same W5, (by rw [sz_set]; exact S4), set_mis B4_0 (by decide), set_mis B4_1 (by decide), set_mis B4_2 (by decide), set_hit (by rw [S4]; decide)⟩
  have M5 := Fr.app M4 N5
  refine s_aload X5 hx hby (n := 54) (x := (.ref o)) at_52 rfl rfl rfl ?_
  refine s_iconst X5 hx hby (n := 55) (v := (4 : Int32)) at_54 rfl rfl ?_
  refine s_iloadN X5 hx hby (n := 56) (x := p1) at_55 rfl rfl ?_
  refine s_callS X5 hx hby hml hZ (n := 59) hown (hw _ (List.mem_of_getElem? (i := 2) rfl)) (hw _ (List.mem_of_getElem? (i := 3) rfl)) (hw _ (List.mem_of_getElem? (i := 4) rfl)) (hw _ (List.mem_of_getElem? (i := 5) rfl)) (by decide) (rmIn l Z a0 hw o c5 (10 : Int32) (4 : Int32) p1 4 T5.heap n0 A5 S5 (by decide) (by decide) (by decide) (by decide) (by rw [S5]; decide) no) rfl (by decide) 0 (by decide) (by decide) (by decide) pd_2 [(.ref o), (.int (4 : Int32)), (.int p1)] [] rfl rfl rfl (Nat.le_of_eq rfl) rfl at_56 rfl ?_
  intro T6 L6 v6 X6 q6c
  obtain ⟨rfl, N6, W6⟩ := q6c
  show OEnds p e below s _ _ _ T6 (mkF m 59 #[.val (.int p0), .val (.int p1), .val (.int p2), .val (.int p3), .val (.int (10 : Int32)), .val (.ref o), .unset, .unset, .unset, .unset, .unset] [])
  obtain ⟨c6, A6, S6, B6_0, B6_1, B6_2, B6_3, B6_4⟩ : ∃ cc : Cell, Arr Z T6.heap o cc .byte ∧ cc.slots.size = (10 : Int32).toNatClampNeg ∧ cc.slots[0]? = some (.int (nar .byte (p0).toInt8.toInt32)) ∧ cc.slots[1]? = some (.int (nar .byte (XT.ushr p0 (8 : Int32)).toInt8.toInt32)) ∧ cc.slots[2]? = some (.int (nar .byte (XT.ushr p0 (16 : Int32)).toInt8.toInt32)) ∧ cc.slots[3]? = some (.int (nar .byte (XT.ushr p0 (24 : Int32)).toInt8.toInt32)) ∧ cc.slots[4]? = some (.int (nar .byte (p1).toInt8.toInt32)) := ⟨_, A5.same W6, (by rw [sz_set]; exact S5), set_mis B5_0 (by decide), set_mis B5_1 (by decide), set_mis B5_2 (by decide), set_mis B5_3 (by decide), set_hit (by rw [S5]; decide)⟩
  have M6 := Fr.app M5 N6
  refine s_aload X6 hx hby (n := 61) (x := (.ref o)) at_59 rfl rfl rfl ?_
  refine s_iconst X6 hx hby (n := 62) (v := (5 : Int32)) at_61 rfl rfl ?_
  refine s_iloadN X6 hx hby (n := 63) (x := p1) at_62 rfl rfl ?_
  refine s_bipush X6 hx hby (n := 65) (v := (8 : Int32)) at_63 rfl rfl ?_
  refine s_iushr X6 hx hby (n := 66) at_65 rfl ?_
  refine s_callS X6 hx hby hml hZ (n := 69) hown (hw _ (List.mem_of_getElem? (i := 2) rfl)) (hw _ (List.mem_of_getElem? (i := 3) rfl)) (hw _ (List.mem_of_getElem? (i := 4) rfl)) (hw _ (List.mem_of_getElem? (i := 5) rfl)) (by decide) (rmIn l Z a0 hw o c6 (10 : Int32) (5 : Int32) (XT.ushr p1 (8 : Int32)) 5 T6.heap n0 A6 S6 (by decide) (by decide) (by decide) (by decide) (by rw [S6]; decide) no) rfl (by decide) 0 (by decide) (by decide) (by decide) pd_2 [(.ref o), (.int (5 : Int32)), (.int (XT.ushr p1 (8 : Int32)))] [] rfl rfl rfl (Nat.le_of_eq rfl) rfl at_66 rfl ?_
  intro T7 L7 v7 X7 q7c
  obtain ⟨rfl, N7, W7⟩ := q7c
  show OEnds p e below s _ _ _ T7 (mkF m 69 #[.val (.int p0), .val (.int p1), .val (.int p2), .val (.int p3), .val (.int (10 : Int32)), .val (.ref o), .unset, .unset, .unset, .unset, .unset] [])
  obtain ⟨c7, A7, S7, B7_0, B7_1, B7_2, B7_3, B7_4, B7_5⟩ : ∃ cc : Cell, Arr Z T7.heap o cc .byte ∧ cc.slots.size = (10 : Int32).toNatClampNeg ∧ cc.slots[0]? = some (.int (nar .byte (p0).toInt8.toInt32)) ∧ cc.slots[1]? = some (.int (nar .byte (XT.ushr p0 (8 : Int32)).toInt8.toInt32)) ∧ cc.slots[2]? = some (.int (nar .byte (XT.ushr p0 (16 : Int32)).toInt8.toInt32)) ∧ cc.slots[3]? = some (.int (nar .byte (XT.ushr p0 (24 : Int32)).toInt8.toInt32)) ∧ cc.slots[4]? = some (.int (nar .byte (p1).toInt8.toInt32)) ∧ cc.slots[5]? = some (.int (nar .byte (XT.ushr p1 (8 : Int32)).toInt8.toInt32)) := ⟨_, A6.same W7, (by rw [sz_set]; exact S6), set_mis B6_0 (by decide), set_mis B6_1 (by decide), set_mis B6_2 (by decide), set_mis B6_3 (by decide), set_mis B6_4 (by decide), set_hit (by rw [S6]; decide)⟩
  have M7 := Fr.app M6 N7
  refine s_aload X7 hx hby (n := 71) (x := (.ref o)) at_69 rfl rfl rfl ?_
  refine s_bipush X7 hx hby (n := 73) (v := (6 : Int32)) at_71 rfl rfl ?_
  refine s_iloadN X7 hx hby (n := 74) (x := p1) at_73 rfl rfl ?_
  refine s_bipush X7 hx hby (n := 76) (v := (16 : Int32)) at_74 rfl rfl ?_
  refine s_iushr X7 hx hby (n := 77) at_76 rfl ?_
  refine s_callS X7 hx hby hml hZ (n := 80) hown (hw _ (List.mem_of_getElem? (i := 2) rfl)) (hw _ (List.mem_of_getElem? (i := 3) rfl)) (hw _ (List.mem_of_getElem? (i := 4) rfl)) (hw _ (List.mem_of_getElem? (i := 5) rfl)) (by decide) (rmIn l Z a0 hw o c7 (10 : Int32) (6 : Int32) (XT.ushr p1 (16 : Int32)) 6 T7.heap n0 A7 S7 (by decide) (by decide) (by decide) (by decide) (by rw [S7]; decide) no) rfl (by decide) 0 (by decide) (by decide) (by decide) pd_2 [(.ref o), (.int (6 : Int32)), (.int (XT.ushr p1 (16 : Int32)))] [] rfl rfl rfl (Nat.le_of_eq rfl) rfl at_77 rfl ?_
  intro T8 L8 v8 X8 q8c
  obtain ⟨rfl, N8, W8⟩ := q8c
  show OEnds p e below s _ _ _ T8 (mkF m 80 #[.val (.int p0), .val (.int p1), .val (.int p2), .val (.int p3), .val (.int (10 : Int32)), .val (.ref o), .unset, .unset, .unset, .unset, .unset] [])
  obtain ⟨c8, A8, S8, B8_0, B8_1, B8_2, B8_3, B8_4, B8_5, B8_6⟩ : ∃ cc : Cell, Arr Z T8.heap o cc .byte ∧ cc.slots.size = (10 : Int32).toNatClampNeg ∧ cc.slots[0]? = some (.int (nar .byte (p0).toInt8.toInt32)) ∧ cc.slots[1]? = some (.int (nar .byte (XT.ushr p0 (8 : Int32)).toInt8.toInt32)) ∧ cc.slots[2]? = some (.int (nar .byte (XT.ushr p0 (16 : Int32)).toInt8.toInt32)) ∧ cc.slots[3]? = some (.int (nar .byte (XT.ushr p0 (24 : Int32)).toInt8.toInt32)) ∧ cc.slots[4]? = some (.int (nar .byte (p1).toInt8.toInt32)) ∧ cc.slots[5]? = some (.int (nar .byte (XT.ushr p1 (8 : Int32)).toInt8.toInt32)) ∧ cc.slots[6]? = some (.int (nar .byte (XT.ushr p1 (16 : Int32)).toInt8.toInt32)) := ⟨_, A7.same W8, (by rw [sz_set]; exact S7), set_mis B7_0 (by decide), set_mis B7_1 (by decide), set_mis B7_2 (by decide), set_mis B7_3 (by decide), set_mis B7_4 (by decide), set_mis B7_5 (by decide), set_hit (by rw [S7]; decide)⟩
  have M8 := Fr.app M7 N8
  refine s_aload X8 hx hby (n := 82) (x := (.ref o)) at_80 rfl rfl rfl ?_
  refine s_bipush X8 hx hby (n := 84) (v := (7 : Int32)) at_82 rfl rfl ?_
  refine s_iloadN X8 hx hby (n := 85) (x := p1) at_84 rfl rfl ?_
  refine s_bipush X8 hx hby (n := 87) (v := (24 : Int32)) at_85 rfl rfl ?_
  refine s_iushr X8 hx hby (n := 88) at_87 rfl ?_
  refine s_callS X8 hx hby hml hZ (n := 91) hown (hw _ (List.mem_of_getElem? (i := 2) rfl)) (hw _ (List.mem_of_getElem? (i := 3) rfl)) (hw _ (List.mem_of_getElem? (i := 4) rfl)) (hw _ (List.mem_of_getElem? (i := 5) rfl)) (by decide) (rmIn l Z a0 hw o c8 (10 : Int32) (7 : Int32) (XT.ushr p1 (24 : Int32)) 7 T8.heap n0 A8 S8 (by decide) (by decide) (by decide) (by decide) (by rw [S8]; decide) no) rfl (by decide) 0 (by decide) (by decide) (by decide) pd_2 [(.ref o), (.int (7 : Int32)), (.int (XT.ushr p1 (24 : Int32)))] [] rfl rfl rfl (Nat.le_of_eq rfl) rfl at_88 rfl ?_
  intro T9 L9 v9 X9 q9c
  obtain ⟨rfl, N9, W9⟩ := q9c
  show OEnds p e below s _ _ _ T9 (mkF m 91 #[.val (.int p0), .val (.int p1), .val (.int p2), .val (.int p3), .val (.int (10 : Int32)), .val (.ref o), .unset, .unset, .unset, .unset, .unset] [])
  obtain ⟨c9, A9, S9, B9_0, B9_1, B9_2, B9_3, B9_4, B9_5, B9_6, B9_7⟩ : ∃ cc : Cell, Arr Z T9.heap o cc .byte ∧ cc.slots.size = (10 : Int32).toNatClampNeg ∧ cc.slots[0]? = some (.int (nar .byte (p0).toInt8.toInt32)) ∧ cc.slots[1]? = some (.int (nar .byte (XT.ushr p0 (8 : Int32)).toInt8.toInt32)) ∧ cc.slots[2]? = some (.int (nar .byte (XT.ushr p0 (16 : Int32)).toInt8.toInt32)) ∧ cc.slots[3]? = some (.int (nar .byte (XT.ushr p0 (24 : Int32)).toInt8.toInt32)) ∧ cc.slots[4]? = some (.int (nar .byte (p1).toInt8.toInt32)) ∧ cc.slots[5]? = some (.int (nar .byte (XT.ushr p1 (8 : Int32)).toInt8.toInt32)) ∧ cc.slots[6]? = some (.int (nar .byte (XT.ushr p1 (16 : Int32)).toInt8.toInt32)) ∧ cc.slots[7]? = some (.int (nar .byte (XT.ushr p1 (24 : Int32)).toInt8.toInt32)) := ⟨_, A8.same W9, (by rw [sz_set]; exact S8), set_mis B8_0 (by decide), set_mis B8_1 (by decide), set_mis B8_2 (by decide), set_mis B8_3 (by decide), set_mis B8_4 (by decide), set_mis B8_5 (by decide), set_mis B8_6 (by decide), set_hit (by rw [S8]; decide)⟩
  have M9 := Fr.app M8 N9
  refine s_aload X9 hx hby (n := 93) (x := (.ref o)) at_91 rfl rfl rfl ?_
  refine s_bipush X9 hx hby (n := 95) (v := (8 : Int32)) at_93 rfl rfl ?_
  refine s_iloadN X9 hx hby (n := 96) (x := p2) at_95 rfl rfl ?_
  refine s_callS X9 hx hby hml hZ (n := 99) hown (hw _ (List.mem_of_getElem? (i := 2) rfl)) (hw _ (List.mem_of_getElem? (i := 3) rfl)) (hw _ (List.mem_of_getElem? (i := 4) rfl)) (hw _ (List.mem_of_getElem? (i := 5) rfl)) (by decide) (rmIn l Z a0 hw o c9 (10 : Int32) (8 : Int32) p2 8 T9.heap n0 A9 S9 (by decide) (by decide) (by decide) (by decide) (by rw [S9]; decide) no) rfl (by decide) 0 (by decide) (by decide) (by decide) pd_2 [(.ref o), (.int (8 : Int32)), (.int p2)] [] rfl rfl rfl (Nat.le_of_eq rfl) rfl at_96 rfl ?_
  intro T10 L10 v10 X10 q10c
  obtain ⟨rfl, N10, W10⟩ := q10c
  show OEnds p e below s _ _ _ T10 (mkF m 99 #[.val (.int p0), .val (.int p1), .val (.int p2), .val (.int p3), .val (.int (10 : Int32)), .val (.ref o), .unset, .unset, .unset, .unset, .unset] [])
  obtain ⟨c10, A10, S10, B10_0, B10_1, B10_2, B10_3, B10_4, B10_5, B10_6, B10_7, B10_8⟩ : ∃ cc : Cell, Arr Z T10.heap o cc .byte ∧ cc.slots.size = (10 : Int32).toNatClampNeg ∧ cc.slots[0]? = some (.int (nar .byte (p0).toInt8.toInt32)) ∧ cc.slots[1]? = some (.int (nar .byte (XT.ushr p0 (8 : Int32)).toInt8.toInt32)) ∧ cc.slots[2]? = some (.int (nar .byte (XT.ushr p0 (16 : Int32)).toInt8.toInt32)) ∧ cc.slots[3]? = some (.int (nar .byte (XT.ushr p0 (24 : Int32)).toInt8.toInt32)) ∧ cc.slots[4]? = some (.int (nar .byte (p1).toInt8.toInt32)) ∧ cc.slots[5]? = some (.int (nar .byte (XT.ushr p1 (8 : Int32)).toInt8.toInt32)) ∧ cc.slots[6]? = some (.int (nar .byte (XT.ushr p1 (16 : Int32)).toInt8.toInt32)) ∧ cc.slots[7]? = some (.int (nar .byte (XT.ushr p1 (24 : Int32)).toInt8.toInt32)) ∧ cc.slots[8]? = some (.int (nar .byte (p2).toInt8.toInt32)) := ⟨_, A9.same W10, (by rw [sz_set]; exact S9), set_mis B9_0 (by decide), set_mis B9_1 (by decide), set_mis B9_2 (by decide), set_mis B9_3 (by decide), set_mis B9_4 (by decide), set_mis B9_5 (by decide), set_mis B9_6 (by decide), set_mis B9_7 (by decide), set_hit (by rw [S9]; decide)⟩
  have M10 := Fr.app M9 N10
  refine s_aload X10 hx hby (n := 101) (x := (.ref o)) at_99 rfl rfl rfl ?_
  refine s_bipush X10 hx hby (n := 103) (v := (9 : Int32)) at_101 rfl rfl ?_
  refine s_iloadN X10 hx hby (n := 104) (x := p2) at_103 rfl rfl ?_
  refine s_bipush X10 hx hby (n := 106) (v := (8 : Int32)) at_104 rfl rfl ?_
  refine s_iushr X10 hx hby (n := 107) at_106 rfl ?_
  refine s_callS X10 hx hby hml hZ (n := 110) hown (hw _ (List.mem_of_getElem? (i := 2) rfl)) (hw _ (List.mem_of_getElem? (i := 3) rfl)) (hw _ (List.mem_of_getElem? (i := 4) rfl)) (hw _ (List.mem_of_getElem? (i := 5) rfl)) (by decide) (rmIn l Z a0 hw o c10 (10 : Int32) (9 : Int32) (XT.ushr p2 (8 : Int32)) 9 T10.heap n0 A10 S10 (by decide) (by decide) (by decide) (by decide) (by rw [S10]; decide) no) rfl (by decide) 0 (by decide) (by decide) (by decide) pd_2 [(.ref o), (.int (9 : Int32)), (.int (XT.ushr p2 (8 : Int32)))] [] rfl rfl rfl (Nat.le_of_eq rfl) rfl at_107 rfl ?_
  intro T11 L11 v11 X11 q11c
  obtain ⟨rfl, N11, W11⟩ := q11c
  show OEnds p e below s _ _ _ T11 (mkF m 110 #[.val (.int p0), .val (.int p1), .val (.int p2), .val (.int p3), .val (.int (10 : Int32)), .val (.ref o), .unset, .unset, .unset, .unset, .unset] [])
  obtain ⟨c11, A11, S11, B11_0, B11_1, B11_2, B11_3, B11_4, B11_5, B11_6, B11_7, B11_8, B11_9⟩ : ∃ cc : Cell, Arr Z T11.heap o cc .byte ∧ cc.slots.size = (10 : Int32).toNatClampNeg ∧ cc.slots[0]? = some (.int (nar .byte (p0).toInt8.toInt32)) ∧ cc.slots[1]? = some (.int (nar .byte (XT.ushr p0 (8 : Int32)).toInt8.toInt32)) ∧ cc.slots[2]? = some (.int (nar .byte (XT.ushr p0 (16 : Int32)).toInt8.toInt32)) ∧ cc.slots[3]? = some (.int (nar .byte (XT.ushr p0 (24 : Int32)).toInt8.toInt32)) ∧ cc.slots[4]? = some (.int (nar .byte (p1).toInt8.toInt32)) ∧ cc.slots[5]? = some (.int (nar .byte (XT.ushr p1 (8 : Int32)).toInt8.toInt32)) ∧ cc.slots[6]? = some (.int (nar .byte (XT.ushr p1 (16 : Int32)).toInt8.toInt32)) ∧ cc.slots[7]? = some (.int (nar .byte (XT.ushr p1 (24 : Int32)).toInt8.toInt32)) ∧ cc.slots[8]? = some (.int (nar .byte (p2).toInt8.toInt32)) ∧ cc.slots[9]? = some (.int (nar .byte (XT.ushr p2 (8 : Int32)).toInt8.toInt32)) := ⟨_, A10.same W11, (by rw [sz_set]; exact S10), set_mis B10_0 (by decide), set_mis B10_1 (by decide), set_mis B10_2 (by decide), set_mis B10_3 (by decide), set_mis B10_4 (by decide), set_mis B10_5 (by decide), set_mis B10_6 (by decide), set_mis B10_7 (by decide), set_mis B10_8 (by decide), set_hit (by rw [S10]; decide)⟩
  have M11 := Fr.app M10 N11
  refine s_aload X11 hx hby (n := 112) (x := (.ref o)) at_110 rfl rfl rfl ?_
  refine s_bipush X11 hx hby (n := 114) (v := (10 : Int32)) at_112 rfl rfl ?_
  refine s_iloadN X11 hx hby (n := 115) (x := p2) at_114 rfl rfl ?_
  refine s_bipush X11 hx hby (n := 117) (v := (16 : Int32)) at_115 rfl rfl ?_
  refine s_iushr X11 hx hby (n := 118) at_117 rfl ?_
  refine s_callS X11 hx hby hml hZ (n := 121) hown (hw _ (List.mem_of_getElem? (i := 2) rfl)) (hw _ (List.mem_of_getElem? (i := 3) rfl)) (hw _ (List.mem_of_getElem? (i := 4) rfl)) (hw _ (List.mem_of_getElem? (i := 5) rfl)) (by decide) (rmOut l Z a0 hw o c11 (10 : Int32) (10 : Int32) (XT.ushr p2 (16 : Int32)) T11.heap n0 A11 S11 (by decide) (by decide)) rfl (by decide) 0 (by decide) (by decide) (by decide) pd_2 [(.ref o), (.int (10 : Int32)), (.int (XT.ushr p2 (16 : Int32)))] [] rfl rfl rfl (Nat.le_of_eq rfl) rfl at_118 rfl ?_
  intro T12 L12 v12 X12 q12c
  obtain ⟨rfl, e12, N12⟩ := q12c
  show OEnds p e below s _ _ _ T12 (mkF m 121 #[.val (.int p0), .val (.int p1), .val (.int p2), .val (.int p3), .val (.int (10 : Int32)), .val (.ref o), .unset, .unset, .unset, .unset, .unset] [])
  have M12 := Fr.app M11 N12
  refine s_aload X12 hx hby (n := 123) (x := (.ref o)) at_121 rfl rfl rfl ?_
  refine s_bipush X12 hx hby (n := 125) (v := (11 : Int32)) at_123 rfl rfl ?_
  refine s_iloadN X12 hx hby (n := 126) (x := p2) at_125 rfl rfl ?_
  refine s_bipush X12 hx hby (n := 128) (v := (24 : Int32)) at_126 rfl rfl ?_
  refine s_iushr X12 hx hby (n := 129) at_128 rfl ?_
  refine s_callS X12 hx hby hml hZ (n := 132) hown (hw _ (List.mem_of_getElem? (i := 2) rfl)) (hw _ (List.mem_of_getElem? (i := 3) rfl)) (hw _ (List.mem_of_getElem? (i := 4) rfl)) (hw _ (List.mem_of_getElem? (i := 5) rfl)) (by decide) (rmOut l Z a0 hw o c11 (10 : Int32) (11 : Int32) (XT.ushr p2 (24 : Int32)) T11.heap n0 A11 S11 (by decide) (by decide)) e12 (by decide) 0 (by decide) (by decide) (by decide) pd_2 [(.ref o), (.int (11 : Int32)), (.int (XT.ushr p2 (24 : Int32)))] [] rfl rfl rfl (Nat.le_of_eq rfl) rfl at_129 rfl ?_
  intro T13 L13 v13 X13 q13c
  obtain ⟨rfl, e13, N13⟩ := q13c
  show OEnds p e below s _ _ _ T13 (mkF m 132 #[.val (.int p0), .val (.int p1), .val (.int p2), .val (.int p3), .val (.int (10 : Int32)), .val (.ref o), .unset, .unset, .unset, .unset, .unset] [])
  have M13 := Fr.app M12 N13
  refine s_iload X13 hx hby (n := 134) (x := (10 : Int32)) at_132 rfl rfl ?_
  refine s_iconst X13 hx hby (n := 135) (v := (2 : Int32)) at_134 rfl rfl ?_
  refine s_iushr X13 hx hby (n := 136) at_135 rfl ?_
  refine s_fold (z := (2 : Int32)) (by decide) ?_
  refine s_istore X13 hx hby (n := 138) (L' := #[.val (.int p0), .val (.int p1), .val (.int p2), .val (.int p3), .val (.int (10 : Int32)), .val (.ref o), .val (.int (2 : Int32)), .unset, .unset, .unset, .unset]) at_136 rfl rfl ?_
  refine s_iload X13 hx hby (n := 140) (x := (10 : Int32)) at_138 rfl rfl ?_
  refine s_iconst X13 hx hby (n := 141) (v := (3 : Int32)) at_140 rfl rfl ?_
  refine s_iand X13 hx hby (n := 142) at_141 rfl ?_
  refine s_fold (z := (2 : Int32)) (by decide) ?_
  refine s_istore X13 hx hby (n := 144) (L' := #[.val (.int p0), .val (.int p1), .val (.int p2), .val (.int p3), .val (.int (10 : Int32)), .val (.ref o), .val (.int (2 : Int32)), .val (.int (2 : Int32)), .unset, .unset, .unset]) at_142 rfl rfl ?_
  refine s_iconst X13 hx hby (n := 145) (v := (0 : Int32)) at_144 rfl rfl ?_
  refine s_istore X13 hx hby (n := 147) (L' := #[.val (.int p0), .val (.int p1), .val (.int p2), .val (.int p3), .val (.int (10 : Int32)), .val (.ref o), .val (.int (2 : Int32)), .val (.int (2 : Int32)), .val (.int (0 : Int32)), .unset, .unset]) at_145 rfl rfl ?_
  refine s_iload X13 hx hby (n := 149) (x := (2 : Int32)) at_147 rfl rfl ?_
  refine s_iconst X13 hx hby (n := 150) (v := (1 : Int32)) at_149 rfl rfl ?_
  refine s_icmpN X13 hx hby (n := 153) at_150 (by decide) rfl ?_
  refine s_iload X13 hx hby (n := 155) (x := (0 : Int32)) at_153 rfl rfl ?_
  refine s_iloadN X13 hx hby (n := 156) (x := p0) at_155 rfl rfl ?_
  refine s_callS X13 hx hby hml hZ (n := 159) hown (hw _ (List.mem_of_getElem? (i := 37) rfl)) (hw _ (List.mem_of_getElem? (i := 38) rfl)) (hw _ (List.mem_of_getElem? (i := 4) rfl)) (hw _ (List.mem_of_getElem? (i := 39) rfl)) (by decide) (rmMix' l Z a0 hw (0 : Int32) p0 T11.heap n0) e13 (by decide) 0 (by decide) (by decide) (by decide) pd_0 [(.int (0 : Int32)), (.int p0)] [] rfl rfl rfl (Nat.le_of_eq rfl) rfl at_156 rfl ?_
  intro T14 L14 v14 X14 q14c
  obtain ⟨rfl, e14, N14⟩ := q14c
  show OEnds p e below s _ _ _ T14 (mkF m 159 #[.val (.int p0), .val (.int p1), .val (.int p2), .val (.int p3), .val (.int (10 : Int32)), .val (.ref o), .val (.int (2 : Int32)), .val (.int (2 : Int32)), .val (.int (0 : Int32)), .unset, .unset] [(.int (own_mix (0 : Int32) p0))])
  have M14 := Fr.app M13 N14
  refine s_istore X14 hx hby (n := 161) (L' := #[.val (.int p0), .val (.int p1), .val (.int p2), .val (.int p3), .val (.int (10 : Int32)), .val (.ref o), .val (.int (2 : Int32)), .val (.int (2 : Int32)), .val (.int (own_mix (0 : Int32) p0)), .unset, .unset]) at_159 rfl rfl ?_
  refine s_iload X14 hx hby (n := 163) (x := (2 : Int32)) at_161 rfl rfl ?_
  refine s_iconst X14 hx hby (n := 164) (v := (2 : Int32)) at_163 rfl rfl ?_
  refine s_icmpN X14 hx hby (n := 167) at_164 (by decide) rfl ?_
  refine s_iload X14 hx hby (n := 169) (x := (own_mix (0 : Int32) p0)) at_167 rfl rfl ?_
  refine s_iloadN X14 hx hby (n := 170) (x := p1) at_169 rfl rfl ?_
  refine s_callS X14 hx hby hml hZ (n := 173) hown (hw _ (List.mem_of_getElem? (i := 37) rfl)) (hw _ (List.mem_of_getElem? (i := 38) rfl)) (hw _ (List.mem_of_getElem? (i := 4) rfl)) (hw _ (List.mem_of_getElem? (i := 39) rfl)) (by decide) (rmMix' l Z a0 hw (own_mix (0 : Int32) p0) p1 T11.heap n0) e14 (by decide) 0 (by decide) (by decide) (by decide) pd_0 [(.int (own_mix (0 : Int32) p0)), (.int p1)] [] rfl rfl rfl (Nat.le_of_eq rfl) rfl at_170 rfl ?_
  intro T15 L15 v15 X15 q15c
  obtain ⟨rfl, e15, N15⟩ := q15c
  show OEnds p e below s _ _ _ T15 (mkF m 173 #[.val (.int p0), .val (.int p1), .val (.int p2), .val (.int p3), .val (.int (10 : Int32)), .val (.ref o), .val (.int (2 : Int32)), .val (.int (2 : Int32)), .val (.int (own_mix (0 : Int32) p0)), .unset, .unset] [(.int (own_mix (own_mix (0 : Int32) p0) p1))])
  have M15 := Fr.app M14 N15
  refine s_istore X15 hx hby (n := 175) (L' := #[.val (.int p0), .val (.int p1), .val (.int p2), .val (.int p3), .val (.int (10 : Int32)), .val (.ref o), .val (.int (2 : Int32)), .val (.int (2 : Int32)), .val (.int (own_mix (own_mix (0 : Int32) p0) p1)), .unset, .unset]) at_173 rfl rfl ?_
  refine s_iload X15 hx hby (n := 177) (x := (2 : Int32)) at_175 rfl rfl ?_
  refine s_iconst X15 hx hby (n := 178) (v := (3 : Int32)) at_177 rfl rfl ?_
  refine s_icmpY X15 hx hby (n := 189) at_178 (by decide) (by decide) (by decide) ?_
  refine s_iload X15 hx hby (n := 191) (x := (2 : Int32)) at_189 rfl rfl ?_
  refine s_ifN X15 hx hby (n := 194) at_191 (by decide) rfl ?_
  refine s_iload X15 hx hby (n := 196) (x := (2 : Int32)) at_194 rfl rfl ?_
  refine s_ifY X15 hx hby (n := 203) at_196 (by decide) (by decide) (by decide) ?_
  refine s_iload X15 hx hby (n := 205) (x := (2 : Int32)) at_203 rfl rfl ?_
  refine s_iconst X15 hx hby (n := 206) (v := (1 : Int32)) at_205 rfl rfl ?_
  refine s_icmpY X15 hx hby (n := 213) at_206 (by decide) (by decide) (by decide) ?_
  refine s_iloadN X15 hx hby (n := 214) (x := p2) at_213 rfl rfl ?_
  refine s_istore X15 hx hby (n := 216) (L' := #[.val (.int p0), .val (.int p1), .val (.int p2), .val (.int p3), .val (.int (10 : Int32)), .val (.ref o), .val (.int (2 : Int32)), .val (.int (2 : Int32)), .val (.int (own_mix (own_mix (0 : Int32) p0) p1)), .val (.int p2), .unset]) at_214 rfl rfl ?_
  refine s_iload X15 hx hby (n := 218) (x := p2) at_216 rfl rfl ?_
  refine s_iconst X15 hx hby (n := 219) (v := (1 : Int32)) at_218 rfl rfl ?_
  refine s_bipush X15 hx hby (n := 221) (v := (8 : Int32)) at_219 rfl rfl ?_
  refine s_iload X15 hx hby (n := 223) (x := (2 : Int32)) at_221 rfl rfl ?_
  refine s_imul X15 hx hby (n := 224) at_223 rfl ?_
  refine s_fold (z := (16 : Int32)) (by decide) ?_
  refine s_ishl X15 hx hby (n := 225) at_224 rfl ?_
  refine s_fold (z := (65536 : Int32)) (by decide) ?_
  refine s_iconst X15 hx hby (n := 226) (v := (1 : Int32)) at_225 rfl rfl ?_
  refine s_isub X15 hx hby (n := 227) at_226 rfl ?_
  refine s_fold (z := (65535 : Int32)) (by decide) ?_
  refine s_iand X15 hx hby (n := 228) at_227 rfl ?_
  refine s_istore X15 hx hby (n := 230) (L' := #[.val (.int p0), .val (.int p1), .val (.int p2), .val (.int p3), .val (.int (10 : Int32)), .val (.ref o), .val (.int (2 : Int32)), .val (.int (2 : Int32)), .val (.int (own_mix (own_mix (0 : Int32) p0) p1)), .val (.int p2), .val (.int (p2 &&& (65535 : Int32)))]) at_228 rfl rfl ?_
  refine s_iload X15 hx hby (n := 232) (x := (own_mix (own_mix (0 : Int32) p0) p1)) at_230 rfl rfl ?_
  refine s_iload X15 hx hby (n := 234) (x := (p2 &&& (65535 : Int32))) at_232 rfl rfl ?_
  refine s_callS X15 hx hby hml hZ (n := 237) hown (hw _ (List.mem_of_getElem? (i := 6) rfl)) (hw _ (List.mem_of_getElem? (i := 7) rfl)) (hw _ (List.mem_of_getElem? (i := 4) rfl)) (hw _ (List.mem_of_getElem? (i := 8) rfl)) (by decide) (rmScr' l Z a0 hw (p2 &&& (65535 : Int32)) T11.heap n0) e15 (by decide) 1 (by decide) (by decide) (by decide) pd_1 [(.int (p2 &&& (65535 : Int32)))] [(.int (own_mix (own_mix (0 : Int32) p0) p1))] rfl rfl rfl (Nat.le_of_eq rfl) rfl at_234 rfl ?_
  intro T16 L16 v16 X16 q16c
  obtain ⟨rfl, e16, N16⟩ := q16c
  show OEnds p e below s _ _ _ T16 (mkF m 237 #[.val (.int p0), .val (.int p1), .val (.int p2), .val (.int p3), .val (.int (10 : Int32)), .val (.ref o), .val (.int (2 : Int32)), .val (.int (2 : Int32)), .val (.int (own_mix (own_mix (0 : Int32) p0) p1)), .val (.int p2), .val (.int (p2 &&& (65535 : Int32)))] [(.int (own_scr (p2 &&& (65535 : Int32)))), (.int (own_mix (own_mix (0 : Int32) p0) p1))])
  have M16 := Fr.app M15 N16
  refine s_ixor X16 hx hby (n := 238) at_237 rfl ?_
  refine s_istore X16 hx hby (n := 240) (L' := #[.val (.int p0), .val (.int p1), .val (.int p2), .val (.int p3), .val (.int (10 : Int32)), .val (.ref o), .val (.int (2 : Int32)), .val (.int (2 : Int32)), .val (.int ((own_mix (own_mix (0 : Int32) p0) p1) ^^^ (own_scr (p2 &&& (65535 : Int32))))), .val (.int p2), .val (.int (p2 &&& (65535 : Int32)))]) at_238 rfl rfl ?_
  refine s_iload X16 hx hby (n := 242) (x := ((own_mix (own_mix (0 : Int32) p0) p1) ^^^ (own_scr (p2 &&& (65535 : Int32))))) at_240 rfl rfl ?_
  refine s_iload X16 hx hby (n := 244) (x := (10 : Int32)) at_242 rfl rfl ?_
  refine s_callS X16 hx hby hml hZ (n := 247) hown (hw _ (List.mem_of_getElem? (i := 14) rfl)) (hw _ (List.mem_of_getElem? (i := 15) rfl)) (hw _ (List.mem_of_getElem? (i := 4) rfl)) (hw _ (List.mem_of_getElem? (i := 16) rfl)) (by decide) (rmFin' l Z a0 hw ((own_mix (own_mix (0 : Int32) p0) p1) ^^^ (own_scr (p2 &&& (65535 : Int32)))) (10 : Int32) T11.heap n0) e16 (by decide) 0 (by decide) (by decide) (by decide) pd_0 [(.int ((own_mix (own_mix (0 : Int32) p0) p1) ^^^ (own_scr (p2 &&& (65535 : Int32))))), (.int (10 : Int32))] [] rfl rfl rfl (Nat.le_of_eq rfl) rfl at_244 rfl ?_
  intro T17 L17 v17 X17 q17c
  obtain ⟨rfl, e17, N17⟩ := q17c
  show OEnds p e below s _ _ _ T17 (mkF m 247 #[.val (.int p0), .val (.int p1), .val (.int p2), .val (.int p3), .val (.int (10 : Int32)), .val (.ref o), .val (.int (2 : Int32)), .val (.int (2 : Int32)), .val (.int ((own_mix (own_mix (0 : Int32) p0) p1) ^^^ (own_scr (p2 &&& (65535 : Int32))))), .val (.int p2), .val (.int (p2 &&& (65535 : Int32)))] [(.int (own_fin ((own_mix (own_mix (0 : Int32) p0) p1) ^^^ (own_scr (p2 &&& (65535 : Int32)))) (10 : Int32)))])
  have M17 := Fr.app M16 N17
  refine s_istore X17 hx hby (n := 249) (L' := #[.val (.int p0), .val (.int p1), .val (.int p2), .val (.int p3), .val (.int (10 : Int32)), .val (.ref o), .val (.int (2 : Int32)), .val (.int (2 : Int32)), .val (.int ((own_mix (own_mix (0 : Int32) p0) p1) ^^^ (own_scr (p2 &&& (65535 : Int32))))), .val (.int (own_fin ((own_mix (own_mix (0 : Int32) p0) p1) ^^^ (own_scr (p2 &&& (65535 : Int32)))) (10 : Int32))), .val (.int (p2 &&& (65535 : Int32)))]) at_247 rfl rfl ?_
  refine s_aload X17 hx hby (n := 251) (x := (.ref o)) at_249 rfl rfl rfl ?_
  refine s_callS X17 hx hby hml hZ (n := 254) hown (hw _ (List.mem_of_getElem? (i := 19) rfl)) (hw _ (List.mem_of_getElem? (i := 20) rfl)) (hw _ (List.mem_of_getElem? (i := 21) rfl)) (hw _ (List.mem_of_getElem? (i := 22) rfl)) (by decide) (rmH10 l Z a0 hw o c11 (nar .byte (p0).toInt8.toInt32) (nar .byte (XT.ushr p0 (8 : Int32)).toInt8.toInt32) (nar .byte (XT.ushr p0 (16 : Int32)).toInt8.toInt32) (nar .byte (XT.ushr p0 (24 : Int32)).toInt8.toInt32) (nar .byte (p1).toInt8.toInt32) (nar .byte (XT.ushr p1 (8 : Int32)).toInt8.toInt32) (nar .byte (XT.ushr p1 (16 : Int32)).toInt8.toInt32) (nar .byte (XT.ushr p1 (24 : Int32)).toInt8.toInt32) (nar .byte (p2).toInt8.toInt32) (nar .byte (XT.ushr p2 (8 : Int32)).toInt8.toInt32) T11.heap n0 A11 S11 B11_0 B11_1 B11_2 B11_3 B11_4 B11_5 B11_6 B11_7 B11_8 B11_9) e17 (by decide) 0 (by decide) (by decide) (by decide) pd_3 [(.ref o)] [] rfl rfl rfl (Nat.le_of_eq rfl) rfl at_251 rfl ?_
  intro T18 L18 v18 X18 q18c
  obtain ⟨rfl, e18, N18⟩ := q18c
  show OEnds p e below s _ _ _ T18 (mkF m 254 #[.val (.int p0), .val (.int p1), .val (.int p2), .val (.int p3), .val (.int (10 : Int32)), .val (.ref o), .val (.int (2 : Int32)), .val (.int (2 : Int32)), .val (.int ((own_mix (own_mix (0 : Int32) p0) p1) ^^^ (own_scr (p2 &&& (65535 : Int32))))), .val (.int (own_fin ((own_mix (own_mix (0 : Int32) p0) p1) ^^^ (own_scr (p2 &&& (65535 : Int32)))) (10 : Int32))), .val (.int (p2 &&& (65535 : Int32)))] [(.int (own_fin ((own_mix (own_mix (0 : Int32) (((((nar .byte (p0).toInt8.toInt32) &&& (255 : Int32)) ||| (((nar .byte (XT.ushr p0 (8 : Int32)).toInt8.toInt32) &&& (255 : Int32)) <<< ((8 : Int32) &&& 31))) ||| (((nar .byte (XT.ushr p0 (16 : Int32)).toInt8.toInt32) &&& (255 : Int32)) <<< ((16 : Int32) &&& 31))) ||| (((nar .byte (XT.ushr p0 (24 : Int32)).toInt8.toInt32) &&& (255 : Int32)) <<< ((24 : Int32) &&& 31)))) (((((nar .byte (p1).toInt8.toInt32) &&& (255 : Int32)) ||| (((nar .byte (XT.ushr p1 (8 : Int32)).toInt8.toInt32) &&& (255 : Int32)) <<< ((8 : Int32) &&& 31))) ||| (((nar .byte (XT.ushr p1 (16 : Int32)).toInt8.toInt32) &&& (255 : Int32)) <<< ((16 : Int32) &&& 31))) ||| (((nar .byte (XT.ushr p1 (24 : Int32)).toInt8.toInt32) &&& (255 : Int32)) <<< ((24 : Int32) &&& 31)))) ^^^ (own_scr ((((0 : Int32) ||| ((nar .byte (XT.ushr p2 (8 : Int32)).toInt8.toInt32) &&& (255 : Int32))) <<< ((8 : Int32) &&& 31)) ||| ((nar .byte (p2).toInt8.toInt32) &&& (255 : Int32))))) (10 : Int32)))])
  have M18 := Fr.app M17 N18
  refine s_iload X18 hx hby (n := 256) (x := (own_fin ((own_mix (own_mix (0 : Int32) p0) p1) ^^^ (own_scr (p2 &&& (65535 : Int32)))) (10 : Int32))) at_254 rfl rfl ?_
  refine s_icmpN X18 hx hby (n := 259) at_256 (XT.ii_ne_f (by rw [own_wp p0, own_wp p1, own_t2 p2])) rfl ?_
  refine s_iconst X18 hx hby (n := 260) (v := (1 : Int32)) at_259 rfl rfl ?_
  refine s_goto X18 hx hby (n := 264) at_260 (by decide) (by decide) ?_
  exact s_retN X18 hx hby hlk hret (t := .boolean) (by simp) (z' := (1 : Int32)) (by decide) at_264 (by decide) (by decide) ⟨rfl, M18⟩
set_option maxRecDepth 65536 in
set_option maxHeartbeats 40000000 in
theorem rm0_11 (l : Launch) (Z : State) (a0 : Array Value) (hw : ∀ d ∈ tables_1, d.before a0 Z = true) (p0 p1 p2 p3 : Int32) (qn : ((p3 &&& (2147483647 : Int32)) % (13 : Int32)) = (11 : Int32)) (h0 : Heap) (n0 : Nat) (Z0 : n0 ≤ h0.size) :
    OCon l Z x code maxLocals ret tables_1 room_1 #[(.int p0), (.int p1), (.int p2), (.int p3)] h0 (fun v h L => v = some (.int 1) ∧ Fr n0 L) := by
  refine con (plainFor_of_name pn0) ?_
  intro p e s m below meth c s₁ hx hby hml hZ hown hnm hret hlk X0 e0
  refine entry (ef0 m p0 p1 p2 p3) ?_
  have M0 := Fr.nil n0
  refine s_iloadN X0 hx hby (n := 1) (x := p3) at_0 rfl rfl ?_
  refine s_ldcI X0 hx hby hZ (n := 3) hown (hw _ (List.mem_of_getElem? (i := 0) rfl)) at_1 rfl ?_
  refine s_iand X0 hx hby (n := 4) at_3 rfl ?_
  refine s_bipush X0 hx hby (n := 6) (v := (13 : Int32)) at_4 rfl rfl ?_
  refine s_irem X0 hx hby (n := 7) at_6 (by decide) rfl ?_
  refine s_fold (z := (11 : Int32)) qn ?_
  refine s_istore X0 hx hby (n := 9) (L' := #[.val (.int p0), .val (.int p1), .val (.int p2), .val (.int p3), .val (.int (11 : Int32)), .unset, .unset, .unset, .unset, .unset, .unset]) at_7 rfl rfl ?_
  refine s_iload X0 hx hby (n := 11) (x := (11 : Int32)) at_9 rfl rfl ?_
  refine s_newP X0 hx hby hZ (n := 13) (hw _ (List.mem_of_getElem? (i := 1) rfl)) (ty := .byte) rfl e0 (by decide) 11 (by decide) (by decide) (by decide) (by decide) at_11 rfl ?_
  intro T1 h1 cA o ho X1 e1 E1 A1
  have S1 : (newA cA .byte (11 : Int32)).slots.size = (11 : Int32).toNatClampNeg := sz_new _ _ _
  have no : n0 ≤ o := by rw [ho]; exact Z0
  refine s_astore X1 hx hby (n := 15) (L' := #[.val (.int p0), .val (.int p1), .val (.int p2), .val (.int p3), .val (.int (11 : Int32)), .val (.ref o), .unset, .unset, .unset, .unset, .unset]) at_13 rfl rfl rfl ?_
  refine s_aload X1 hx hby (n := 17) (x := (.ref o)) at_15 rfl rfl rfl ?_
  refine s_iconst X1 hx hby (n := 18) (v := (0 : Int32)) at_17 rfl rfl ?_
  refine s_iloadN X1 hx hby (n := 19) (x := p0) at_18 rfl rfl ?_
  refine s_callS X1 hx hby hml hZ (n := 22) hown (hw _ (List.mem_of_getElem? (i := 2) rfl)) (hw _ (List.mem_of_getElem? (i := 3) rfl)) (hw _ (List.mem_of_getElem? (i := 4) rfl)) (hw _ (List.mem_of_getElem? (i := 5) rfl)) (by decide) (rmIn l Z a0 hw o (newA cA .byte (11 : Int32)) (11 : Int32) (0 : Int32) p0 0 h1 n0 A1 S1 (by decide) (by decide) (by decide) (by decide) (by rw [S1]; decide) no) e1 (by decide) 0 (by decide) (by decide) (by decide) pd_2 [(.ref o), (.int (0 : Int32)), (.int p0)] [] rfl rfl rfl (Nat.le_of_eq rfl) rfl at_19 rfl ?_
  intro T2 L2 v2 X2 q2c
  obtain ⟨rfl, N2, W2⟩ := q2c
  show OEnds p e below s _ _ _ T2 (mkF m 22 #[.val (.int p0), .val (.int p1), .val (.int p2), .val (.int p3), .val (.int (11 : Int32)), .val (.ref o), .unset, .unset, .unset, .unset, .unset] [])
  obtain ⟨c2, A2, S2, B2_0⟩ : ∃ cc : Cell, Arr Z T2.heap o cc .byte ∧ cc.slots.size = (11 : Int32).toNatClampNeg ∧ cc.slots[0]? = some (.int (nar .byte (p0).toInt8.toInt32)) := ⟨_, A1.same W2, (by rw [sz_set]; exact S1), set_hit (by rw [S1]; decide)⟩
  have M2 := Fr.app M0 N2
  refine s_aload X2 hx hby (n := 24) (x := (.ref o)) at_22 rfl rfl rfl ?_
  refine s_iconst X2 hx hby (n := 25) (v := (1 : Int32)) at_24 rfl rfl ?_
  refine s_iloadN X2 hx hby (n := 26) (x := p0) at_25 rfl rfl ?_
  refine s_bipush X2 hx hby (n := 28) (v := (8 : Int32)) at_26 rfl rfl ?_
  refine s_iushr X2 hx hby (n := 29) at_28 rfl ?_
  refine s_callS X2 hx hby hml hZ (n := 32) hown (hw _ (List.mem_of_getElem? (i := 2) rfl)) (hw _ (List.mem_of_getElem? (i := 3) rfl)) (hw _ (List.mem_of_getElem? (i := 4) rfl)) (hw _ (List.mem_of_getElem? (i := 5) rfl)) (by decide) (rmIn l Z a0 hw o c2 (11 : Int32) (1 : Int32) (XT.ushr p0 (8 : Int32)) 1 T2.heap n0 A2 S2 (by decide) (by decide) (by decide) (by decide) (by rw [S2]; decide) no) rfl (by decide) 0 (by decide) (by decide) (by decide) pd_2 [(.ref o), (.int (1 : Int32)), (.int (XT.ushr p0 (8 : Int32)))] [] rfl rfl rfl (Nat.le_of_eq rfl) rfl at_29 rfl ?_
  intro T3 L3 v3 X3 q3c
  obtain ⟨rfl, N3, W3⟩ := q3c
  show OEnds p e below s _ _ _ T3 (mkF m 32 #[.val (.int p0), .val (.int p1), .val (.int p2), .val (.int p3), .val (.int (11 : Int32)), .val (.ref o), .unset, .unset, .unset, .unset, .unset] [])
  obtain ⟨c3, A3, S3, B3_0, B3_1⟩ : ∃ cc : Cell, Arr Z T3.heap o cc .byte ∧ cc.slots.size = (11 : Int32).toNatClampNeg ∧ cc.slots[0]? = some (.int (nar .byte (p0).toInt8.toInt32)) ∧ cc.slots[1]? = some (.int (nar .byte (XT.ushr p0 (8 : Int32)).toInt8.toInt32)) := ⟨_, A2.same W3, (by rw [sz_set]; exact S2), set_mis B2_0 (by decide), set_hit (by rw [S2]; decide)⟩
  have M3 := Fr.app M2 N3
  refine s_aload X3 hx hby (n := 34) (x := (.ref o)) at_32 rfl rfl rfl ?_
  refine s_iconst X3 hx hby (n := 35) (v := (2 : Int32)) at_34 rfl rfl ?_
  refine s_iloadN X3 hx hby (n := 36) (x := p0) at_35 rfl rfl ?_
  refine s_bipush X3 hx hby (n := 38) (v := (16 : Int32)) at_36 rfl rfl ?_
  refine s_iushr X3 hx hby (n := 39) at_38 rfl ?_
  refine s_callS X3 hx hby hml hZ (n := 42) hown (hw _ (List.mem_of_getElem? (i := 2) rfl)) (hw _ (List.mem_of_getElem? (i := 3) rfl)) (hw _ (List.mem_of_getElem? (i := 4) rfl)) (hw _ (List.mem_of_getElem? (i := 5) rfl)) (by decide) (rmIn l Z a0 hw o c3 (11 : Int32) (2 : Int32) (XT.ushr p0 (16 : Int32)) 2 T3.heap n0 A3 S3 (by decide) (by decide) (by decide) (by decide) (by rw [S3]; decide) no) rfl (by decide) 0 (by decide) (by decide) (by decide) pd_2 [(.ref o), (.int (2 : Int32)), (.int (XT.ushr p0 (16 : Int32)))] [] rfl rfl rfl (Nat.le_of_eq rfl) rfl at_39 rfl ?_
  intro T4 L4 v4 X4 q4c
  obtain ⟨rfl, N4, W4⟩ := q4c
  show OEnds p e below s _ _ _ T4 (mkF m 42 #[.val (.int p0), .val (.int p1), .val (.int p2), .val (.int p3), .val (.int (11 : Int32)), .val (.ref o), .unset, .unset, .unset, .unset, .unset] [])
  obtain ⟨c4, A4, S4, B4_0, B4_1, B4_2⟩ : ∃ cc : Cell, Arr Z T4.heap o cc .byte ∧ cc.slots.size = (11 : Int32).toNatClampNeg ∧ cc.slots[0]? = some (.int (nar .byte (p0).toInt8.toInt32)) ∧ cc.slots[1]? = some (.int (nar .byte (XT.ushr p0 (8 : Int32)).toInt8.toInt32)) ∧ cc.slots[2]? = some (.int (nar .byte (XT.ushr p0 (16 : Int32)).toInt8.toInt32)) := ⟨_, A3.same W4, (by rw [sz_set]; exact S3), set_mis B3_0 (by decide), set_mis B3_1 (by decide), set_hit (by rw [S3]; decide)⟩
  have M4 := Fr.app M3 N4
  refine s_aload X4 hx hby (n := 44) (x := (.ref o)) at_42 rfl rfl rfl ?_
  refine s_iconst X4 hx hby (n := 45) (v := (3 : Int32)) at_44 rfl rfl ?_
  refine s_iloadN X4 hx hby (n := 46) (x := p0) at_45 rfl rfl ?_
  refine s_bipush X4 hx hby (n := 48) (v := (24 : Int32)) at_46 rfl rfl ?_
  refine s_iushr X4 hx hby (n := 49) at_48 rfl ?_
  refine s_callS X4 hx hby hml hZ (n := 52) hown (hw _ (List.mem_of_getElem? (i := 2) rfl)) (hw _ (List.mem_of_getElem? (i := 3) rfl)) (hw _ (List.mem_of_getElem? (i := 4) rfl)) (hw _ (List.mem_of_getElem? (i := 5) rfl)) (by decide) (rmIn l Z a0 hw o c4 (11 : Int32) (3 : Int32) (XT.ushr p0 (24 : Int32)) 3 T4.heap n0 A4 S4 (by decide) (by decide) (by decide) (by decide) (by rw [S4]; decide) no) rfl (by decide) 0 (by decide) (by decide) (by decide) pd_2 [(.ref o), (.int (3 : Int32)), (.int (XT.ushr p0 (24 : Int32)))] [] rfl rfl rfl (Nat.le_of_eq rfl) rfl at_49 rfl ?_
  intro T5 L5 v5 X5 q5c
  obtain ⟨rfl, N5, W5⟩ := q5c
  show OEnds p e below s _ _ _ T5 (mkF m 52 #[.val (.int p0), .val (.int p1), .val (.int p2), .val (.int p3), .val (.int (11 : Int32)), .val (.ref o), .unset, .unset, .unset, .unset, .unset] [])
  obtain ⟨c5, A5, S5, B5_0, B5_1, B5_2, B5_3⟩ : ∃ cc : Cell, Arr Z T5.heap o cc .byte ∧ cc.slots.size = (11 : Int32).toNatClampNeg ∧ cc.slots[0]? = some (.int (nar .byte (p0).toInt8.toInt32)) ∧ cc.slots[1]? = some (.int (nar .byte (XT.ushr p0 (8 : Int32)).toInt8.toInt32)) ∧ cc.slots[2]? = some (.int (nar .byte (XT.ushr p0 (16 : Int32)).toInt8.toInt32)) ∧ cc.slots[3]? = some (.int (nar .byte (XT.ushr p0 (24 : Int32)).toInt8.toInt32)) := ⟨_, A4.same W5, (by rw [sz_set]; exact S4), set_mis B4_0 (by decide), set_mis B4_1 (by decide), set_mis B4_2 (by decide), set_hit (by rw [S4]; decide)⟩
  have M5 := Fr.app M4 N5
  refine s_aload X5 hx hby (n := 54) (x := (.ref o)) at_52 rfl rfl rfl ?_
  refine s_iconst X5 hx hby (n := 55) (v := (4 : Int32)) at_54 rfl rfl ?_
  refine s_iloadN X5 hx hby (n := 56) (x := p1) at_55 rfl rfl ?_
  refine s_callS X5 hx hby hml hZ (n := 59) hown (hw _ (List.mem_of_getElem? (i := 2) rfl)) (hw _ (List.mem_of_getElem? (i := 3) rfl)) (hw _ (List.mem_of_getElem? (i := 4) rfl)) (hw _ (List.mem_of_getElem? (i := 5) rfl)) (by decide) (rmIn l Z a0 hw o c5 (11 : Int32) (4 : Int32) p1 4 T5.heap n0 A5 S5 (by decide) (by decide) (by decide) (by decide) (by rw [S5]; decide) no) rfl (by decide) 0 (by decide) (by decide) (by decide) pd_2 [(.ref o), (.int (4 : Int32)), (.int p1)] [] rfl rfl rfl (Nat.le_of_eq rfl) rfl at_56 rfl ?_
  intro T6 L6 v6 X6 q6c
  obtain ⟨rfl, N6, W6⟩ := q6c
  show OEnds p e below s _ _ _ T6 (mkF m 59 #[.val (.int p0), .val (.int p1), .val (.int p2), .val (.int p3), .val (.int (11 : Int32)), .val (.ref o), .unset, .unset, .unset, .unset, .unset] [])
  obtain ⟨c6, A6, S6, B6_0, B6_1, B6_2, B6_3, B6_4⟩ : ∃ cc : Cell, Arr Z T6.heap o cc .byte ∧ cc.slots.size = (11 : Int32).toNatClampNeg ∧ cc.slots[0]? = some (.int (nar .byte (p0).toInt8.toInt32)) ∧ cc.slots[1]? = some (.int (nar .byte (XT.ushr p0 (8 : Int32)).toInt8.toInt32)) ∧ cc.slots[2]? = some (.int (nar .byte (XT.ushr p0 (16 : Int32)).toInt8.toInt32)) ∧ cc.slots[3]? = some (.int (nar .byte (XT.ushr p0 (24 : Int32)).toInt8.toInt32)) ∧ cc.slots[4]? = some (.int (nar .byte (p1).toInt8.toInt32)) := ⟨_, A5.same W6, (by rw [sz_set]; exact S5), set_mis B5_0 (by decide), set_mis B5_1 (by decide), set_mis B5_2 (by decide), set_mis B5_3 (by decide), set_hit (by rw [S5]; decide)⟩
  have M6 := Fr.app M5 N6
  refine s_aload X6 hx hby (n := 61) (x := (.ref o)) at_59 rfl rfl rfl ?_
  refine s_iconst X6 hx hby (n := 62) (v := (5 : Int32)) at_61 rfl rfl ?_
  refine s_iloadN X6 hx hby (n := 63) (x := p1) at_62 rfl rfl ?_
  refine s_bipush X6 hx hby (n := 65) (v := (8 : Int32)) at_63 rfl rfl ?_
  refine s_iushr X6 hx hby (n := 66) at_65 rfl ?_
  refine s_callS X6 hx hby hml hZ (n := 69) hown (hw _ (List.mem_of_getElem? (i := 2) rfl)) (hw _ (List.mem_of_getElem? (i := 3) rfl)) (hw _ (List.mem_of_getElem? (i := 4) rfl)) (hw _ (List.mem_of_getElem? (i := 5) rfl)) (by decide) (rmIn l Z a0 hw o c6 (11 : Int32) (5 : Int32) (XT.ushr p1 (8 : Int32)) 5 T6.heap n0 A6 S6 (by decide) (by decide) (by decide) (by decide) (by rw [S6]; decide) no) rfl (by decide) 0 (by decide) (by decide) (by decide) pd_2 [(.ref o), (.int (5 : Int32)), (.int (XT.ushr p1 (8 : Int32)))] [] rfl rfl rfl (Nat.le_of_eq rfl) rfl at_66 rfl ?_
  intro T7 L7 v7 X7 q7c
  obtain ⟨rfl, N7, W7⟩ := q7c
  show OEnds p e below s _ _ _ T7 (mkF m 69 #[.val (.int p0), .val (.int p1), .val (.int p2), .val (.int p3), .val (.int (11 : Int32)), .val (.ref o), .unset, .unset, .unset, .unset, .unset] [])
  obtain ⟨c7, A7, S7, B7_0, B7_1, B7_2, B7_3, B7_4, B7_5⟩ : ∃ cc : Cell, Arr Z T7.heap o cc .byte ∧ cc.slots.size = (11 : Int32).toNatClampNeg ∧ cc.slots[0]? = some (.int (nar .byte (p0).toInt8.toInt32)) ∧ cc.slots[1]? = some (.int (nar .byte (XT.ushr p0 (8 : Int32)).toInt8.toInt32)) ∧ cc.slots[2]? = some (.int (nar .byte (XT.ushr p0 (16 : Int32)).toInt8.toInt32)) ∧ cc.slots[3]? = some (.int (nar .byte (XT.ushr p0 (24 : Int32)).toInt8.toInt32)) ∧ cc.slots[4]? = some (.int (nar .byte (p1).toInt8.toInt32)) ∧ cc.slots[5]? = some (.int (nar .byte (XT.ushr p1 (8 : Int32)).toInt8.toInt32)) := ⟨_, A6.same W7, (by rw [sz_set]; exact S6), set_mis B6_0 (by decide), set_mis B6_1 (by decide), set_mis B6_2 (by decide), set_mis B6_3 (by decide), set_mis B6_4 (by decide), set_hit (by rw [S6]; decide)⟩
  have M7 := Fr.app M6 N7
  refine s_aload X7 hx hby (n := 71) (x := (.ref o)) at_69 rfl rfl rfl ?_
  refine s_bipush X7 hx hby (n := 73) (v := (6 : Int32)) at_71 rfl rfl ?_
  refine s_iloadN X7 hx hby (n := 74) (x := p1) at_73 rfl rfl ?_
  refine s_bipush X7 hx hby (n := 76) (v := (16 : Int32)) at_74 rfl rfl ?_
  refine s_iushr X7 hx hby (n := 77) at_76 rfl ?_
  refine s_callS X7 hx hby hml hZ (n := 80) hown (hw _ (List.mem_of_getElem? (i := 2) rfl)) (hw _ (List.mem_of_getElem? (i := 3) rfl)) (hw _ (List.mem_of_getElem? (i := 4) rfl)) (hw _ (List.mem_of_getElem? (i := 5) rfl)) (by decide) (rmIn l Z a0 hw o c7 (11 : Int32) (6 : Int32) (XT.ushr p1 (16 : Int32)) 6 T7.heap n0 A7 S7 (by decide) (by decide) (by decide) (by decide) (by rw [S7]; decide) no) rfl (by decide) 0 (by decide) (by decide) (by decide) pd_2 [(.ref o), (.int (6 : Int32)), (.int (XT.ushr p1 (16 : Int32)))] [] rfl rfl rfl (Nat.le_of_eq rfl) rfl at_77 rfl ?_
  intro T8 L8 v8 X8 q8c
  obtain ⟨rfl, N8, W8⟩ := q8c
  show OEnds p e below s _ _ _ T8 (mkF m 80 #[.val (.int p0), .val (.int p1), .val (.int p2), .val (.int p3), .val (.int (11 : Int32)), .val (.ref o), .unset, .unset, .unset, .unset, .unset] [])
  obtain ⟨c8, A8, S8, B8_0, B8_1, B8_2, B8_3, B8_4, B8_5, B8_6⟩ : ∃ cc : Cell, Arr Z T8.heap o cc .byte ∧ cc.slots.size = (11 : Int32).toNatClampNeg ∧ cc.slots[0]? = some (.int (nar .byte (p0).toInt8.toInt32)) ∧ cc.slots[1]? = some (.int (nar .byte (XT.ushr p0 (8 : Int32)).toInt8.toInt32)) ∧ cc.slots[2]? = some (.int (nar .byte (XT.ushr p0 (16 : Int32)).toInt8.toInt32)) ∧ cc.slots[3]? = some (.int (nar .byte (XT.ushr p0 (24 : Int32)).toInt8.toInt32)) ∧ cc.slots[4]? = some (.int (nar .byte (p1).toInt8.toInt32)) ∧ cc.slots[5]? = some (.int (nar .byte (XT.ushr p1 (8 : Int32)).toInt8.toInt32)) ∧ cc.slots[6]? = some (.int (nar .byte (XT.ushr p1 (16 : Int32)).toInt8.toInt32)) := ⟨_, A7.same W8, (by rw [sz_set]; exact S7), set_mis B7_0 (by decide), set_mis B7_1 (by decide), set_mis B7_2 (by decide), set_mis B7_3 (by decide), set_mis B7_4 (by decide), set_mis B7_5 (by decide), set_hit (by rw [S7]; decide)⟩
  have M8 := Fr.app M7 N8
  refine s_aload X8 hx hby (n := 82) (x := (.ref o)) at_80 rfl rfl rfl ?_
  refine s_bipush X8 hx hby (n := 84) (v := (7 : Int32)) at_82 rfl rfl ?_
  refine s_iloadN X8 hx hby (n := 85) (x := p1) at_84 rfl rfl ?_
  refine s_bipush X8 hx hby (n := 87) (v := (24 : Int32)) at_85 rfl rfl ?_
  refine s_iushr X8 hx hby (n := 88) at_87 rfl ?_
  refine s_callS X8 hx hby hml hZ (n := 91) hown (hw _ (List.mem_of_getElem? (i := 2) rfl)) (hw _ (List.mem_of_getElem? (i := 3) rfl)) (hw _ (List.mem_of_getElem? (i := 4) rfl)) (hw _ (List.mem_of_getElem? (i := 5) rfl)) (by decide) (rmIn l Z a0 hw o c8 (11 : Int32) (7 : Int32) (XT.ushr p1 (24 : Int32)) 7 T8.heap n0 A8 S8 (by decide) (by decide) (by decide) (by decide) (by rw [S8]; decide) no) rfl (by decide) 0 (by decide) (by decide) (by decide) pd_2 [(.ref o), (.int (7 : Int32)), (.int (XT.ushr p1 (24 : Int32)))] [] rfl rfl rfl (Nat.le_of_eq rfl) rfl at_88 rfl ?_
  intro T9 L9 v9 X9 q9c
  obtain ⟨rfl, N9, W9⟩ := q9c
  show OEnds p e below s _ _ _ T9 (mkF m 91 #[.val (.int p0), .val (.int p1), .val (.int p2), .val (.int p3), .val (.int (11 : Int32)), .val (.ref o), .unset, .unset, .unset, .unset, .unset] [])
  obtain ⟨c9, A9, S9, B9_0, B9_1, B9_2, B9_3, B9_4, B9_5, B9_6, B9_7⟩ : ∃ cc : Cell, Arr Z T9.heap o cc .byte ∧ cc.slots.size = (11 : Int32).toNatClampNeg ∧ cc.slots[0]? = some (.int (nar .byte (p0).toInt8.toInt32)) ∧ cc.slots[1]? = some (.int (nar .byte (XT.ushr p0 (8 : Int32)).toInt8.toInt32)) ∧ cc.slots[2]? = some (.int (nar .byte (XT.ushr p0 (16 : Int32)).toInt8.toInt32)) ∧ cc.slots[3]? = some (.int (nar .byte (XT.ushr p0 (24 : Int32)).toInt8.toInt32)) ∧ cc.slots[4]? = some (.int (nar .byte (p1).toInt8.toInt32)) ∧ cc.slots[5]? = some (.int (nar .byte (XT.ushr p1 (8 : Int32)).toInt8.toInt32)) ∧ cc.slots[6]? = some (.int (nar .byte (XT.ushr p1 (16 : Int32)).toInt8.toInt32)) ∧ cc.slots[7]? = some (.int (nar .byte (XT.ushr p1 (24 : Int32)).toInt8.toInt32)) := ⟨_, A8.same W9, (by rw [sz_set]; exact S8), set_mis B8_0 (by decide), set_mis B8_1 (by decide), set_mis B8_2 (by decide), set_mis B8_3 (by decide), set_mis B8_4 (by decide), set_mis B8_5 (by decide), set_mis B8_6 (by decide), set_hit (by rw [S8]; decide)⟩
  have M9 := Fr.app M8 N9
  refine s_aload X9 hx hby (n := 93) (x := (.ref o)) at_91 rfl rfl rfl ?_
  refine s_bipush X9 hx hby (n := 95) (v := (8 : Int32)) at_93 rfl rfl ?_
  refine s_iloadN X9 hx hby (n := 96) (x := p2) at_95 rfl rfl ?_
  refine s_callS X9 hx hby hml hZ (n := 99) hown (hw _ (List.mem_of_getElem? (i := 2) rfl)) (hw _ (List.mem_of_getElem? (i := 3) rfl)) (hw _ (List.mem_of_getElem? (i := 4) rfl)) (hw _ (List.mem_of_getElem? (i := 5) rfl)) (by decide) (rmIn l Z a0 hw o c9 (11 : Int32) (8 : Int32) p2 8 T9.heap n0 A9 S9 (by decide) (by decide) (by decide) (by decide) (by rw [S9]; decide) no) rfl (by decide) 0 (by decide) (by decide) (by decide) pd_2 [(.ref o), (.int (8 : Int32)), (.int p2)] [] rfl rfl rfl (Nat.le_of_eq rfl) rfl at_96 rfl ?_
  intro T10 L10 v10 X10 q10c
  obtain ⟨rfl, N10, W10⟩ := q10c
  show OEnds p e below s _ _ _ T10 (mkF m 99 #[.val (.int p0), .val (.int p1), .val (.int p2), .val (.int p3), .val (.int (11 : Int32)), .val (.ref o), .unset, .unset, .unset, .unset, .unset] [])
  obtain ⟨c10, A10, S10, B10_0, B10_1, B10_2, B10_3, B10_4, B10_5, B10_6, B10_7, B10_8⟩ : ∃ cc : Cell, Arr Z T10.heap o cc .byte ∧ cc.slots.size = (11 : Int32).toNatClampNeg ∧ cc.slots[0]? = some (.int (nar .byte (p0).toInt8.toInt32)) ∧ cc.slots[1]? = some (.int (nar .byte (XT.ushr p0 (8 : Int32)).toInt8.toInt32)) ∧ cc.slots[2]? = some (.int (nar .byte (XT.ushr p0 (16 : Int32)).toInt8.toInt32)) ∧ cc.slots[3]? = some (.int (nar .byte (XT.ushr p0 (24 : Int32)).toInt8.toInt32)) ∧ cc.slots[4]? = some (.int (nar .byte (p1).toInt8.toInt32)) ∧ cc.slots[5]? = some (.int (nar .byte (XT.ushr p1 (8 : Int32)).toInt8.toInt32)) ∧ cc.slots[6]? = some (.int (nar .byte (XT.ushr p1 (16 : Int32)).toInt8.toInt32)) ∧ cc.slots[7]? = some (.int (nar .byte (XT.ushr p1 (24 : Int32)).toInt8.toInt32)) ∧ cc.slots[8]? = some (.int (nar .byte (p2).toInt8.toInt32)) := ⟨_, A9.same W10, (by rw [sz_set]; exact S9), set_mis B9_0 (by decide), set_mis B9_1 (by decide), set_mis B9_2 (by decide), set_mis B9_3 (by decide), set_mis B9_4 (by decide), set_mis B9_5 (by decide), set_mis B9_6 (by decide), set_mis B9_7 (by decide), set_hit (by rw [S9]; decide)⟩
  have M10 := Fr.app M9 N10
  refine s_aload X10 hx hby (n := 101) (x := (.ref o)) at_99 rfl rfl rfl ?_
  refine s_bipush X10 hx hby (n := 103) (v := (9 : Int32)) at_101 rfl rfl ?_
  refine s_iloadN X10 hx hby (n := 104) (x := p2) at_103 rfl rfl ?_
  refine s_bipush X10 hx hby (n := 106) (v := (8 : Int32)) at_104 rfl rfl ?_
  refine s_iushr X10 hx hby (n := 107) at_106 rfl ?_
  refine s_callS X10 hx hby hml hZ (n := 110) hown (hw _ (List.mem_of_getElem? (i := 2) rfl)) (hw _ (List.mem_of_getElem? (i := 3) rfl)) (hw _ (List.mem_of_getElem? (i := 4) rfl)) (hw _ (List.mem_of_getElem? (i := 5) rfl)) (by decide) (rmIn l Z a0 hw o c10 (11 : Int32) (9 : Int32) (XT.ushr p2 (8 : Int32)) 9 T10.heap n0 A10 S10 (by decide) (by decide) (by decide) (by decide) (by rw [S10]; decide) no) rfl (by decide) 0 (by decide) (by decide) (by decide) pd_2 [(.ref o), (.int (9 : Int32)), (.int (XT.ushr p2 (8 : Int32)))] [] rfl rfl rfl (Nat.le_of_eq rfl) rfl at_107 rfl ?_
  intro T11 L11 v11 X11 q11c
  obtain ⟨rfl, N11, W11⟩ := q11c
  show OEnds p e below s _ _ _ T11 (mkF m 110 #[.val (.int p0), .val (.int p1), .val (.int p2), .val (.int p3), .val (.int (11 : Int32)), .val (.ref o), .unset, .unset, .unset, .unset, .unset] [])
  obtain ⟨c11, A11, S11, B11_0, B11_1, B11_2, B11_3, B11_4, B11_5, B11_6, B11_7, B11_8, B11_9⟩ : ∃ cc : Cell, Arr Z T11.heap o cc .byte ∧ cc.slots.size = (11 : Int32).toNatClampNeg ∧ cc.slots[0]? = some (.int (nar .byte (p0).toInt8.toInt32)) ∧ cc.slots[1]? = some (.int (nar .byte (XT.ushr p0 (8 : Int32)).toInt8.toInt32)) ∧ cc.slots[2]? = some (.int (nar .byte (XT.ushr p0 (16 : Int32)).toInt8.toInt32)) ∧ cc.slots[3]? = some (.int (nar .byte (XT.ushr p0 (24 : Int32)).toInt8.toInt32)) ∧ cc.slots[4]? = some (.int (nar .byte (p1).toInt8.toInt32)) ∧ cc.slots[5]? = some (.int (nar .byte (XT.ushr p1 (8 : Int32)).toInt8.toInt32)) ∧ cc.slots[6]? = some (.int (nar .byte (XT.ushr p1 (16 : Int32)).toInt8.toInt32)) ∧ cc.slots[7]? = some (.int (nar .byte (XT.ushr p1 (24 : Int32)).toInt8.toInt32)) ∧ cc.slots[8]? = some (.int (nar .byte (p2).toInt8.toInt32)) ∧ cc.slots[9]? = some (.int (nar .byte (XT.ushr p2 (8 : Int32)).toInt8.toInt32)) := ⟨_, A10.same W11, (by rw [sz_set]; exact S10), set_mis B10_0 (by decide), set_mis B10_1 (by decide), set_mis B10_2 (by decide), set_mis B10_3 (by decide), set_mis B10_4 (by decide), set_mis B10_5 (by decide), set_mis B10_6 (by decide), set_mis B10_7 (by decide), set_mis B10_8 (by decide), set_hit (by rw [S10]; decide)⟩
  have M11 := Fr.app M10 N11
  refine s_aload X11 hx hby (n := 112) (x := (.ref o)) at_110 rfl rfl rfl ?_
  refine s_bipush X11 hx hby (n := 114) (v := (10 : Int32)) at_112 rfl rfl ?_
  refine s_iloadN X11 hx hby (n := 115) (x := p2) at_114 rfl rfl ?_
  refine s_bipush X11 hx hby (n := 117) (v := (16 : Int32)) at_115 rfl rfl ?_
  refine s_iushr X11 hx hby (n := 118) at_117 rfl ?_
  refine s_callS X11 hx hby hml hZ (n := 121) hown (hw _ (List.mem_of_getElem? (i := 2) rfl)) (hw _ (List.mem_of_getElem? (i := 3) rfl)) (hw _ (List.mem_of_getElem? (i := 4) rfl)) (hw _ (List.mem_of_getElem? (i := 5) rfl)) (by decide) (rmIn l Z a0 hw o c11 (11 : Int32) (10 : Int32) (XT.ushr p2 (16 : Int32)) 10 T11.heap n0 A11 S11 (by decide) (by decide) (by decide) (by decide) (by rw [S11]; decide) no) rfl (by decide) 0 (by decide) (by decide) (by decide) pd_2 [(.ref o), (.int (10 : Int32)), (.int (XT.ushr p2 (16 : Int32)))] [] rfl rfl rfl (Nat.le_of_eq rfl) rfl at_118 rfl ?_
  intro T12 L12 v12 X12 q12c
  obtain ⟨rfl, N12, W12⟩ := q12c
  show OEnds p e below s _ _ _ T12 (mkF m 121 #[.val (.int p0), .val (.int p1), .val (.int p2), .val (.int p3), .val (.int (11 : Int32)), .val (.ref o), .unset, .unset, .unset, .unset, .unset] [])
  obtain ⟨c12, A12, S12, B12_0, B12_1, B12_2, B12_3, B12_4, B12_5, B12_6, B12_7, B12_8, B12_9, B12_10⟩ : ∃ cc : Cell, Arr Z T12.heap o cc .byte ∧ cc.slots.size = (11 : Int32).toNatClampNeg ∧ cc.slots[0]? = some (.int (nar .byte (p0).toInt8.toInt32)) ∧ cc.slots[1]? = some (.int (nar .byte (XT.ushr p0 (8 : Int32)).toInt8.toInt32)) ∧ cc.slots[2]? = some (.int (nar .byte (XT.ushr p0 (16 : Int32)).toInt8.toInt32)) ∧ cc.slots[3]? = some (.int (nar .byte (XT.ushr p0 (24 : Int32)).toInt8.toInt32)) ∧ cc.slots[4]? = some (.int (nar .byte (p1).toInt8.toInt32)) ∧ cc.slots[5]? = some (.int (nar .byte (XT.ushr p1 (8 : Int32)).toInt8.toInt32)) ∧ cc.slots[6]? = some (.int (nar .byte (XT.ushr p1 (16 : Int32)).toInt8.toInt32)) ∧ cc.slots[7]? = some (.int (nar .byte (XT.ushr p1 (24 : Int32)).toInt8.toInt32)) ∧ cc.slots[8]? = some (.int (nar .byte (p2).toInt8.toInt32)) ∧ cc.slots[9]? = some (.int (nar .byte (XT.ushr p2 (8 : Int32)).toInt8.toInt32)) ∧ cc.slots[10]? = some (.int (nar .byte (XT.ushr p2 (16 : Int32)).toInt8.toInt32)) := ⟨_, A11.same W12, (by rw [sz_set]; exact S11), set_mis B11_0 (by decide), set_mis B11_1 (by decide), set_mis B11_2 (by decide), set_mis B11_3 (by decide), set_mis B11_4 (by decide), set_mis B11_5 (by decide), set_mis B11_6 (by decide), set_mis B11_7 (by decide), set_mis B11_8 (by decide), set_mis B11_9 (by decide), set_hit (by rw [S11]; decide)⟩
  have M12 := Fr.app M11 N12
  refine s_aload X12 hx hby (n := 123) (x := (.ref o)) at_121 rfl rfl rfl ?_
  refine s_bipush X12 hx hby (n := 125) (v := (11 : Int32)) at_123 rfl rfl ?_
  refine s_iloadN X12 hx hby (n := 126) (x := p2) at_125 rfl rfl ?_
  refine s_bipush X12 hx hby (n := 128) (v := (24 : Int32)) at_126 rfl rfl ?_
  refine s_iushr X12 hx hby (n := 129) at_128 rfl ?_
  refine s_callS X12 hx hby hml hZ (n := 132) hown (hw _ (List.mem_of_getElem? (i := 2) rfl)) (hw _ (List.mem_of_getElem? (i := 3) rfl)) (hw _ (List.mem_of_getElem? (i := 4) rfl)) (hw _ (List.mem_of_getElem? (i := 5) rfl)) (by decide) (rmOut l Z a0 hw o c12 (11 : Int32) (11 : Int32) (XT.ushr p2 (24 : Int32)) T12.heap n0 A12 S12 (by decide) (by decide)) rfl (by decide) 0 (by decide) (by decide) (by decide) pd_2 [(.ref o), (.int (11 : Int32)), (.int (XT.ushr p2 (24 : Int32)))] [] rfl rfl rfl (Nat.le_of_eq rfl) rfl at_129 rfl ?_
  intro T13 L13 v13 X13 q13c
  obtain ⟨rfl, e13, N13⟩ := q13c
  show OEnds p e below s _ _ _ T13 (mkF m 132 #[.val (.int p0), .val (.int p1), .val (.int p2), .val (.int p3), .val (.int (11 : Int32)), .val (.ref o), .unset, .unset, .unset, .unset, .unset] [])
  have M13 := Fr.app M12 N13
  refine s_iload X13 hx hby (n := 134) (x := (11 : Int32)) at_132 rfl rfl ?_
  refine s_iconst X13 hx hby (n := 135) (v := (2 : Int32)) at_134 rfl rfl ?_
  refine s_iushr X13 hx hby (n := 136) at_135 rfl ?_
  refine s_fold (z := (2 : Int32)) (by decide) ?_
  refine s_istore X13 hx hby (n := 138) (L' := #[.val (.int p0), .val (.int p1), .val (.int p2), .val (.int p3), .val (.int (11 : Int32)), .val (.ref o), .val (.int (2 : Int32)), .unset, .unset, .unset, .unset]) at_136 rfl rfl ?_
  refine s_iload X13 hx hby (n := 140) (x := (11 : Int32)) at_138 rfl rfl ?_
  refine s_iconst X13 hx hby (n := 141) (v := (3 : Int32)) at_140 rfl rfl ?_
  refine s_iand X13 hx hby (n := 142) at_141 rfl ?_
  refine s_fold (z := (3 : Int32)) (by decide) ?_
  refine s_istore X13 hx hby (n := 144) (L' := #[.val (.int p0), .val (.int p1), .val (.int p2), .val (.int p3), .val (.int (11 : Int32)), .val (.ref o), .val (.int (2 : Int32)), .val (.int (3 : Int32)), .unset, .unset, .unset]) at_142 rfl rfl ?_
  refine s_iconst X13 hx hby (n := 145) (v := (0 : Int32)) at_144 rfl rfl ?_
  refine s_istore X13 hx hby (n := 147) (L' := #[.val (.int p0), .val (.int p1), .val (.int p2), .val (.int p3), .val (.int (11 : Int32)), .val (.ref o), .val (.int (2 : Int32)), .val (.int (3 : Int32)), .val (.int (0 : Int32)), .unset, .unset]) at_145 rfl rfl ?_
  refine s_iload X13 hx hby (n := 149) (x := (2 : Int32)) at_147 rfl rfl ?_
  refine s_iconst X13 hx hby (n := 150) (v := (1 : Int32)) at_149 rfl rfl ?_
  refine s_icmpN X13 hx hby (n := 153) at_150 (by decide) rfl ?_
  refine s_iload X13 hx hby (n := 155) (x := (0 : Int32)) at_153 rfl rfl ?_
  refine s_iloadN X13 hx hby (n := 156) (x := p0) at_155 rfl rfl ?_
  refine s_callS X13 hx hby hml hZ (n := 159) hown (hw _ (List.mem_of_getElem? (i := 37) rfl)) (hw _ (List.mem_of_getElem? (i := 38) rfl)) (hw _ (List.mem_of_getElem? (i := 4) rfl)) (hw _ (List.mem_of_getElem? (i := 39) rfl)) (by decide) (rmMix' l Z a0 hw (0 : Int32) p0 T12.heap n0) e13 (by decide) 0 (by decide) (by decide) (by decide) pd_0 [(.int (0 : Int32)), (.int p0)] [] rfl rfl rfl (Nat.le_of_eq rfl) rfl at_156 rfl ?_
  intro T14 L14 v14 X14 q14c
  obtain ⟨rfl, e14, N14⟩ := q14c
  show OEnds p e below s _ _ _ T14 (mkF m 159 #[.val (.int p0), .val (.int p1), .val (.int p2), .val (.int p3), .val (.int (11 : Int32)), .val (.ref o), .val (.int (2 : Int32)), .val (.int (3 : Int32)), .val (.int (0 : Int32)), .unset, .unset] [(.int (own_mix (0 : Int32) p0))])
  have M14 := Fr.app M13 N14
  refine s_istore X14 hx hby (n := 161) (L' := #[.val (.int p0), .val (.int p1), .val (.int p2), .val (.int p3), .val (.int (11 : Int32)), .val (.ref o), .val (.int (2 : Int32)), .val (.int (3 : Int32)), .val (.int (own_mix (0 : Int32) p0)), .unset, .unset]) at_159 rfl rfl ?_
  refine s_iload X14 hx hby (n := 163) (x := (2 : Int32)) at_161 rfl rfl ?_
  refine s_iconst X14 hx hby (n := 164) (v := (2 : Int32)) at_163 rfl rfl ?_
  refine s_icmpN X14 hx hby (n := 167) at_164 (by decide) rfl ?_
  refine s_iload X14 hx hby (n := 169) (x := (own_mix (0 : Int32) p0)) at_167 rfl rfl ?_
  refine s_iloadN X14 hx hby (n := 170) (x := p1) at_169 rfl rfl ?_
  refine s_callS X14 hx hby hml hZ (n := 173) hown (hw _ (List.mem_of_getElem? (i := 37) rfl)) (hw _ (List.mem_of_getElem? (i := 38) rfl)) (hw _ (List.mem_of_getElem? (i := 4) rfl)) (hw _ (List.mem_of_getElem? (i := 39) rfl)) (by decide) (rmMix' l Z a0 hw (own_mix (0 : Int32) p0) p1 T12.heap n0) e14 (by decide) 0 (by decide) (by decide) (by decide) pd_0 [(.int (own_mix (0 : Int32) p0)), (.int p1)] [] rfl rfl rfl (Nat.le_of_eq rfl) rfl at_170 rfl ?_
  intro T15 L15 v15 X15 q15c
  obtain ⟨rfl, e15, N15⟩ := q15c
  show OEnds p e below s _ _ _ T15 (mkF m 173 #[.val (.int p0), .val (.int p1), .val (.int p2), .val (.int p3), .val (.int (11 : Int32)), .val (.ref o), .val (.int (2 : Int32)), .val (.int (3 : Int32)), .val (.int (own_mix (0 : Int32) p0)), .unset, .unset] [(.int (own_mix (own_mix (0 : Int32) p0) p1))])
  have M15 := Fr.app M14 N15
  refine s_istore X15 hx hby (n := 175) (L' := #[.val (.int p0), .val (.int p1), .val (.int p2), .val (.int p3), .val (.int (11 : Int32)), .val (.ref o), .val (.int (2 : Int32)), .val (.int (3 : Int32)), .val (.int (own_mix (own_mix (0 : Int32) p0) p1)), .unset, .unset]) at_173 rfl rfl ?_
  refine s_iload X15 hx hby (n := 177) (x := (2 : Int32)) at_175 rfl rfl ?_
  refine s_iconst X15 hx hby (n := 178) (v := (3 : Int32)) at_177 rfl rfl ?_
  refine s_icmpY X15 hx hby (n := 189) at_178 (by decide) (by decide) (by decide) ?_
  refine s_iload X15 hx hby (n := 191) (x := (3 : Int32)) at_189 rfl rfl ?_
  refine s_ifN X15 hx hby (n := 194) at_191 (by decide) rfl ?_
  refine s_iload X15 hx hby (n := 196) (x := (2 : Int32)) at_194 rfl rfl ?_
  refine s_ifY X15 hx hby (n := 203) at_196 (by decide) (by decide) (by decide) ?_
  refine s_iload X15 hx hby (n := 205) (x := (2 : Int32)) at_203 rfl rfl ?_
  refine s_iconst X15 hx hby (n := 206) (v := (1 : Int32)) at_205 rfl rfl ?_
  refine s_icmpY X15 hx hby (n := 213) at_206 (by decide) (by decide) (by decide) ?_
  refine s_iloadN X15 hx hby (n := 214) (x := p2) at_213 rfl rfl ?_
  refine s_istore X15 hx hby (n := 216) (L' := #[.val (.int p0), .val (.int p1), .val (.int p2), .val (.int p3), .val (.int (11 : Int32)), .val (.ref o), .val (.int (2 : Int32)), .val (.int (3 : Int32)), .val (.int (own_mix (own_mix (0 : Int32) p0) p1)), .val (.int p2), .unset]) at_214 rfl rfl ?_
  refine s_iload X15 hx hby (n := 218) (x := p2) at_216 rfl rfl ?_
  refine s_iconst X15 hx hby (n := 219) (v := (1 : Int32)) at_218 rfl rfl ?_
  refine s_bipush X15 hx hby (n := 221) (v := (8 : Int32)) at_219 rfl rfl ?_
  refine s_iload X15 hx hby (n := 223) (x := (3 : Int32)) at_221 rfl rfl ?_
  refine s_imul X15 hx hby (n := 224) at_223 rfl ?_
  refine s_fold (z := (24 : Int32)) (by decide) ?_
  refine s_ishl X15 hx hby (n := 225) at_224 rfl ?_
  refine s_fold (z := (16777216 : Int32)) (by decide) ?_
  refine s_iconst X15 hx hby (n := 226) (v := (1 : Int32)) at_225 rfl rfl ?_
  refine s_isub X15 hx hby (n := 227) at_226 rfl ?_
  refine s_fold (z := (16777215 : Int32)) (by decide) ?_
  refine s_iand X15 hx hby (n := 228) at_227 rfl ?_
  refine s_istore X15 hx hby (n := 230) (L' := #[.val (.int p0), .val (.int p1), .val (.int p2), .val (.int p3), .val (.int (11 : Int32)), .val (.ref o), .val (.int (2 : Int32)), .val (.int (3 : Int32)), .val (.int (own_mix (own_mix (0 : Int32) p0) p1)), .val (.int p2), .val (.int (p2 &&& (16777215 : Int32)))]) at_228 rfl rfl ?_
  refine s_iload X15 hx hby (n := 232) (x := (own_mix (own_mix (0 : Int32) p0) p1)) at_230 rfl rfl ?_
  refine s_iload X15 hx hby (n := 234) (x := (p2 &&& (16777215 : Int32))) at_232 rfl rfl ?_
  refine s_callS X15 hx hby hml hZ (n := 237) hown (hw _ (List.mem_of_getElem? (i := 6) rfl)) (hw _ (List.mem_of_getElem? (i := 7) rfl)) (hw _ (List.mem_of_getElem? (i := 4) rfl)) (hw _ (List.mem_of_getElem? (i := 8) rfl)) (by decide) (rmScr' l Z a0 hw (p2 &&& (16777215 : Int32)) T12.heap n0) e15 (by decide) 1 (by decide) (by decide) (by decide) pd_1 [(.int (p2 &&& (16777215 : Int32)))] [(.int (own_mix (own_mix (0 : Int32) p0) p1))] rfl rfl rfl (Nat.le_of_eq rfl) rfl at_234 rfl ?_
  intro T16 L16 v16 X16 q16c
  obtain ⟨rfl, e16, N16⟩ := q16c
  show OEnds p e below s _ _ _ T16 (mkF m 237 #[.val (.int p0), .val (.int p1), .val (.int p2), .val (.int p3), .val (.int (11 : Int32)), .val (.ref o), .val (.int (2 : Int32)), .val (.int (3 : Int32)), .val (.int (own_mix (own_mix (0 : Int32) p0) p1)), .val (.int p2), .val (.int (p2 &&& (16777215 : Int32)))] [(.int (own_scr (p2 &&& (16777215 : Int32)))), (.int (own_mix (own_mix (0 : Int32) p0) p1))])
  have M16 := Fr.app M15 N16
  refine s_ixor X16 hx hby (n := 238) at_237 rfl ?_
  refine s_istore X16 hx hby (n := 240) (L' := #[.val (.int p0), .val (.int p1), .val (.int p2), .val (.int p3), .val (.int (11 : Int32)), .val (.ref o), .val (.int (2 : Int32)), .val (.int (3 : Int32)), .val (.int ((own_mix (own_mix (0 : Int32) p0) p1) ^^^ (own_scr (p2 &&& (16777215 : Int32))))), .val (.int p2), .val (.int (p2 &&& (16777215 : Int32)))]) at_238 rfl rfl ?_
  refine s_iload X16 hx hby (n := 242) (x := ((own_mix (own_mix (0 : Int32) p0) p1) ^^^ (own_scr (p2 &&& (16777215 : Int32))))) at_240 rfl rfl ?_
  refine s_iload X16 hx hby (n := 244) (x := (11 : Int32)) at_242 rfl rfl ?_
  refine s_callS X16 hx hby hml hZ (n := 247) hown (hw _ (List.mem_of_getElem? (i := 14) rfl)) (hw _ (List.mem_of_getElem? (i := 15) rfl)) (hw _ (List.mem_of_getElem? (i := 4) rfl)) (hw _ (List.mem_of_getElem? (i := 16) rfl)) (by decide) (rmFin' l Z a0 hw ((own_mix (own_mix (0 : Int32) p0) p1) ^^^ (own_scr (p2 &&& (16777215 : Int32)))) (11 : Int32) T12.heap n0) e16 (by decide) 0 (by decide) (by decide) (by decide) pd_0 [(.int ((own_mix (own_mix (0 : Int32) p0) p1) ^^^ (own_scr (p2 &&& (16777215 : Int32))))), (.int (11 : Int32))] [] rfl rfl rfl (Nat.le_of_eq rfl) rfl at_244 rfl ?_
  intro T17 L17 v17 X17 q17c
  obtain ⟨rfl, e17, N17⟩ := q17c
  show OEnds p e below s _ _ _ T17 (mkF m 247 #[.val (.int p0), .val (.int p1), .val (.int p2), .val (.int p3), .val (.int (11 : Int32)), .val (.ref o), .val (.int (2 : Int32)), .val (.int (3 : Int32)), .val (.int ((own_mix (own_mix (0 : Int32) p0) p1) ^^^ (own_scr (p2 &&& (16777215 : Int32))))), .val (.int p2), .val (.int (p2 &&& (16777215 : Int32)))] [(.int (own_fin ((own_mix (own_mix (0 : Int32) p0) p1) ^^^ (own_scr (p2 &&& (16777215 : Int32)))) (11 : Int32)))])
  have M17 := Fr.app M16 N17
  refine s_istore X17 hx hby (n := 249) (L' := #[.val (.int p0), .val (.int p1), .val (.int p2), .val (.int p3), .val (.int (11 : Int32)), .val (.ref o), .val (.int (2 : Int32)), .val (.int (3 : Int32)), .val (.int ((own_mix (own_mix (0 : Int32) p0) p1) ^^^ (own_scr (p2 &&& (16777215 : Int32))))), .val (.int (own_fin ((own_mix (own_mix (0 : Int32) p0) p1) ^^^ (own_scr (p2 &&& (16777215 : Int32)))) (11 : Int32))), .val (.int (p2 &&& (16777215 : Int32)))]) at_247 rfl rfl ?_
  refine s_aload X17 hx hby (n := 251) (x := (.ref o)) at_249 rfl rfl rfl ?_
  refine s_callS X17 hx hby hml hZ (n := 254) hown (hw _ (List.mem_of_getElem? (i := 19) rfl)) (hw _ (List.mem_of_getElem? (i := 20) rfl)) (hw _ (List.mem_of_getElem? (i := 21) rfl)) (hw _ (List.mem_of_getElem? (i := 22) rfl)) (by decide) (rmH11 l Z a0 hw o c12 (nar .byte (p0).toInt8.toInt32) (nar .byte (XT.ushr p0 (8 : Int32)).toInt8.toInt32) (nar .byte (XT.ushr p0 (16 : Int32)).toInt8.toInt32) (nar .byte (XT.ushr p0 (24 : Int32)).toInt8.toInt32) (nar .byte (p1).toInt8.toInt32) (nar .byte (XT.ushr p1 (8 : Int32)).toInt8.toInt32) (nar .byte (XT.ushr p1 (16 : Int32)).toInt8.toInt32) (nar .byte (XT.ushr p1 (24 : Int32)).toInt8.toInt32) (nar .byte (p2).toInt8.toInt32) (nar .byte (XT.ushr p2 (8 : Int32)).toInt8.toInt32) (nar .byte (XT.ushr p2 (16 : Int32)).toInt8.toInt32) T12.heap n0 A12 S12 B12_0 B12_1 B12_2 B12_3 B12_4 B12_5 B12_6 B12_7 B12_8 B12_9 B12_10) e17 (by decide) 0 (by decide) (by decide) (by decide) pd_3 [(.ref o)] [] rfl rfl rfl (Nat.le_of_eq rfl) rfl at_251 rfl ?_
  intro T18 L18 v18 X18 q18c
  obtain ⟨rfl, e18, N18⟩ := q18c
  show OEnds p e below s _ _ _ T18 (mkF m 254 #[.val (.int p0), .val (.int p1), .val (.int p2), .val (.int p3), .val (.int (11 : Int32)), .val (.ref o), .val (.int (2 : Int32)), .val (.int (3 : Int32)), .val (.int ((own_mix (own_mix (0 : Int32) p0) p1) ^^^ (own_scr (p2 &&& (16777215 : Int32))))), .val (.int (own_fin ((own_mix (own_mix (0 : Int32) p0) p1) ^^^ (own_scr (p2 &&& (16777215 : Int32)))) (11 : Int32))), .val (.int (p2 &&& (16777215 : Int32)))] [(.int (own_fin ((own_mix (own_mix (0 : Int32) (((((nar .byte (p0).toInt8.toInt32) &&& (255 : Int32)) ||| (((nar .byte (XT.ushr p0 (8 : Int32)).toInt8.toInt32) &&& (255 : Int32)) <<< ((8 : Int32) &&& 31))) ||| (((nar .byte (XT.ushr p0 (16 : Int32)).toInt8.toInt32) &&& (255 : Int32)) <<< ((16 : Int32) &&& 31))) ||| (((nar .byte (XT.ushr p0 (24 : Int32)).toInt8.toInt32) &&& (255 : Int32)) <<< ((24 : Int32) &&& 31)))) (((((nar .byte (p1).toInt8.toInt32) &&& (255 : Int32)) ||| (((nar .byte (XT.ushr p1 (8 : Int32)).toInt8.toInt32) &&& (255 : Int32)) <<< ((8 : Int32) &&& 31))) ||| (((nar .byte (XT.ushr p1 (16 : Int32)).toInt8.toInt32) &&& (255 : Int32)) <<< ((16 : Int32) &&& 31))) ||| (((nar .byte (XT.ushr p1 (24 : Int32)).toInt8.toInt32) &&& (255 : Int32)) <<< ((24 : Int32) &&& 31)))) ^^^ (own_scr ((((((0 : Int32) ||| ((nar .byte (XT.ushr p2 (16 : Int32)).toInt8.toInt32) &&& (255 : Int32))) <<< ((8 : Int32) &&& 31)) ||| ((nar .byte (XT.ushr p2 (8 : Int32)).toInt8.toInt32) &&& (255 : Int32))) <<< ((8 : Int32) &&& 31)) ||| ((nar .byte (p2).toInt8.toInt32) &&& (255 : Int32))))) (11 : Int32)))])
  have M18 := Fr.app M17 N18
  refine s_iload X18 hx hby (n := 256) (x := (own_fin ((own_mix (own_mix (0 : Int32) p0) p1) ^^^ (own_scr (p2 &&& (16777215 : Int32)))) (11 : Int32))) at_254 rfl rfl ?_
  refine s_icmpN X18 hx hby (n := 259) at_256 (XT.ii_ne_f (by rw [own_wp p0, own_wp p1, own_t3 p2])) rfl ?_
  refine s_iconst X18 hx hby (n := 260) (v := (1 : Int32)) at_259 rfl rfl ?_
  refine s_goto X18 hx hby (n := 264) at_260 (by decide) (by decide) ?_
  exact s_retN X18 hx hby hlk hret (t := .boolean) (by simp) (z' := (1 : Int32)) (by decide) at_264 (by decide) (by decide) ⟨rfl, M18⟩
set_option maxRecDepth 65536 in
set_option maxHeartbeats 40000000 in
theorem rm0_12 (l : Launch) (Z : State) (a0 : Array Value) (hw : ∀ d ∈ tables_1, d.before a0 Z = true) (p0 p1 p2 p3 : Int32) (qn : ((p3 &&& (2147483647 : Int32)) % (13 : Int32)) = (12 : Int32)) (h0 : Heap) (n0 : Nat) (Z0 : n0 ≤ h0.size) :
    OCon l Z x code maxLocals ret tables_1 room_1 #[(.int p0), (.int p1), (.int p2), (.int p3)] h0 (fun v h L => v = some (.int 1) ∧ Fr n0 L) := by
  refine con (plainFor_of_name pn0) ?_
  intro p e s m below meth c s₁ hx hby hml hZ hown hnm hret hlk X0 e0
  refine entry (ef0 m p0 p1 p2 p3) ?_
  have M0 := Fr.nil n0
  refine s_iloadN X0 hx hby (n := 1) (x := p3) at_0 rfl rfl ?_
  refine s_ldcI X0 hx hby hZ (n := 3) hown (hw _ (List.mem_of_getElem? (i := 0) rfl)) at_1 rfl ?_
  refine s_iand X0 hx hby (n := 4) at_3 rfl ?_
  refine s_bipush X0 hx hby (n := 6) (v := (13 : Int32)) at_4 rfl rfl ?_
  refine s_irem X0 hx hby (n := 7) at_6 (by decide) rfl ?_
  refine s_fold (z := (12 : Int32)) qn ?_
  refine s_istore X0 hx hby (n := 9) (L' := #[.val (.int p0), .val (.int p1), .val (.int p2), .val (.int p3), .val (.int (12 : Int32)), .unset, .unset, .unset, .unset, .unset, .unset]) at_7 rfl rfl ?_
  refine s_iload X0 hx hby (n := 11) (x := (12 : Int32)) at_9 rfl rfl ?_
  refine s_newP X0 hx hby hZ (n := 13) (hw _ (List.mem_of_getElem? (i := 1) rfl)) (ty := .byte) rfl e0 (by decide) 12 (by decide) (by decide) (by decide) (by decide) at_11 rfl ?_
  intro T1 h1 cA o ho X1 e1 E1 A1
  have S1 : (newA cA .byte (12 : Int32)).slots.size = (12 : Int32).toNatClampNeg := sz_new _ _ _
  have no : n0 ≤ o := by rw [ho]; exact Z0
  refine s_astore X1 hx hby (n := 15) (L' := #[.val (.int p0), .val (.int p1), .val (.int p2), .val (.int p3), .val (.int (12 : Int32)), .val (.ref o), .unset, .unset, .unset, .unset, .unset]) at_13 rfl rfl rfl ?_
  refine s_aload X1 hx hby (n := 17) (x := (.ref o)) at_15 rfl rfl rfl ?_
  refine s_iconst X1 hx hby (n := 18) (v := (0 : Int32)) at_17 rfl rfl ?_
  refine s_iloadN X1 hx hby (n := 19) (x := p0) at_18 rfl rfl ?_
  refine s_callS X1 hx hby hml hZ (n := 22) hown (hw _ (List.mem_of_getElem? (i := 2) rfl)) (hw _ (List.mem_of_getElem? (i := 3) rfl)) (hw _ (List.mem_of_getElem? (i := 4) rfl)) (hw _ (List.mem_of_getElem? (i := 5) rfl)) (by decide) (rmIn l Z a0 hw o (newA cA .byte (12 : Int32)) (12 : Int32) (0 : Int32) p0 0 h1 n0 A1 S1 (by decide) (by decide) (by decide) (by decide) (by rw [S1]; decide) no) e1 (by decide) 0 (by decide) (by decide) (by decide) pd_2 [(.ref o), (.int (0 : Int32)), (.int p0)] [] rfl rfl rfl (Nat.le_of_eq rfl) rfl at_19 rfl ?_
  intro T2 L2 v2 X2 q2c
  obtain ⟨rfl, N2, W2⟩ := q2c
  show OEnds p e below s _ _ _ T2 (mkF m 22 #[.val (.int p0), .val (.int p1), .val (.int p2), .val (.int p3), .val (.int (12 : Int32)), .val (.ref o), .unset, .unset, .unset, .unset, .unset] [])
  obtain ⟨c2, A2, S2, B2_0⟩ : ∃ cc : Cell, Arr Z T2.heap o cc .byte ∧ cc.slots.size = (12 : Int32).toNatClampNeg ∧ cc.slots[0]? = some (.int (nar .byte (p0).toInt8.toInt32)) := ⟨_, A1.same W2, (by rw [sz_set]; exact S1), set_hit (by rw [S1]; decide)⟩
  have M2 := Fr.app M0 N2
  refine s_aload X2 hx hby (n := 24) (x := (.ref o)) at_22 rfl rfl rfl ?_
  refine s_iconst X2 hx hby (n := 25) (v := (1 : Int32)) at_24 rfl rfl ?_
  refine s_iloadN X2 hx hby (n := 26) (x := p0) at_25 rfl rfl ?_
  refine s_bipush X2 hx hby (n := 28) (v := (8 : Int32)) at_26 rfl rfl ?_
  refine s_iushr X2 hx hby (n := 29) at_28 rfl ?_
  refine s_callS X2 hx hby hml hZ (n := 32) hown (hw _ (List.mem_of_getElem? (i := 2) rfl)) (hw _ (List.mem_of_getElem? (i := 3) rfl)) (hw _ (List.mem_of_getElem? (i := 4) rfl)) (hw _ (List.mem_of_getElem? (i := 5) rfl)) (by decide) (rmIn l Z a0 hw o c2 (12 : Int32) (1 : Int32) (XT.ushr p0 (8 : Int32)) 1 T2.heap n0 A2 S2 (by decide) (by decide) (by decide) (by decide) (by rw [S2]; decide) no) rfl (by decide) 0 (by decide) (by decide) (by decide) pd_2 [(.ref o), (.int (1 : Int32)), (.int (XT.ushr p0 (8 : Int32)))] [] rfl rfl rfl (Nat.le_of_eq rfl) rfl at_29 rfl ?_
  intro T3 L3 v3 X3 q3c
  obtain ⟨rfl, N3, W3⟩ := q3c
  show OEnds p e below s _ _ _ T3 (mkF m 32 #[.val (.int p0), .val (.int p1), .val (.int p2), .val (.int p3), .val (.int (12 : Int32)), .val (.ref o), .unset, .unset, .unset, .unset, .unset] [])
  obtain ⟨c3, A3, S3, B3_0, B3_1⟩ : ∃ cc : Cell, Arr Z T3.heap o cc .byte ∧ cc.slots.size = (12 : Int32).toNatClampNeg ∧ cc.slots[0]? = some (.int (nar .byte (p0).toInt8.toInt32)) ∧ cc.slots[1]? = some (.int (nar .byte (XT.ushr p0 (8 : Int32)).toInt8.toInt32)) := ⟨_, A2.same W3, (by rw [sz_set]; exact S2), set_mis B2_0 (by decide), set_hit (by rw [S2]; decide)⟩
  have M3 := Fr.app M2 N3
  refine s_aload X3 hx hby (n := 34) (x := (.ref o)) at_32 rfl rfl rfl ?_
  refine s_iconst X3 hx hby (n := 35) (v := (2 : Int32)) at_34 rfl rfl ?_
  refine s_iloadN X3 hx hby (n := 36) (x := p0) at_35 rfl rfl ?_
  refine s_bipush X3 hx hby (n := 38) (v := (16 : Int32)) at_36 rfl rfl ?_
  refine s_iushr X3 hx hby (n := 39) at_38 rfl ?_
  refine s_callS X3 hx hby hml hZ (n := 42) hown (hw _ (List.mem_of_getElem? (i := 2) rfl)) (hw _ (List.mem_of_getElem? (i := 3) rfl)) (hw _ (List.mem_of_getElem? (i := 4) rfl)) (hw _ (List.mem_of_getElem? (i := 5) rfl)) (by decide) (rmIn l Z a0 hw o c3 (12 : Int32) (2 : Int32) (XT.ushr p0 (16 : Int32)) 2 T3.heap n0 A3 S3 (by decide) (by decide) (by decide) (by decide) (by rw [S3]; decide) no) rfl (by decide) 0 (by decide) (by decide) (by decide) pd_2 [(.ref o), (.int (2 : Int32)), (.int (XT.ushr p0 (16 : Int32)))] [] rfl rfl rfl (Nat.le_of_eq rfl) rfl at_39 rfl ?_
  intro T4 L4 v4 X4 q4c
  obtain ⟨rfl, N4, W4⟩ := q4c
  show OEnds p e below s _ _ _ T4 (mkF m 42 #[.val (.int p0), .val (.int p1), .val (.int p2), .val (.int p3), .val (.int (12 : Int32)), .val (.ref o), .unset, .unset, .unset, .unset, .unset] [])
  obtain ⟨c4, A4, S4, B4_0, B4_1, B4_2⟩ : ∃ cc : Cell, Arr Z T4.heap o cc .byte ∧ cc.slots.size = (12 : Int32).toNatClampNeg ∧ cc.slots[0]? = some (.int (nar .byte (p0).toInt8.toInt32)) ∧ cc.slots[1]? = some (.int (nar .byte (XT.ushr p0 (8 : Int32)).toInt8.toInt32)) ∧ cc.slots[2]? = some (.int (nar .byte (XT.ushr p0 (16 : Int32)).toInt8.toInt32)) := ⟨_, A3.same W4, (by rw [sz_set]; exact S3), set_mis B3_0 (by decide), set_mis B3_1 (by decide), set_hit (by rw [S3]; decide)⟩
  have M4 := Fr.app M3 N4
  refine s_aload X4 hx hby (n := 44) (x := (.ref o)) at_42 rfl rfl rfl ?_
  refine s_iconst X4 hx hby (n := 45) (v := (3 : Int32)) at_44 rfl rfl ?_
  refine s_iloadN X4 hx hby (n := 46) (x := p0) at_45 rfl rfl ?_
  refine s_bipush X4 hx hby (n := 48) (v := (24 : Int32)) at_46 rfl rfl ?_
  refine s_iushr X4 hx hby (n := 49) at_48 rfl ?_
  refine s_callS X4 hx hby hml hZ (n := 52) hown (hw _ (List.mem_of_getElem? (i := 2) rfl)) (hw _ (List.mem_of_getElem? (i := 3) rfl)) (hw _ (List.mem_of_getElem? (i := 4) rfl)) (hw _ (List.mem_of_getElem? (i := 5) rfl)) (by decide) (rmIn l Z a0 hw o c4 (12 : Int32) (3 : Int32) (XT.ushr p0 (24 : Int32)) 3 T4.heap n0 A4 S4 (by decide) (by decide) (by decide) (by decide) (by rw [S4]; decide) no) rfl (by decide) 0 (by decide) (by decide) (by decide) pd_2 [(.ref o), (.int (3 : Int32)), (.int (XT.ushr p0 (24 : Int32)))] [] rfl rfl rfl (Nat.le_of_eq rfl) rfl at_49 rfl ?_
  intro T5 L5 v5 X5 q5c
  obtain ⟨rfl, N5, W5⟩ := q5c
  show OEnds p e below s _ _ _ T5 (mkF m 52 #[.val (.int p0), .val (.int p1), .val (.int p2), .val (.int p3), .val (.int (12 : Int32)), .val (.ref o), .unset, .unset, .unset, .unset, .unset] [])
  obtain ⟨c5, A5, S5, B5_0, B5_1, B5_2, B5_3⟩ : ∃ cc : Cell, Arr Z T5.heap o cc .byte ∧ cc.slots.size = (12 : Int32).toNatClampNeg ∧ cc.slots[0]? = some (.int (nar .byte (p0).toInt8.toInt32)) ∧ cc.slots[1]? = some (.int (nar .byte (XT.ushr p0 (8 : Int32)).toInt8.toInt32)) ∧ cc.slots[2]? = some (.int (nar .byte (XT.ushr p0 (16 : Int32)).toInt8.toInt32)) ∧ cc.slots[3]? = some (.int (nar .byte (XT.ushr p0 (24 : Int32)).toInt8.toInt32)) := ⟨_, A4.same W5, (by rw [sz_set]; exact S4), set_mis B4_0 (by decide), set_mis B4_1 (by decide), set_mis B4_2 (by decide), set_hit (by rw [S4]; decide)⟩
  have M5 := Fr.app M4 N5
  refine s_aload X5 hx hby (n := 54) (x := (.ref o)) at_52 rfl rfl rfl ?_
  refine s_iconst X5 hx hby (n := 55) (v := (4 : Int32)) at_54 rfl rfl ?_
  refine s_iloadN X5 hx hby (n := 56) (x := p1) at_55 rfl rfl ?_
  refine s_callS X5 hx hby hml hZ (n := 59) hown (hw _ (List.mem_of_getElem? (i := 2) rfl)) (hw _ (List.mem_of_getElem? (i := 3) rfl)) (hw _ (List.mem_of_getElem? (i := 4) rfl)) (hw _ (List.mem_of_getElem? (i := 5) rfl)) (by decide) (rmIn l Z a0 hw o c5 (12 : Int32) (4 : Int32) p1 4 T5.heap n0 A5 S5 (by decide) (by decide) (by decide) (by decide) (by rw [S5]; decide) no) rfl (by decide) 0 (by decide) (by decide) (by decide) pd_2 [(.ref o), (.int (4 : Int32)), (.int p1)] [] rfl rfl rfl (Nat.le_of_eq rfl) rfl at_56 rfl ?_
  intro T6 L6 v6 X6 q6c
  obtain ⟨rfl, N6, W6⟩ := q6c
  show OEnds p e below s _ _ _ T6 (mkF m 59 #[.val (.int p0), .val (.int p1), .val (.int p2), .val (.int p3), .val (.int (12 : Int32)), .val (.ref o), .unset, .unset, .unset, .unset, .unset] [])
  obtain ⟨c6, A6, S6, B6_0, B6_1, B6_2, B6_3, B6_4⟩ : ∃ cc : Cell, Arr Z T6.heap o cc .byte ∧ cc.slots.size = (12 : Int32).toNatClampNeg ∧ cc.slots[0]? = some (.int (nar .byte (p0).toInt8.toInt32)) ∧ cc.slots[1]? = some (.int (nar .byte (XT.ushr p0 (8 : Int32)).toInt8.toInt32)) ∧ cc.slots[2]? = some (.int (nar .byte (XT.ushr p0 (16 : Int32)).toInt8.toInt32)) ∧ cc.slots[3]? = some (.int (nar .byte (XT.ushr p0 (24 : Int32)).toInt8.toInt32)) ∧ cc.slots[4]? = some (.int (nar .byte (p1).toInt8.toInt32)) := ⟨_, A5.same W6, (by rw [sz_set]; exact S5), set_mis B5_0 (by decide), set_mis B5_1 (by decide), set_mis B5_2 (by decide), set_mis B5_3 (by decide), set_hit (by rw [S5]; decide)⟩
  have M6 := Fr.app M5 N6
  refine s_aload X6 hx hby (n := 61) (x := (.ref o)) at_59 rfl rfl rfl ?_
  refine s_iconst X6 hx hby (n := 62) (v := (5 : Int32)) at_61 rfl rfl ?_
  refine s_iloadN X6 hx hby (n := 63) (x := p1) at_62 rfl rfl ?_
  refine s_bipush X6 hx hby (n := 65) (v := (8 : Int32)) at_63 rfl rfl ?_
  refine s_iushr X6 hx hby (n := 66) at_65 rfl ?_
  refine s_callS X6 hx hby hml hZ (n := 69) hown (hw _ (List.mem_of_getElem? (i := 2) rfl)) (hw _ (List.mem_of_getElem? (i := 3) rfl)) (hw _ (List.mem_of_getElem? (i := 4) rfl)) (hw _ (List.mem_of_getElem? (i := 5) rfl)) (by decide) (rmIn l Z a0 hw o c6 (12 : Int32) (5 : Int32) (XT.ushr p1 (8 : Int32)) 5 T6.heap n0 A6 S6 (by decide) (by decide) (by decide) (by decide) (by rw [S6]; decide) no) rfl (by decide) 0 (by decide) (by decide) (by decide) pd_2 [(.ref o), (.int (5 : Int32)), (.int (XT.ushr p1 (8 : Int32)))] [] rfl rfl rfl (Nat.le_of_eq rfl) rfl at_66 rfl ?_
  intro T7 L7 v7 X7 q7c
  obtain ⟨rfl, N7, W7⟩ := q7c
  show OEnds p e below s _ _ _ T7 (mkF m 69 #[.val (.int p0), .val (.int p1), .val (.int p2), .val (.int p3), .val (.int (12 : Int32)), .val (.ref o), .unset, .unset, .unset, .unset, .unset] [])
  obtain ⟨c7, A7, S7, B7_0, B7_1, B7_2, B7_3, B7_4, B7_5⟩ : ∃ cc : Cell, Arr Z T7.heap o cc .byte ∧ cc.slots.size = (12 : Int32).toNatClampNeg ∧ cc.slots[0]? = some (.int (nar .byte (p0).toInt8.toInt32)) ∧ cc.slots[1]? = some (.int (nar .byte (XT.ushr p0 (8 : Int32)).toInt8.toInt32)) ∧ cc.slots[2]? = some (.int (nar .byte (XT.ushr p0 (16 : Int32)).toInt8.toInt32)) ∧ cc.slots[3]? = some (.int (nar .byte (XT.ushr p0 (24 : Int32)).toInt8.toInt32)) ∧ cc.slots[4]? = some (.int (nar .byte (p1).toInt8.toInt32)) ∧ cc.slots[5]? = some (.int (nar .byte (XT.ushr p1 (8 : Int32)).toInt8.toInt32)) := ⟨_, A6.same W7, (by rw [sz_set]; exact S6), set_mis B6_0 (by decide), set_mis B6_1 (by decide), set_mis B6_2 (by decide), set_mis B6_3 (by decide), set_mis B6_4 (by decide), set_hit (by rw [S6]; decide)⟩
  have M7 := Fr.app M6 N7
  refine s_aload X7 hx hby (n := 71) (x := (.ref o)) at_69 rfl rfl rfl ?_
  refine s_bipush X7 hx hby (n := 73) (v := (6 : Int32)) at_71 rfl rfl ?_
  refine s_iloadN X7 hx hby (n := 74) (x := p1) at_73 rfl rfl ?_
  refine s_bipush X7 hx hby (n := 76) (v := (16 : Int32)) at_74 rfl rfl ?_
  refine s_iushr X7 hx hby (n := 77) at_76 rfl ?_
  refine s_callS X7 hx hby hml hZ (n := 80) hown (hw _ (List.mem_of_getElem? (i := 2) rfl)) (hw _ (List.mem_of_getElem? (i := 3) rfl)) (hw _ (List.mem_of_getElem? (i := 4) rfl)) (hw _ (List.mem_of_getElem? (i := 5) rfl)) (by decide) (rmIn l Z a0 hw o c7 (12 : Int32) (6 : Int32) (XT.ushr p1 (16 : Int32)) 6 T7.heap n0 A7 S7 (by decide) (by decide) (by decide) (by decide) (by rw [S7]; decide) no) rfl (by decide) 0 (by decide) (by decide) (by decide) pd_2 [(.ref o), (.int (6 : Int32)), (.int (XT.ushr p1 (16 : Int32)))] [] rfl rfl rfl (Nat.le_of_eq rfl) rfl at_77 rfl ?_
  intro T8 L8 v8 X8 q8c
  obtain ⟨rfl, N8, W8⟩ := q8c
  show OEnds p e below s _ _ _ T8 (mkF m 80 #[.val (.int p0), .val (.int p1), .val (.int p2), .val (.int p3), .val (.int (12 : Int32)), .val (.ref o), .unset, .unset, .unset, .unset, .unset] [])
  obtain ⟨c8, A8, S8, B8_0, B8_1, B8_2, B8_3, B8_4, B8_5, B8_6⟩ : ∃ cc : Cell, Arr Z T8.heap o cc .byte ∧ cc.slots.size = (12 : Int32).toNatClampNeg ∧ cc.slots[0]? = some (.int (nar .byte (p0).toInt8.toInt32)) ∧ cc.slots[1]? = some (.int (nar .byte (XT.ushr p0 (8 : Int32)).toInt8.toInt32)) ∧ cc.slots[2]? = some (.int (nar .byte (XT.ushr p0 (16 : Int32)).toInt8.toInt32)) ∧ cc.slots[3]? = some (.int (nar .byte (XT.ushr p0 (24 : Int32)).toInt8.toInt32)) ∧ cc.slots[4]? = some (.int (nar .byte (p1).toInt8.toInt32)) ∧ cc.slots[5]? = some (.int (nar .byte (XT.ushr p1 (8 : Int32)).toInt8.toInt32)) ∧ cc.slots[6]? = some (.int (nar .byte (XT.ushr p1 (16 : Int32)).toInt8.toInt32)) := ⟨_, A7.same W8, (by rw [sz_set]; exact S7), set_mis B7_0 (by decide), set_mis B7_1 (by decide), set_mis B7_2 (by decide), set_mis B7_3 (by decide), set_mis B7_4 (by decide), set_mis B7_5 (by decide), set_hit (by rw [S7]; decide)⟩
  have M8 := Fr.app M7 N8
  refine s_aload X8 hx hby (n := 82) (x := (.ref o)) at_80 rfl rfl rfl ?_
  refine s_bipush X8 hx hby (n := 84) (v := (7 : Int32)) at_82 rfl rfl ?_
  refine s_iloadN X8 hx hby (n := 85) (x := p1) at_84 rfl rfl ?_
  refine s_bipush X8 hx hby (n := 87) (v := (24 : Int32)) at_85 rfl rfl ?_
  refine s_iushr X8 hx hby (n := 88) at_87 rfl ?_
  refine s_callS X8 hx hby hml hZ (n := 91) hown (hw _ (List.mem_of_getElem? (i := 2) rfl)) (hw _ (List.mem_of_getElem? (i := 3) rfl)) (hw _ (List.mem_of_getElem? (i := 4) rfl)) (hw _ (List.mem_of_getElem? (i := 5) rfl)) (by decide) (rmIn l Z a0 hw o c8 (12 : Int32) (7 : Int32) (XT.ushr p1 (24 : Int32)) 7 T8.heap n0 A8 S8 (by decide) (by decide) (by decide) (by decide) (by rw [S8]; decide) no) rfl (by decide) 0 (by decide) (by decide) (by decide) pd_2 [(.ref o), (.int (7 : Int32)), (.int (XT.ushr p1 (24 : Int32)))] [] rfl rfl rfl (Nat.le_of_eq rfl) rfl at_88 rfl ?_
  intro T9 L9 v9 X9 q9c
  obtain ⟨rfl, N9, W9⟩ := q9c
  show OEnds p e below s _ _ _ T9 (mkF m 91 #[.val (.int p0), .val (.int p1), .val (.int p2), .val (.int p3), .val (.int (12 : Int32)), .val (.ref o), .unset, .unset, .unset, .unset, .unset] [])
  obtain ⟨c9, A9, S9, B9_0, B9_1, B9_2, B9_3, B9_4, B9_5, B9_6, B9_7⟩ : ∃ cc : Cell, Arr Z T9.heap o cc .byte ∧ cc.slots.size = (12 : Int32).toNatClampNeg ∧ cc.slots[0]? = some (.int (nar .byte (p0).toInt8.toInt32)) ∧ cc.slots[1]? = some (.int (nar .byte (XT.ushr p0 (8 : Int32)).toInt8.toInt32)) ∧ cc.slots[2]? = some (.int (nar .byte (XT.ushr p0 (16 : Int32)).toInt8.toInt32)) ∧ cc.slots[3]? = some (.int (nar .byte (XT.ushr p0 (24 : Int32)).toInt8.toInt32)) ∧ cc.slots[4]? = some (.int (nar .byte (p1).toInt8.toInt32)) ∧ cc.slots[5]? = some (.int (nar .byte (XT.ushr p1 (8 : Int32)).toInt8.toInt32)) ∧ cc.slots[6]? = some (.int (nar .byte (XT.ushr p1 (16 : Int32)).toInt8.toInt32)) ∧ cc.slots[7]? = some (.int (nar .byte (XT.ushr p1 (24 : Int32)).toInt8.toInt32)) := ⟨_, A8.same W9, (by rw [sz_set]; exact S8), set_mis B8_0 (by decide), set_mis B8_1 (by decide), set_mis B8_2 (by decide), set_mis B8_3 (by decide), set_mis B8_4 (by decide), set_mis B8_5 (by decide), set_mis B8_6 (by decide), set_hit (by rw [S8]; decide)⟩
  have M9 := Fr.app M8 N9
  refine s_aload X9 hx hby (n := 93) (x := (.ref o)) at_91 rfl rfl rfl ?_
  refine s_bipush X9 hx hby (n := 95) (v := (8 : Int32)) at_93 rfl rfl ?_
  refine s_iloadN X9 hx hby (n := 96) (x := p2) at_95 rfl rfl ?_
  refine s_callS X9 hx hby hml hZ (n := 99) hown (hw _ (List.mem_of_getElem? (i := 2) rfl)) (hw _ (List.mem_of_getElem? (i := 3) rfl)) (hw _ (List.mem_of_getElem? (i := 4) rfl)) (hw _ (List.mem_of_getElem? (i := 5) rfl)) (by decide) (rmIn l Z a0 hw o c9 (12 : Int32) (8 : Int32) p2 8 T9.heap n0 A9 S9 (by decide) (by decide) (by decide) (by decide) (by rw [S9]; decide) no) rfl (by decide) 0 (by decide) (by decide) (by decide) pd_2 [(.ref o), (.int (8 : Int32)), (.int p2)] [] rfl rfl rfl (Nat.le_of_eq rfl) rfl at_96 rfl ?_
  intro T10 L10 v10 X10 q10c
  obtain ⟨rfl, N10, W10⟩ := q10c
  show OEnds p e below s _ _ _ T10 (mkF m 99 #[.val (.int p0), .val (.int p1), .val (.int p2), .val (.int p3), .val (.int (12 : Int32)), .val (.ref o), .unset, .unset, .unset, .unset, .unset] [])
  obtain ⟨c10, A10, S10, B10_0, B10_1, B10_2, B10_3, B10_4, B10_5, B10_6, B10_7, B10_8⟩ : ∃ cc : Cell, Arr Z T10.heap o cc .byte ∧ cc.slots.size = (12 : Int32).toNatClampNeg ∧ cc.slots[0]? = some (.int (nar .byte (p0).toInt8.toInt32)) ∧ cc.slots[1]? = some (.int (nar .byte (XT.ushr p0 (8 : Int32)).toInt8.toInt32)) ∧ cc.slots[2]? = some (.int (nar .byte (XT.ushr p0 (16 : Int32)).toInt8.toInt32)) ∧ cc.slots[3]? = some (.int (nar .byte (XT.ushr p0 (24 : Int32)).toInt8.toInt32)) ∧ cc.slots[4]? = some (.int (nar .byte (p1).toInt8.toInt32)) ∧ cc.slots[5]? = some (.int (nar .byte (XT.ushr p1 (8 : Int32)).toInt8.toInt32)) ∧ cc.slots[6]? = some (.int (nar .byte (XT.ushr p1 (16 : Int32)).toInt8.toInt32)) ∧ cc.slots[7]? = some (.int (nar .byte (XT.ushr p1 (24 : Int32)).toInt8.toInt32)) ∧ cc.slots[8]? = some (.int (nar .byte (p2).toInt8.toInt32)) := ⟨_, A9.same W10, (by rw [sz_set]; exact S9), set_mis B9_0 (by decide), set_mis B9_1 (by decide), set_mis B9_2 (by decide), set_mis B9_3 (by decide), set_mis B9_4 (by decide), set_mis B9_5 (by decide), set_mis B9_6 (by decide), set_mis B9_7 (by decide), set_hit (by rw [S9]; decide)⟩
  have M10 := Fr.app M9 N10
  refine s_aload X10 hx hby (n := 101) (x := (.ref o)) at_99 rfl rfl rfl ?_
  refine s_bipush X10 hx hby (n := 103) (v := (9 : Int32)) at_101 rfl rfl ?_
  refine s_iloadN X10 hx hby (n := 104) (x := p2) at_103 rfl rfl ?_
  refine s_bipush X10 hx hby (n := 106) (v := (8 : Int32)) at_104 rfl rfl ?_
  refine s_iushr X10 hx hby (n := 107) at_106 rfl ?_
  refine s_callS X10 hx hby hml hZ (n := 110) hown (hw _ (List.mem_of_getElem? (i := 2) rfl)) (hw _ (List.mem_of_getElem? (i := 3) rfl)) (hw _ (List.mem_of_getElem? (i := 4) rfl)) (hw _ (List.mem_of_getElem? (i := 5) rfl)) (by decide) (rmIn l Z a0 hw o c10 (12 : Int32) (9 : Int32) (XT.ushr p2 (8 : Int32)) 9 T10.heap n0 A10 S10 (by decide) (by decide) (by decide) (by decide) (by rw [S10]; decide) no) rfl (by decide) 0 (by decide) (by decide) (by decide) pd_2 [(.ref o), (.int (9 : Int32)), (.int (XT.ushr p2 (8 : Int32)))] [] rfl rfl rfl (Nat.le_of_eq rfl) rfl at_107 rfl ?_
  intro T11 L11 v11 X11 q11c
  obtain ⟨rfl, N11, W11⟩ := q11c
  show OEnds p e below s _ _ _ T11 (mkF m 110 #[.val (.int p0), .val (.int p1), .val (.int p2), .val (.int p3), .val (.int (12 : Int32)), .val (.ref o), .unset, .unset, .unset, .unset, .unset] [])
  obtain ⟨c11, A11, S11, B11_0, B11_1, B11_2, B11_3, B11_4, B11_5, B11_6, B11_7, B11_8, B11_9⟩ : ∃ cc : Cell, Arr Z T11.heap o cc .byte ∧ cc.slots.size = (12 : Int32).toNatClampNeg ∧ cc.slots[0]? = some (.int (nar .byte (p0).toInt8.toInt32)) ∧ cc.slots[1]? = some (.int (nar .byte (XT.ushr p0 (8 : Int32)).toInt8.toInt32)) ∧ cc.slots[2]? = some (.int (nar .byte (XT.ushr p0 (16 : Int32)).toInt8.toInt32)) ∧ cc.slots[3]? = some (.int (nar .byte (XT.ushr p0 (24 : Int32)).toInt8.toInt32)) ∧ cc.slots[4]? = some (.int (nar .byte (p1).toInt8.toInt32)) ∧ cc.slots[5]? = some (.int (nar .byte (XT.ushr p1 (8 : Int32)).toInt8.toInt32)) ∧ cc.slots[6]? = some (.int (nar .byte (XT.ushr p1 (16 : Int32)).toInt8.toInt32)) ∧ cc.slots[7]? = some (.int (nar .byte (XT.ushr p1 (24 : Int32)).toInt8.toInt32)) ∧ cc.slots[8]? = some (.int (nar .byte (p2).toInt8.toInt32)) ∧ cc.slots[9]? = some (.int (nar .byte (XT.ushr p2 (8 : Int32)).toInt8.toInt32)) := ⟨_, A10.same W11, (by rw [sz_set]; exact S10), set_mis B10_0 (by decide), set_mis B10_1 (by decide), set_mis B10_2 (by decide), set_mis B10_3 (by decide), set_mis B10_4 (by decide), set_mis B10_5 (by decide), set_mis B10_6 (by decide), set_mis B10_7 (by decide), set_mis B10_8 (by decide), set_hit (by rw [S10]; decide)⟩
  have M11 := Fr.app M10 N11
  refine s_aload X11 hx hby (n := 112) (x := (.ref o)) at_110 rfl rfl rfl ?_
  refine s_bipush X11 hx hby (n := 114) (v := (10 : Int32)) at_112 rfl rfl ?_
  refine s_iloadN X11 hx hby (n := 115) (x := p2) at_114 rfl rfl ?_
  refine s_bipush X11 hx hby (n := 117) (v := (16 : Int32)) at_115 rfl rfl ?_
  refine s_iushr X11 hx hby (n := 118) at_117 rfl ?_
  refine s_callS X11 hx hby hml hZ (n := 121) hown (hw _ (List.mem_of_getElem? (i := 2) rfl)) (hw _ (List.mem_of_getElem? (i := 3) rfl)) (hw _ (List.mem_of_getElem? (i := 4) rfl)) (hw _ (List.mem_of_getElem? (i := 5) rfl)) (by decide) (rmIn l Z a0 hw o c11 (12 : Int32) (10 : Int32) (XT.ushr p2 (16 : Int32)) 10 T11.heap n0 A11 S11 (by decide) (by decide) (by decide) (by decide) (by rw [S11]; decide) no) rfl (by decide) 0 (by decide) (by decide) (by decide) pd_2 [(.ref o), (.int (10 : Int32)), (.int (XT.ushr p2 (16 : Int32)))] [] rfl rfl rfl (Nat.le_of_eq rfl) rfl at_118 rfl ?_
  intro T12 L12 v12 X12 q12c
  obtain ⟨rfl, N12, W12⟩ := q12c
  show OEnds p e below s _ _ _ T12 (mkF m 121 #[.val (.int p0), .val (.int p1), .val (.int p2), .val (.int p3), .val (.int (12 : Int32)), .val (.ref o), .unset, .unset, .unset, .unset, .unset] [])
  obtain ⟨c12, A12, S12, B12_0, B12_1, B12_2, B12_3, B12_4, B12_5, B12_6, B12_7, B12_8, B12_9, B12_10⟩ : ∃ cc : Cell, Arr Z T12.heap o cc .byte ∧ cc.slots.size = (12 : Int32).toNatClampNeg ∧ cc.slots[0]? = some (.int (nar .byte (p0).toInt8.toInt32)) ∧ cc.slots[1]? = some (.int (nar .byte (XT.ushr p0 (8 : Int32)).toInt8.toInt32)) ∧ cc.slots[2]? = some (.int (nar .byte (XT.ushr p0 (16 : Int32)).toInt8.toInt32)) ∧ cc.slots[3]? = some (.int (nar .byte (XT.ushr p0 (24 : Int32)).toInt8.toInt32)) ∧ cc.slots[4]? = some (.int (nar .byte (p1).toInt8.toInt32)) ∧ cc.slots[5]? = some (.int (nar .byte (XT.ushr p1 (8 : Int32)).toInt8.toInt32)) ∧ cc.slots[6]? = some (.int (nar .byte (XT.ushr p1 (16 : Int32)).toInt8.toInt32)) ∧ cc.slots[7]? = some (.int (nar .byte (XT.ushr p1 (24 : Int32)).toInt8.toInt32)) ∧ cc.slots[8]? = some (.int (nar .byte (p2).toInt8.toInt32)) ∧ cc.slots[9]? = some (.int (nar .byte (XT.ushr p2 (8 : Int32)).toInt8.toInt32)) ∧ cc.slots[10]? = some (.int (nar .byte (XT.ushr p2 (16 : Int32)).toInt8.toInt32)) := ⟨_, A11.same W12, (by rw [sz_set]; exact S11), set_mis B11_0 (by decide), set_mis B11_1 (by decide), set_mis B11_2 (by decide), set_mis B11_3 (by decide), set_mis B11_4 (by decide), set_mis B11_5 (by decide), set_mis B11_6 (by decide), set_mis B11_7 (by decide), set_mis B11_8 (by decide), set_mis B11_9 (by decide), set_hit (by rw [S11]; decide)⟩
  have M12 := Fr.app M11 N12
  refine s_aload X12 hx hby (n := 123) (x := (.ref o)) at_121 rfl rfl rfl ?_
  refine s_bipush X12 hx hby (n := 125) (v := (11 : Int32)) at_123 rfl rfl ?_
  refine s_iloadN X12 hx hby (n := 126) (x := p2) at_125 rfl rfl ?_
  refine s_bipush X12 hx hby (n := 128) (v := (24 : Int32)) at_126 rfl rfl ?_
  refine s_iushr X12 hx hby (n := 129) at_128 rfl ?_
  refine s_callS X12 hx hby hml hZ (n := 132) hown (hw _ (List.mem_of_getElem? (i := 2) rfl)) (hw _ (List.mem_of_getElem? (i := 3) rfl)) (hw _ (List.mem_of_getElem? (i := 4) rfl)) (hw _ (List.mem_of_getElem? (i := 5) rfl)) (by decide) (rmIn l Z a0 hw o c12 (12 : Int32) (11 : Int32) (XT.ushr p2 (24 : Int32)) 11 T12.heap n0 A12 S12 (by decide) (by decide) (by decide) (by decide) (by rw [S12]; decide) no) rfl (by decide) 0 (by decide) (by decide) (by decide) pd_2 [(.ref o), (.int (11 : Int32)), (.int (XT.ushr p2 (24 : Int32)))] [] rfl rfl rfl (Nat.le_of_eq rfl) rfl at_129 rfl ?_
  intro T13 L13 v13 X13 q13c
  obtain ⟨rfl, N13, W13⟩ := q13c
  show OEnds p e below s _ _ _ T13 (mkF m 132 #[.val (.int p0), .val (.int p1), .val (.int p2), .val (.int p3), .val (.int (12 : Int32)), .val (.ref o), .unset, .unset, .unset, .unset, .unset] [])
  obtain ⟨c13, A13, S13, B13_0, B13_1, B13_2, B13_3, B13_4, B13_5, B13_6, B13_7, B13_8, B13_9, B13_10, B13_11⟩ : ∃ cc : Cell, Arr Z T13.heap o cc .byte ∧ cc.slots.size = (12 : Int32).toNatClampNeg ∧ cc.slots[0]? = some (.int (nar .byte (p0).toInt8.toInt32)) ∧ cc.slots[1]? = some (.int (nar .byte (XT.ushr p0 (8 : Int32)).toInt8.toInt32)) ∧ cc.slots[2]? = some (.int (nar .byte (XT.ushr p0 (16 : Int32)).toInt8.toInt32)) ∧ cc.slots[3]? = some (.int (nar .byte (XT.ushr p0 (24 : Int32)).toInt8.toInt32)) ∧ cc.slots[4]? = some (.int (nar .byte (p1).toInt8.toInt32)) ∧ cc.slots[5]? = some (.int (nar .byte (XT.ushr p1 (8 : Int32)).toInt8.toInt32)) ∧ cc.slots[6]? = some (.int (nar .byte (XT.ushr p1 (16 : Int32)).toInt8.toInt32)) ∧ cc.slots[7]? = some (.int (nar .byte (XT.ushr p1 (24 : Int32)).toInt8.toInt32)) ∧ cc.slots[8]? = some (.int (nar .byte (p2).toInt8.toInt32)) ∧ cc.slots[9]? = some (.int (nar .byte (XT.ushr p2 (8 : Int32)).toInt8.toInt32)) ∧ cc.slots[10]? = some (.int (nar .byte (XT.ushr p2 (16 : Int32)).toInt8.toInt32)) ∧ cc.slots[11]? = some (.int (nar .byte (XT.ushr p2 (24 : Int32)).toInt8.toInt32)) := ⟨_, A12.same W13, (by rw [sz_set]; exact S12), set_mis B12_0 (by decide), set_mis B12_1 (by decide), set_mis B12_2 (by decide), set_mis B12_3 (by decide), set_mis B12_4 (by decide), set_mis B12_5 (by decide), set_mis B12_6 (by decide), set_mis B12_7 (by decide), set_mis B12_8 (by decide), set_mis B12_9 (by decide), set_mis B12_10 (by decide), set_hit (by rw [S12]; decide)⟩
  have M13 := Fr.app M12 N13
  refine s_iload X13 hx hby (n := 134) (x := (12 : Int32)) at_132 rfl rfl ?_
  refine s_iconst X13 hx hby (n := 135) (v := (2 : Int32)) at_134 rfl rfl ?_
  refine s_iushr X13 hx hby (n := 136) at_135 rfl ?_
  refine s_fold (z := (3 : Int32)) (by decide) ?_
  refine s_istore X13 hx hby (n := 138) (L' := #[.val (.int p0), .val (.int p1), .val (.int p2), .val (.int p3), .val (.int (12 : Int32)), .val (.ref o), .val (.int (3 : Int32)), .unset, .unset, .unset, .unset]) at_136 rfl rfl ?_
  refine s_iload X13 hx hby (n := 140) (x := (12 : Int32)) at_138 rfl rfl ?_
  refine s_iconst X13 hx hby (n := 141) (v := (3 : Int32)) at_140 rfl rfl ?_
  refine s_iand X13 hx hby (n := 142) at_141 rfl ?_
  refine s_fold (z := (0 : Int32)) (by decide) ?_
  refine s_istore X13 hx hby (n := 144) (L' := #[.val (.int p0), .val (.int p1), .val (.int p2), .val (.int p3), .val (.int (12 : Int32)), .val (.ref o), .val (.int (3 : Int32)), .val (.int (0 : Int32)), .unset, .unset, .unset]) at_142 rfl rfl ?_
  refine s_iconst X13 hx hby (n := 145) (v := (0 : Int32)) at_144 rfl rfl ?_
  refine s_istore X13 hx hby (n := 147) (L' := #[.val (.int p0), .val (.int p1), .val (.int p2), .val (.int p3), .val (.int (12 : Int32)), .val (.ref o), .val (.int (3 : Int32)), .val (.int (0 : Int32)), .val (.int (0 : Int32)), .unset, .unset]) at_145 rfl rfl ?_
  refine s_iload X13 hx hby (n := 149) (x := (3 : Int32)) at_147 rfl rfl ?_
  refine s_iconst X13 hx hby (n := 150) (v := (1 : Int32)) at_149 rfl rfl ?_
  refine s_icmpN X13 hx hby (n := 153) at_150 (by decide) rfl ?_
  refine s_iload X13 hx hby (n := 155) (x := (0 : Int32)) at_153 rfl rfl ?_
  refine s_iloadN X13 hx hby (n := 156) (x := p0) at_155 rfl rfl ?_
  refine s_callS X13 hx hby hml hZ (n := 159) hown (hw _ (List.mem_of_getElem? (i := 37) rfl)) (hw _ (List.mem_of_getElem? (i := 38) rfl)) (hw _ (List.mem_of_getElem? (i := 4) rfl)) (hw _ (List.mem_of_getElem? (i := 39) rfl)) (by decide) (rmMix' l Z a0 hw (0 : Int32) p0 T13.heap n0) rfl (by decide) 0 (by decide) (by decide) (by decide) pd_0 [(.int (0 : Int32)), (.int p0)] [] rfl rfl rfl (Nat.le_of_eq rfl) rfl at_156 rfl ?_
  intro T14 L14 v14 X14 q14c
  obtain ⟨rfl, e14, N14⟩ := q14c
  show OEnds p e below s _ _ _ T14 (mkF m 159 #[.val (.int p0), .val (.int p1), .val (.int p2), .val (.int p3), .val (.int (12 : Int32)), .val (.ref o), .val (.int (3 : Int32)), .val (.int (0 : Int32)), .val (.int (0 : Int32)), .unset, .unset] [(.int (own_mix (0 : Int32) p0))])
  have M14 := Fr.app M13 N14
  refine s_istore X14 hx hby (n := 161) (L' := #[.val (.int p0), .val (.int p1), .val (.int p2), .val (.int p3), .val (.int (12 : Int32)), .val (.ref o), .val (.int (3 : Int32)), .val (.int (0 : Int32)), .val (.int (own_mix (0 : Int32) p0)), .unset, .unset]) at_159 rfl rfl ?_
  refine s_iload X14 hx hby (n := 163) (x := (3 : Int32)) at_161 rfl rfl ?_
  refine s_iconst X14 hx hby (n := 164) (v := (2 : Int32)) at_163 rfl rfl ?_
  refine s_icmpN X14 hx hby (n := 167) at_164 (by decide) rfl ?_
  refine s_iload X14 hx hby (n := 169) (x := (own_mix (0 : Int32) p0)) at_167 rfl rfl ?_
  refine s_iloadN X14 hx hby (n := 170) (x := p1) at_169 rfl rfl ?_
  refine s_callS X14 hx hby hml hZ (n := 173) hown (hw _ (List.mem_of_getElem? (i := 37) rfl)) (hw _ (List.mem_of_getElem? (i := 38) rfl)) (hw _ (List.mem_of_getElem? (i := 4) rfl)) (hw _ (List.mem_of_getElem? (i := 39) rfl)) (by decide) (rmMix' l Z a0 hw (own_mix (0 : Int32) p0) p1 T13.heap n0) e14 (by decide) 0 (by decide) (by decide) (by decide) pd_0 [(.int (own_mix (0 : Int32) p0)), (.int p1)] [] rfl rfl rfl (Nat.le_of_eq rfl) rfl at_170 rfl ?_
  intro T15 L15 v15 X15 q15c
  obtain ⟨rfl, e15, N15⟩ := q15c
  show OEnds p e below s _ _ _ T15 (mkF m 173 #[.val (.int p0), .val (.int p1), .val (.int p2), .val (.int p3), .val (.int (12 : Int32)), .val (.ref o), .val (.int (3 : Int32)), .val (.int (0 : Int32)), .val (.int (own_mix (0 : Int32) p0)), .unset, .unset] [(.int (own_mix (own_mix (0 : Int32) p0) p1))])
  have M15 := Fr.app M14 N15
  refine s_istore X15 hx hby (n := 175) (L' := #[.val (.int p0), .val (.int p1), .val (.int p2), .val (.int p3), .val (.int (12 : Int32)), .val (.ref o), .val (.int (3 : Int32)), .val (.int (0 : Int32)), .val (.int (own_mix (own_mix (0 : Int32) p0) p1)), .unset, .unset]) at_173 rfl rfl ?_
  refine s_iload X15 hx hby (n := 177) (x := (3 : Int32)) at_175 rfl rfl ?_
  refine s_iconst X15 hx hby (n := 178) (v := (3 : Int32)) at_177 rfl rfl ?_
  refine s_icmpN X15 hx hby (n := 181) at_178 (by decide) rfl ?_
  refine s_iload X15 hx hby (n := 183) (x := (own_mix (own_mix (0 : Int32) p0) p1)) at_181 rfl rfl ?_
  refine s_iloadN X15 hx hby (n := 184) (x := p2) at_183 rfl rfl ?_
  refine s_callS X15 hx hby hml hZ (n := 187) hown (hw _ (List.mem_of_getElem? (i := 37) rfl)) (hw _ (List.mem_of_getElem? (i := 38) rfl)) (hw _ (List.mem_of_getElem? (i := 4) rfl)) (hw _ (List.mem_of_getElem? (i := 39) rfl)) (by decide) (rmMix' l Z a0 hw (own_mix (own_mix (0 : Int32) p0) p1) p2 T13.heap n0) e15 (by decide) 0 (by decide) (by decide) (by decide) pd_0 [(.int (own_mix (own_mix (0 : Int32) p0) p1)), (.int p2)] [] rfl rfl rfl (Nat.le_of_eq rfl) rfl at_184 rfl ?_
  intro T16 L16 v16 X16 q16c
  obtain ⟨rfl, e16, N16⟩ := q16c
  show OEnds p e below s _ _ _ T16 (mkF m 187 #[.val (.int p0), .val (.int p1), .val (.int p2), .val (.int p3), .val (.int (12 : Int32)), .val (.ref o), .val (.int (3 : Int32)), .val (.int (0 : Int32)), .val (.int (own_mix (own_mix (0 : Int32) p0) p1)), .unset, .unset] [(.int (own_mix (own_mix (own_mix (0 : Int32) p0) p1) p2))])
  have M16 := Fr.app M15 N16
  refine s_istore X16 hx hby (n := 189) (L' := #[.val (.int p0), .val (.int p1), .val (.int p2), .val (.int p3), .val (.int (12 : Int32)), .val (.ref o), .val (.int (3 : Int32)), .val (.int (0 : Int32)), .val (.int (own_mix (own_mix (own_mix (0 : Int32) p0) p1) p2)), .unset, .unset]) at_187 rfl rfl ?_
  refine s_iload X16 hx hby (n := 191) (x := (0 : Int32)) at_189 rfl rfl ?_
  refine s_ifY X16 hx hby (n := 240) at_191 (by decide) (by decide) (by decide) ?_
  refine s_iload X16 hx hby (n := 242) (x := (own_mix (own_mix (own_mix (0 : Int32) p0) p1) p2)) at_240 rfl rfl ?_
  refine s_iload X16 hx hby (n := 244) (x := (12 : Int32)) at_242 rfl rfl ?_
  refine s_callS X16 hx hby hml hZ (n := 247) hown (hw _ (List.mem_of_getElem? (i := 14) rfl)) (hw _ (List.mem_of_getElem? (i := 15) rfl)) (hw _ (List.mem_of_getElem? (i := 4) rfl)) (hw _ (List.mem_of_getElem? (i := 16) rfl)) (by decide) (rmFin' l Z a0 hw (own_mix (own_mix (own_mix (0 : Int32) p0) p1) p2) (12 : Int32) T13.heap n0) e16 (by decide) 0 (by decide) (by decide) (by decide) pd_0 [(.int (own_mix (own_mix (own_mix (0 : Int32) p0) p1) p2)), (.int (12 : Int32))] [] rfl rfl rfl (Nat.le_of_eq rfl) rfl at_244 rfl ?_
  intro T17 L17 v17 X17 q17c
  obtain ⟨rfl, e17, N17⟩ := q17c
  show OEnds p e below s _ _ _ T17 (mkF m 247 #[.val (.int p0), .val (.int p1), .val (.int p2), .val (.int p3), .val (.int (12 : Int32)), .val (.ref o), .val (.int (3 : Int32)), .val (.int (0 : Int32)), .val (.int (own_mix (own_mix (own_mix (0 : Int32) p0) p1) p2)), .unset, .unset] [(.int (own_fin (own_mix (own_mix (own_mix (0 : Int32) p0) p1) p2) (12 : Int32)))])
  have M17 := Fr.app M16 N17
  refine s_istore X17 hx hby (n := 249) (L' := #[.val (.int p0), .val (.int p1), .val (.int p2), .val (.int p3), .val (.int (12 : Int32)), .val (.ref o), .val (.int (3 : Int32)), .val (.int (0 : Int32)), .val (.int (own_mix (own_mix (own_mix (0 : Int32) p0) p1) p2)), .val (.int (own_fin (own_mix (own_mix (own_mix (0 : Int32) p0) p1) p2) (12 : Int32))), .unset]) at_247 rfl rfl ?_
  refine s_aload X17 hx hby (n := 251) (x := (.ref o)) at_249 rfl rfl rfl ?_
  refine s_callS X17 hx hby hml hZ (n := 254) hown (hw _ (List.mem_of_getElem? (i := 19) rfl)) (hw _ (List.mem_of_getElem? (i := 20) rfl)) (hw _ (List.mem_of_getElem? (i := 21) rfl)) (hw _ (List.mem_of_getElem? (i := 22) rfl)) (by decide) (rmH12 l Z a0 hw o c13 (nar .byte (p0).toInt8.toInt32) (nar .byte (XT.ushr p0 (8 : Int32)).toInt8.toInt32) (nar .byte (XT.ushr p0 (16 : Int32)).toInt8.toInt32) (nar .byte (XT.ushr p0 (24 : Int32)).toInt8.toInt32) (nar .byte (p1).toInt8.toInt32) (nar .byte (XT.ushr p1 (8 : Int32)).toInt8.toInt32) (nar .byte (XT.ushr p1 (16 : Int32)).toInt8.toInt32) (nar .byte (XT.ushr p1 (24 : Int32)).toInt8.toInt32) (nar .byte (p2).toInt8.toInt32) (nar .byte (XT.ushr p2 (8 : Int32)).toInt8.toInt32) (nar .byte (XT.ushr p2 (16 : Int32)).toInt8.toInt32) (nar .byte (XT.ushr p2 (24 : Int32)).toInt8.toInt32) T13.heap n0 A13 S13 B13_0 B13_1 B13_2 B13_3 B13_4 B13_5 B13_6 B13_7 B13_8 B13_9 B13_10 B13_11) e17 (by decide) 0 (by decide) (by decide) (by decide) pd_3 [(.ref o)] [] rfl rfl rfl (Nat.le_of_eq rfl) rfl at_251 rfl ?_
  intro T18 L18 v18 X18 q18c
  obtain ⟨rfl, e18, N18⟩ := q18c
  show OEnds p e below s _ _ _ T18 (mkF m 254 #[.val (.int p0), .val (.int p1), .val (.int p2), .val (.int p3), .val (.int (12 : Int32)), .val (.ref o), .val (.int (3 : Int32)), .val (.int (0 : Int32)), .val (.int (own_mix (own_mix (own_mix (0 : Int32) p0) p1) p2)), .val (.int (own_fin (own_mix (own_mix (own_mix (0 : Int32) p0) p1) p2) (12 : Int32))), .unset] [(.int (own_fin (own_mix (own_mix (own_mix (0 : Int32) (((((nar .byte (p0).toInt8.toInt32) &&& (255 : Int32)) ||| (((nar .byte (XT.ushr p0 (8 : Int32)).toInt8.toInt32) &&& (255 : Int32)) <<< ((8 : Int32) &&& 31))) ||| (((nar .byte (XT.ushr p0 (16 : Int32)).toInt8.toInt32) &&& (255 : Int32)) <<< ((16 : Int32) &&& 31))) ||| (((nar .byte (XT.ushr p0 (24 : Int32)).toInt8.toInt32) &&& (255 : Int32)) <<< ((24 : Int32) &&& 31)))) (((((nar .byte (p1).toInt8.toInt32) &&& (255 : Int32)) ||| (((nar .byte (XT.ushr p1 (8 : Int32)).toInt8.toInt32) &&& (255 : Int32)) <<< ((8 : Int32) &&& 31))) ||| (((nar .byte (XT.ushr p1 (16 : Int32)).toInt8.toInt32) &&& (255 : Int32)) <<< ((16 : Int32) &&& 31))) ||| (((nar .byte (XT.ushr p1 (24 : Int32)).toInt8.toInt32) &&& (255 : Int32)) <<< ((24 : Int32) &&& 31)))) (((((nar .byte (p2).toInt8.toInt32) &&& (255 : Int32)) ||| (((nar .byte (XT.ushr p2 (8 : Int32)).toInt8.toInt32) &&& (255 : Int32)) <<< ((8 : Int32) &&& 31))) ||| (((nar .byte (XT.ushr p2 (16 : Int32)).toInt8.toInt32) &&& (255 : Int32)) <<< ((16 : Int32) &&& 31))) ||| (((nar .byte (XT.ushr p2 (24 : Int32)).toInt8.toInt32) &&& (255 : Int32)) <<< ((24 : Int32) &&& 31)))) (12 : Int32)))])
  have M18 := Fr.app M17 N18
  refine s_iload X18 hx hby (n := 256) (x := (own_fin (own_mix (own_mix (own_mix (0 : Int32) p0) p1) p2) (12 : Int32))) at_254 rfl rfl ?_
  refine s_icmpN X18 hx hby (n := 259) at_256 (XT.ii_ne_f (by rw [own_wp p0, own_wp p1, own_wp p2])) rfl ?_
  refine s_iconst X18 hx hby (n := 260) (v := (1 : Int32)) at_259 rfl rfl ?_
  refine s_goto X18 hx hby (n := 264) at_260 (by decide) (by decide) ?_
  exact s_retN X18 hx hby hlk hret (t := .boolean) (by simp) (z' := (1 : Int32)) (by decide) at_264 (by decide) (by decide) ⟨rfl, M18⟩
theorem rm0 (l : Launch) (Z : State) (a0 : Array Value) (hw : ∀ d ∈ tables_1, d.before a0 Z = true) (p0 p1 p2 p3 : Int32) (h0 : Heap) (n0 : Nat) (Z0 : n0 ≤ h0.size) : OCon l Z x code maxLocals ret tables_1 room_1 #[(.int p0), (.int p1), (.int p2), (.int p3)] h0 (fun v h L => v = some (.int 1) ∧ Fr n0 L) := by
  rcases own_13 p3 with q | q | q | q | q | q | q | q | q | q | q | q | q
  · exact rm0_0 l Z a0 hw p0 p1 p2 p3 q h0 n0 Z0
  · exact rm0_1 l Z a0 hw p0 p1 p2 p3 q h0 n0 Z0
  · exact rm0_2 l Z a0 hw p0 p1 p2 p3 q h0 n0 Z0
  · exact rm0_3 l Z a0 hw p0 p1 p2 p3 q h0 n0 Z0
  · exact rm0_4 l Z a0 hw p0 p1 p2 p3 q h0 n0 Z0
  · exact rm0_5 l Z a0 hw p0 p1 p2 p3 q h0 n0 Z0
  · exact rm0_6 l Z a0 hw p0 p1 p2 p3 q h0 n0 Z0
  · exact rm0_7 l Z a0 hw p0 p1 p2 p3 q h0 n0 Z0
  · exact rm0_8 l Z a0 hw p0 p1 p2 p3 q h0 n0 Z0
  · exact rm0_9 l Z a0 hw p0 p1 p2 p3 q h0 n0 Z0
  · exact rm0_10 l Z a0 hw p0 p1 p2 p3 q h0 n0 Z0
  · exact rm0_11 l Z a0 hw p0 p1 p2 p3 q h0 n0 Z0
  · exact rm0_12 l Z a0 hw p0 p1 p2 p3 q h0 n0 Z0
set_option maxRecDepth 65536 in
set_option maxHeartbeats 40000000 in
theorem comes_1 {Post : Tables → Env → Array Value → State → Outcome → State → Prop} (hpost : ∀ tb e args s v u, (limb_1_1.after args s (.returned v) u = true ∧ limb_1_2.after args s (.returned v) u = true ∧ True) → FrameEnd s (.returned v) u (Jvm.fieldLocs frame_1_writes args s ++ Jvm.arrayLocs frame_1_arrays args s ++ Jvm.staticLocs frame_1_statics s) room_1.cells room_1.slots → Post tb e args s (.returned v) u) :
    ArmFor flags0 classFile x code maxLocals ret World_1 tables_1 room_1 Calls_1 rest_1 Pre_1 Post := by
  intro l hfl _ _ p e ha hc hk s m args below hf hA hF happ hP
  obtain ⟨hcalls, hrest, hpre⟩ := hP
  obtain ⟨-, -, -, hnamed, -, -, -, hat⟩ := (Spec.applies_iff hf).mp happ
  obtain ⟨hg, hn⟩ := and_e (Cond.before_iff.mp (show (Jvm.Cond.and given_1 narrow_1).before args s = true from hpre))
  obtain ⟨hcount, g0⟩ := and_e hg
  obtain ⟨q0, g1⟩ := and_e g0
  obtain ⟨q1, g2⟩ := and_e g1
  obtain ⟨q2, g3⟩ := and_e g2
  obtain ⟨w0, w1, w2, w3, rfl⟩ : ∃ w0 w1 w2 w3 : Value, args = #[w0, w1, w2, w3] := by
    have hs : args.size = 4 := by simpa [Cond.value, given_1] using hcount
    obtain ⟨L⟩ := args
    match L, hs with
    | [w0, w1, w2, w3], _ => exact ⟨w0, w1, w2, w3, rfl⟩
  have hw := fun d (hd : d ∈ tables_1) => atoms_spec (ws := Jvm.Cond.code x code maxLocals ret :: tables_1) hat d (List.mem_cons_of_mem _ hd)
  have hfit : Fit s := fun {y c} hc i hi => by
    obtain ⟨ha, rfl⟩ := Array.getElem?_eq_some_iff.mp hc
    have q := List.all_eq_true.mp ((Array.all_eq_true_iff_forall_mem.mp hF) _ (Array.getElem_mem ha)) i (List.mem_range.mpr hi)
    simpa [Array.getElem?_eq_getElem hi] using q
  obtain ⟨i0, r0⟩ := is_v q0
  obtain rfl : w0 = (.int i0) := Option.some.inj r0
  obtain ⟨i1, r1⟩ := is_v q1
  obtain rfl : w1 = (.int i1) := Option.some.inj r1
  obtain ⟨i2, r2⟩ := is_v q2
  obtain rfl : w2 = (.int i2) := Option.some.inj r2
  obtain ⟨i3, r3⟩ := is_v g3
  obtain rfl : w3 = (.int i3) := Option.some.inj r3
  obtain ⟨n, o, h1, h2, h3, _, L, rfl, ⟨rfl, N⟩, hq⟩ := rm0 l s _ hw i0 i1 i2 i3 s.heap s.heap.size (Nat.le_refl _) p e ha hc hk s m _ below hf ((Spec.applies_iff_loose hf).mp happ).1 ⟨rfl, State.Warmed39.refl s, rfl⟩ trivial
  refine ⟨n, _, h1, h2, h3, hpost _ _ _ _ _ _ ⟨Cond.after_iff.mpr rfl, Cond.after_iff.mpr (eq_i res_at (Term.int_eval (1)) rfl), trivial⟩ ⟨hq.1, hq.2.1, (hq.2.2.sift fun y hy => Or.inr (N y hy)).mono (by decide) (by decide)⟩⟩
theorem main_1_1 : Claimed_1_1 := comes_1 fun _ _ _ _ _ _ h hF => ⟨h.1, hF⟩
theorem main_1_2 : Claimed_1_2 := comes_1 fun _ _ _ _ _ _ h hF => ⟨h.2.1, hF⟩
end Jvm.Pilot.@@N@@
namespace Jvm.Pilot.@@N@@
open Jvm Jvm.ClassFile Sem Op Lib Jvm.Free Jvm.Stand Jvm.Pilot.@@N@@.Jvm.D
/-! MADE BY PROGRAM (witnessworld.py) out of the Statement's table words and the real class files: 14 classes; the members and pool entries that the words name. The judged class is class 1, her method 1. -/
namespace start1
open Jvm.ClassFile
def u (s : String) : CpInfo := .utf8 (stringToUtf16 s)
/-- a pool by its gaps: so many unusable entries, then the entry; so many at the end -/
def gap : Nat → List CpInfo → List CpInfo
  | 0, r => r
  | n + 1, r => .unusable :: gap n r
def poolList (es : List (Nat × CpInfo)) (last : Nat) : List CpInfo := es.foldr (fun e r => gap e.1 (e.2 :: r)) (gap last [])
def pool (es : List (Nat × CpInfo)) (last : Nat) : Array CpInfo := ⟨poolList es last⟩
def fileOf (pool : Array CpInfo) (this : Nat) (attrs : Array Attribute := #[]) (ms : Array MethodInfo := #[]) (fl : Nat := 33) (sup : Nat := 0) (ifs : Array Nat := #[]) (fds : Array FieldInfo := #[]) : ClassFile where
  minorVersion := 0
  majorVersion := 65
  constantPool := pool
  accessFlags := fl
  thisClass := this
  superClass := sup
  interfaces := ifs
  fields := fds
  methods := ms
  attributes := attrs
def plain (name : String) (sup : Option ClassId) : Class where
  name := name
  kind := .ordinary
  loader := none
  accessFlags := 33
  super := sup
  interfaces := #[]
  cf := none
  fields := #[]
  methods := #[]
  instanceTypes := #[]
  staticTypes := #[]
  resolved := #[]
  callSites := []
  init := .initialized
  statics := none
  mirror := none

def pool0 : Array CpInfo := pool [(5, u "<init>"), (0, u "()V"), (1, .class_ 10), (1, u "java/lang/Object")] 113

def k0m0 : Method := { name := "<init>", desc := "()V", sig := { parameters := [], returnType := none }, accessFlags := 1, code := none }
/-- java/lang/Object -/
def k0 : Class := { plain "java/lang/Object" none with
  accessFlags := 33
  interfaces := #[]
  cf := some (fileOf pool0 8 #[] #[{ accessFlags := 1, nameIndex := 5, descriptorIndex := 6, attributes := #[] }] 33 0 #[] #[])
  fields := #[]
  methods := #[k0m0]
  instanceTypes := #[]
  staticTypes := #[]
  resolved := Array.replicate 124 none
  statics := none }

def pool1 : Array CpInfo := pool [(2, .class_ 4), (1, u "java/lang/Object"), (0, u "<init>"), (0, u "()V"), (0, .integer 2147483647), (0, .methodref 9 10), (0, .class_ 11), (0, .nameAndType 12 13), (0, u "com/example/floe/floe/Murmur3HashPinLaw"), (0, u "put"), (0, u "([BII)V"), (0, .methodref 9 15), (0, .nameAndType 16 17), (0, u "mix"), (0, u "(II)I"), (0, .methodref 9 19), (0, .nameAndType 20 21), (0, u "scramble"), (0, u "(I)I"), (0, .methodref 9 23), (0, .nameAndType 24 17), (0, u "finish"), (0, .methodref 26 27), (0, .class_ 28), (0, .nameAndType 29 30), (0, u "com/example/floe/floe/Murmur3"), (0, u "hash"), (0, u "([B)I"), (0, .integer 3432918353), (0, .methodref 9 33), (0, .nameAndType 34 17), (0, u "rotl"), (0, .integer 461845907), (0, .integer 3864292196), (0, .integer 2246822507), (0, .integer 3266489909), (2, u "law"), (0, u "(IIII)Z")] 5

def k1m0 : Method := { name := "<init>", desc := "()V", sig := { parameters := [], returnType := none }, accessFlags := 1, code := none }
def k1c1 : Code := { maxStack := 4, maxLocals := 11, code := code, exceptionTable := #[], attributes := #[] }
def k1m1 : Method := { name := "law", desc := "(IIII)Z", sig := { parameters := [.int, .int, .int, .int], returnType := some .boolean }, accessFlags := 9, code := some k1c1 }
def k1c2 : Code := { maxStack := 3, maxLocals := 3, code := method_3_code, exceptionTable := #[], attributes := #[] }
def k1m2 : Method := { name := "put", desc := "([BII)V", sig := { parameters := [(.array .byte), .int, .int], returnType := none }, accessFlags := 10, code := some k1c2 }
def k1c3 : Code := { maxStack := 4, maxLocals := 2, code := method_4_code, exceptionTable := #[], attributes := #[] }
def k1m3 : Method := { name := "rotl", desc := "(II)I", sig := { parameters := [.int, .int], returnType := some .int }, accessFlags := 10, code := some k1c3 }
def k1c4 : Code := { maxStack := 2, maxLocals := 1, code := method_5_code, exceptionTable := #[], attributes := #[] }
def k1m4 : Method := { name := "scramble", desc := "(I)I", sig := { parameters := [.int], returnType := some .int }, accessFlags := 10, code := some k1c4 }
def k1c5 : Code := { maxStack := 2, maxLocals := 2, code := method_6_code, exceptionTable := #[], attributes := #[] }
def k1m5 : Method := { name := "mix", desc := "(II)I", sig := { parameters := [.int, .int], returnType := some .int }, accessFlags := 10, code := some k1c5 }
def k1c6 : Code := { maxStack := 3, maxLocals := 3, code := method_7_code, exceptionTable := #[], attributes := #[] }
def k1m6 : Method := { name := "finish", desc := "(II)I", sig := { parameters := [.int, .int], returnType := some .int }, accessFlags := 10, code := some k1c6 }
/-- com/example/floe/floe/Murmur3HashPinLaw -/
def k1 : Class := { plain "com/example/floe/floe/Murmur3HashPinLaw" (some 0) with
  accessFlags := 49
  interfaces := #[]
  cf := some (fileOf pool1 9 #[] #[{ accessFlags := 1, nameIndex := 5, descriptorIndex := 6, attributes := #[] }, { accessFlags := 9, nameIndex := 41, descriptorIndex := 42, attributes := #[] }, { accessFlags := 10, nameIndex := 12, descriptorIndex := 13, attributes := #[] }, { accessFlags := 10, nameIndex := 34, descriptorIndex := 17, attributes := #[] }, { accessFlags := 10, nameIndex := 20, descriptorIndex := 21, attributes := #[] }, { accessFlags := 10, nameIndex := 16, descriptorIndex := 17, attributes := #[] }, { accessFlags := 10, nameIndex := 24, descriptorIndex := 17, attributes := #[] }] 49 2 #[] #[])
  fields := #[]
  methods := #[k1m0, k1m1, k1m2, k1m3, k1m4, k1m5, k1m6]
  instanceTypes := #[]
  staticTypes := #[]
  resolved := Array.replicate 48 none
  statics := none }

def pool2 : Array CpInfo := pool [(2, .class_ 4), (1, u "java/lang/Object"), (0, u "<init>"), (0, u "()V"), (0, .methodref 8 9), (0, .class_ 10), (0, .nameAndType 11 12), (0, u "com/example/floe/floe/Murmur3"), (0, u "mix"), (0, u "(II)I"), (0, .methodref 8 14), (0, .nameAndType 15 16), (0, u "scramble"), (0, u "(I)I"), (0, .methodref 8 18), (0, .nameAndType 19 12), (0, u "finish"), (0, .methodref 21 22), (0, .class_ 23), (0, .nameAndType 24 12), (0, u "java/lang/Integer"), (0, u "rotateLeft"), (0, .integer 3864292196), (0, .integer 3432918353), (0, .integer 461845907), (0, .integer 2246822507), (0, .integer 3266489909), (0, u "C1"), (0, u "I"), (1, u "C2"), (2, u "hash"), (0, u "([B)I")] 5

def k2m0 : Method := { name := "<init>", desc := "()V", sig := { parameters := [], returnType := none }, accessFlags := 2, code := none }
def k2c1 : Code := { maxStack := 5, maxLocals := 5, code := prog_8_method_2_code, exceptionTable := #[], attributes := #[] }
def k2m1 : Method := { name := "hash", desc := "([B)I", sig := { parameters := [(.array .byte)], returnType := some .int }, accessFlags := 8, code := some k2c1 }
def k2c2 : Code := { maxStack := 2, maxLocals := 3, code := prog_8_method_4_code, exceptionTable := #[], attributes := #[] }
def k2m2 : Method := { name := "mix", desc := "(II)I", sig := { parameters := [.int, .int], returnType := some .int }, accessFlags := 10, code := some k2c2 }
def k2c3 : Code := { maxStack := 2, maxLocals := 1, code := prog_8_method_5_code, exceptionTable := #[], attributes := #[] }
def k2m3 : Method := { name := "scramble", desc := "(I)I", sig := { parameters := [.int], returnType := some .int }, accessFlags := 10, code := some k2c3 }
def k2c4 : Code := { maxStack := 3, maxLocals := 3, code := prog_8_method_6_code, exceptionTable := #[], attributes := #[] }
def k2m4 : Method := { name := "finish", desc := "(II)I", sig := { parameters := [.int, .int], returnType := some .int }, accessFlags := 10, code := some k2c4 }
/-- com/example/floe/floe/Murmur3 -/
def k2 : Class := { plain "com/example/floe/floe/Murmur3" (some 0) with
  accessFlags := 48
  interfaces := #[]
  cf := some (fileOf pool2 8 #[] #[{ accessFlags := 2, nameIndex := 5, descriptorIndex := 6, attributes := #[] }, { accessFlags := 8, nameIndex := 36, descriptorIndex := 37, attributes := #[] }, { accessFlags := 10, nameIndex := 11, descriptorIndex := 12, attributes := #[] }, { accessFlags := 10, nameIndex := 15, descriptorIndex := 16, attributes := #[] }, { accessFlags := 10, nameIndex := 19, descriptorIndex := 12, attributes := #[] }] 48 2 #[] #[{ accessFlags := 26, nameIndex := 30, descriptorIndex := 31, attributes := #[] }, { accessFlags := 26, nameIndex := 33, descriptorIndex := 31, attributes := #[] }])
  fields := #[{ name := "C1", type := .int, accessFlags := 26, slot := 0, constantValue := 0 }, { name := "C2", type := .int, accessFlags := 26, slot := 1, constantValue := 0 }]
  methods := #[k2m0, k2m1, k2m2, k2m3, k2m4]
  instanceTypes := #[]
  staticTypes := #[.int, .int]
  resolved := Array.replicate 43 none
  statics := none }

def pool3 : Array CpInfo := pool [(1, .class_ 2), (0, u "java/io/Serializable"), (0, .class_ 4), (0, u "java/lang/Object")] 2

/-- java/io/Serializable -/
def k3 : Class := { plain "java/io/Serializable" (some 0) with
  accessFlags := 1537
  interfaces := #[]
  cf := some (fileOf pool3 1 #[] #[] 1537 3 #[] #[])
  fields := #[]
  methods := #[]
  instanceTypes := #[]
  staticTypes := #[]
  resolved := Array.replicate 7 none
  statics := none }

def pool4 : Array CpInfo := pool [(2, .class_ 4), (1, u "java/lang/Object"), (0, u "<init>"), (0, u "()V"), (1, .class_ 10), (1, u "java/lang/Number"), (2, .class_ 14), (0, u "java/io/Serializable"), (0, u "serialVersionUID"), (0, u "J")] 20

def k4m0 : Method := { name := "<init>", desc := "()V", sig := { parameters := [], returnType := none }, accessFlags := 1, code := none }
/-- java/lang/Number -/
def k4 : Class := { plain "java/lang/Number" (some 0) with
  accessFlags := 1057
  interfaces := #[3]
  cf := some (fileOf pool4 8 #[] #[{ accessFlags := 1, nameIndex := 5, descriptorIndex := 6, attributes := #[] }] 1057 2 #[13] #[{ accessFlags := 26, nameIndex := 15, descriptorIndex := 16, attributes := #[] }])
  fields := #[{ name := "serialVersionUID", type := .long, accessFlags := 26, slot := 0, constantValue := 0 }]
  methods := #[k4m0]
  instanceTypes := #[]
  staticTypes := #[.long]
  resolved := Array.replicate 37 none
  statics := none }

def pool5 : Array CpInfo := pool [(1, .class_ 2), (0, u "java/lang/Comparable"), (0, .class_ 4), (0, u "java/lang/Object")] 7

/-- java/lang/Comparable -/
def k5 : Class := { plain "java/lang/Comparable" (some 0) with
  accessFlags := 1537
  interfaces := #[]
  cf := some (fileOf pool5 1 #[] #[] 1537 3 #[] #[])
  fields := #[]
  methods := #[]
  instanceTypes := #[]
  staticTypes := #[]
  resolved := Array.replicate 12 none
  statics := none }

def pool6 : Array CpInfo := pool [(1, .class_ 2), (0, u "java/lang/constant/Constable"), (0, .class_ 4), (0, u "java/lang/Object")] 6

/-- java/lang/constant/Constable -/
def k6 : Class := { plain "java/lang/constant/Constable" (some 0) with
  accessFlags := 1537
  interfaces := #[]
  cf := some (fileOf pool6 1 #[] #[] 1537 3 #[] #[])
  fields := #[]
  methods := #[]
  instanceTypes := #[]
  staticTypes := #[]
  resolved := Array.replicate 11 none
  statics := none }

def pool7 : Array CpInfo := pool [(1, .class_ 2), (0, u "java/lang/constant/ConstantDesc"), (0, .class_ 4), (0, u "java/lang/Object")] 32

/-- java/lang/constant/ConstantDesc -/
def k7 : Class := { plain "java/lang/constant/ConstantDesc" (some 0) with
  accessFlags := 1537
  interfaces := #[]
  cf := some (fileOf pool7 1 #[] #[] 1537 3 #[] #[])
  fields := #[]
  methods := #[]
  instanceTypes := #[]
  staticTypes := #[]
  resolved := Array.replicate 37 none
  statics := none }

def pool8 : Array CpInfo := pool [(1, .class_ 2), (0, u "java/lang/Integer"), (16, u "digits"), (0, u "[C"), (39, u "(II)I"), (24, u "DigitOnes"), (0, u "[B"), (2, u "DigitTens"), (99, .class_ 190), (0, u "java/lang/Integer$IntegerCache"), (3, u "I"), (8, .class_ 204), (0, u "java/lang/Number"), (2, u "value"), (94, u "TYPE"), (0, u "Ljava/lang/Class;"), (0, .class_ 305), (0, u "java/lang/Comparable"), (0, .class_ 307), (0, u "java/lang/constant/Constable"), (0, .class_ 309), (0, u "java/lang/constant/ConstantDesc"), (0, u "MIN_VALUE"), (1, u "MAX_VALUE"), (3, u "SIZE"), (1, u "BYTES"), (1, u "serialVersionUID"), (0, u "J"), (86, u "rotateLeft")] 44

def k8c0 : Code := { maxStack := 3, maxLocals := 2, code := jdk_33_method_50_code, exceptionTable := #[], attributes := #[] }
def k8m0 : Method := { name := "rotateLeft", desc := "(II)I", sig := { parameters := [.int, .int], returnType := some .int }, accessFlags := 9, code := some k8c0 }
/-- java/lang/Integer -/
def k8 : Class := { plain "java/lang/Integer" (some 4) with
  accessFlags := 49
  interfaces := #[5, 6, 7]
  cf := some (fileOf pool8 1 #[.nestMembers #[189]] #[{ accessFlags := 9, nameIndex := 408, descriptorIndex := 60, attributes := #[] }] 49 203 #[304, 306, 308] #[{ accessFlags := 25, nameIndex := 310, descriptorIndex := 194, attributes := #[] }, { accessFlags := 25, nameIndex := 312, descriptorIndex := 194, attributes := #[] }, { accessFlags := 25, nameIndex := 302, descriptorIndex := 303, attributes := #[] }, { accessFlags := 24, nameIndex := 19, descriptorIndex := 20, attributes := #[] }, { accessFlags := 24, nameIndex := 89, descriptorIndex := 86, attributes := #[] }, { accessFlags := 24, nameIndex := 85, descriptorIndex := 86, attributes := #[] }, { accessFlags := 18, nameIndex := 207, descriptorIndex := 194, attributes := #[] }, { accessFlags := 25, nameIndex := 316, descriptorIndex := 194, attributes := #[] }, { accessFlags := 25, nameIndex := 318, descriptorIndex := 194, attributes := #[] }, { accessFlags := 26, nameIndex := 320, descriptorIndex := 321, attributes := #[] }])
  fields := #[{ name := "MIN_VALUE", type := .int, accessFlags := 25, slot := 0, constantValue := 0 }, { name := "MAX_VALUE", type := .int, accessFlags := 25, slot := 1, constantValue := 0 }, { name := "TYPE", type := (.object "java/lang/Class"), accessFlags := 25, slot := 2, constantValue := 0 }, { name := "digits", type := (.array .char), accessFlags := 24, slot := 3, constantValue := 0 }, { name := "DigitTens", type := (.array .byte), accessFlags := 24, slot := 4, constantValue := 0 }, { name := "DigitOnes", type := (.array .byte), accessFlags := 24, slot := 5, constantValue := 0 }, { name := "value", type := .int, accessFlags := 18, slot := 0, constantValue := 0 }, { name := "SIZE", type := .int, accessFlags := 25, slot := 6, constantValue := 0 }, { name := "BYTES", type := .int, accessFlags := 25, slot := 7, constantValue := 0 }, { name := "serialVersionUID", type := .long, accessFlags := 26, slot := 8, constantValue := 0 }]
  methods := #[k8m0]
  instanceTypes := #[.int]
  staticTypes := #[.int, .int, (.object "java/lang/Class"), (.array .char), (.array .byte), (.array .byte), .int, .int, .long]
  resolved := Array.replicate 453 none
  statics := none }

def pool9 : Array CpInfo := pool [(1, u "java/lang/Cloneable"), (0, .class_ 1), (0, u "java/lang/Object"), (0, .class_ 3)] 3

/-- java/lang/Cloneable -/
def k9 : Class := { plain "java/lang/Cloneable" (some 0) with
  accessFlags := 1537
  interfaces := #[]
  cf := some (fileOf pool9 2 #[] #[] 1537 4 #[] #[])
  fields := #[]
  methods := #[]
  instanceTypes := #[]
  staticTypes := #[]
  resolved := Array.replicate 8 none
  statics := none }

/-- the primitive byte -/
def k10 : Class := { plain "byte" none with kind := .primitive 'B', accessFlags := 0x411 }
/-- [B -/
def k11 : Class := { plain "[B" (some 0) with kind := .array 10 .byte, interfaces := #[9, 3], accessFlags := 1041 }

/-- the primitive int -/
def k12 : Class := { plain "int" none with kind := .primitive 'I', accessFlags := 0x411 }
/-- [I -/
def k13 : Class := { plain "[I" (some 0) with kind := .array 12 .int, interfaces := #[9, 3], accessFlags := 1041 }

def heap : Heap := #[]
def classes : Array Class := #[k0, k1, k2, k3, k4, k5, k6, k7, k8, k9, k10, k11, k12, k13]
def interned : List (Array UInt16 × Addr) := []
def slotsUsed : Nat := 0
def theMethod : MethodId := ⟨1, 1⟩
def args0 : Array Value := #[.int 5, .int 6, .int 7, .int 8]
def aboutOver (below : List Frame) : State where
  vm := { classes := classes, interned := interned.toArray }
  heap := heap
  slotsUsed := slotsUsed
  threads := #[{ frames := .invoking theMethod args0 :: below }]
def below0 : List Frame := [.native { method := ⟨0, 0⟩, args := #[] }]
def about1 : State := aboutOver below0
def p0 : Program := .bare "" "" ""
def e0 : Env := launch0.env 0 0 0
theorem w_frames : about1.frames = Frame.invoking theMethod args0 :: below0 := rfl
set_option maxRecDepth 65536 in
theorem w_args : argsFit about1.vm theMethod args0 = true := by decide +kernel
set_option maxRecDepth 65536 in
theorem w_heap : heapFits about1 = true := by decide +kernel
set_option maxRecDepth 65536 in
theorem w_runnable : about1.curStatus? = some .runnable := by decide +kernel
set_option maxRecDepth 65536 in
theorem w_alone : about1.alone = true := by decide +kernel
set_option maxRecDepth 65536 in
theorem w_named : about1.methodNamed? x = some theMethod := by decide +kernel
set_option maxRecDepth 65536 in
theorem w_hears : about1.hears theMethod below0 = true := by decide +kernel
set_option maxRecDepth 65536 in
theorem w_ripe : about1.ripe theMethod args0 below0 = true := by decide +kernel
theorem w_running : about1.status = .running := rfl
set_option maxRecDepth 65536 in
theorem w_room : about1.hasRoom e0.platform room_1 = true :=
  launch0.hasRoom_least _ room_1 (by decide +kernel) (by decide +kernel) (by decide +kernel) (by decide +kernel) (by decide +kernel) (by decide +kernel)
theorem allAtoms_all (ts : List Jvm.Cond) (a : Array Jvm.Value) (st : Jvm.State) : (allAtoms ts).before a st = ts.all (fun c => c.before a st) := by
  induction ts with
  | nil => rfl
  | cons c t ih =>
    show (Jvm.Cond.and c (allAtoms t)).before a st = _
    rw [Jvm.Cond.before_and, ih, List.all_cons]
def words1 : List Jvm.Cond := Jvm.Cond.code x code maxLocals ret :: tables_1
/-- a 'code' word, met by the world's own term for the bytes: nothing is compared byte by byte -/
theorem code_word {y : MethodName} {bytes : ByteArray} {mx : Nat} {rt : Option FieldType} {a : Array Value} {s : State} {m : MethodId} {meth : Method} {c : Code} (h1 : s.methodNamed? y = some m) (h2 : s.vm.method? m = some meth) (h3 : meth.code = some c) (h4 : c.code = bytes)
    (h5 : (c.maxLocals == mx && c.exceptionTable.isEmpty && decide (c.maxStack ≤ mostOperands) && decide (meth.sig.returnType = rt) && !meth.locks && decide (parseMethodDescriptor y.desc = some meth.sig)) = true) : (Jvm.Cond.code y bytes mx rt).before a s = true := by
  simp only [Bool.and_eq_true, beq_iff_eq, Bool.not_eq_true', decide_eq_true_eq] at h5
  obtain ⟨⟨⟨⟨⟨g1, g2⟩, g3⟩, g4⟩, g5⟩, g6⟩ := h5
  simp [Cond.before, Cond.holds, Cond.value, h1, h2, h3, h4, g1, g2, g3, g4, g5, g6]
def isCode : Jvm.Cond → Bool
  | .code _ _ _ _ => true
  | _ => false
theorem all_split {L : List Jvm.Cond} {P : Jvm.Cond → Bool} (h1 : L.all (fun c => isCode c || P c) = true) (h2 : ∀ c ∈ L.filter isCode, P c = true) : L.all P = true := by
  refine List.all_eq_true.mpr fun c hc => ?_
  have h := List.all_eq_true.mp h1 c hc
  rcases Bool.eq_false_or_eq_true (isCode c) with hi | hi
  · exact h2 c (List.mem_filter.mpr ⟨hc, hi⟩)
  · simpa [hi] using h
set_option maxRecDepth 65536 in
theorem w_c0 : (Jvm.Cond.code x code maxLocals ret).before args0 about1 = true := code_word (m := ⟨1, 1⟩) (meth := k1m1) (c := k1c1) (by decide +kernel) rfl rfl rfl (by decide +kernel)
set_option maxRecDepth 65536 in
theorem w_c1 : (Jvm.Cond.code ({ cls := "com/example/floe/floe/Murmur3HashPinLaw", name := "put", desc := "([BII)V" } : Jvm.MethodName) method_3_code (3 : Nat) (Option.none : Option Jvm.ClassFile.FieldType)).before args0 about1 = true := code_word (m := ⟨1, 2⟩) (meth := k1m2) (c := k1c2) (by decide +kernel) rfl rfl rfl (by decide +kernel)
set_option maxRecDepth 65536 in
theorem w_c2 : (Jvm.Cond.code ({ cls := "com/example/floe/floe/Murmur3HashPinLaw", name := "scramble", desc := "(I)I" } : Jvm.MethodName) method_5_code (1 : Nat) (Option.some Jvm.ClassFile.FieldType.int)).before args0 about1 = true := code_word (m := ⟨1, 4⟩) (meth := k1m4) (c := k1c4) (by decide +kernel) rfl rfl rfl (by decide +kernel)
set_option maxRecDepth 65536 in
theorem w_c3 : (Jvm.Cond.code ({ cls := "com/example/floe/floe/Murmur3HashPinLaw", name := "rotl", desc := "(II)I" } : Jvm.MethodName) method_4_code (2 : Nat) (Option.some Jvm.ClassFile.FieldType.int)).before args0 about1 = true := code_word (m := ⟨1, 3⟩) (meth := k1m3) (c := k1c3) (by decide +kernel) rfl rfl rfl (by decide +kernel)
set_option maxRecDepth 65536 in
theorem w_c4 : (Jvm.Cond.code ({ cls := "com/example/floe/floe/Murmur3HashPinLaw", name := "finish", desc := "(II)I" } : Jvm.MethodName) method_7_code (3 : Nat) (Option.some Jvm.ClassFile.FieldType.int)).before args0 about1 = true := code_word (m := ⟨1, 6⟩) (meth := k1m6) (c := k1c6) (by decide +kernel) rfl rfl rfl (by decide +kernel)
set_option maxRecDepth 65536 in
theorem w_c5 : (Jvm.Cond.code ({ cls := "com/example/floe/floe/Murmur3", name := "hash", desc := "([B)I" } : Jvm.MethodName) prog_8_method_2_code (5 : Nat) (Option.some Jvm.ClassFile.FieldType.int)).before args0 about1 = true := code_word (m := ⟨2, 1⟩) (meth := k2m1) (c := k2c1) (by decide +kernel) rfl rfl rfl (by decide +kernel)
set_option maxRecDepth 65536 in
theorem w_c6 : (Jvm.Cond.code ({ cls := "com/example/floe/floe/Murmur3", name := "scramble", desc := "(I)I" } : Jvm.MethodName) prog_8_method_5_code (1 : Nat) (Option.some Jvm.ClassFile.FieldType.int)).before args0 about1 = true := code_word (m := ⟨2, 3⟩) (meth := k2m3) (c := k2c3) (by decide +kernel) rfl rfl rfl (by decide +kernel)
set_option maxRecDepth 65536 in
theorem w_c7 : (Jvm.Cond.code ({ cls := "java/lang/Integer", name := "rotateLeft", desc := "(II)I" } : Jvm.MethodName) jdk_33_method_50_code (2 : Nat) (Option.some Jvm.ClassFile.FieldType.int)).before args0 about1 = true := code_word (m := ⟨8, 0⟩) (meth := k8m0) (c := k8c0) (by decide +kernel) rfl rfl rfl (by decide +kernel)
set_option maxRecDepth 65536 in
theorem w_c8 : (Jvm.Cond.code ({ cls := "com/example/floe/floe/Murmur3", name := "finish", desc := "(II)I" } : Jvm.MethodName) prog_8_method_6_code (3 : Nat) (Option.some Jvm.ClassFile.FieldType.int)).before args0 about1 = true := code_word (m := ⟨2, 4⟩) (meth := k2m4) (c := k2c4) (by decide +kernel) rfl rfl rfl (by decide +kernel)
set_option maxRecDepth 65536 in
theorem w_c9 : (Jvm.Cond.code ({ cls := "com/example/floe/floe/Murmur3HashPinLaw", name := "mix", desc := "(II)I" } : Jvm.MethodName) method_6_code (2 : Nat) (Option.some Jvm.ClassFile.FieldType.int)).before args0 about1 = true := code_word (m := ⟨1, 5⟩) (meth := k1m5) (c := k1c5) (by decide +kernel) rfl rfl rfl (by decide +kernel)
set_option maxRecDepth 65536 in
theorem w_c10 : (Jvm.Cond.code ({ cls := "com/example/floe/floe/Murmur3", name := "mix", desc := "(II)I" } : Jvm.MethodName) prog_8_method_4_code (3 : Nat) (Option.some Jvm.ClassFile.FieldType.int)).before args0 about1 = true := code_word (m := ⟨2, 2⟩) (meth := k2m2) (c := k2c2) (by decide +kernel) rfl rfl rfl (by decide +kernel)
def codes1 : List Jvm.Cond := [Jvm.Cond.code x code maxLocals ret, Jvm.Cond.code ({ cls := "com/example/floe/floe/Murmur3HashPinLaw", name := "put", desc := "([BII)V" } : Jvm.MethodName) method_3_code (3 : Nat) (Option.none : Option Jvm.ClassFile.FieldType), Jvm.Cond.code ({ cls := "com/example/floe/floe/Murmur3HashPinLaw", name := "scramble", desc := "(I)I" } : Jvm.MethodName) method_5_code (1 : Nat) (Option.some Jvm.ClassFile.FieldType.int), Jvm.Cond.code ({ cls := "com/example/floe/floe/Murmur3HashPinLaw", name := "rotl", desc := "(II)I" } : Jvm.MethodName) method_4_code (2 : Nat) (Option.some Jvm.ClassFile.FieldType.int), Jvm.Cond.code ({ cls := "com/example/floe/floe/Murmur3HashPinLaw", name := "finish", desc := "(II)I" } : Jvm.MethodName) method_7_code (3 : Nat) (Option.some Jvm.ClassFile.FieldType.int), Jvm.Cond.code ({ cls := "com/example/floe/floe/Murmur3", name := "hash", desc := "([B)I" } : Jvm.MethodName) prog_8_method_2_code (5 : Nat) (Option.some Jvm.ClassFile.FieldType.int), Jvm.Cond.code ({ cls := "com/example/floe/floe/Murmur3", name := "scramble", desc := "(I)I" } : Jvm.MethodName) prog_8_method_5_code (1 : Nat) (Option.some Jvm.ClassFile.FieldType.int), Jvm.Cond.code ({ cls := "java/lang/Integer", name := "rotateLeft", desc := "(II)I" } : Jvm.MethodName) jdk_33_method_50_code (2 : Nat) (Option.some Jvm.ClassFile.FieldType.int), Jvm.Cond.code ({ cls := "com/example/floe/floe/Murmur3", name := "finish", desc := "(II)I" } : Jvm.MethodName) prog_8_method_6_code (3 : Nat) (Option.some Jvm.ClassFile.FieldType.int), Jvm.Cond.code ({ cls := "com/example/floe/floe/Murmur3HashPinLaw", name := "mix", desc := "(II)I" } : Jvm.MethodName) method_6_code (2 : Nat) (Option.some Jvm.ClassFile.FieldType.int), Jvm.Cond.code ({ cls := "com/example/floe/floe/Murmur3", name := "mix", desc := "(II)I" } : Jvm.MethodName) prog_8_method_4_code (3 : Nat) (Option.some Jvm.ClassFile.FieldType.int)]
set_option maxRecDepth 65536 in
theorem codes_eq : words1.filter isCode = codes1 := rfl
theorem w_codes : ∀ c ∈ words1.filter isCode, c.before args0 about1 = true := by
  rw [codes_eq]
  intro c hc
  simp only [codes1, List.mem_cons, List.not_mem_nil, or_false] at hc
  rcases hc with rfl | rfl | rfl | rfl | rfl | rfl | rfl | rfl | rfl | rfl | rfl
  · exact w_c0
  · exact w_c1
  · exact w_c2
  · exact w_c3
  · exact w_c4
  · exact w_c5
  · exact w_c6
  · exact w_c7
  · exact w_c8
  · exact w_c9
  · exact w_c10
set_option maxRecDepth 65536 in
theorem w_t1 : (words1.take 24).all (fun c => isCode c || c.before args0 about1) = true := by decide +kernel
set_option maxRecDepth 65536 in
theorem w_t2 : (words1.drop 24).all (fun c => isCode c || c.before args0 about1) = true := by decide +kernel
theorem w_tables : (allAtoms (Jvm.Cond.code x code maxLocals ret :: tables_1)).before args0 about1 = true := by
  rw [allAtoms_all]
  show words1.all (fun c => c.before args0 about1) = true
  refine all_split ?_ w_codes
  rw [← List.take_append_drop 24 words1, List.all_append, w_t1, w_t2]
  rfl
set_option maxRecDepth 65536 in
theorem w_case : (Jvm.Cond.and given_1 narrow_1).before args0 about1 = true := by decide +kernel
theorem w_applies : (headSpec (Jvm.Cond.code x code maxLocals ret :: tables_1) room_1).applies x e0.platform about1 = true :=
  (Spec.applies_iff w_frames).mpr ⟨w_running, w_runnable, w_alone, w_named, w_hears, w_ripe, w_room, w_tables⟩
theorem atStart : AtStart classFile x code maxLocals ret World_1 tables_1 room_1 Calls_1 rest_1 Pre_1 launch0 p0 e0 about1 theMethod args0 below0 :=
  ⟨lists_1, trivial, launch0.admits_env _ _ _, launch0.least_env, fairChoices_fair.cas, fairChoices_fair.clock, w_frames, w_args, w_heap, w_applies, trivial, trivial, w_case⟩
end start1
theorem witness_1 : WitnessClaimed_1 := ⟨start1.p0, start1.e0, start1.about1, start1.theMethod, start1.args0, start1.below0, start1.atStart⟩
end Jvm.Pilot.@@N@@
