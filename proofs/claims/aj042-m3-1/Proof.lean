import JvmDerived
import JvmDerived.Pilot.@@N@@Statement
import JvmDerived.Pilot.@@N@@Code
set_option linter.unusedVariables false
set_option linter.unusedSimpArgs false
namespace Jvm.Own
open Sem ClassFile Op Lib Jvm.Stand Jvm.Free Jvm.LawKit Jvm.RoadKit
/-- the walk that stands in T at the frame g runs to the method's return, and Q is said of what it leaves -/
def OEnds (p : Program) (e : Env) (below : List Frame) (s : State) (C S : Nat) (Q : Option Value → Heap → List Loc → Prop) (T : State) (g : JFrame) : Prop :=
  ∃ (t : State) (v : Option Value) (L : List Loc), Steps p.tables e below (T.setTop g) t ∧ t.status = .running ∧ Ended t below (.returned v) ∧ Q v t.heap L ∧ FrameEnd s (.returned v) t L C S
/-- a callee's contract, at one array of arguments and one heap -/
def OCon (l : Launch) (Z : State) (y : MethodName) (bytes : ByteArray) (maxL : Nat) (ret : Option FieldType) (ws : List Jvm.Cond) (rm : Room) (as' : Array Value) (h : Heap) (Q : Option Value → Heap → List Loc → Prop) : Prop :=
  MetFree l y (head1 (Jvm.Cond.code y bytes maxL ret :: ws) rm) (fun a U => a = as' ∧ Z.Warmed39 U.vm ∧ U.heap = h) (fun _ _ _ _ _ => True) (fun _ U o U' => ∃ v L, o = .returned v ∧ Q v U'.heap L ∧ FrameEnd U o U' L rm.cells rm.slots)
section Walk
variable {p : Program} {l : Launch} {e : Env} {R : Room} {s : State} {m : MethodId} {args : Array Value} {below : List Frame} {meth : Method} {c : Code} {T : State} {locs : List Loc} {cells slots : Nat} {C S : Nat} {Q : Option Value → Heap → List Loc → Prop} {bytes : ByteArray} {pc n : Nat} {L : Array Slot} {st : List Value} {Z : State} {a0 : Array Value} {h : Heap}
theorem OEnds.pre {T' : State} {g g' : JFrame} (k : OEnds p e below s C S Q T' g') (f : ∀ t, Steps p.tables e below (T'.setTop g') t → Steps p.tables e below (T.setTop g) t) : OEnds p e below s C S Q T g := by
  obtain ⟨t, v, L, h1, h2⟩ := k
  exact ⟨t, v, L, f _ h1, h2⟩
theorem OEnds.weaken {Q' : Option Value → Heap → List Loc → Prop} {g : JFrame} (k : OEnds p e below s C S Q T g) (f : ∀ v h L, Q v h L → Q' v h L) : OEnds p e below s C S Q' T g := by
  obtain ⟨t, v, L, h1, h2, h3, h4, h5⟩ := k
  exact ⟨t, v, L, h1, h2, h3, f _ _ _ h4, h5⟩
theorem OCon.weaken {y : MethodName} {maxL : Nat} {ret : Option FieldType} {ws : List Jvm.Cond} {rm : Room} {as' : Array Value} {Q' : Option Value → Heap → List Loc → Prop} (k : OCon l Z y bytes maxL ret ws rm as' h Q) (f : ∀ v h L, Q v h L → Q' v h L) : OCon l Z y bytes maxL ret ws rm as' h Q' := by
  intro p e ha hc hk s m args below hf happ hP hK
  obtain ⟨n, o, h1, h2, h3, v, L, h4, h5, h6⟩ := k p e ha hc hk s m args below hf happ hP hK
  exact ⟨n, o, h1, h2, h3, v, L, h4, f _ _ _ h5, h6⟩
/-- a contract by a walk -/
theorem con {y : MethodName} {maxL : Nat} {ret : Option FieldType} {ws : List Jvm.Cond} {rm : Room} {as' : Array Value} (hp : plainFor y = true)
    (body : ∀ (p : Program) (e : Env) (s : State) (m : MethodId) (below : List Frame) (meth : Method) (c : Code) (s₁ : State), p.tables.exec = Jvm.exec → c.code = bytes → c.maxLocals = maxL → Z.Warmed39 s.vm → s.vm.findClass y.cls = some m.cls → meth.name = y.name → meth.sig.returnType = ret → meth.locks = false →
      Stand p l e rm s m as' below meth c s₁ [] 0 0 → s₁.heap = h → OEnds p e below s rm.cells rm.slots Q s₁ (entryFrame m as' maxL)) : OCon l Z y bytes maxL ret ws rm as' h Q := by
  refine MetFree.of_bodySF hp hisR ?_
  intro p e s m args below meth c s₁ Bd hml hP hK
  obtain ⟨rfl, hZ, hh⟩ := hP
  obtain ⟨t, v, L, h1, h2, h3, h4, h5⟩ := body p e s m below meth c s₁ Bd.exec Bd.bytes hml hZ (findClass_of_methodNamed Bd.named) (name_of_methodNamed Bd.named Bd.method).1 Bd.returns Bd.notSynchronized (Stand.of_body Bd) (by rw [← hh, Bd.state]; rfl)
  exact ⟨t, _, h1, h2, h3, v, L, rfl, h4, h5⟩
theorem entry {mm : MethodId} {as' : Array Value} {maxL : Nat} {g : JFrame} (q : entryFrame mm as' maxL = g) (k : OEnds p e below s C S Q T g) : OEnds p e below s C S Q T (entryFrame mm as' maxL) := q ▸ k
theorem s_iloadN (X : Stand p l e R s m args below meth c T locs cells slots) (hx : p.tables.exec = Jvm.exec) (hby : c.code = bytes) {i : Fin 4} {x : Int32} (hd : decode bytes pc = .ok (.iload_n i, 1)) (hl : L[i.val]? = some (.val (.int x))) (hn : pc + 1 = n) (k : OEnds p e below s C S Q T (mkF m n L (.int x :: st))) : OEnds p e below s C S Q T (mkF m pc L (st)) := by
  subst hn
  exact k.pre fun t r => XS.iloadN X.here hx rfl (hb hby hd) hl r
theorem s_iload (X : Stand p l e R s m args below meth c T locs cells slots) (hx : p.tables.exec = Jvm.exec) (hby : c.code = bytes) {i : Nat} {x : Int32} (hd : decode bytes pc = .ok (.iload i, 2)) (hl : L[i]? = some (.val (.int x))) (hn : pc + 2 = n) (k : OEnds p e below s C S Q T (mkF m n L (.int x :: st))) : OEnds p e below s C S Q T (mkF m pc L (st)) := by
  subst hn
  exact k.pre fun t r => XS.iload X.here hx rfl (hb hby hd) hl r
theorem s_lloadN (X : Stand p l e R s m args below meth c T locs cells slots) (hx : p.tables.exec = Jvm.exec) (hby : c.code = bytes) {i : Fin 4} {x : Int64} (hd : decode bytes pc = .ok (.lload_n i, 1)) (hl : L[i.val]? = some (.val (.long x))) (hn : pc + 1 = n) (k : OEnds p e below s C S Q T (mkF m n L (.long x :: st))) : OEnds p e below s C S Q T (mkF m pc L (st)) := by
  subst hn
  exact k.pre fun t r => XT.lloadN X.here hx rfl (hb hby hd) hl r
theorem s_lload (X : Stand p l e R s m args below meth c T locs cells slots) (hx : p.tables.exec = Jvm.exec) (hby : c.code = bytes) {i : Nat} {x : Int64} (hd : decode bytes pc = .ok (.lload i, 2)) (hl : L[i]? = some (.val (.long x))) (hn : pc + 2 = n) (k : OEnds p e below s C S Q T (mkF m n L (.long x :: st))) : OEnds p e below s C S Q T (mkF m pc L (st)) := by
  subst hn
  exact k.pre fun t r => XT.lload X.here hx rfl (hb hby hd) hl r
theorem s_aloadN (X : Stand p l e R s m args below meth c T locs cells slots) (hx : p.tables.exec = Jvm.exec) (hby : c.code = bytes) {i : Fin 4} {x : Value} (hd : decode bytes pc = .ok (.aload_n i, 1)) (hl : L[i.val]? = some (.val x)) (hv : x.isRef = true) (hn : pc + 1 = n) (k : OEnds p e below s C S Q T (mkF m n L (x :: st))) : OEnds p e below s C S Q T (mkF m pc L (st)) := by
  subst hn
  exact k.pre fun t r => XS.aloadN X.here hx rfl (hb hby hd) hl hv r
theorem s_aload (X : Stand p l e R s m args below meth c T locs cells slots) (hx : p.tables.exec = Jvm.exec) (hby : c.code = bytes) {i : Nat} {x : Value} (hd : decode bytes pc = .ok (.aload i, 2)) (hl : L[i]? = some (.val x)) (hv : x.isRef = true) (hn : pc + 2 = n) (k : OEnds p e below s C S Q T (mkF m n L (x :: st))) : OEnds p e below s C S Q T (mkF m pc L (st)) := by
  subst hn
  exact k.pre fun t r => XS.aload X.here hx rfl (hb hby hd) hl hv r
theorem s_istoreN (X : Stand p l e R s m args below meth c T locs cells slots) (hx : p.tables.exec = Jvm.exec) (hby : c.code = bytes) {i : Fin 4} {x : Int32} {L' : Array Slot} (hd : decode bytes pc = .ok (.istore_n i, 1)) (hl : storeLocals L i.val (.int x) = some L') (hn : pc + 1 = n) (k : OEnds p e below s C S Q T (mkF m n L' (st))) : OEnds p e below s C S Q T (mkF m pc L (.int x :: st)) := by
  subst hn
  exact k.pre fun t r => XS.istoreN X.here hx rfl (hb hby hd) rfl hl r
theorem s_istore (X : Stand p l e R s m args below meth c T locs cells slots) (hx : p.tables.exec = Jvm.exec) (hby : c.code = bytes) {i : Nat} {x : Int32} {L' : Array Slot} (hd : decode bytes pc = .ok (.istore i, 2)) (hl : storeLocals L i (.int x) = some L') (hn : pc + 2 = n) (k : OEnds p e below s C S Q T (mkF m n L' (st))) : OEnds p e below s C S Q T (mkF m pc L (.int x :: st)) := by
  subst hn
  exact k.pre fun t r => XS.istore X.here hx rfl (hb hby hd) rfl hl r
theorem s_lstoreN (X : Stand p l e R s m args below meth c T locs cells slots) (hx : p.tables.exec = Jvm.exec) (hby : c.code = bytes) {i : Fin 4} {x : Int64} {L' : Array Slot} (hd : decode bytes pc = .ok (.lstore_n i, 1)) (hl : storeLocals L i.val (.long x) = some L') (hn : pc + 1 = n) (k : OEnds p e below s C S Q T (mkF m n L' (st))) : OEnds p e below s C S Q T (mkF m pc L (.long x :: st)) := by
  subst hn
  exact k.pre fun t r => XT.lstoreN X.here hx rfl (hb hby hd) rfl hl r
theorem s_lstore (X : Stand p l e R s m args below meth c T locs cells slots) (hx : p.tables.exec = Jvm.exec) (hby : c.code = bytes) {i : Nat} {x : Int64} {L' : Array Slot} (hd : decode bytes pc = .ok (.lstore i, 2)) (hl : storeLocals L i (.long x) = some L') (hn : pc + 2 = n) (k : OEnds p e below s C S Q T (mkF m n L' (st))) : OEnds p e below s C S Q T (mkF m pc L (.long x :: st)) := by
  subst hn
  exact k.pre fun t r => XT.lstore X.here hx rfl (hb hby hd) rfl hl r
theorem s_astoreN (X : Stand p l e R s m args below meth c T locs cells slots) (hx : p.tables.exec = Jvm.exec) (hby : c.code = bytes) {i : Fin 4} {x : Value} {L' : Array Slot} (hd : decode bytes pc = .ok (.astore_n i, 1)) (hv : x.isRef = true) (hl : storeLocals L i.val x = some L') (hn : pc + 1 = n) (k : OEnds p e below s C S Q T (mkF m n L' (st))) : OEnds p e below s C S Q T (mkF m pc L (x :: st)) := by
  subst hn
  exact k.pre fun t r => XS.astoreN X.here hx rfl (hb hby hd) rfl hv hl r
theorem s_astore (X : Stand p l e R s m args below meth c T locs cells slots) (hx : p.tables.exec = Jvm.exec) (hby : c.code = bytes) {i : Nat} {x : Value} {L' : Array Slot} (hd : decode bytes pc = .ok (.astore i, 2)) (hv : x.isRef = true) (hl : storeLocals L i x = some L') (hn : pc + 2 = n) (k : OEnds p e below s C S Q T (mkF m n L' (st))) : OEnds p e below s C S Q T (mkF m pc L (x :: st)) := by
  subst hn
  exact k.pre fun t r => XS.astore X.here hx rfl (hb hby hd) rfl hv hl r
theorem s_iinc (X : Stand p l e R s m args below meth c T locs cells slots) (hx : p.tables.exec = Jvm.exec) (hby : c.code = bytes) {i : Nat} {cst : Int} {x v : Int32} {L' : Array Slot} (hd : decode bytes pc = .ok (.iinc i cst, 3)) (hv : Int32.ofInt cst = v) (hi : L[i]? = some (.val (.int x))) (hl : storeLocals L i (.int (x + v)) = some L') (hn : pc + 3 = n) (k : OEnds p e below s C S Q T (mkF m n L' (st))) : OEnds p e below s C S Q T (mkF m pc L (st)) := by
  subst hn
  exact k.pre fun t r => XT.iincV X.here hx rfl _ (hb hby hd) hv hi hl r
theorem s_iconst (X : Stand p l e R s m args below meth c T locs cells slots) (hx : p.tables.exec = Jvm.exec) (hby : c.code = bytes) {i : Int} {v : Int32} (hd : decode bytes pc = .ok (.iconst i, 1)) (hv : Int32.ofInt i = v) (hn : pc + 1 = n) (k : OEnds p e below s C S Q T (mkF m n L (.int v :: st))) : OEnds p e below s C S Q T (mkF m pc L (st)) := by
  subst hn
  exact k.pre fun t r => XT.iconstV X.here hx rfl _ (hb hby hd) hv r
theorem s_bipush (X : Stand p l e R s m args below meth c T locs cells slots) (hx : p.tables.exec = Jvm.exec) (hby : c.code = bytes) {i : Int} {v : Int32} (hd : decode bytes pc = .ok (.bipush i, 2)) (hv : (Int8.ofInt i).toInt32 = v) (hn : pc + 2 = n) (k : OEnds p e below s C S Q T (mkF m n L (.int v :: st))) : OEnds p e below s C S Q T (mkF m pc L (st)) := by
  subst hn
  exact k.pre fun t r => XT.bipushV X.here hx rfl _ (hb hby hd) hv r
theorem s_sipush (X : Stand p l e R s m args below meth c T locs cells slots) (hx : p.tables.exec = Jvm.exec) (hby : c.code = bytes) {i : Int} {v : Int32} (hd : decode bytes pc = .ok (.sipush i, 3)) (hv : (Int16.ofInt i).toInt32 = v) (hn : pc + 3 = n) (k : OEnds p e below s C S Q T (mkF m n L (.int v :: st))) : OEnds p e below s C S Q T (mkF m pc L (st)) := by
  subst hn
  exact k.pre fun t r => XT.sipushV X.here hx rfl _ (hb hby hd) hv r
theorem s_lconst (X : Stand p l e R s m args below meth c T locs cells slots) (hx : p.tables.exec = Jvm.exec) (hby : c.code = bytes) {i : Fin 2} {v : Int64} (hd : decode bytes pc = .ok (.lconst i, 1)) (hv : Int64.ofNat i = v) (hn : pc + 1 = n) (k : OEnds p e below s C S Q T (mkF m n L (.long v :: st))) : OEnds p e below s C S Q T (mkF m pc L (st)) := by
  subst hn
  exact k.pre fun t r => XT.lconstV X.here hx rfl _ (hb hby hd) hv r
theorem s_aconstNull (X : Stand p l e R s m args below meth c T locs cells slots) (hx : p.tables.exec = Jvm.exec) (hby : c.code = bytes)  (hd : decode bytes pc = .ok (.aconst_null, 1)) (hn : pc + 1 = n) (k : OEnds p e below s C S Q T (mkF m n L (.null :: st))) : OEnds p e below s C S Q T (mkF m pc L (st)) := by
  subst hn
  exact k.pre fun t r => XS.aconstNull X.here hx rfl (hb hby hd)  r
theorem s_iadd (X : Stand p l e R s m args below meth c T locs cells slots) (hx : p.tables.exec = Jvm.exec) (hby : c.code = bytes) {x y : Int32} (hd : decode bytes pc = .ok (.iadd, 1)) (hn : pc + 1 = n) (k : OEnds p e below s C S Q T (mkF m n L (.int (x + y) :: st))) : OEnds p e below s C S Q T (mkF m pc L (.int y :: .int x :: st)) := by
  subst hn
  exact k.pre fun t r => XS.iadd X.here hx rfl (hb hby hd) rfl r
theorem s_isub (X : Stand p l e R s m args below meth c T locs cells slots) (hx : p.tables.exec = Jvm.exec) (hby : c.code = bytes) {x y : Int32} (hd : decode bytes pc = .ok (.isub, 1)) (hn : pc + 1 = n) (k : OEnds p e below s C S Q T (mkF m n L (.int (x - y) :: st))) : OEnds p e below s C S Q T (mkF m pc L (.int y :: .int x :: st)) := by
  subst hn
  exact k.pre fun t r => XS.isub X.here hx rfl (hb hby hd) rfl r
theorem s_iand (X : Stand p l e R s m args below meth c T locs cells slots) (hx : p.tables.exec = Jvm.exec) (hby : c.code = bytes) {x y : Int32} (hd : decode bytes pc = .ok (.iand, 1)) (hn : pc + 1 = n) (k : OEnds p e below s C S Q T (mkF m n L (.int (x &&& y) :: st))) : OEnds p e below s C S Q T (mkF m pc L (.int y :: .int x :: st)) := by
  subst hn
  exact k.pre fun t r => XS.iand X.here hx rfl (hb hby hd) rfl r
theorem s_imul (X : Stand p l e R s m args below meth c T locs cells slots) (hx : p.tables.exec = Jvm.exec) (hby : c.code = bytes) {x y : Int32} (hd : decode bytes pc = .ok (.imul, 1)) (hn : pc + 1 = n) (k : OEnds p e below s C S Q T (mkF m n L (.int (x * y) :: st))) : OEnds p e below s C S Q T (mkF m pc L (.int y :: .int x :: st)) := by
  subst hn
  exact k.pre fun t r => XS.imul X.here hx rfl (hb hby hd) rfl r
theorem s_ixor (X : Stand p l e R s m args below meth c T locs cells slots) (hx : p.tables.exec = Jvm.exec) (hby : c.code = bytes) {x y : Int32} (hd : decode bytes pc = .ok (.ixor, 1)) (hn : pc + 1 = n) (k : OEnds p e below s C S Q T (mkF m n L (.int (x ^^^ y) :: st))) : OEnds p e below s C S Q T (mkF m pc L (.int y :: .int x :: st)) := by
  subst hn
  exact k.pre fun t r => XT.ixor X.here hx rfl (hb hby hd) rfl r
theorem s_ior (X : Stand p l e R s m args below meth c T locs cells slots) (hx : p.tables.exec = Jvm.exec) (hby : c.code = bytes) {x y : Int32} (hd : decode bytes pc = .ok (.ior, 1)) (hn : pc + 1 = n) (k : OEnds p e below s C S Q T (mkF m n L (.int (x ||| y) :: st))) : OEnds p e below s C S Q T (mkF m pc L (.int y :: .int x :: st)) := by
  subst hn
  exact k.pre fun t r => XT.ior X.here hx rfl (hb hby hd) rfl r
theorem s_ishl (X : Stand p l e R s m args below meth c T locs cells slots) (hx : p.tables.exec = Jvm.exec) (hby : c.code = bytes) {x y : Int32} (hd : decode bytes pc = .ok (.ishl, 1)) (hn : pc + 1 = n) (k : OEnds p e below s C S Q T (mkF m n L (.int (x <<< (y &&& 31)) :: st))) : OEnds p e below s C S Q T (mkF m pc L (.int y :: .int x :: st)) := by
  subst hn
  exact k.pre fun t r => XT.ishl X.here hx rfl (hb hby hd) rfl r
theorem s_ishr (X : Stand p l e R s m args below meth c T locs cells slots) (hx : p.tables.exec = Jvm.exec) (hby : c.code = bytes) {x y : Int32} (hd : decode bytes pc = .ok (.ishr, 1)) (hn : pc + 1 = n) (k : OEnds p e below s C S Q T (mkF m n L (.int (x >>> (y &&& 31)) :: st))) : OEnds p e below s C S Q T (mkF m pc L (.int y :: .int x :: st)) := by
  subst hn
  exact k.pre fun t r => XT.ishr X.here hx rfl (hb hby hd) rfl r
theorem s_iushr (X : Stand p l e R s m args below meth c T locs cells slots) (hx : p.tables.exec = Jvm.exec) (hby : c.code = bytes) {x y : Int32} (hd : decode bytes pc = .ok (.iushr, 1)) (hn : pc + 1 = n) (k : OEnds p e below s C S Q T (mkF m n L (.int (XT.ushr x y) :: st))) : OEnds p e below s C S Q T (mkF m pc L (.int y :: .int x :: st)) := by
  subst hn
  exact k.pre fun t r => XT.iushr X.here hx rfl (hb hby hd) rfl r
theorem s_ladd (X : Stand p l e R s m args below meth c T locs cells slots) (hx : p.tables.exec = Jvm.exec) (hby : c.code = bytes) {x y : Int64} (hd : decode bytes pc = .ok (.ladd, 1)) (hn : pc + 1 = n) (k : OEnds p e below s C S Q T (mkF m n L (.long (x + y) :: st))) : OEnds p e below s C S Q T (mkF m pc L (.long y :: .long x :: st)) := by
  subst hn
  exact k.pre fun t r => XT.ladd X.here hx rfl (hb hby hd) rfl r
theorem s_lsub (X : Stand p l e R s m args below meth c T locs cells slots) (hx : p.tables.exec = Jvm.exec) (hby : c.code = bytes) {x y : Int64} (hd : decode bytes pc = .ok (.lsub, 1)) (hn : pc + 1 = n) (k : OEnds p e below s C S Q T (mkF m n L (.long (x - y) :: st))) : OEnds p e below s C S Q T (mkF m pc L (.long y :: .long x :: st)) := by
  subst hn
  exact k.pre fun t r => XT.lsub X.here hx rfl (hb hby hd) rfl r
theorem s_lmul (X : Stand p l e R s m args below meth c T locs cells slots) (hx : p.tables.exec = Jvm.exec) (hby : c.code = bytes) {x y : Int64} (hd : decode bytes pc = .ok (.lmul, 1)) (hn : pc + 1 = n) (k : OEnds p e below s C S Q T (mkF m n L (.long (x * y) :: st))) : OEnds p e below s C S Q T (mkF m pc L (.long y :: .long x :: st)) := by
  subst hn
  exact k.pre fun t r => XT.lmul X.here hx rfl (hb hby hd) rfl r
theorem s_land (X : Stand p l e R s m args below meth c T locs cells slots) (hx : p.tables.exec = Jvm.exec) (hby : c.code = bytes) {x y : Int64} (hd : decode bytes pc = .ok (.land, 1)) (hn : pc + 1 = n) (k : OEnds p e below s C S Q T (mkF m n L (.long (x &&& y) :: st))) : OEnds p e below s C S Q T (mkF m pc L (.long y :: .long x :: st)) := by
  subst hn
  exact k.pre fun t r => XT.land X.here hx rfl (hb hby hd) rfl r
theorem s_lor (X : Stand p l e R s m args below meth c T locs cells slots) (hx : p.tables.exec = Jvm.exec) (hby : c.code = bytes) {x y : Int64} (hd : decode bytes pc = .ok (.lor, 1)) (hn : pc + 1 = n) (k : OEnds p e below s C S Q T (mkF m n L (.long (x ||| y) :: st))) : OEnds p e below s C S Q T (mkF m pc L (.long y :: .long x :: st)) := by
  subst hn
  exact k.pre fun t r => XT.lor X.here hx rfl (hb hby hd) rfl r
theorem s_lxor (X : Stand p l e R s m args below meth c T locs cells slots) (hx : p.tables.exec = Jvm.exec) (hby : c.code = bytes) {x y : Int64} (hd : decode bytes pc = .ok (.lxor, 1)) (hn : pc + 1 = n) (k : OEnds p e below s C S Q T (mkF m n L (.long (x ^^^ y) :: st))) : OEnds p e below s C S Q T (mkF m pc L (.long y :: .long x :: st)) := by
  subst hn
  exact k.pre fun t r => XT.lxor X.here hx rfl (hb hby hd) rfl r
theorem s_lshl (X : Stand p l e R s m args below meth c T locs cells slots) (hx : p.tables.exec = Jvm.exec) (hby : c.code = bytes) {x : Int64} {y : Int32} (hd : decode bytes pc = .ok (.lshl, 1)) (hn : pc + 1 = n) (k : OEnds p e below s C S Q T (mkF m n L (.long (x <<< (y.toInt64 &&& 63)) :: st))) : OEnds p e below s C S Q T (mkF m pc L (.int y :: .long x :: st)) := by
  subst hn
  exact k.pre fun t r => XT.lshl X.here hx rfl (hb hby hd) rfl r
theorem s_lshr (X : Stand p l e R s m args below meth c T locs cells slots) (hx : p.tables.exec = Jvm.exec) (hby : c.code = bytes) {x : Int64} {y : Int32} (hd : decode bytes pc = .ok (.lshr, 1)) (hn : pc + 1 = n) (k : OEnds p e below s C S Q T (mkF m n L (.long (x >>> (y.toInt64 &&& 63)) :: st))) : OEnds p e below s C S Q T (mkF m pc L (.int y :: .long x :: st)) := by
  subst hn
  exact k.pre fun t r => XT.lshr X.here hx rfl (hb hby hd) rfl r
theorem s_lushr (X : Stand p l e R s m args below meth c T locs cells slots) (hx : p.tables.exec = Jvm.exec) (hby : c.code = bytes) {x : Int64} {y : Int32} (hd : decode bytes pc = .ok (.lushr, 1)) (hn : pc + 1 = n) (k : OEnds p e below s C S Q T (mkF m n L (.long (XT.ushrL x y) :: st))) : OEnds p e below s C S Q T (mkF m pc L (.int y :: .long x :: st)) := by
  subst hn
  exact k.pre fun t r => XT.lushr X.here hx rfl (hb hby hd) rfl r
theorem s_idiv (X : Stand p l e R s m args below meth c T locs cells slots) (hx : p.tables.exec = Jvm.exec) (hby : c.code = bytes) {x y : Int32} (hd : decode bytes pc = .ok (.idiv, 1)) (hy : y ≠ 0) (hn : pc + 1 = n) (k : OEnds p e below s C S Q T (mkF m n L (.int (x / y) :: st))) : OEnds p e below s C S Q T (mkF m pc L (.int y :: .int x :: st)) := by
  subst hn
  exact k.pre fun t r => XS.idiv X.here hx rfl (hb hby hd) rfl hy r
theorem s_ldiv (X : Stand p l e R s m args below meth c T locs cells slots) (hx : p.tables.exec = Jvm.exec) (hby : c.code = bytes) {x y : Int64} (hd : decode bytes pc = .ok (.ldiv, 1)) (hy : y ≠ 0) (hn : pc + 1 = n) (k : OEnds p e below s C S Q T (mkF m n L (.long (x / y) :: st))) : OEnds p e below s C S Q T (mkF m pc L (.long y :: .long x :: st)) := by
  subst hn
  exact k.pre fun t r => XT.ldiv X.here hx rfl (hb hby hd) rfl hy r
theorem s_irem (X : Stand p l e R s m args below meth c T locs cells slots) (hx : p.tables.exec = Jvm.exec) (hby : c.code = bytes) {x y : Int32} (hd : decode bytes pc = .ok (.irem, 1)) (hy : y ≠ 0) (hn : pc + 1 = n) (k : OEnds p e below s C S Q T (mkF m n L (.int (x % y) :: st))) : OEnds p e below s C S Q T (mkF m pc L (.int y :: .int x :: st)) := by
  subst hn
  exact k.pre fun t r => iremM X hx rfl (hb hby hd) rfl hy r
theorem s_lrem (X : Stand p l e R s m args below meth c T locs cells slots) (hx : p.tables.exec = Jvm.exec) (hby : c.code = bytes) {x y : Int64} (hd : decode bytes pc = .ok (.lrem, 1)) (hy : y ≠ 0) (hn : pc + 1 = n) (k : OEnds p e below s C S Q T (mkF m n L (.long (x % y) :: st))) : OEnds p e below s C S Q T (mkF m pc L (.long y :: .long x :: st)) := by
  subst hn
  rw [← lrem_mod] at k
  exact k.pre fun t r => XT.lrem X.here hx rfl (hb hby hd) rfl hy r
theorem s_ineg (X : Stand p l e R s m args below meth c T locs cells slots) (hx : p.tables.exec = Jvm.exec) (hby : c.code = bytes) {x : Int32} (hd : decode bytes pc = .ok (.ineg, 1)) (hn : pc + 1 = n) (k : OEnds p e below s C S Q T (mkF m n L (.int (-x) :: st))) : OEnds p e below s C S Q T (mkF m pc L (.int x :: st)) := by
  subst hn
  exact k.pre fun t r => XS.ineg X.here hx rfl (hb hby hd) rfl r
theorem s_lneg (X : Stand p l e R s m args below meth c T locs cells slots) (hx : p.tables.exec = Jvm.exec) (hby : c.code = bytes) {x : Int64} (hd : decode bytes pc = .ok (.lneg, 1)) (hn : pc + 1 = n) (k : OEnds p e below s C S Q T (mkF m n L (.long (-x) :: st))) : OEnds p e below s C S Q T (mkF m pc L (.long x :: st)) := by
  subst hn
  exact k.pre fun t r => XT.lneg X.here hx rfl (hb hby hd) rfl r
theorem s_i2l (X : Stand p l e R s m args below meth c T locs cells slots) (hx : p.tables.exec = Jvm.exec) (hby : c.code = bytes) {x : Int32} (hd : decode bytes pc = .ok (.i2l, 1)) (hn : pc + 1 = n) (k : OEnds p e below s C S Q T (mkF m n L (.long x.toInt64 :: st))) : OEnds p e below s C S Q T (mkF m pc L (.int x :: st)) := by
  subst hn
  exact k.pre fun t r => XT.i2l X.here hx rfl (hb hby hd) rfl r
theorem s_l2i (X : Stand p l e R s m args below meth c T locs cells slots) (hx : p.tables.exec = Jvm.exec) (hby : c.code = bytes) {x : Int64} (hd : decode bytes pc = .ok (.l2i, 1)) (hn : pc + 1 = n) (k : OEnds p e below s C S Q T (mkF m n L (.int x.toInt32 :: st))) : OEnds p e below s C S Q T (mkF m pc L (.long x :: st)) := by
  subst hn
  exact k.pre fun t r => XT.l2i X.here hx rfl (hb hby hd) rfl r
theorem s_i2b (X : Stand p l e R s m args below meth c T locs cells slots) (hx : p.tables.exec = Jvm.exec) (hby : c.code = bytes) {x : Int32} (hd : decode bytes pc = .ok (.i2b, 1)) (hn : pc + 1 = n) (k : OEnds p e below s C S Q T (mkF m n L (.int x.toInt8.toInt32 :: st))) : OEnds p e below s C S Q T (mkF m pc L (.int x :: st)) := by
  subst hn
  exact k.pre fun t r => XT.i2b X.here hx rfl (hb hby hd) rfl r
theorem s_i2c (X : Stand p l e R s m args below meth c T locs cells slots) (hx : p.tables.exec = Jvm.exec) (hby : c.code = bytes) {x : Int32} (hd : decode bytes pc = .ok (.i2c, 1)) (hn : pc + 1 = n) (k : OEnds p e below s C S Q T (mkF m n L (.int x.toUInt32.toUInt16.toUInt32.toInt32 :: st))) : OEnds p e below s C S Q T (mkF m pc L (.int x :: st)) := by
  subst hn
  exact k.pre fun t r => XT.i2c X.here hx rfl (hb hby hd) rfl r
theorem s_i2s (X : Stand p l e R s m args below meth c T locs cells slots) (hx : p.tables.exec = Jvm.exec) (hby : c.code = bytes) {x : Int32} (hd : decode bytes pc = .ok (.i2s, 1)) (hn : pc + 1 = n) (k : OEnds p e below s C S Q T (mkF m n L (.int x.toInt16.toInt32 :: st))) : OEnds p e below s C S Q T (mkF m pc L (.int x :: st)) := by
  subst hn
  exact k.pre fun t r => XT.i2s X.here hx rfl (hb hby hd) rfl r
theorem s_lcmp (X : Stand p l e R s m args below meth c T locs cells slots) (hx : p.tables.exec = Jvm.exec) (hby : c.code = bytes) {x y : Int64} (hd : decode bytes pc = .ok (.lcmp, 1)) (hn : pc + 1 = n) (k : OEnds p e below s C S Q T (mkF m n L (.int (XT.cmpL x y) :: st))) : OEnds p e below s C S Q T (mkF m pc L (.long y :: .long x :: st)) := by
  subst hn
  exact k.pre fun t r => XT.lcmp X.here hx rfl (hb hby hd) rfl r
theorem s_dup (X : Stand p l e R s m args below meth c T locs cells slots) (hx : p.tables.exec = Jvm.exec) (hby : c.code = bytes) {x : Value} (hd : decode bytes pc = .ok (.dup, 1)) (hc : x.category = 1) (hn : pc + 1 = n) (k : OEnds p e below s C S Q T (mkF m n L (x :: x :: st))) : OEnds p e below s C S Q T (mkF m pc L (x :: st)) := by
  subst hn
  exact k.pre fun t r => XS.dup X.here hx rfl (hb hby hd) rfl hc r
theorem s_pop (X : Stand p l e R s m args below meth c T locs cells slots) (hx : p.tables.exec = Jvm.exec) (hby : c.code = bytes) {x : Value} (hd : decode bytes pc = .ok (.pop, 1)) (hc : x.category = 1) (hn : pc + 1 = n) (k : OEnds p e below s C S Q T (mkF m n L (st))) : OEnds p e below s C S Q T (mkF m pc L (x :: st)) := by
  subst hn
  exact k.pre fun t r => XT.pop X.here hx rfl (hb hby hd) rfl hc r
theorem s_dupX1 (X : Stand p l e R s m args below meth c T locs cells slots) (hx : p.tables.exec = Jvm.exec) (hby : c.code = bytes) {x y : Value} (hd : decode bytes pc = .ok (.dup_x1, 1)) (hc : x.category = 1) (hc' : y.category = 1) (hn : pc + 1 = n) (k : OEnds p e below s C S Q T (mkF m n L (x :: y :: x :: st))) : OEnds p e below s C S Q T (mkF m pc L (x :: y :: st)) := by
  subst hn
  exact k.pre fun t r => XT.dupX1 X.here hx rfl (hb hby hd) rfl hc hc' r
theorem s_dup2 (X : Stand p l e R s m args below meth c T locs cells slots) (hx : p.tables.exec = Jvm.exec) (hby : c.code = bytes) {x y : Value} (hd : decode bytes pc = .ok (.dup2, 1)) (hc : x.category = 1) (hc' : y.category = 1) (hn : pc + 1 = n) (k : OEnds p e below s C S Q T (mkF m n L (x :: y :: x :: y :: st))) : OEnds p e below s C S Q T (mkF m pc L (x :: y :: st)) := by
  subst hn
  exact k.pre fun t r => XT.dup2 X.here hx rfl (hb hby hd) rfl hc hc' r
theorem s_dup2L (X : Stand p l e R s m args below meth c T locs cells slots) (hx : p.tables.exec = Jvm.exec) (hby : c.code = bytes) {x : Int64} (hd : decode bytes pc = .ok (.dup2, 1)) (hn : pc + 1 = n) (k : OEnds p e below s C S Q T (mkF m n L (.long x :: .long x :: st))) : OEnds p e below s C S Q T (mkF m pc L (.long x :: st)) := by
  subst hn
  exact k.pre fun t r => XT.dup2L X.here hx rfl (hb hby hd) rfl r
theorem s_goto (X : Stand p l e R s m args below meth c T locs cells slots) (hx : p.tables.exec = Jvm.exec) (hby : c.code = bytes) {o : Int}  (hd : decode bytes pc = .ok (.goto o, 3)) (ho : 0 ≤ (pc : Int) + o) (hn : ((pc : Int) + o).toNat = n) (k : OEnds p e below s C S Q T (mkF m n L st)) : OEnds p e below s C S Q T (mkF m pc L (st)) :=
  k.pre fun t r => XS.goto X.here hx rfl rfl (hb hby hd)  ho hn r
theorem s_ifY (X : Stand p l e R s m args below meth c T locs cells slots) (hx : p.tables.exec = Jvm.exec) (hby : c.code = bytes) {o : Int} {cd : ClassFile.Cond} {x : Int32} (hd : decode bytes pc = .ok (.ifCond cd o, 3)) (hc : ifCond.holds cd x = true) (ho : 0 ≤ (pc : Int) + o) (hn : ((pc : Int) + o).toNat = n) (k : OEnds p e below s C S Q T (mkF m n L st)) : OEnds p e below s C S Q T (mkF m pc L (.int x :: st)) :=
  k.pre fun t r => XS.ifYes X.here hx rfl rfl (hb hby hd) rfl hc ho hn r
theorem s_ifN (X : Stand p l e R s m args below meth c T locs cells slots) (hx : p.tables.exec = Jvm.exec) (hby : c.code = bytes) {o : Int} {cd : ClassFile.Cond} {x : Int32} (hd : decode bytes pc = .ok (.ifCond cd o, 3)) (hc : ifCond.holds cd x = false) (hn : pc + 3 = n) (k : OEnds p e below s C S Q T (mkF m n L st)) : OEnds p e below s C S Q T (mkF m pc L (.int x :: st)) := by
  subst hn
  exact k.pre fun t r => XS.ifNo X.here hx rfl (hb hby hd) rfl hc r
theorem s_icmpY (X : Stand p l e R s m args below meth c T locs cells slots) (hx : p.tables.exec = Jvm.exec) (hby : c.code = bytes) {o : Int} {cd : ClassFile.Cond} {x y : Int32} (hd : decode bytes pc = .ok (.if_icmp cd o, 3)) (hc : if_icmp.holds cd x y = true) (ho : 0 ≤ (pc : Int) + o) (hn : ((pc : Int) + o).toNat = n) (k : OEnds p e below s C S Q T (mkF m n L st)) : OEnds p e below s C S Q T (mkF m pc L (.int y :: .int x :: st)) :=
  k.pre fun t r => XS.icmpYes X.here hx rfl rfl (hb hby hd) rfl hc ho hn r
theorem s_icmpN (X : Stand p l e R s m args below meth c T locs cells slots) (hx : p.tables.exec = Jvm.exec) (hby : c.code = bytes) {o : Int} {cd : ClassFile.Cond} {x y : Int32} (hd : decode bytes pc = .ok (.if_icmp cd o, 3)) (hc : if_icmp.holds cd x y = false) (hn : pc + 3 = n) (k : OEnds p e below s C S Q T (mkF m n L st)) : OEnds p e below s C S Q T (mkF m pc L (.int y :: .int x :: st)) := by
  subst hn
  exact k.pre fun t r => XS.icmpNo X.here hx rfl (hb hby hd) rfl hc r
theorem s_acmpY (X : Stand p l e R s m args below meth c T locs cells slots) (hx : p.tables.exec = Jvm.exec) (hby : c.code = bytes) {o : Int} {cd : ClassFile.ACond} {x y : Value} (hd : decode bytes pc = .ok (.if_acmp cd o, 3)) (h1 : x.isRef = true) (h2 : y.isRef = true) (hc : XT.acmp cd x y = true) (ho : 0 ≤ (pc : Int) + o) (hn : ((pc : Int) + o).toNat = n) (k : OEnds p e below s C S Q T (mkF m n L st)) : OEnds p e below s C S Q T (mkF m pc L (y :: x :: st)) :=
  k.pre fun t r => XT.acmpYes X.here hx rfl rfl (hb hby hd) rfl h1 h2 hc ho hn r
theorem s_acmpN (X : Stand p l e R s m args below meth c T locs cells slots) (hx : p.tables.exec = Jvm.exec) (hby : c.code = bytes) {o : Int} {cd : ClassFile.ACond} {x y : Value} (hd : decode bytes pc = .ok (.if_acmp cd o, 3)) (h1 : x.isRef = true) (h2 : y.isRef = true) (hc : XT.acmp cd x y = false) (hn : pc + 3 = n) (k : OEnds p e below s C S Q T (mkF m n L st)) : OEnds p e below s C S Q T (mkF m pc L (y :: x :: st)) := by
  subst hn
  exact k.pre fun t r => XT.acmpNo X.here hx rfl (hb hby hd) rfl h1 h2 hc r
theorem s_nullY (X : Stand p l e R s m args below meth c T locs cells slots) (hx : p.tables.exec = Jvm.exec) (hby : c.code = bytes) {o : Int} {x : Value} (hd : decode bytes pc = .ok (.ifnull o, 3)) (hv : x = .null) (ho : 0 ≤ (pc : Int) + o) (hn : ((pc : Int) + o).toNat = n) (k : OEnds p e below s C S Q T (mkF m n L st)) : OEnds p e below s C S Q T (mkF m pc L (x :: st)) :=
  k.pre fun t r => XT.nullYes X.here hx rfl rfl (hb hby hd) rfl hv ho hn r
theorem s_nullN (X : Stand p l e R s m args below meth c T locs cells slots) (hx : p.tables.exec = Jvm.exec) (hby : c.code = bytes) {o : Int} {x : Value} (hd : decode bytes pc = .ok (.ifnull o, 3)) (h1 : x.isRef = true) (hv : ¬ x = .null) (hn : pc + 3 = n) (k : OEnds p e below s C S Q T (mkF m n L st)) : OEnds p e below s C S Q T (mkF m pc L (x :: st)) := by
  subst hn
  exact k.pre fun t r => XT.nullNo X.here hx rfl (hb hby hd) rfl h1 hv r
theorem s_nonnullY (X : Stand p l e R s m args below meth c T locs cells slots) (hx : p.tables.exec = Jvm.exec) (hby : c.code = bytes) {o : Int} {x : Value} (hd : decode bytes pc = .ok (.ifnonnull o, 3)) (h1 : x.isRef = true) (hv : ¬ x = .null) (ho : 0 ≤ (pc : Int) + o) (hn : ((pc : Int) + o).toNat = n) (k : OEnds p e below s C S Q T (mkF m n L st)) : OEnds p e below s C S Q T (mkF m pc L (x :: st)) :=
  k.pre fun t r => XT.nonnullYes X.here hx rfl rfl (hb hby hd) rfl h1 hv ho hn r
theorem s_nonnullN (X : Stand p l e R s m args below meth c T locs cells slots) (hx : p.tables.exec = Jvm.exec) (hby : c.code = bytes) {o : Int} {x : Value} (hd : decode bytes pc = .ok (.ifnonnull o, 3)) (hv : x = .null) (hn : pc + 3 = n) (k : OEnds p e below s C S Q T (mkF m n L st)) : OEnds p e below s C S Q T (mkF m pc L (x :: st)) := by
  subst hn
  exact k.pre fun t r => XT.nonnullNo X.here hx rfl (hb hby hd) rfl hv r
theorem s_iincC (X : Stand p l e R s m args below meth c T locs cells slots) (hx : p.tables.exec = Jvm.exec) (hby : c.code = bytes) {i : Nat} {cst : Int} {x v z : Int32} {L' : Array Slot} (hd : decode bytes pc = .ok (.iinc i cst, 3)) (hv : Int32.ofInt cst = v) (hi : L[i]? = some (.val (.int x))) (hz : x + v = z) (hl : storeLocals L i (.int z) = some L') (hn : pc + 3 = n) (k : OEnds p e below s C S Q T (mkF m n L' (st))) : OEnds p e below s C S Q T (mkF m pc L (st)) := by
  subst hn
  exact k.pre fun t r => XT.iincV X.here hx rfl _ (hb hby hd) hv hi (hz ▸ hl) r

theorem s_fold {x z : Int32} (hz : x = z) (k : OEnds p e below s C S Q T (mkF m pc L (.int z :: st))) : OEnds p e below s C S Q T (mkF m pc L (.int x :: st)) := hz ▸ k
theorem s_foldJ {x z : Int64} (hz : x = z) (k : OEnds p e below s C S Q T (mkF m pc L (.long z :: st))) : OEnds p e below s C S Q T (mkF m pc L (.long x :: st)) := hz ▸ k
/-- the constants of the pool -/
theorem s_ldcI (X : Stand p l e R s m args below meth c T locs cells slots) (hx : p.tables.exec = Jvm.exec) (hby : c.code = bytes) (hZ : Z.Warmed39 s.vm) {own : String} {index : Nat} {v : Int32} (hown : s.vm.findClass own = some m.cls) (w : (Jvm.Cond.constant own index v).before a0 Z = true) (hd : decode bytes pc = .ok (.ldc index, 2)) (hn : pc + 2 = n) (k : OEnds p e below s C S Q T (mkF m n L (.int v :: st))) : OEnds p e below s C S Q T (mkF m pc L st) := by
  subst hn
  exact k.pre fun t r => X.ldcI hx hown (mvT hZ w) rfl (hb hby hd) r
theorem s_ldcWI (X : Stand p l e R s m args below meth c T locs cells slots) (hx : p.tables.exec = Jvm.exec) (hby : c.code = bytes) (hZ : Z.Warmed39 s.vm) {own : String} {index : Nat} {v : Int32} (hown : s.vm.findClass own = some m.cls) (w : (Jvm.Cond.constant own index v).before a0 Z = true) (hd : decode bytes pc = .ok (.ldc_w index, 3)) (hn : pc + 3 = n) (k : OEnds p e below s C S Q T (mkF m n L (.int v :: st))) : OEnds p e below s C S Q T (mkF m pc L st) := by
  subst hn
  exact k.pre fun t r => X.ldcWI hx hown (mvT hZ w) rfl (hb hby hd) r
theorem s_ldc2J (X : Stand p l e R s m args below meth c T locs cells slots) (hx : p.tables.exec = Jvm.exec) (hby : c.code = bytes) (hZ : Z.Warmed39 s.vm) {own : String} {index : Nat} {v : Int64} (hown : s.vm.findClass own = some m.cls) (w : (Jvm.Cond.constantLong own index v).before a0 Z = true) (hd : decode bytes pc = .ok (.ldc2_w index, 3)) (hn : pc + 3 = n) (k : OEnds p e below s C S Q T (mkF m n L (.long v :: st))) : OEnds p e below s C S Q T (mkF m pc L st) := by
  subst hn
  exact k.pre fun t r => X.ldc2J hx hown (mvT hZ w) rfl (hb hby hd) r
/-- the returns -/
theorem s_retV (X : Stand p l e R s m args below meth c T locs cells slots) (hx : p.tables.exec = Jvm.exec) (hby : c.code = bytes) (hlk : meth.locks = false) {t : FieldType} (hret : meth.sig.returnType = some t) {w : Value} {i : Instr} (hi : (i = .ireturn ∧ (t = .int ∨ t = .boolean ∨ t = .byte ∨ t = .char ∨ t = .short) ∧ ∃ z, w = .int z) ∨ (i = .lreturn ∧ t = .long ∧ ∃ z, w = .long z) ∨ (i = .dreturn ∧ t = .double ∧ ∃ z, w = .double z) ∨ (i = .freturn ∧ t = .float ∧ ∃ z, w = .float z) ∨ (i = .areturn ∧ t.isReference = true ∧ w.isRef = true))
    (hnw : narrow t w = w) (hd : decode bytes pc = .ok (i, 1)) (hc : cells ≤ C) (hs : slots ≤ S) (q : Q (some w) T.heap locs) : OEnds p e below s C S Q T (mkF m pc L (w :: st)) := by
  obtain ⟨fs, hr, hrun, hended, hW, hsame⟩ := X.leave (v := some w) (fun h => by rw [hret] at h; cases h) hlk
  exact ⟨_, _, _, retOut X hx hret hnw hi (hb hby hd) hr, hrun, hended, q, ⟨_, rfl⟩, hW, hsame.mono hc hs⟩
theorem s_retI (X : Stand p l e R s m args below meth c T locs cells slots) (hx : p.tables.exec = Jvm.exec) (hby : c.code = bytes) (hlk : meth.locks = false) (hret : meth.sig.returnType = some .int) {z : Int32} (hd : decode bytes pc = .ok (.ireturn, 1)) (hc : cells ≤ C) (hs : slots ≤ S) (q : Q (some (.int z)) T.heap locs) : OEnds p e below s C S Q T (mkF m pc L (.int z :: st)) :=
  s_retV X hx hby hlk hret (Or.inl ⟨rfl, Or.inl rfl, _, rfl⟩) rfl hd hc hs q
theorem s_retJ (X : Stand p l e R s m args below meth c T locs cells slots) (hx : p.tables.exec = Jvm.exec) (hby : c.code = bytes) (hlk : meth.locks = false) (hret : meth.sig.returnType = some .long) {z : Int64} (hd : decode bytes pc = .ok (.lreturn, 1)) (hc : cells ≤ C) (hs : slots ≤ S) (q : Q (some (.long z)) T.heap locs) : OEnds p e below s C S Q T (mkF m pc L (.long z :: st)) :=
  s_retV X hx hby hlk hret (Or.inr (Or.inl ⟨rfl, rfl, _, rfl⟩)) rfl hd hc hs q
theorem s_retA (X : Stand p l e R s m args below meth c T locs cells slots) (hx : p.tables.exec = Jvm.exec) (hby : c.code = bytes) (hlk : meth.locks = false) {t : FieldType} (hret : meth.sig.returnType = some t) (ht : t.isReference = true) {w : Value} (hw : w.isRef = true) (hd : decode bytes pc = .ok (.areturn, 1)) (hc : cells ≤ C) (hs : slots ≤ S) (q : Q (some w) T.heap locs) : OEnds p e below s C S Q T (mkF m pc L (w :: st)) :=
  s_retV X hx hby hlk hret (Or.inr (Or.inr (Or.inr (Or.inr ⟨rfl, ht, hw⟩)))) (by cases w <;> cases t <;> simp_all [Value.isRef, FieldType.isReference, narrow]) hd hc hs q
theorem s_retN (X : Stand p l e R s m args below meth c T locs cells slots) (hx : p.tables.exec = Jvm.exec) (hby : c.code = bytes) (hlk : meth.locks = false) {t : FieldType} (hret : meth.sig.returnType = some t) (ht : t = .boolean ∨ t = .byte ∨ t = .char ∨ t = .short) {z z' : Int32} (hz : nar t z = z') (hd : decode bytes pc = .ok (.ireturn, 1)) (hc : cells ≤ C) (hs : slots ≤ S) (q : Q (some (.int z')) T.heap locs) : OEnds p e below s C S Q T (mkF m pc L (.int z :: st)) := by
  subst hz
  obtain ⟨fs, hr, hrun, hended, hW, hsame⟩ := X.leave (v := some (.int (nar t z))) (fun h => by rw [hret] at h; cases h) hlk
  exact ⟨_, _, _, retN X hx hret ht (hb hby hd) hr, hrun, hended, q, ⟨_, rfl⟩, hW, hsame.mono hc hs⟩
theorem s_ret (X : Stand p l e R s m args below meth c T locs cells slots) (hx : p.tables.exec = Jvm.exec) (hby : c.code = bytes) (hlk : meth.locks = false) (hret : meth.sig.returnType = none) (hd : decode bytes pc = .ok (.return_, 1)) (hc : cells ≤ C) (hs : slots ≤ S) (q : Q none T.heap locs) : OEnds p e below s C S Q T (mkF m pc L []) := by
  obtain ⟨fs, hr, hrun, hended, hW, hsame⟩ := X.leave (v := none) (fun _ => rfl) hlk
  exact ⟨_, _, _, X.returnOut hx hret (hb hby hd) hr, hrun, hended, q, ⟨_, rfl⟩, hW, hsame.mono hc hs⟩
/-- the heap: fields -/
theorem s_getF (X : Stand p l e R s m args below meth c T locs cells slots) (hx : p.tables.exec = Jvm.exec) (hby : c.code = bytes) (hZ : Z.Warmed39 s.vm) {own O f d : String} {index : Nat} (hown : s.vm.findClass own = some m.cls) (w : (Jvm.Cond.fieldLink own index O f d).before a0 Z = true) (eT : T.heap = h) {a : Addr} {v : Value} (F : Fld Z h a O f d v) (hd : decode bytes pc = .ok (.getfield index, 3)) (hn : pc + 3 = n)
    (k : ∀ T', Stand p l e R s m args below meth c T' locs cells slots → T'.heap = h → OEnds p e below s C S Q T' (mkF m n L (v :: st))) : OEnds p e below s C S Q T (mkF m pc L (.ref a :: st)) := by
  subst hn
  obtain ⟨T', X', e', f'⟩ := getF X hx hZ hown (host := "") (Or.inl w) Via.refl eT F (g := mkF m pc L (.ref a :: st)) rfl rfl (hb hby hd)
  exact (k T' X' e').pre f'
theorem s_putF (X : Stand p l e R s m args below meth c T locs cells slots) (hx : p.tables.exec = Jvm.exec) (hby : c.code = bytes) (hZ : Z.Warmed39 s.vm) {own O f d K : String} {index kk : Nat} {ty : FieldType} (hown : s.vm.findClass own = some m.cls) (w : (Jvm.Cond.fieldLink own index O f d).before a0 Z = true) (eT : T.heap = h) {a : Addr} {v old : Value} (F : Fld Z h a O f d old) (E : Exa Z h a K)
    (Lw : (Jvm.Cond.lays K O f d).before a0 Z = true ∨ ((Jvm.Cond.laysFinal K O f d).before a0 Z = true ∧ own = O ∧ meth.name = "<init>")) (wi : (Jvm.Cond.instantiable K kk).before a0 Z = true) (hty : parseFieldDescriptor d = some ty) (hnw : narrow ty v = v) (hf : fits ty v = true) (hd : decode bytes pc = .ok (.putfield index, 3)) (hn : pc + 3 = n)
    (k : ∀ T' h', Stand p l e R s m args below meth c T' (locs ++ [⟨a, RoadKit.slotOf Z O f d⟩]) cells slots → T'.heap = h' → Wr h h' a (RoadKit.slotOf Z O f d) v → OEnds p e below s C S Q T' (mkF m n L st)) : OEnds p e below s C S Q T (mkF m pc L (v :: .ref a :: st)) := by
  subst hn
  obtain ⟨T', h', X', e', W', f'⟩ := putF X hx hZ hown (host := "") (Or.inl w) Via.refl eT F E Lw wi hty hnw hf (g := mkF m pc L (v :: .ref a :: st)) rfl rfl (hb hby hd)
  exact (k T' h' X' e' W').pre f'
theorem s_getS (X : Stand p l e R s m args below meth c T locs cells slots) (hx : p.tables.exec = Jvm.exec) (hby : c.code = bytes) (hZ : Z.Warmed39 s.vm) {own O f d : String} {index : Nat} (hown : s.vm.findClass own = some m.cls) (w : (Jvm.Cond.fieldLink own index O f d).before a0 Z = true) (eT : T.heap = h) {v : Value} (F : Sta Z h O f d v) (hd : decode bytes pc = .ok (.getstatic index, 3)) (hn : pc + 3 = n)
    (k : ∀ T', Stand p l e R s m args below meth c T' locs cells slots → T'.heap = h → OEnds p e below s C S Q T' (mkF m n L (v :: st))) : OEnds p e below s C S Q T (mkF m pc L st) := by
  subst hn
  obtain ⟨T', X', e', f'⟩ := getS X hx hZ hown (host := "") w Via.refl eT F (g := mkF m pc L st) rfl (hb hby hd)
  exact (k T' X' e').pre f'
theorem s_newO (X : Stand p l e R s m args below meth c T locs cells slots) (hx : p.tables.exec = Jvm.exec) (hby : c.code = bytes) (hZ : Z.Warmed39 s.vm) {own K : String} {index num : Nat} (hown : s.vm.findClass own = some m.cls) (w : (Jvm.Cond.classLink own index K).before a0 Z = true) (wi : (Jvm.Cond.instantiable K num).before a0 Z = true) (wz : (Jvm.Cond.initialized K).before a0 Z = true) (eT : T.heap = h) (hc : cells + 1 ≤ R.cells) (hl : slots + num ≤ R.slots) (hd : decode bytes pc = .ok (.new index, 3)) (hn : pc + 3 = n)
    (k : ∀ T' h' a, a = h.size → Stand p l e R s m args below meth c T' locs (cells + 1) (slots + num) → T'.heap = h' → Ext h h' → Exa Z h' a K → (∀ {O nm d : String} {ty : FieldType}, Laid Z a0 K O nm d → parseFieldDescriptor d = some ty → Fld Z h' a O nm d (defaultValue ty)) → OEnds p e below s C S Q T' (mkF m n L (.ref a :: st))) : OEnds p e below s C S Q T (mkF m pc L st) := by
  subst hn
  obtain ⟨T', h', X', e', E', A', D', -, f'⟩ := newO X hx hZ hown w wi wz eT (g := mkF m pc L st) rfl (hb hby hd) hc hl
  exact (k T' h' _ rfl X' e' E' A' D').pre f'
theorem s_initO (X : Stand p l e R s m args below meth c T locs cells slots) (hx : p.tables.exec = Jvm.exec) (hby : c.code = bytes) {ml : Nat} (hml : c.maxLocals = ml) (hZ : Z.Warmed39 s.vm) {own : String} {index : Nat} (hown : s.vm.findClass own = some m.cls) (w1 : (Jvm.Cond.methodLink own index Lib.objectInit).before a0 Z = true) (w2 : (Jvm.Cond.instanceMethod Lib.objectInit).before a0 Z = true) (w3 : (Jvm.Cond.code Lib.objectInit ⟨#[0xb1]⟩ 1 none).before a0 Z = true) (eT : T.heap = h) {a : Addr} (hf : 1 ≤ R.frames) (W : Nat) (hW : (st.map fun v => v.category).sum ≤ W) (hl : W + 12 ≤ R.locals) (hsz : L.size = ml) (hd : decode bytes pc = .ok (.invokespecial index, 3)) (hn : pc + 3 = n)
    (k : ∀ T', Stand p l e R s m args below meth c T' locs cells slots → T'.heap = h → OEnds p e below s C S Q T' (mkF m n L st)) : OEnds p e below s C S Q T (mkF m pc L (.ref a :: st)) := by
  subst hn
  obtain ⟨T', X', e', f'⟩ := initO X hx hZ hown w1 w2 w3 eT (g := mkF m pc L (.ref a :: st)) rfl (by rw [hml]; exact hsz) rfl (hb hby hd) hf (W := W) (by show 2 * 0 + _ ≤ _; rw [Nat.mul_zero, Nat.zero_add]; exact hW) hl
  exact (k T' X' e').pre f'
/-- the calls by a contract -/
theorem s_callS (X : Stand p l e R s m args below meth c T locs cells slots) (hx : p.tables.exec = Jvm.exec) (hby : c.code = bytes) {ml : Nat} (hml : c.maxLocals = ml) (hZ : Z.Warmed39 s.vm) {own : String} {index : Nat} {y : MethodName} {yb : ByteArray} {maxL : Nat} {ret : Option FieldType} (hown : s.vm.findClass own = some m.cls) (w1 : (Jvm.Cond.methodLink own index y).before a0 Z = true) (w2 : (Jvm.Cond.static y).before a0 Z = true) (w3 : (Jvm.Cond.initialized y.cls).before a0 Z = true) (w4 : (Jvm.Cond.code y yb maxL ret).before a0 Z = true) (hy : y.cls ≠ "java/lang/invoke/MethodHandle" ∧ y.cls ≠ "java/lang/invoke/VarHandle")
    {rm : Room} {as' : Array Value} {Q' : Option Value → Heap → List Loc → Prop} (K : OCon l Z y yb maxL ret [] rm as' h Q') (eT : T.heap = h) (hf : rm.frames + 1 ≤ R.frames) (W : Nat) (hl : W + (maxL + 11) + rm.locals ≤ R.locals) (hc : cells + rm.cells ≤ R.cells) (hs : slots + rm.slots ≤ R.slots) {ps : List FieldType} {rt : Option FieldType} (pd : parseMethodDescriptor y.desc = some ⟨ps, rt⟩) (argsL rest : List Value) (hlen : argsL.length = ps.length) (has : argsL.toArray = as') (hst : st = argsL.reverse ++ rest) (hW : (rest.map fun v => v.category).sum ≤ W) (hsz : L.size = ml) (hd : decode bytes pc = .ok (.invokestatic index, 3)) (hn : pc + 3 = n)
    (k : ∀ T' L' v, Stand p l e R s m args below meth c T' (locs ++ L') (cells + rm.cells) (slots + rm.slots) → Q' v T'.heap L' → OEnds p e below s C S Q T' (mkF m n L (v.toList ++ rest))) : OEnds p e below s C S Q T (mkF m pc L st) := by
  subst hn has
  obtain ⟨v, _, ⟨T', L', k', n'⟩, -, X', ⟨Lc, hQ, l', y', z'⟩, f'⟩ := Jvm.LawKit.callS X hx (y := y) hown (mvT hZ w1) (mvT hZ w2) (mvT hZ w3) (mvT hZ w4) hy (backOf (W := W) K hZ w4 w3 hf hl) (g := mkF m pc L st) rfl (by rw [hml]; exact hsz) (argsL := argsL) (rest := rest) (lenOf pd hlen) hst (by show 2 * 0 + _ ≤ _; rw [Nat.mul_zero, Nat.zero_add]; exact hW) (hb hby hd) (fun _ _ => ⟨rfl, eT, hc, hs⟩)
  dsimp only [Pt.U, Pt.locs, Pt.cells, Pt.slots] at X' l' y' z' f' hQ
  subst l' y' z'
  exact (k T' Lc v X' hQ).pre f'
theorem s_callI (X : Stand p l e R s m args below meth c T locs cells slots) (hx : p.tables.exec = Jvm.exec) (hby : c.code = bytes) {ml : Nat} (hml : c.maxLocals = ml) (hZ : Z.Warmed39 s.vm) {own : String} {index : Nat} {y : MethodName} {yb : ByteArray} {maxL : Nat} (hy1 : y.name = "<init>") (hown : s.vm.findClass own = some m.cls) (w1 : (Jvm.Cond.methodLink own index y).before a0 Z = true) (w2 : (Jvm.Cond.instanceMethod y).before a0 Z = true) (w3 : (Jvm.Cond.initialized y.cls).before a0 Z = true) (w4 : (Jvm.Cond.code y yb maxL none).before a0 Z = true) (hy : y.cls ≠ "java/lang/invoke/MethodHandle" ∧ y.cls ≠ "java/lang/invoke/VarHandle")
    {rm : Room} {as' : Array Value} {Q' : Option Value → Heap → List Loc → Prop} (K : OCon l Z y yb maxL none [] rm as' h Q') (eT : T.heap = h) (hf : rm.frames + 1 ≤ R.frames) (W : Nat) (hl : W + (maxL + 11) + rm.locals ≤ R.locals) (hc : cells + rm.cells ≤ R.cells) (hs : slots + rm.slots ≤ R.slots) {ps : List FieldType} {rt : Option FieldType} (pd : parseMethodDescriptor y.desc = some ⟨ps, rt⟩) (a : Addr) (argsL rest : List Value) (hlen : argsL.length = ps.length) (has : (Value.ref a :: argsL).toArray = as') (hst : st = argsL.reverse ++ .ref a :: rest) (hW : (rest.map fun v => v.category).sum ≤ W) (hsz : L.size = ml) (hd : decode bytes pc = .ok (.invokespecial index, 3)) (hn : pc + 3 = n)
    (k : ∀ T' L' v, Stand p l e R s m args below meth c T' (locs ++ L') (cells + rm.cells) (slots + rm.slots) → Q' v T'.heap L' → OEnds p e below s C S Q T' (mkF m n L (v.toList ++ rest))) : OEnds p e below s C S Q T (mkF m pc L st) := by
  subst hn has
  obtain ⟨v, _, ⟨T', L', k', n'⟩, -, X', ⟨Lc, hQ, l', y', z'⟩, f'⟩ := X.specialBack hx (y := y) hy1 hown (mvT hZ w1) (mvT hZ w2) (mvT hZ w4) hy (backOf (W := W) K hZ w4 w3 hf hl) (g := mkF m pc L st) rfl (by rw [hml]; exact hsz) (Steps.refl _) (a := a) (argsL := argsL) (rest := rest) (lenOf pd hlen) hst (by show 2 * 0 + _ ≤ _; rw [Nat.mul_zero, Nat.zero_add]; exact hW) (hb hby hd) (fun _ _ => ⟨rfl, eT, hc, hs⟩)
  dsimp only [Pt.U, Pt.locs, Pt.cells, Pt.slots] at X' l' y' z' f' hQ
  subst l' y' z'
  exact (k T' Lc v X' hQ).pre fun t r => f'.trans r
theorem s_callV (X : Stand p l e R s m args below meth c T locs cells slots) (hx : p.tables.exec = Jvm.exec) (hby : c.code = bytes) {ml : Nat} (hml : c.maxLocals = ml) (hZ : Z.Warmed39 s.vm) {own K0 : String} {index : Nat} {y z : MethodName} {yb : ByteArray} {maxL : Nat} {ret : Option FieldType} (hown : s.vm.findClass own = some m.cls) (w1 : (Jvm.Cond.methodLink own index y).before a0 Z = true) (w2 : (Jvm.Cond.declares y).before a0 Z = true) (w5 : NotFace s y) (w6 : (Jvm.Cond.selects K0 y z).before a0 Z = true) (w7 : (Jvm.Cond.instanceMethod z).before a0 Z = true) (w3 : (Jvm.Cond.initialized z.cls).before a0 Z = true) (w4 : (Jvm.Cond.code z yb maxL ret).before a0 Z = true) (hy : y.cls ≠ "java/lang/invoke/MethodHandle" ∧ y.cls ≠ "java/lang/invoke/VarHandle")
    {rm : Room} {as' : Array Value} {Q' : Option Value → Heap → List Loc → Prop} (K : OCon l Z z yb maxL ret [] rm as' h Q') (eT : T.heap = h) (hf : rm.frames + 1 ≤ R.frames) (W : Nat) (hl : W + (maxL + 11) + rm.locals ≤ R.locals) (hc : cells + rm.cells ≤ R.cells) (hs : slots + rm.slots ≤ R.slots) {ps : List FieldType} {rt : Option FieldType} (pd : parseMethodDescriptor y.desc = some ⟨ps, rt⟩) {a : Addr} (E : Exa Z h a K0) (argsL rest : List Value) (hlen : argsL.length = ps.length) (has : (Value.ref a :: argsL).toArray = as') (hst : st = argsL.reverse ++ .ref a :: rest) (hW : (rest.map fun v => v.category).sum ≤ W) (hsz : L.size = ml) (hd : decode bytes pc = .ok (.invokevirtual index, 3)) (hn : pc + 3 = n)
    (k : ∀ T' L' v, Stand p l e R s m args below meth c T' (locs ++ L') (cells + rm.cells) (slots + rm.slots) → Q' v T'.heap L' → OEnds p e below s C S Q T' (mkF m n L (v.toList ++ rest))) : OEnds p e below s C S Q T (mkF m pc L st) := by
  subst hn has
  obtain ⟨cq, kq, qa, qb, qc⟩ := isOf hZ eT E
  obtain ⟨v, _, ⟨T', L', k', n'⟩, -, X', ⟨Lc, hQ, l', y', z'⟩, f'⟩ := X.virtualBack hx (y := y) (z := z) hown (mvT hZ w1) (mvT hZ w2) w5 (mvT hZ w6) (mvT hZ w7) hy (backOf (W := W) K hZ w4 w3 hf hl) qa qc (g := mkF m pc L st) rfl (by rw [hml]; exact hsz) (Steps.refl _) (argsL := argsL) (rest := rest) (lenOf pd hlen) hst (by show 2 * 0 + _ ≤ _; rw [Nat.mul_zero, Nat.zero_add]; exact hW) (hb hby hd) (fun _ _ => ⟨rfl, eT, hc, hs⟩)
  dsimp only [Pt.U, Pt.locs, Pt.cells, Pt.slots] at X' l' y' z' f' hQ
  subst l' y' z'
  exact (k T' Lc v X' hQ).pre fun t r => f'.trans r
/-- arrays -/
theorem s_newP (X : Stand p l e R s m args below meth c T locs cells slots) (hx : p.tables.exec = Jvm.exec) (hby : c.code = bytes) (hZ : Z.Warmed39 s.vm) {aty : ArrayType} (w : (Jvm.Cond.arrayClass (newarray.typeOf aty)).before a0 Z = true) (eT : T.heap = h) {num : Int32} (hnn : ¬ num < 0) (cap : Nat) (hcap : num.toNatClampNeg ≤ cap) (hb8 : cap * 8 ≤ 536870912) (hc : cells + 1 ≤ R.cells) (hl : slots + cap ≤ R.slots) (hd : decode bytes pc = .ok (.newarray aty, 2)) (hn : pc + 2 = n)
    (k : ∀ T' h' cA a, a = h.size → Stand p l e R s m args below meth c T' locs (cells + 1) (slots + cap) → T'.heap = h' → Ext h h' → Arr Z h' a (newA cA (newarray.typeOf aty) num) (newarray.typeOf aty) → OEnds p e below s C S Q T' (mkF m n L (.ref a :: st))) : OEnds p e below s C S Q T (mkF m pc L (.int num :: st)) := by
  subst hn
  obtain ⟨T', h', cA, X', e', E', A', f'⟩ := newP X hx hZ w eT (g := mkF m pc L (.int num :: st)) rfl (hb hby hd) rfl hnn hcap hb8 hc hl
  exact (k T' h' cA _ rfl X' e' E' A').pre f'
theorem s_arraylength (X : Stand p l e R s m args below meth c T locs cells slots) (hx : p.tables.exec = Jvm.exec) (hby : c.code = bytes) (hZ : Z.Warmed39 s.vm) (eT : T.heap = h) {a : Addr} {cl : Cell} {ty : FieldType} (A : Arr Z h a cl ty) {z : Int32} (hsz : cl.slots.size = z.toNatClampNeg) (hz : ¬ z < 0) (hd : decode bytes pc = .ok (.arraylength, 1)) (hn : pc + 1 = n)
    (k : OEnds p e below s C S Q T (mkF m n L (.int z :: st))) : OEnds p e below s C S Q T (mkF m pc L (.ref a :: st)) := by
  subst hn
  rw [← len_of hsz hz] at k
  exact k.pre fun t r => X.arraylength hx (by rw [eT]; exact A.1) (State.isArrayOf_alike hZ.alike A.2.1) (g := mkF m pc L (.ref a :: st)) rfl rfl (hb hby hd) _ r
theorem s_iaload (X : Stand p l e R s m args below meth c T locs cells slots) (hx : p.tables.exec = Jvm.exec) (hby : c.code = bytes) (hZ : Z.Warmed39 s.vm) (eT : T.heap = h) {a : Addr} {cl : Cell} (A : Arr Z h a cl .int) {j : Int32} (hj : ¬ (j < 0 ∨ cl.slots.size ≤ j.toNatClampNeg)) {v : Value} (hv : cl.slots[j.toNatClampNeg]? = some v) (hd : decode bytes pc = .ok (.iaload, 1)) (hn : pc + 1 = n)
    (k : OEnds p e below s C S Q T (mkF m n L (v :: st))) : OEnds p e below s C S Q T (mkF m pc L (.int j :: .ref a :: st)) := by
  subst hn
  exact k.pre fun t r => X.iaload hx (by rw [eT]; exact A.1) (State.isArrayOf_alike hZ.alike A.2.1) A.2.2 hj hv (g := mkF m pc L (.int j :: .ref a :: st)) rfl rfl (hb hby hd) _ r
theorem s_baload (X : Stand p l e R s m args below meth c T locs cells slots) (hx : p.tables.exec = Jvm.exec) (hby : c.code = bytes) (hZ : Z.Warmed39 s.vm) (eT : T.heap = h) {a : Addr} {cl : Cell} (A : Arr Z h a cl .byte) {j : Int32} (hj : ¬ (j < 0 ∨ cl.slots.size ≤ j.toNatClampNeg)) {v : Value} (hv : cl.slots[j.toNatClampNeg]? = some v) (hd : decode bytes pc = .ok (.baload, 1)) (hn : pc + 1 = n)
    (k : OEnds p e below s C S Q T (mkF m n L (v :: st))) : OEnds p e below s C S Q T (mkF m pc L (.int j :: .ref a :: st)) := by
  subst hn
  exact k.pre fun t r => X.baloadBytes hx (by rw [eT]; exact A.1) (State.isArrayOf_alike hZ.alike A.2.1) A.2.2 hj hv (g := mkF m pc L (.int j :: .ref a :: st)) rfl rfl (hb hby hd) _ r
theorem s_caload (X : Stand p l e R s m args below meth c T locs cells slots) (hx : p.tables.exec = Jvm.exec) (hby : c.code = bytes) (hZ : Z.Warmed39 s.vm) (eT : T.heap = h) {a : Addr} {cl : Cell} (A : Arr Z h a cl .char) {j : Int32} (hj : ¬ (j < 0 ∨ cl.slots.size ≤ j.toNatClampNeg)) {v : Value} (hv : cl.slots[j.toNatClampNeg]? = some v) (hd : decode bytes pc = .ok (.caload, 1)) (hn : pc + 1 = n)
    (k : OEnds p e below s C S Q T (mkF m n L (v :: st))) : OEnds p e below s C S Q T (mkF m pc L (.int j :: .ref a :: st)) := by
  subst hn
  exact k.pre fun t r => X.caload hx (by rw [eT]; exact A.1) (State.isArrayOf_alike hZ.alike A.2.1) A.2.2 hj hv (g := mkF m pc L (.int j :: .ref a :: st)) rfl rfl (hb hby hd) _ r
theorem s_iastore (X : Stand p l e R s m args below meth c T locs cells slots) (hx : p.tables.exec = Jvm.exec) (hby : c.code = bytes) (hZ : Z.Warmed39 s.vm) (eT : T.heap = h) {a : Addr} {cl : Cell} (A : Arr Z h a cl .int) {j x : Int32} (hj : ¬ (j < 0 ∨ cl.slots.size ≤ j.toNatClampNeg)) (hd : decode bytes pc = .ok (.iastore, 1)) (hn : pc + 1 = n)
    (k : ∀ T' h', Stand p l e R s m args below meth c T' (locs ++ [⟨a, j.toNatClampNeg⟩]) cells slots → T'.heap = h' → Wr h h' a j.toNatClampNeg (.int x) → OEnds p e below s C S Q T' (mkF m n L st)) : OEnds p e below s C S Q T (mkF m pc L (.int x :: .int j :: .ref a :: st)) := by
  subst hn
  obtain ⟨T', h', X', e', W', f'⟩ := stI X hx hZ eT A hj (g := mkF m pc L (.int x :: .int j :: .ref a :: st)) rfl rfl (hb hby hd)
  exact (k T' h' X' e' W').pre f'
theorem s_bastore (X : Stand p l e R s m args below meth c T locs cells slots) (hx : p.tables.exec = Jvm.exec) (hby : c.code = bytes) (hZ : Z.Warmed39 s.vm) (eT : T.heap = h) {a : Addr} {cl : Cell} (A : Arr Z h a cl .byte) {j x : Int32} (hj : ¬ (j < 0 ∨ cl.slots.size ≤ j.toNatClampNeg)) (hd : decode bytes pc = .ok (.bastore, 1)) (hn : pc + 1 = n)
    (k : ∀ T' h', Stand p l e R s m args below meth c T' (locs ++ [⟨a, j.toNatClampNeg⟩]) cells slots → T'.heap = h' → Wr h h' a j.toNatClampNeg (.int (nar .byte x)) → OEnds p e below s C S Q T' (mkF m n L st)) : OEnds p e below s C S Q T (mkF m pc L (.int x :: .int j :: .ref a :: st)) := by
  subst hn
  obtain ⟨T', h', X', e', W', f'⟩ := stB X hx hZ eT A hj (g := mkF m pc L (.int x :: .int j :: .ref a :: st)) rfl rfl (hb hby hd)
  exact (k T' h' X' e' W').pre f'
theorem s_castore (X : Stand p l e R s m args below meth c T locs cells slots) (hx : p.tables.exec = Jvm.exec) (hby : c.code = bytes) (hZ : Z.Warmed39 s.vm) (eT : T.heap = h) {a : Addr} {cl : Cell} (A : Arr Z h a cl .char) {j x : Int32} (hj : ¬ (j < 0 ∨ cl.slots.size ≤ j.toNatClampNeg)) (hd : decode bytes pc = .ok (.castore, 1)) (hn : pc + 1 = n)
    (k : ∀ T' h', Stand p l e R s m args below meth c T' (locs ++ [⟨a, j.toNatClampNeg⟩]) cells slots → T'.heap = h' → Wr h h' a j.toNatClampNeg (.int (nar .char x)) → OEnds p e below s C S Q T' (mkF m n L st)) : OEnds p e below s C S Q T (mkF m pc L (.int x :: .int j :: .ref a :: st)) := by
  subst hn
  obtain ⟨T', h', X', e', W', f'⟩ := stC X hx hZ eT A hj (g := mkF m pc L (.int x :: .int j :: .ref a :: st)) rfl rfl (hb hby hd)
  exact (k T' h' X' e' W').pre f'
theorem s_bastoreC (X : Stand p l e R s m args below meth c T locs cells slots) (hx : p.tables.exec = Jvm.exec) (hby : c.code = bytes) (hZ : Z.Warmed39 s.vm) (eT : T.heap = h) {a : Addr} {cl : Cell} (A : Arr Z h a cl .byte) {j x : Int32} (i : Nat) (hj : ¬ j < 0) (hi : j.toNatClampNeg = i) (hs : i < cl.slots.size) (hd : decode bytes pc = .ok (.bastore, 1)) (hn : pc + 1 = n)
    (k : ∀ T' h', Stand p l e R s m args below meth c T' (locs ++ [⟨a, i⟩]) cells slots → T'.heap = h' → Wr h h' a i (.int (nar .byte x)) → OEnds p e below s C S Q T' (mkF m n L st)) : OEnds p e below s C S Q T (mkF m pc L (.int x :: .int j :: .ref a :: st)) := by
  subst hi
  exact s_bastore X hx hby hZ eT A (fun q => q.elim hj (Nat.not_le.mpr hs)) hd hn k
theorem s_iastoreC (X : Stand p l e R s m args below meth c T locs cells slots) (hx : p.tables.exec = Jvm.exec) (hby : c.code = bytes) (hZ : Z.Warmed39 s.vm) (eT : T.heap = h) {a : Addr} {cl : Cell} (A : Arr Z h a cl .int) {j x : Int32} (i : Nat) (hj : ¬ j < 0) (hi : j.toNatClampNeg = i) (hs : i < cl.slots.size) (hd : decode bytes pc = .ok (.iastore, 1)) (hn : pc + 1 = n)
    (k : ∀ T' h', Stand p l e R s m args below meth c T' (locs ++ [⟨a, i⟩]) cells slots → T'.heap = h' → Wr h h' a i (.int x) → OEnds p e below s C S Q T' (mkF m n L st)) : OEnds p e below s C S Q T (mkF m pc L (.int x :: .int j :: .ref a :: st)) := by
  subst hi
  exact s_iastore X hx hby hZ eT A (fun q => q.elim hj (Nat.not_le.mpr hs)) hd hn k
theorem s_castoreC (X : Stand p l e R s m args below meth c T locs cells slots) (hx : p.tables.exec = Jvm.exec) (hby : c.code = bytes) (hZ : Z.Warmed39 s.vm) (eT : T.heap = h) {a : Addr} {cl : Cell} (A : Arr Z h a cl .char) {j x : Int32} (i : Nat) (hj : ¬ j < 0) (hi : j.toNatClampNeg = i) (hs : i < cl.slots.size) (hd : decode bytes pc = .ok (.castore, 1)) (hn : pc + 1 = n)
    (k : ∀ T' h', Stand p l e R s m args below meth c T' (locs ++ [⟨a, i⟩]) cells slots → T'.heap = h' → Wr h h' a i (.int (nar .char x)) → OEnds p e below s C S Q T' (mkF m n L st)) : OEnds p e below s C S Q T (mkF m pc L (.int x :: .int j :: .ref a :: st)) := by
  subst hi
  exact s_castore X hx hby hZ eT A (fun q => q.elim hj (Nat.not_le.mpr hs)) hd hn k
theorem s_baloadC (X : Stand p l e R s m args below meth c T locs cells slots) (hx : p.tables.exec = Jvm.exec) (hby : c.code = bytes) (hZ : Z.Warmed39 s.vm) (eT : T.heap = h) {a : Addr} {cl : Cell} (A : Arr Z h a cl .byte) {j : Int32} (i : Nat) (hj : ¬ j < 0) (hi : j.toNatClampNeg = i) (hs : i < cl.slots.size) {v : Value} (hv : cl.slots[i]? = some v) (hd : decode bytes pc = .ok (.baload, 1)) (hn : pc + 1 = n)
    (k : OEnds p e below s C S Q T (mkF m n L (v :: st))) : OEnds p e below s C S Q T (mkF m pc L (.int j :: .ref a :: st)) := by
  subst hi
  exact s_baload X hx hby hZ eT A (fun q => q.elim hj (Nat.not_le.mpr hs)) hv hd hn k
theorem s_caloadC (X : Stand p l e R s m args below meth c T locs cells slots) (hx : p.tables.exec = Jvm.exec) (hby : c.code = bytes) (hZ : Z.Warmed39 s.vm) (eT : T.heap = h) {a : Addr} {cl : Cell} (A : Arr Z h a cl .char) {j : Int32} (i : Nat) (hj : ¬ j < 0) (hi : j.toNatClampNeg = i) (hs : i < cl.slots.size) {v : Value} (hv : cl.slots[i]? = some v) (hd : decode bytes pc = .ok (.caload, 1)) (hn : pc + 1 = n)
    (k : OEnds p e below s C S Q T (mkF m n L (v :: st))) : OEnds p e below s C S Q T (mkF m pc L (.int j :: .ref a :: st)) := by
  subst hi
  exact s_caload X hx hby hZ eT A (fun q => q.elim hj (Nat.not_le.mpr hs)) hv hd hn k
theorem s_ialoadC (X : Stand p l e R s m args below meth c T locs cells slots) (hx : p.tables.exec = Jvm.exec) (hby : c.code = bytes) (hZ : Z.Warmed39 s.vm) (eT : T.heap = h) {a : Addr} {cl : Cell} (A : Arr Z h a cl .int) {j : Int32} (i : Nat) (hj : ¬ j < 0) (hi : j.toNatClampNeg = i) (hs : i < cl.slots.size) {v : Value} (hv : cl.slots[i]? = some v) (hd : decode bytes pc = .ok (.iaload, 1)) (hn : pc + 1 = n)
    (k : OEnds p e below s C S Q T (mkF m n L (v :: st))) : OEnds p e below s C S Q T (mkF m pc L (.int j :: .ref a :: st)) := by
  subst hi
  exact s_iaload X hx hby hZ eT A (fun q => q.elim hj (Nat.not_le.mpr hs)) hv hd hn k
theorem set_hit {cl : Cell} {i : Nat} {v : Value} (hs : i < cl.slots.size) : (cl.setSlot i v).slots[i]? = some v := by simp [Cell.setSlot, hs]
theorem set_mis {cl : Cell} {i j : Nat} {v : Value} {w : Option Value} (hv : cl.slots[j]? = w) (q : i ≠ j) : (cl.setSlot i v).slots[j]? = w := by
  rw [← hv]; exact Array.getElem?_setIfInBounds_ne q
theorem new_at (cA : ClassId) (ty : FieldType) {z : Int32} {i : Nat} (q : i < z.toNatClampNeg) : (newA cA ty z).slots[i]? = some (defaultValue ty) := by simp [newA, q]
/-- instanceof, checkcast, aaload -/
theorem s_instY (X : Stand p l e R s m args below meth c T locs cells slots) (hx : p.tables.exec = Jvm.exec) (hby : c.code = bytes) (hZ : Z.Warmed39 s.vm) {own K : String} {index : Nat} (hown : s.vm.findClass own = some m.cls) (w : (Jvm.Cond.classLink own index K).before a0 Z = true) (eT : T.heap = h) {a : Addr} (F : Ins Z h a K true) (hd : decode bytes pc = .ok (.instanceof index, 3)) (hn : pc + 3 = n)
    (k : ∀ T', Stand p l e R s m args below meth c T' locs cells slots → T'.heap = h → OEnds p e below s C S Q T' (mkF m n L (.int 1 :: st))) : OEnds p e below s C S Q T (mkF m pc L (.ref a :: st)) := by
  subst hn
  obtain ⟨T', X', e', f'⟩ := instY X hx hZ hown w eT F (g := mkF m pc L (.ref a :: st)) rfl rfl (hb hby hd)
  exact (k T' X' e').pre f'
theorem s_instNo (X : Stand p l e R s m args below meth c T locs cells slots) (hx : p.tables.exec = Jvm.exec) (hby : c.code = bytes) (hZ : Z.Warmed39 s.vm) {own K C0 : String} {index : Nat} (hown : s.vm.findClass own = some m.cls) (w : (Jvm.Cond.classLink own index K).before a0 Z = true) (eT : T.heap = h) {a : Addr} (E : Exa Z h a C0) (F : ∃ c t, Z.vm.findClass C0 = some c ∧ Z.vm.findClass K = some t ∧ Z.vm.assignable c t = false) (hd : decode bytes pc = .ok (.instanceof index, 3)) (hn : pc + 3 = n)
    (k : ∀ T', Stand p l e R s m args below meth c T' locs cells slots → T'.heap = h → OEnds p e below s C S Q T' (mkF m n L (.int 0 :: st))) : OEnds p e below s C S Q T (mkF m pc L (.ref a :: st)) := by
  subst hn
  obtain ⟨T', X', e', f'⟩ := instNo X hx hZ hown w eT E F (g := mkF m pc L (.ref a :: st)) rfl rfl (hb hby hd)
  exact (k T' X' e').pre f'
theorem s_instNull (X : Stand p l e R s m args below meth c T locs cells slots) (hx : p.tables.exec = Jvm.exec) (hby : c.code = bytes) {index : Nat} (hd : decode bytes pc = .ok (.instanceof index, 3)) (hn : pc + 3 = n)
    (k : OEnds p e below s C S Q T (mkF m n L (.int 0 :: st))) : OEnds p e below s C S Q T (mkF m pc L (.null :: st)) := by
  subst hn
  exact k.pre fun t r => Stand.instanceofNull X hx (g := mkF m pc L (.null :: st)) rfl rfl (hb hby hd) t r
theorem s_castY (X : Stand p l e R s m args below meth c T locs cells slots) (hx : p.tables.exec = Jvm.exec) (hby : c.code = bytes) (hZ : Z.Warmed39 s.vm) {own K : String} {index : Nat} (hown : s.vm.findClass own = some m.cls) (w : (Jvm.Cond.classLink own index K).before a0 Z = true) (eT : T.heap = h) {a : Addr} (F : Ins Z h a K true) (hd : decode bytes pc = .ok (.checkcast index, 3)) (hn : pc + 3 = n)
    (k : ∀ T', Stand p l e R s m args below meth c T' locs cells slots → T'.heap = h → OEnds p e below s C S Q T' (mkF m n L (.ref a :: st))) : OEnds p e below s C S Q T (mkF m pc L (.ref a :: st)) := by
  subst hn
  obtain ⟨T', X', e', f'⟩ := castY X hx hZ hown w eT F (g := mkF m pc L (.ref a :: st)) rfl rfl (hb hby hd)
  exact (k T' X' e').pre f'
theorem s_aaload (X : Stand p l e R s m args below meth c T locs cells slots) (hx : p.tables.exec = Jvm.exec) (hby : c.code = bytes) (hZ : Z.Warmed39 s.vm) (eT : T.heap = h) {a : Addr} {cl : Cell} {ty : FieldType} (A : Arr Z h a cl ty) (hty : ty.isReference = true) {j : Int32} (hj : ¬ (j < 0 ∨ cl.slots.size ≤ j.toNatClampNeg)) {v : Value} (hv : cl.slots[j.toNatClampNeg]? = some v) (hd : decode bytes pc = .ok (.aaload, 1)) (hn : pc + 1 = n)
    (k : OEnds p e below s C S Q T (mkF m n L (v :: st))) : OEnds p e below s C S Q T (mkF m pc L (.int j :: .ref a :: st)) := by
  subst hn
  exact k.pre fun t r => X.aaload hx (by rw [eT]; exact A.1) (State.isArrayOf_alike hZ.alike A.2.1) hty A.2.2 hj hv (g := mkF m pc L (.int j :: .ref a :: st)) rfl rfl (hb hby hd) _ r
theorem ns_root {O K : String} {num : Nat} (w : (Jvm.Cond.noSuperclass O).before a0 Z = true) (wi : (Jvm.Cond.instantiable K num).before a0 Z = true) (hn : O ≠ K) : NS Z O K := by
  obtain ⟨c, k, h1, h2, h3, -, -⟩ := Cond.noSuperclass_spec w
  obtain ⟨t, kt, g1, -⟩ := Cond.instantiable_spec wi
  have ne := ids_ne h1 g1 hn
  refine ⟨c, t, h1, g1, fun fuel => ?_⟩
  match fuel with
  | 0 => rfl
  | f + 1 => simp [Vm.isSubclassAux, ne, h2, h3]
theorem ns_no {C0 S0 K : String} {num : Nat} (w : (Jvm.Cond.superclass C0 S0).before a0 Z = true) (wi : (Jvm.Cond.instantiable K num).before a0 Z = true) (nn : NS Z C0 K) (hn : C0 ≠ K) : ∃ c t, Z.vm.findClass C0 = some c ∧ Z.vm.findClass K = some t ∧ Z.vm.assignable c t = false := by
  obtain ⟨c, t, q0, g0, n3⟩ := nn
  obtain ⟨p, k, kp, h1, h2, h3, h4, h5, -, h7⟩ := Cond.superclass_spec q0 w
  obtain ⟨t', kt, g1, g2, g3, g4, -⟩ := Cond.instantiable_spec wi
  cases g0.symm.trans g1
  have ne := ids_ne q0 g0 hn
  have g7 : kt.isInterface = false := by simp only [Bool.or_eq_false_iff] at g4; exact g4.1
  refine ⟨c, t, q0, g0, ?_⟩
  show Z.vm.assignableAux (255 + 1) c t = false
  simp [Vm.assignableAux, ne, h2, g2, h5, g3, g7, Vm.isSubclass, n3]
/-- the wide frame: a walk that may have interned -/
def FrameEndW (s : State) (o : Outcome) (t : State) (L : List Loc) (k n : Nat) : Prop :=
  (∃ v : Option Value, o = Outcome.returned v) ∧ s.Warmed39 t.vm ∧ (∀ (j : Nat) (p : Array UInt16 × Addr), s.vm.interned.size ≤ j → t.vm.interned[j]? = some p → s.heap.size ≤ p.2 ∧ p.2 < t.heap.size) ∧ s.sameButNew { t with vm := s.vm } L k n
def OEndsW (p : Program) (e : Env) (below : List Frame) (s : State) (C S : Nat) (Q : Option Value → Heap → List Loc → Prop) (T : State) (g : JFrame) : Prop :=
  ∃ (t : State) (v : Option Value) (L : List Loc), Steps p.tables e below (T.setTop g) t ∧ t.status = .running ∧ Ended t below (.returned v) ∧ Q v t.heap L ∧ FrameEndW s (.returned v) t L C S
def OConW (l : Launch) (Z : State) (y : MethodName) (bytes : ByteArray) (maxL : Nat) (ret : Option FieldType) (ws : List Jvm.Cond) (rm : Room) (as' : Array Value) (s₀ : State) (Q : Option Value → Heap → List Loc → Prop) : Prop :=
  MetFree l y (head1 (Jvm.Cond.code y bytes maxL ret :: ws) rm) (fun a U => a = as' ∧ U = s₀) (fun _ _ _ _ _ => True) (fun _ U o U' => ∃ v L, o = .returned v ∧ Q v U'.heap L ∧ FrameEndW U o U' L rm.cells rm.slots)
theorem OEnds.wide {g : JFrame} (k : OEnds p e below s C S Q T g) : OEndsW p e below s C S Q T g := by
  obtain ⟨t, v, L, h1, h2, h3, h4, h5⟩ := k
  exact ⟨t, v, L, h1, h2, h3, h4, RoadKit.wide h5⟩
theorem OEndsW.pre {T' : State} {g g' : JFrame} (k : OEndsW p e below s C S Q T' g') (f : ∀ t, Steps p.tables e below (T'.setTop g') t → Steps p.tables e below (T.setTop g) t) : OEndsW p e below s C S Q T g := by
  obtain ⟨t, v, L, h1, h2⟩ := k
  exact ⟨t, v, L, f _ h1, h2⟩
theorem OEnds.reb {vm1 : Vm} {k1 : Nat} (hS : s.Since vm1 k1) {g : JFrame} (k : OEnds p e below (s.setVm vm1) C S (fun v h L => Q v h L ∧ k1 ≤ h.size) T g) : OEndsW p e below s C S Q T g := by
  obtain ⟨t, v, L, h1, h2, h3, ⟨h4, h4'⟩, h5, h6, h7⟩ := k
  obtain ⟨q1, q2, q3⟩ := hS.ended h6 h4' h7
  exact ⟨t, v, L, h1, h2, h3, h4, h5, q1, q2, q3⟩
theorem conW {y : MethodName} {maxL : Nat} {ret : Option FieldType} {ws : List Jvm.Cond} {rm : Room} {as' : Array Value} {s₀ : State} (hp : plainFor y = true)
    (body : ∀ (p : Program) (e : Env) (m : MethodId) (below : List Frame) (meth : Method) (c : Code) (s₁ : State), p.tables.exec = Jvm.exec → c.code = bytes → c.maxLocals = maxL → s₀.vm.findClass y.cls = some m.cls → meth.name = y.name → meth.sig.returnType = ret → meth.locks = false →
      Stand p l e rm s₀ m as' below meth c s₁ [] 0 0 → s₁.heap = s₀.heap → OEndsW p e below s₀ rm.cells rm.slots Q s₁ (entryFrame m as' maxL)) : OConW l Z y bytes maxL ret ws rm as' s₀ Q := by
  refine MetFree.of_bodySF hp hisR ?_
  intro p e s m args below meth c s₁ Bd hml hP hK
  obtain ⟨rfl, rfl⟩ := hP
  obtain ⟨t, v, L, h1, h2, h3, h4, h5⟩ := body p e m below meth c s₁ Bd.exec Bd.bytes hml (findClass_of_methodNamed Bd.named) (name_of_methodNamed Bd.named Bd.method).1 Bd.returns Bd.notSynchronized (Stand.of_body Bd) (by rw [Bd.state]; rfl)
  exact ⟨t, _, h1, h2, h3, v, L, rfl, h4, h5⟩
theorem entryW {mm : MethodId} {as' : Array Value} {maxL : Nat} {g : JFrame} (q : entryFrame mm as' maxL = g) (k : OEndsW p e below s C S Q T g) : OEndsW p e below s C S Q T (entryFrame mm as' maxL) := q ▸ k
end Walk
/-- a boolean as an int -/
def b2i (b : Bool) : Int32 := if b = true then 1 else 0
theorem b2i_t : b2i true = 1 := rfl
theorem b2i_f : b2i false = 0 := rfl
theorem nar_b2i (b : Bool) : nar .boolean (b2i b) = b2i b := by cases b <;> decide
theorem ifb_eq_t {b : Bool} (q : b = false) : ifCond.holds .eq (b2i b) = true := by subst q; decide
theorem ifb_eq_f {b : Bool} (q : b = true) : ifCond.holds .eq (b2i b) = false := by subst q; decide
theorem ifb_ne_t {b : Bool} (q : b = true) : ifCond.holds .ne (b2i b) = true := by subst q; decide
theorem ifb_ne_f {b : Bool} (q : b = false) : ifCond.holds .ne (b2i b) = false := by subst q; decide
theorem icb_eq_t {a b : Bool} (q : a = b) : if_icmp.holds .eq (b2i a) (b2i b) = true := by subst q; cases a <;> decide
theorem icb_eq_f {a b : Bool} (q : ¬ a = b) : if_icmp.holds .eq (b2i a) (b2i b) = false := by cases a <;> cases b <;> first | exact absurd rfl q | decide
theorem icb_ne_t {a b : Bool} (q : ¬ a = b) : if_icmp.holds .ne (b2i a) (b2i b) = true := by cases a <;> cases b <;> first | exact absurd rfl q | decide
theorem icb_ne_f {a b : Bool} (q : a = b) : if_icmp.holds .ne (b2i a) (b2i b) = false := by subst q; cases a <;> decide
end Jvm.Own
namespace Jvm.Pilot.@@N@@
open Jvm Jvm.ClassFile Sem Op Lib Jvm.Free Jvm.Stand Jvm.LawKit Jvm.RoadKit Bundle Jvm.Own Jvm.Pilot.@@N@@.Jvm.D
theorem d1_0 : decode method_2_code 0 = .ok (.lload_n 2, 1) := by decide +kernel
theorem d1_1 : decode method_2_code 1 = .ok (.lconst 0, 1) := by decide +kernel
theorem d1_2 : decode method_2_code 2 = .ok (.lcmp, 1) := by decide +kernel
theorem d1_3 : decode method_2_code 3 = .ok (.ifCond .le 19, 3) := by decide +kernel
theorem d1_6 : decode method_2_code 6 = .ok (.lload_n 0, 1) := by decide +kernel
theorem d1_7 : decode method_2_code 7 = .ok (.ldc2_w 9, 3) := by decide +kernel
theorem d1_10 : decode method_2_code 10 = .ok (.lload_n 2, 1) := by decide +kernel
theorem d1_11 : decode method_2_code 11 = .ok (.ladd, 1) := by decide +kernel
theorem d1_12 : decode method_2_code 12 = .ok (.lcmp, 1) := by decide +kernel
theorem d1_13 : decode method_2_code 13 = .ok (.ifCond .ge 7, 3) := by decide +kernel
theorem d1_16 : decode method_2_code 16 = .ok (.iconst 1, 1) := by decide +kernel
theorem d1_17 : decode method_2_code 17 = .ok (.goto 4, 3) := by decide +kernel
theorem d1_20 : decode method_2_code 20 = .ok (.iconst 0, 1) := by decide +kernel
theorem d1_21 : decode method_2_code 21 = .ok (.ireturn, 1) := by decide +kernel
theorem d1_22 : decode method_2_code 22 = .ok (.lload_n 2, 1) := by decide +kernel
theorem d1_23 : decode method_2_code 23 = .ok (.lconst 0, 1) := by decide +kernel
theorem d1_24 : decode method_2_code 24 = .ok (.lcmp, 1) := by decide +kernel
theorem d1_25 : decode method_2_code 25 = .ok (.ifCond .ge 19, 3) := by decide +kernel
theorem d1_28 : decode method_2_code 28 = .ok (.lload_n 0, 1) := by decide +kernel
theorem d1_29 : decode method_2_code 29 = .ok (.ldc2_w 11, 3) := by decide +kernel
theorem d1_32 : decode method_2_code 32 = .ok (.lload_n 2, 1) := by decide +kernel
theorem d1_33 : decode method_2_code 33 = .ok (.ladd, 1) := by decide +kernel
theorem d1_34 : decode method_2_code 34 = .ok (.lcmp, 1) := by decide +kernel
theorem d1_35 : decode method_2_code 35 = .ok (.ifCond .le 7, 3) := by decide +kernel
theorem d1_38 : decode method_2_code 38 = .ok (.iconst 1, 1) := by decide +kernel
theorem d1_39 : decode method_2_code 39 = .ok (.goto 4, 3) := by decide +kernel
theorem d1_42 : decode method_2_code 42 = .ok (.iconst 0, 1) := by decide +kernel
theorem d1_43 : decode method_2_code 43 = .ok (.ireturn, 1) := by decide +kernel
theorem d1_44 : decode method_2_code 44 = .ok (.iconst 0, 1) := by decide +kernel
theorem d1_45 : decode method_2_code 45 = .ok (.ireturn, 1) := by decide +kernel
theorem d2_0 : decode prog_62_method_1_code 0 = .ok (.aload_n 0, 1) := by decide +kernel
theorem d2_1 : decode prog_62_method_1_code 1 = .ok (.invokespecial 1, 3) := by decide +kernel
theorem d2_4 : decode prog_62_method_1_code 4 = .ok (.aload_n 0, 1) := by decide +kernel
theorem d2_5 : decode prog_62_method_1_code 5 = .ok (.lload_n 1, 1) := by decide +kernel
theorem d2_6 : decode prog_62_method_1_code 6 = .ok (.putfield 7, 3) := by decide +kernel
theorem d2_9 : decode prog_62_method_1_code 9 = .ok (.return_, 1) := by decide +kernel
theorem d3_0 : decode jdk_30_method_1_code 0 = .ok (.aload_n 0, 1) := by decide +kernel
theorem d3_1 : decode jdk_30_method_1_code 1 = .ok (.invokespecial 1, 3) := by decide +kernel
theorem d3_4 : decode jdk_30_method_1_code 4 = .ok (.return_, 1) := by decide +kernel
theorem d5_0 : decode prog_62_method_8_code 0 = .ok (.new 8, 3) := by decide +kernel
theorem d5_3 : decode prog_62_method_8_code 3 = .ok (.dup, 1) := by decide +kernel
theorem d5_4 : decode prog_62_method_8_code 4 = .ok (.aload_n 0, 1) := by decide +kernel
theorem d5_5 : decode prog_62_method_8_code 5 = .ok (.getfield 7, 3) := by decide +kernel
theorem d5_8 : decode prog_62_method_8_code 8 = .ok (.aload_n 1, 1) := by decide +kernel
theorem d5_9 : decode prog_62_method_8_code 9 = .ok (.getfield 7, 3) := by decide +kernel
theorem d5_12 : decode prog_62_method_8_code 12 = .ok (.invokestatic 91, 3) := by decide +kernel
theorem d5_15 : decode prog_62_method_8_code 15 = .ok (.invokespecial 21, 3) := by decide +kernel
theorem d5_18 : decode prog_62_method_8_code 18 = .ok (.areturn, 1) := by decide +kernel
theorem d6_0 : decode jdk_29_method_27_code 0 = .ok (.lload_n 0, 1) := by decide +kernel
theorem d6_1 : decode jdk_29_method_27_code 1 = .ok (.lload_n 2, 1) := by decide +kernel
theorem d6_2 : decode jdk_29_method_27_code 2 = .ok (.lsub, 1) := by decide +kernel
theorem d6_3 : decode jdk_29_method_27_code 3 = .ok (.lstore 4, 2) := by decide +kernel
theorem d6_5 : decode jdk_29_method_27_code 5 = .ok (.lload_n 0, 1) := by decide +kernel
theorem d6_6 : decode jdk_29_method_27_code 6 = .ok (.lload_n 2, 1) := by decide +kernel
theorem d6_7 : decode jdk_29_method_27_code 7 = .ok (.lxor, 1) := by decide +kernel
theorem d6_8 : decode jdk_29_method_27_code 8 = .ok (.lload_n 0, 1) := by decide +kernel
theorem d6_9 : decode jdk_29_method_27_code 9 = .ok (.lload 4, 2) := by decide +kernel
theorem d6_11 : decode jdk_29_method_27_code 11 = .ok (.lxor, 1) := by decide +kernel
theorem d6_12 : decode jdk_29_method_27_code 12 = .ok (.land, 1) := by decide +kernel
theorem d6_13 : decode jdk_29_method_27_code 13 = .ok (.lconst 0, 1) := by decide +kernel
theorem d6_14 : decode jdk_29_method_27_code 14 = .ok (.lcmp, 1) := by decide +kernel
theorem d6_15 : decode jdk_29_method_27_code 15 = .ok (.ifCond .ge 13, 3) := by decide +kernel
theorem d6_28 : decode jdk_29_method_27_code 28 = .ok (.lload 4, 2) := by decide +kernel
theorem d6_30 : decode jdk_29_method_27_code 30 = .ok (.lreturn, 1) := by decide +kernel
theorem d7_0 : decode prog_62_method_13_code 0 = .ok (.aload_n 0, 1) := by decide +kernel
theorem d7_1 : decode prog_62_method_13_code 1 = .ok (.getfield 7, 3) := by decide +kernel
theorem d7_4 : decode prog_62_method_13_code 4 = .ok (.lreturn, 1) := by decide +kernel
theorem d8_0 : decode prog_62_method_7_code 0 = .ok (.new 8, 3) := by decide +kernel
theorem d8_3 : decode prog_62_method_7_code 3 = .ok (.dup, 1) := by decide +kernel
theorem d8_4 : decode prog_62_method_7_code 4 = .ok (.aload_n 0, 1) := by decide +kernel
theorem d8_5 : decode prog_62_method_7_code 5 = .ok (.getfield 7, 3) := by decide +kernel
theorem d8_8 : decode prog_62_method_7_code 8 = .ok (.aload_n 1, 1) := by decide +kernel
theorem d8_9 : decode prog_62_method_7_code 9 = .ok (.getfield 7, 3) := by decide +kernel
theorem d8_12 : decode prog_62_method_7_code 12 = .ok (.invokestatic 85, 3) := by decide +kernel
theorem d8_15 : decode prog_62_method_7_code 15 = .ok (.invokespecial 21, 3) := by decide +kernel
theorem d8_18 : decode prog_62_method_7_code 18 = .ok (.areturn, 1) := by decide +kernel
theorem d9_0 : decode jdk_29_method_25_code 0 = .ok (.lload_n 0, 1) := by decide +kernel
theorem d9_1 : decode jdk_29_method_25_code 1 = .ok (.lload_n 2, 1) := by decide +kernel
theorem d9_2 : decode jdk_29_method_25_code 2 = .ok (.ladd, 1) := by decide +kernel
theorem d9_3 : decode jdk_29_method_25_code 3 = .ok (.lstore 4, 2) := by decide +kernel
theorem d9_5 : decode jdk_29_method_25_code 5 = .ok (.lload_n 0, 1) := by decide +kernel
theorem d9_6 : decode jdk_29_method_25_code 6 = .ok (.lload 4, 2) := by decide +kernel
theorem d9_8 : decode jdk_29_method_25_code 8 = .ok (.lxor, 1) := by decide +kernel
theorem d9_9 : decode jdk_29_method_25_code 9 = .ok (.lload_n 2, 1) := by decide +kernel
theorem d9_10 : decode jdk_29_method_25_code 10 = .ok (.lload 4, 2) := by decide +kernel
theorem d9_12 : decode jdk_29_method_25_code 12 = .ok (.lxor, 1) := by decide +kernel
theorem d9_13 : decode jdk_29_method_25_code 13 = .ok (.land, 1) := by decide +kernel
theorem d9_14 : decode jdk_29_method_25_code 14 = .ok (.lconst 0, 1) := by decide +kernel
theorem d9_15 : decode jdk_29_method_25_code 15 = .ok (.lcmp, 1) := by decide +kernel
theorem d9_16 : decode jdk_29_method_25_code 16 = .ok (.ifCond .ge 13, 3) := by decide +kernel
theorem d9_29 : decode jdk_29_method_25_code 29 = .ok (.lload 4, 2) := by decide +kernel
theorem d9_31 : decode jdk_29_method_25_code 31 = .ok (.lreturn, 1) := by decide +kernel
theorem pd_0 : parseMethodDescriptor "()V" = some ⟨[], none⟩ := by decide +kernel
theorem pd_1 : parseMethodDescriptor "(JJ)J" = some ⟨[.long, .long], some (.long)⟩ := by decide +kernel
theorem pd_2 : parseMethodDescriptor "(J)V" = some ⟨[.long], none⟩ := by decide +kernel
theorem pd_3 : parseMethodDescriptor "(JJ)Z" = some ⟨[.long, .long], some (.boolean)⟩ := by decide +kernel
theorem pd_4 : parseMethodDescriptor "(Lcom/example/deferral_ledger/deferralledger/model/Money;)Lcom/example/deferral_ledger/deferralledger/model/Money;" = some ⟨[.object "com/example/deferral_ledger/deferralledger/model/Money"], some (.object "com/example/deferral_ledger/deferralledger/model/Money")⟩ := by decide +kernel
theorem pd_5 : parseMethodDescriptor "()J" = some ⟨[], some (.long)⟩ := by decide +kernel
theorem pn1 : plainName "com/example/deferral_ledger/deferralledger/model/Money" = true := by first | (simp [plainName, overriddenIn]; done) | decide +kernel
theorem pnR : plainName "java/lang/Record" = true := by first | (simp [plainName, overriddenIn]; done) | decide +kernel
theorem pn0 : plainName "com/example/deferral_ledger/deferralledger/model/MoneyMinusPinLaw" = true := by first | (simp [plainName, overriddenIn]; done) | decide +kernel
theorem efR (m : MethodId) (x0 : Addr) : entryFrame m #[(.ref x0)] 1 = mkF m 0 #[.val (.ref x0)] [] := by first | (simp [entryFrame, mkF, argsToLocals, Value.category, maxLocals]; done) | rfl
theorem efI (m : MethodId) (x0 : Addr) (x1 : Int64) : entryFrame m #[(.ref x0), (.long x1)] 3 = mkF m 0 #[.val (.ref x0), .val (.long x1), .second] [] := by first | (simp [entryFrame, mkF, argsToLocals, Value.category, maxLocals]; done) | rfl
theorem efA (m : MethodId) (x0 : Int64) (x1 : Int64) : entryFrame m #[(.long x0), (.long x1)] 6 = mkF m 0 #[.val (.long x0), .second, .val (.long x1), .second, .unset, .unset] [] := by first | (simp [entryFrame, mkF, argsToLocals, Value.category, maxLocals]; done) | rfl
theorem efP (m : MethodId) (x0 : Addr) (x1 : Addr) : entryFrame m #[(.ref x0), (.ref x1)] 2 = mkF m 0 #[.val (.ref x0), .val (.ref x1)] [] := by first | (simp [entryFrame, mkF, argsToLocals, Value.category, maxLocals]; done) | rfl
set_option maxRecDepth 65536 in
set_option maxHeartbeats 40000000 in
theorem rmR (l : Launch) (Z : State) (a0 : Array Value) (hw : ∀ d ∈ tables_1, d.before a0 Z = true) (o : Addr) (h0 : Heap) (n0 : Nat)  :
    OCon l Z (⟨"java/lang/Record", "<init>", "()V"⟩ : MethodName) jdk_30_method_1_code 1 (none) [] ({ frames := 1, cells := 0, slots := 0, locals := 12 } : Room) #[(.ref o)] h0 (fun v h L => v = none ∧ h = h0 ∧ Fr n0 L) := by
  refine con (plainFor_of_name pnR) ?_
  intro p e s m below meth c s₁ hx hby hml hZ hown hnm hret hlk X0 e0
  refine entry (efR m o) ?_
  refine s_aloadN X0 hx hby (n := 1) (x := (.ref o)) d3_0 rfl rfl rfl ?_
  refine s_initO X0 hx hby hml hZ (n := 4) hown (hw _ (List.mem_of_getElem? (i := 16) rfl)) (hw _ (List.mem_of_getElem? (i := 17) rfl)) (hw _ (List.mem_of_getElem? (i := 18) rfl)) e0 (by decide) 0 (Nat.le_of_eq rfl) (by decide) rfl d3_1 rfl ?_
  intro T1 X1 e1
  exact s_ret X1 hx hby hlk hret d3_4 (by decide) (by decide) ⟨rfl, e1, Fr.nil _⟩
set_option maxRecDepth 65536 in
set_option maxHeartbeats 40000000 in
theorem rmI (l : Launch) (Z : State) (a0 : Array Value) (hw : ∀ d ∈ tables_1, d.before a0 Z = true) (o : Addr) (p1 : Int64) (h0 : Heap) (n0 : Nat) (n_o : n0 ≤ o) (E0_o : Exa Z h0 o "com/example/deferral_ledger/deferralledger/model/Money") (F0_o_cents : Fld Z h0 o "com/example/deferral_ledger/deferralledger/model/Money" "cents" "J" (.long (0 : Int64))) :
    OCon l Z (⟨"com/example/deferral_ledger/deferralledger/model/Money", "<init>", "(J)V"⟩ : MethodName) prog_62_method_1_code 3 (none) [] ({ frames := 2, cells := 0, slots := 0, locals := 24 } : Room) #[(.ref o), (.long p1)] h0 (fun v h L => v = none ∧ Fr n0 L ∧ Keep h0 h [o] ∧ Exa Z h o "com/example/deferral_ledger/deferralledger/model/Money" ∧ Fld Z h o "com/example/deferral_ledger/deferralledger/model/Money" "cents" "J" (.long p1)) := by
  refine con (plainFor_of_name pn1) ?_
  intro p e s m below meth c s₁ hx hby hml hZ hown hnm hret hlk X0 e0
  refine entry (efI m o p1) ?_
  have M0 := Fr.nil n0
  have K0 := Keep.refl h0 [o]
  refine s_aloadN X0 hx hby (n := 1) (x := (.ref o)) d2_0 rfl rfl rfl ?_
  refine s_callI X0 hx hby hml hZ (n := 4) rfl hown (hw _ (List.mem_of_getElem? (i := 11) rfl)) (hw _ (List.mem_of_getElem? (i := 12) rfl)) (hw _ (List.mem_of_getElem? (i := 14) rfl)) (hw _ (List.mem_of_getElem? (i := 15) rfl)) (by decide) (rmR l Z a0 hw o h0 n0) e0 (by decide) 0 (by decide) (by decide) (by decide) pd_0 o [] [] rfl rfl rfl (Nat.le_of_eq rfl) rfl d2_1 rfl ?_
  intro T1 L1 v1 X1 q1c
  obtain ⟨rfl, e1, N1⟩ := q1c
  show OEnds p e below s _ _ _ T1 (mkF m 4 #[.val (.ref o), .val (.long p1), .second] [])
  have M1 := Fr.app M0 N1
  refine s_aloadN X1 hx hby (n := 5) (x := (.ref o)) d2_4 rfl rfl rfl ?_
  refine s_lloadN X1 hx hby (n := 6) (x := p1) d2_5 rfl rfl ?_
  refine s_putF X1 hx hby hZ (n := 9) hown (hw _ (List.mem_of_getElem? (i := 19) rfl)) e1 F0_o_cents E0_o (Or.inr ⟨(hw _ (List.mem_of_getElem? (i := 20) rfl)), rfl, hnm⟩) (hw _ (List.mem_of_getElem? (i := 6) rfl)) (ty := .long) (by decide) rfl rfl d2_6 rfl ?_
  intro T2 h2 X2 e2 W2
  have E2_o := E0_o.wr W2
  have F2_o_cents := Fld.same W2 F0_o_cents
  have M2 := Fr.snoc X2 M1 n_o
  have K2 := Keep.wr K0 W2 (Or.inl (List.mem_of_getElem? (i := 0) rfl))
  exact s_ret X2 hx hby hlk hret d2_9 (by decide) (by decide) (by rw [e2]; exact ⟨rfl, M2, K2, E2_o, F2_o_cents⟩)
set_option maxRecDepth 65536 in
set_option maxHeartbeats 40000000 in
theorem rmA (l : Launch) (Z : State) (a0 : Array Value) (hw : ∀ d ∈ tables_1, d.before a0 Z = true) (p1 p2 : Int64) (q : XT.fits64 (p1.toInt + p2.toInt)) (h0 : Heap) (n0 : Nat)  :
    OCon l Z (⟨"java/lang/Math", "addExact", "(JJ)J"⟩ : MethodName) jdk_29_method_25_code 6 (some (.long)) [] ({ frames := 0, cells := 0, slots := 0, locals := 0 } : Room) #[(.long p1), (.long p2)] h0 (fun v h L => v = some (.long (p1 + p2)) ∧ h = h0 ∧ Fr n0 L) := by
  refine con (JP.mathPlain rfl (by decide +kernel)) ?_
  intro p e s m below meth c s₁ hx hby hml hZ hown hnm hret hlk X0 e0
  refine entry (efA m p1 p2) ?_
  refine s_lloadN X0 hx hby (n := 1) (x := p1) d9_0 rfl rfl ?_
  refine s_lloadN X0 hx hby (n := 2) (x := p2) d9_1 rfl rfl ?_
  refine s_ladd X0 hx hby (n := 3) d9_2 rfl ?_
  refine s_lstore X0 hx hby (n := 5) (L' := #[.val (.long p1), .second, .val (.long p2), .second, .val (.long (p1 + p2)), .second]) d9_3 rfl rfl ?_
  refine s_lloadN X0 hx hby (n := 6) (x := p1) d9_5 rfl rfl ?_
  refine s_lload X0 hx hby (n := 8) (x := (p1 + p2)) d9_6 rfl rfl ?_
  refine s_lxor X0 hx hby (n := 9) d9_8 rfl ?_
  refine s_lloadN X0 hx hby (n := 10) (x := p2) d9_9 rfl rfl ?_
  refine s_lload X0 hx hby (n := 12) (x := (p1 + p2)) d9_10 rfl rfl ?_
  refine s_lxor X0 hx hby (n := 13) d9_12 rfl ?_
  refine s_land X0 hx hby (n := 14) d9_13 rfl ?_
  refine s_lconst X0 hx hby (n := 15) (v := (0 : Int64)) d9_14 rfl rfl ?_
  refine s_lcmp X0 hx hby (n := 16) d9_15 rfl ?_
  refine s_ifY X0 hx hby (n := 29) d9_16 (XT.ll_ge_t (XT.addOk64 q)) (by decide) (by decide) ?_
  refine s_lload X0 hx hby (n := 31) (x := (p1 + p2)) d9_29 rfl rfl ?_
  exact s_retJ X0 hx hby hlk hret d9_31 (by decide) (by decide) ⟨rfl, e0, Fr.nil _⟩
set_option maxRecDepth 65536 in
set_option maxHeartbeats 40000000 in
theorem rmS (l : Launch) (Z : State) (a0 : Array Value) (hw : ∀ d ∈ tables_1, d.before a0 Z = true) (p1 p2 : Int64) (q : XT.fits64 (p1.toInt - p2.toInt)) (h0 : Heap) (n0 : Nat)  :
    OCon l Z (⟨"java/lang/Math", "subtractExact", "(JJ)J"⟩ : MethodName) jdk_29_method_27_code 6 (some (.long)) [] ({ frames := 0, cells := 0, slots := 0, locals := 0 } : Room) #[(.long p1), (.long p2)] h0 (fun v h L => v = some (.long (p1 - p2)) ∧ h = h0 ∧ Fr n0 L) := by
  refine con (JP.mathPlain rfl (by decide +kernel)) ?_
  intro p e s m below meth c s₁ hx hby hml hZ hown hnm hret hlk X0 e0
  refine entry (efA m p1 p2) ?_
  refine s_lloadN X0 hx hby (n := 1) (x := p1) d6_0 rfl rfl ?_
  refine s_lloadN X0 hx hby (n := 2) (x := p2) d6_1 rfl rfl ?_
  refine s_lsub X0 hx hby (n := 3) d6_2 rfl ?_
  refine s_lstore X0 hx hby (n := 5) (L' := #[.val (.long p1), .second, .val (.long p2), .second, .val (.long (p1 - p2)), .second]) d6_3 rfl rfl ?_
  refine s_lloadN X0 hx hby (n := 6) (x := p1) d6_5 rfl rfl ?_
  refine s_lloadN X0 hx hby (n := 7) (x := p2) d6_6 rfl rfl ?_
  refine s_lxor X0 hx hby (n := 8) d6_7 rfl ?_
  refine s_lloadN X0 hx hby (n := 9) (x := p1) d6_8 rfl rfl ?_
  refine s_lload X0 hx hby (n := 11) (x := (p1 - p2)) d6_9 rfl rfl ?_
  refine s_lxor X0 hx hby (n := 12) d6_11 rfl ?_
  refine s_land X0 hx hby (n := 13) d6_12 rfl ?_
  refine s_lconst X0 hx hby (n := 14) (v := (0 : Int64)) d6_13 rfl rfl ?_
  refine s_lcmp X0 hx hby (n := 15) d6_14 rfl ?_
  refine s_ifY X0 hx hby (n := 28) d6_15 (XT.ll_ge_t (XT.subOk64 q)) (by decide) (by decide) ?_
  refine s_lload X0 hx hby (n := 30) (x := (p1 - p2)) d6_28 rfl rfl ?_
  exact s_retJ X0 hx hby hlk hret d6_30 (by decide) (by decide) ⟨rfl, e0, Fr.nil _⟩
set_option maxRecDepth 65536 in
set_option maxHeartbeats 40000000 in
theorem rmC (l : Launch) (Z : State) (a0 : Array Value) (hw : ∀ d ∈ tables_1, d.before a0 Z = true) (o : Addr) (x : Int64) (h0 : Heap) (n0 : Nat) (F : Fld Z h0 o "com/example/deferral_ledger/deferralledger/model/Money" "cents" "J" (.long x)) :
    OCon l Z (⟨"com/example/deferral_ledger/deferralledger/model/Money", "cents", "()J"⟩ : MethodName) prog_62_method_13_code 1 (some (.long)) [] ({ frames := 0, cells := 0, slots := 0, locals := 0 } : Room) #[(.ref o)] h0 (fun v h L => v = some (.long x) ∧ h = h0 ∧ Fr n0 L) := by
  refine con (plainFor_of_name pn1) ?_
  intro p e s m below meth c s₁ hx hby hml hZ hown hnm hret hlk X0 e0
  refine entry (efR m o) ?_
  refine s_aloadN X0 hx hby (n := 1) (x := (.ref o)) d7_0 rfl rfl rfl ?_
  refine s_getF X0 hx hby hZ (n := 4) hown (hw _ (List.mem_of_getElem? (i := 19) rfl)) e0 F d7_1 rfl ?_
  intro T1 X1 e1
  exact s_retJ X1 hx hby hlk hret d7_4 (by decide) (by decide) ⟨rfl, e1, Fr.nil _⟩
set_option maxRecDepth 65536 in
set_option maxHeartbeats 40000000 in
theorem rmP (l : Launch) (Z : State) (a0 : Array Value) (hw : ∀ d ∈ tables_1, d.before a0 Z = true) (o q : Addr) (x y : Int64) (fx : XT.fits64 (x.toInt + y.toInt)) (h0 : Heap) (n0 : Nat) (Z0 : n0 ≤ h0.size) (F0_o : Fld Z h0 o "com/example/deferral_ledger/deferralledger/model/Money" "cents" "J" (.long x)) (F0_q : Fld Z h0 q "com/example/deferral_ledger/deferralledger/model/Money" "cents" "J" (.long y)) :
    OCon l Z (⟨"com/example/deferral_ledger/deferralledger/model/Money", "plus", "(Lcom/example/deferral_ledger/deferralledger/model/Money;)Lcom/example/deferral_ledger/deferralledger/model/Money;"⟩ : MethodName) prog_62_method_7_code 2 (some (.object "com/example/deferral_ledger/deferralledger/model/Money")) [] ({ frames := 3, cells := 1, slots := 1, locals := 39 } : Room) #[(.ref o), (.ref q)] h0 (fun v h L => ∃ r, v = some (.ref r) ∧ Fr n0 L ∧ Keep h0 h [] ∧ Exa Z h r "com/example/deferral_ledger/deferralledger/model/Money" ∧ Fld Z h r "com/example/deferral_ledger/deferralledger/model/Money" "cents" "J" (.long (x + y))) := by
  refine con (plainFor_of_name pn1) ?_
  intro p e s m below meth c s₁ hx hby hml hZ hown hnm hret hlk X0 e0
  refine entry (efP m o q) ?_
  have M0 := Fr.nil n0
  have K0 := Keep.refl h0 []
  refine s_newO X0 hx hby hZ (n := 3) hown (hw _ (List.mem_of_getElem? (i := 26) rfl)) (hw _ (List.mem_of_getElem? (i := 6) rfl)) (hw _ (List.mem_of_getElem? (i := 7) rfl)) e0 (by decide) (by decide) d8_0 rfl ?_
  intro T1 h1 r gr X1 e1 Q1 E1_r D1
  have K1 := K0.ext Q1
  have F1_r_cents : Fld Z h1 r "com/example/deferral_ledger/deferralledger/model/Money" "cents" "J" (.long (0 : Int64)) := D1 (Or.inr (hw _ (List.mem_of_getElem? (i := 20) rfl))) (ty := .long) (by decide)
  have n_r : n0 ≤ r := by rw [gr]; exact Z0
  have Z1 : n0 ≤ h1.size := Nat.le_trans Z0 Q1.1
  have Fo := F0_o.ext Q1
  have Fq := F0_q.ext Q1
  refine s_dup X1 hx hby (n := 4) d8_3 rfl rfl ?_
  refine s_aloadN X1 hx hby (n := 5) (x := (.ref o)) d8_4 rfl rfl rfl ?_
  refine s_getF X1 hx hby hZ (n := 8) hown (hw _ (List.mem_of_getElem? (i := 19) rfl)) e1 Fo d8_5 rfl ?_
  intro T2 X2 e2
  refine s_aloadN X2 hx hby (n := 9) (x := (.ref q)) d8_8 rfl rfl rfl ?_
  refine s_getF X2 hx hby hZ (n := 12) hown (hw _ (List.mem_of_getElem? (i := 19) rfl)) e2 Fq d8_9 rfl ?_
  intro T3 X3 e3
  refine s_callS X3 hx hby hml hZ (n := 15) hown (hw _ (List.mem_of_getElem? (i := 42) rfl)) (hw _ (List.mem_of_getElem? (i := 43) rfl)) (hw _ (List.mem_of_getElem? (i := 29) rfl)) (hw _ (List.mem_of_getElem? (i := 44) rfl)) (by decide) (rmA l Z a0 hw x y fx h1 n0) e3 (by decide) 2 (by decide) (by decide) (by decide) pd_1 [(.long x), (.long y)] [(.ref r), (.ref r)] rfl rfl rfl (Nat.le_of_eq rfl) rfl d8_12 rfl ?_
  intro T4 L4 v4 X4 q4c
  obtain ⟨rfl, e4, N4⟩ := q4c
  show OEnds p e below s _ _ _ T4 (mkF m 15 #[.val (.ref o), .val (.ref q)] [(.long (x + y)), (.ref r), (.ref r)])
  have M4 := Fr.app M0 N4
  refine s_callI X4 hx hby hml hZ (n := 18) rfl hown (hw _ (List.mem_of_getElem? (i := 31) rfl)) (hw _ (List.mem_of_getElem? (i := 9) rfl)) (hw _ (List.mem_of_getElem? (i := 7) rfl)) (hw _ (List.mem_of_getElem? (i := 10) rfl)) (by decide) (rmI l Z a0 hw r (x + y) h1 n0 n_r E1_r F1_r_cents) e4 (by decide) 1 (by decide) (by decide) (by decide) pd_2 r [(.long (x + y))] [(.ref r)] rfl rfl rfl (Nat.le_of_eq rfl) rfl d8_15 rfl ?_
  intro T5 L5 v5 X5 q5c
  obtain ⟨rfl, N5, K5, E5_r, F5_r_cents⟩ := q5c
  show OEnds p e below s _ _ _ T5 (mkF m 18 #[.val (.ref o), .val (.ref q)] [(.ref r)])
  have M5 := Fr.app M4 N5
  have Z5 := Nat.le_trans Z1 K5.1
  have K9 : Keep h0 T5.heap [] := K1.trans K5 (allS (Or.inr (Nat.le_of_eq gr.symm)) all0)
  exact s_retA X5 hx hby hlk hret rfl rfl d8_18 (by decide) (by decide) ⟨_, rfl, M5, K9, E5_r, F5_r_cents⟩
set_option maxRecDepth 65536 in
set_option maxHeartbeats 40000000 in
theorem rmM (l : Launch) (Z : State) (a0 : Array Value) (hw : ∀ d ∈ tables_1, d.before a0 Z = true) (o q : Addr) (x y : Int64) (fx : XT.fits64 (x.toInt - y.toInt)) (h0 : Heap) (n0 : Nat) (Z0 : n0 ≤ h0.size) (F0_o : Fld Z h0 o "com/example/deferral_ledger/deferralledger/model/Money" "cents" "J" (.long x)) (F0_q : Fld Z h0 q "com/example/deferral_ledger/deferralledger/model/Money" "cents" "J" (.long y)) :
    OCon l Z (⟨"com/example/deferral_ledger/deferralledger/model/Money", "minus", "(Lcom/example/deferral_ledger/deferralledger/model/Money;)Lcom/example/deferral_ledger/deferralledger/model/Money;"⟩ : MethodName) prog_62_method_8_code 2 (some (.object "com/example/deferral_ledger/deferralledger/model/Money")) [] ({ frames := 3, cells := 1, slots := 1, locals := 39 } : Room) #[(.ref o), (.ref q)] h0 (fun v h L => ∃ r, v = some (.ref r) ∧ Fr n0 L ∧ Keep h0 h [] ∧ Exa Z h r "com/example/deferral_ledger/deferralledger/model/Money" ∧ Fld Z h r "com/example/deferral_ledger/deferralledger/model/Money" "cents" "J" (.long (x - y))) := by
  refine con (plainFor_of_name pn1) ?_
  intro p e s m below meth c s₁ hx hby hml hZ hown hnm hret hlk X0 e0
  refine entry (efP m o q) ?_
  have M0 := Fr.nil n0
  have K0 := Keep.refl h0 []
  refine s_newO X0 hx hby hZ (n := 3) hown (hw _ (List.mem_of_getElem? (i := 26) rfl)) (hw _ (List.mem_of_getElem? (i := 6) rfl)) (hw _ (List.mem_of_getElem? (i := 7) rfl)) e0 (by decide) (by decide) d5_0 rfl ?_
  intro T1 h1 r gr X1 e1 Q1 E1_r D1
  have K1 := K0.ext Q1
  have F1_r_cents : Fld Z h1 r "com/example/deferral_ledger/deferralledger/model/Money" "cents" "J" (.long (0 : Int64)) := D1 (Or.inr (hw _ (List.mem_of_getElem? (i := 20) rfl))) (ty := .long) (by decide)
  have n_r : n0 ≤ r := by rw [gr]; exact Z0
  have Z1 : n0 ≤ h1.size := Nat.le_trans Z0 Q1.1
  have Fo := F0_o.ext Q1
  have Fq := F0_q.ext Q1
  refine s_dup X1 hx hby (n := 4) d5_3 rfl rfl ?_
  refine s_aloadN X1 hx hby (n := 5) (x := (.ref o)) d5_4 rfl rfl rfl ?_
  refine s_getF X1 hx hby hZ (n := 8) hown (hw _ (List.mem_of_getElem? (i := 19) rfl)) e1 Fo d5_5 rfl ?_
  intro T2 X2 e2
  refine s_aloadN X2 hx hby (n := 9) (x := (.ref q)) d5_8 rfl rfl rfl ?_
  refine s_getF X2 hx hby hZ (n := 12) hown (hw _ (List.mem_of_getElem? (i := 19) rfl)) e2 Fq d5_9 rfl ?_
  intro T3 X3 e3
  refine s_callS X3 hx hby hml hZ (n := 15) hown (hw _ (List.mem_of_getElem? (i := 27) rfl)) (hw _ (List.mem_of_getElem? (i := 28) rfl)) (hw _ (List.mem_of_getElem? (i := 29) rfl)) (hw _ (List.mem_of_getElem? (i := 30) rfl)) (by decide) (rmS l Z a0 hw x y fx h1 n0) e3 (by decide) 2 (by decide) (by decide) (by decide) pd_1 [(.long x), (.long y)] [(.ref r), (.ref r)] rfl rfl rfl (Nat.le_of_eq rfl) rfl d5_12 rfl ?_
  intro T4 L4 v4 X4 q4c
  obtain ⟨rfl, e4, N4⟩ := q4c
  show OEnds p e below s _ _ _ T4 (mkF m 15 #[.val (.ref o), .val (.ref q)] [(.long (x - y)), (.ref r), (.ref r)])
  have M4 := Fr.app M0 N4
  refine s_callI X4 hx hby hml hZ (n := 18) rfl hown (hw _ (List.mem_of_getElem? (i := 31) rfl)) (hw _ (List.mem_of_getElem? (i := 9) rfl)) (hw _ (List.mem_of_getElem? (i := 7) rfl)) (hw _ (List.mem_of_getElem? (i := 10) rfl)) (by decide) (rmI l Z a0 hw r (x - y) h1 n0 n_r E1_r F1_r_cents) e4 (by decide) 1 (by decide) (by decide) (by decide) pd_2 r [(.long (x - y))] [(.ref r)] rfl rfl rfl (Nat.le_of_eq rfl) rfl d5_15 rfl ?_
  intro T5 L5 v5 X5 q5c
  obtain ⟨rfl, N5, K5, E5_r, F5_r_cents⟩ := q5c
  show OEnds p e below s _ _ _ T5 (mkF m 18 #[.val (.ref o), .val (.ref q)] [(.ref r)])
  have M5 := Fr.app M4 N5
  have Z5 := Nat.le_trans Z1 K5.1
  have K9 : Keep h0 T5.heap [] := K1.trans K5 (allS (Or.inr (Nat.le_of_eq gr.symm)) all0)
  exact s_retA X5 hx hby hlk hret rfl rfl d5_18 (by decide) (by decide) ⟨_, rfl, M5, K9, E5_r, F5_r_cents⟩
theorem efD (m : MethodId) (x0 : Int64) (x1 : Int64) : entryFrame m #[(.long x0), (.long x1)] 4 = mkF m 0 #[.val (.long x0), .second, .val (.long x1), .second] [] := by first | (simp [entryFrame, mkF, argsToLocals, Value.category, maxLocals]; done) | rfl
theorem ef0 (m : MethodId) (x0 : Int64) (x1 : Int64) : entryFrame m #[(.long x0), (.long x1)] maxLocals = mkF m 0 #[.val (.long x0), .second, .val (.long x1), .second, .unset, .unset, .unset, .unset, .unset, .unset] [] := by first | (simp [entryFrame, mkF, argsToLocals, Value.category, maxLocals]; done) | rfl
def own_do (a b : Int64) : Bool := if (0 : Int64) < b then decide (a < (-9223372036854775808 : Int64) + b) else if b < (0 : Int64) then decide ((9223372036854775807 : Int64) + b < a) else false
theorem own_ok {a b : Int64} (h : own_do a b = false) : XT.fits64 (a.toInt - b.toInt) := by
  have h1 := c_ladd (-9223372036854775808 : Int64) b
  have h2 := c_ladd (9223372036854775807 : Int64) b
  have h3 := rng64 ((-9223372036854775808 : Int64) + b)
  have h4 := rng64 ((9223372036854775807 : Int64) + b)
  have h5 := rng64 a
  have h6 := rng64 b
  have k0 : (0 : Int64).toInt = 0 := by decide
  have k1 : (-9223372036854775808 : Int64).toInt = -9223372036854775808 := by decide
  have k2 : (9223372036854775807 : Int64).toInt = 9223372036854775807 := by decide
  unfold own_do at h
  rw [k1] at h1; rw [k2] at h2
  simp only [Int64.lt_iff_toInt_lt, k0] at h
  unfold XT.fits64
  split at h
  · rw [decide_eq_false_iff_not] at h; constructor <;> omega
  · split at h
    · rw [decide_eq_false_iff_not] at h; constructor <;> omega
    · constructor <;> omega
theorem own_ok2 {a b : Int64} (h : XT.fits64 (a.toInt - b.toInt)) : XT.fits64 ((a - b).toInt + b.toInt) := by
  rw [XT.sub64 h]
  have h5 := rng64 a
  constructor <;> omega
set_option maxRecDepth 65536 in
set_option maxHeartbeats 40000000 in
theorem rmD (l : Launch) (Z : State) (a0 : Array Value) (hw : ∀ d ∈ tables_1, d.before a0 Z = true) (p1 p2 : Int64) (h0 : Heap) (n0 : Nat)  :
    OCon l Z (⟨"com/example/deferral_ledger/deferralledger/model/MoneyMinusPinLaw", "differenceOverflows", "(JJ)Z"⟩ : MethodName) method_2_code 4 (some (.boolean)) [] ({ frames := 0, cells := 0, slots := 0, locals := 0 } : Room) #[(.long p1), (.long p2)] h0 (fun v h L => v = some (.int (b2i (own_do p1 p2))) ∧ h = h0 ∧ Fr n0 L) := by
  refine con (plainFor_of_name pn0) ?_
  intro p e s m below meth c s₁ hx hby hml hZ hown hnm hret hlk X0 e0
  refine entry (efD m p1 p2) ?_
  refine s_lloadN X0 hx hby (n := 1) (x := p2) d1_0 rfl rfl ?_
  refine s_lconst X0 hx hby (n := 2) (v := (0 : Int64)) d1_1 rfl rfl ?_
  refine s_lcmp X0 hx hby (n := 3) d1_2 rfl ?_
  by_cases c3 : (0 : Int64) < p2
  · refine s_ifN X0 hx hby (n := 6) d1_3 (XT.ll_le_f c3) rfl ?_
    refine s_lloadN X0 hx hby (n := 7) (x := p1) d1_6 rfl rfl ?_
    refine s_ldc2J X0 hx hby hZ (n := 10) hown (hw _ (List.mem_of_getElem? (i := 4) rfl)) d1_7 rfl ?_
    refine s_lloadN X0 hx hby (n := 11) (x := p2) d1_10 rfl rfl ?_
    refine s_ladd X0 hx hby (n := 12) d1_11 rfl ?_
    refine s_lcmp X0 hx hby (n := 13) d1_12 rfl ?_
    by_cases c13 : p1 < ((-9223372036854775808 : Int64) + p2)
    · refine s_ifN X0 hx hby (n := 16) d1_13 (XT.ll_ge_f c13) rfl ?_
      refine s_iconst X0 hx hby (n := 17) (v := (1 : Int32)) d1_16 rfl rfl ?_
      refine s_goto X0 hx hby (n := 21) d1_17 (by decide) (by decide) ?_
      exact s_retN X0 hx hby hlk hret (t := .boolean) (by simp) (z' := (1 : Int32)) (by decide) d1_21 (by decide) (by decide) ⟨by simp [own_do, b2i, c3, c13], e0, Fr.nil _⟩
    · refine s_ifY X0 hx hby (n := 20) d1_13 (XT.ll_ge_t c13) (by decide) (by decide) ?_
      refine s_iconst X0 hx hby (n := 21) (v := (0 : Int32)) d1_20 rfl rfl ?_
      exact s_retN X0 hx hby hlk hret (t := .boolean) (by simp) (z' := (0 : Int32)) (by decide) d1_21 (by decide) (by decide) ⟨by simp [own_do, b2i, c3, c13], e0, Fr.nil _⟩
  · refine s_ifY X0 hx hby (n := 22) d1_3 (XT.ll_le_t c3) (by decide) (by decide) ?_
    refine s_lloadN X0 hx hby (n := 23) (x := p2) d1_22 rfl rfl ?_
    refine s_lconst X0 hx hby (n := 24) (v := (0 : Int64)) d1_23 rfl rfl ?_
    refine s_lcmp X0 hx hby (n := 25) d1_24 rfl ?_
    by_cases c25 : p2 < (0 : Int64)
    · refine s_ifN X0 hx hby (n := 28) d1_25 (XT.ll_ge_f c25) rfl ?_
      refine s_lloadN X0 hx hby (n := 29) (x := p1) d1_28 rfl rfl ?_
      refine s_ldc2J X0 hx hby hZ (n := 32) hown (hw _ (List.mem_of_getElem? (i := 45) rfl)) d1_29 rfl ?_
      refine s_lloadN X0 hx hby (n := 33) (x := p2) d1_32 rfl rfl ?_
      refine s_ladd X0 hx hby (n := 34) d1_33 rfl ?_
      refine s_lcmp X0 hx hby (n := 35) d1_34 rfl ?_
      by_cases c35 : ((9223372036854775807 : Int64) + p2) < p1
      · refine s_ifN X0 hx hby (n := 38) d1_35 (XT.ll_le_f c35) rfl ?_
        refine s_iconst X0 hx hby (n := 39) (v := (1 : Int32)) d1_38 rfl rfl ?_
        refine s_goto X0 hx hby (n := 43) d1_39 (by decide) (by decide) ?_
        exact s_retN X0 hx hby hlk hret (t := .boolean) (by simp) (z' := (1 : Int32)) (by decide) d1_43 (by decide) (by decide) ⟨by simp [own_do, b2i, c3, c25, c35], e0, Fr.nil _⟩
      · refine s_ifY X0 hx hby (n := 42) d1_35 (XT.ll_le_t c35) (by decide) (by decide) ?_
        refine s_iconst X0 hx hby (n := 43) (v := (0 : Int32)) d1_42 rfl rfl ?_
        exact s_retN X0 hx hby hlk hret (t := .boolean) (by simp) (z' := (0 : Int32)) (by decide) d1_43 (by decide) (by decide) ⟨by simp [own_do, b2i, c3, c25, c35], e0, Fr.nil _⟩
    · refine s_ifY X0 hx hby (n := 44) d1_25 (XT.ll_ge_t c25) (by decide) (by decide) ?_
      refine s_iconst X0 hx hby (n := 45) (v := (0 : Int32)) d1_44 rfl rfl ?_
      exact s_retN X0 hx hby hlk hret (t := .boolean) (by simp) (z' := (0 : Int32)) (by decide) d1_45 (by decide) (by decide) ⟨by simp [own_do, b2i, c3, c25], e0, Fr.nil _⟩
set_option maxRecDepth 65536 in
set_option maxHeartbeats 40000000 in
theorem rm0 (l : Launch) (Z : State) (a0 : Array Value) (hw : ∀ d ∈ tables_1, d.before a0 Z = true) (p0 p1 : Int64) (h0 : Heap) (n0 : Nat) (Z0 : n0 ≤ h0.size) :
    OCon l Z x code maxLocals ret tables_1 room_1 #[(.long p0), (.long p1)] h0 (fun v h L => v = some (.int 1) ∧ Fr n0 L) := by
  refine con (plainFor_of_name pn0) ?_
  intro p e s m below meth c s₁ hx hby hml hZ hown hnm hret hlk X0 e0
  refine entry (ef0 m p0 p1) ?_
  have M0 := Fr.nil n0
  refine s_lloadN X0 hx hby (n := 1) (x := p0) at_0 rfl rfl ?_
  refine s_lloadN X0 hx hby (n := 2) (x := p1) at_1 rfl rfl ?_
  refine s_callS X0 hx hby hml hZ (n := 5) hown (hw _ (List.mem_of_getElem? (i := 0) rfl)) (hw _ (List.mem_of_getElem? (i := 1) rfl)) (hw _ (List.mem_of_getElem? (i := 2) rfl)) (hw _ (List.mem_of_getElem? (i := 3) rfl)) (by decide) (rmD l Z a0 hw p0 p1 h0 n0) e0 (by decide) 0 (by decide) (by decide) (by decide) pd_3 [(.long p0), (.long p1)] [] rfl rfl rfl (Nat.le_of_eq rfl) rfl at_2 rfl ?_
  intro T1 L1 v1 X1 q1c
  obtain ⟨rfl, e1, N1⟩ := q1c
  show OEnds p e below s _ _ _ T1 (mkF m 5 #[.val (.long p0), .second, .val (.long p1), .second, .unset, .unset, .unset, .unset, .unset, .unset] [(.int (b2i (own_do p0 p1)))])
  have M1 := Fr.app M0 N1
  rcases Bool.eq_false_or_eq_true ((own_do p0 p1)) with c5 | c5
  · refine s_ifN X1 hx hby (n := 8) at_5 (ifb_eq_f c5) rfl ?_
    refine s_iconst X1 hx hby (n := 9) (v := (1 : Int32)) at_8 rfl rfl ?_
    exact s_retN X1 hx hby hlk hret (t := .boolean) (by simp) (z' := (1 : Int32)) (by decide) at_9 (by decide) (by decide) ⟨rfl, M1⟩
  · refine s_ifY X1 hx hby (n := 10) at_5 (ifb_eq_t c5) (by decide) (by decide) ?_
    refine s_newO X1 hx hby hZ (n := 13) hown (hw _ (List.mem_of_getElem? (i := 5) rfl)) (hw _ (List.mem_of_getElem? (i := 6) rfl)) (hw _ (List.mem_of_getElem? (i := 7) rfl)) e1 (by decide) (by decide) at_10 rfl ?_
    intro T2 h2 x gx X2 e2 Q2 E2_x D2
    have F2_x_cents : Fld Z h2 x "com/example/deferral_ledger/deferralledger/model/Money" "cents" "J" (.long (0 : Int64)) := D2 (Or.inr (hw _ (List.mem_of_getElem? (i := 20) rfl))) (ty := .long) (by decide)
    have n_x : n0 ≤ x := by rw [gx]; exact Z0
    have Z2 : n0 ≤ h2.size := Nat.le_trans Z0 Q2.1
    refine s_dup X2 hx hby (n := 14) at_13 rfl rfl ?_
    refine s_lloadN X2 hx hby (n := 15) (x := p0) at_14 rfl rfl ?_
    refine s_callI X2 hx hby hml hZ (n := 18) rfl hown (hw _ (List.mem_of_getElem? (i := 8) rfl)) (hw _ (List.mem_of_getElem? (i := 9) rfl)) (hw _ (List.mem_of_getElem? (i := 7) rfl)) (hw _ (List.mem_of_getElem? (i := 10) rfl)) (by decide) (rmI l Z a0 hw x p0 h2 n0 n_x E2_x F2_x_cents) e2 (by decide) 1 (by decide) (by decide) (by decide) pd_2 x [(.long p0)] [(.ref x)] rfl rfl rfl (Nat.le_of_eq rfl) rfl at_15 rfl ?_
    intro T3 L3 v3 X3 q3c
    obtain ⟨rfl, N3, K3, E3_x, F3_x_cents⟩ := q3c
    show OEnds p e below s _ _ _ T3 (mkF m 18 #[.val (.long p0), .second, .val (.long p1), .second, .unset, .unset, .unset, .unset, .unset, .unset] [(.ref x)])
    have M3 := Fr.app M1 N3
    have Z3 := Nat.le_trans Z2 K3.1
    refine s_astore X3 hx hby (n := 20) (L' := #[.val (.long p0), .second, .val (.long p1), .second, .val (.ref x), .unset, .unset, .unset, .unset, .unset]) at_18 rfl rfl rfl ?_
    refine s_newO X3 hx hby hZ (n := 23) hown (hw _ (List.mem_of_getElem? (i := 5) rfl)) (hw _ (List.mem_of_getElem? (i := 6) rfl)) (hw _ (List.mem_of_getElem? (i := 7) rfl)) rfl (by decide) (by decide) at_20 rfl ?_
    intro T4 h4 y gy X4 e4 Q4 E4_y D4
    have ne_x_y : x ≠ y := by rw [gy]; exact Nat.ne_of_lt E3_x.lt
    have E4_x := E3_x.ext Q4
    have F4_x_cents := F3_x_cents.ext Q4
    have F4_y_cents : Fld Z h4 y "com/example/deferral_ledger/deferralledger/model/Money" "cents" "J" (.long (0 : Int64)) := D4 (Or.inr (hw _ (List.mem_of_getElem? (i := 20) rfl))) (ty := .long) (by decide)
    have n_y : n0 ≤ y := by rw [gy]; exact Z3
    have Z4 : n0 ≤ h4.size := Nat.le_trans Z3 Q4.1
    refine s_dup X4 hx hby (n := 24) at_23 rfl rfl ?_
    refine s_lloadN X4 hx hby (n := 25) (x := p1) at_24 rfl rfl ?_
    refine s_callI X4 hx hby hml hZ (n := 28) rfl hown (hw _ (List.mem_of_getElem? (i := 8) rfl)) (hw _ (List.mem_of_getElem? (i := 9) rfl)) (hw _ (List.mem_of_getElem? (i := 7) rfl)) (hw _ (List.mem_of_getElem? (i := 10) rfl)) (by decide) (rmI l Z a0 hw y p1 h4 n0 n_y E4_y F4_y_cents) e4 (by decide) 1 (by decide) (by decide) (by decide) pd_2 y [(.long p1)] [(.ref y)] rfl rfl rfl (Nat.le_of_eq rfl) rfl at_25 rfl ?_
    intro T5 L5 v5 X5 q5c
    obtain ⟨rfl, N5, K5, E5_y, F5_y_cents⟩ := q5c
    show OEnds p e below s _ _ _ T5 (mkF m 28 #[.val (.long p0), .second, .val (.long p1), .second, .val (.ref x), .unset, .unset, .unset, .unset, .unset] [(.ref y)])
    have E5_x := E4_x.keep K5
    have F5_x_cents := F4_x_cents.keep K5 (ninS ne_x_y nin0)
    have M5 := Fr.app M3 N5
    have Z5 := Nat.le_trans Z4 K5.1
    refine s_astore X5 hx hby (n := 30) (L' := #[.val (.long p0), .second, .val (.long p1), .second, .val (.ref x), .val (.ref y), .unset, .unset, .unset, .unset]) at_28 rfl rfl rfl ?_
    refine s_aload X5 hx hby (n := 32) (x := (.ref x)) at_30 rfl rfl rfl ?_
    refine s_aload X5 hx hby (n := 34) (x := (.ref y)) at_32 rfl rfl rfl ?_
    refine s_callV X5 hx hby hml hZ (n := 37) hown (hw _ (List.mem_of_getElem? (i := 21) rfl)) (hw _ (List.mem_of_getElem? (i := 22) rfl)) (notFace_of_selects (args := #[]) (mvT hZ (hw _ (List.mem_of_getElem? (i := 24) rfl)))) (hw _ (List.mem_of_getElem? (i := 24) rfl)) (hw _ (List.mem_of_getElem? (i := 23) rfl)) (hw _ (List.mem_of_getElem? (i := 7) rfl)) (hw _ (List.mem_of_getElem? (i := 25) rfl)) (by decide) (rmM l Z a0 hw x y p0 p1 (own_ok c5) T5.heap n0 Z5 F5_x_cents F5_y_cents) rfl (by decide) 0 (by decide) (by decide) (by decide) pd_4 E5_x [(.ref y)] [] rfl rfl rfl (Nat.le_of_eq rfl) rfl at_34 rfl ?_
    intro T6 L6 v6 X6 q6c
    obtain ⟨dd, rfl, N6, K6, E6_dd, F6_dd_cents⟩ := q6c
    show OEnds p e below s _ _ _ T6 (mkF m 37 #[.val (.long p0), .second, .val (.long p1), .second, .val (.ref x), .val (.ref y), .unset, .unset, .unset, .unset] [(.ref dd)])
    have E6_x := E5_x.keep K6
    have F6_x_cents := F5_x_cents.keep K6 nin0
    have E6_y := E5_y.keep K6
    have F6_y_cents := F5_y_cents.keep K6 nin0
    have M6 := Fr.app M5 N6
    have Z6 := Nat.le_trans Z5 K6.1
    refine s_astore X6 hx hby (n := 39) (L' := #[.val (.long p0), .second, .val (.long p1), .second, .val (.ref x), .val (.ref y), .val (.ref dd), .unset, .unset, .unset]) at_37 rfl rfl rfl ?_
    refine s_lloadN X6 hx hby (n := 40) (x := p0) at_39 rfl rfl ?_
    refine s_lloadN X6 hx hby (n := 41) (x := p1) at_40 rfl rfl ?_
    refine s_lsub X6 hx hby (n := 42) at_41 rfl ?_
    refine s_lstore X6 hx hby (n := 44) (L' := #[.val (.long p0), .second, .val (.long p1), .second, .val (.ref x), .val (.ref y), .val (.ref dd), .val (.long (p0 - p1)), .second, .unset]) at_42 rfl rfl ?_
    refine s_aload X6 hx hby (n := 46) (x := (.ref dd)) at_44 rfl rfl rfl ?_
    refine s_callV X6 hx hby hml hZ (n := 49) hown (hw _ (List.mem_of_getElem? (i := 32) rfl)) (hw _ (List.mem_of_getElem? (i := 33) rfl)) (notFace_of_selects (args := #[]) (mvT hZ (hw _ (List.mem_of_getElem? (i := 35) rfl)))) (hw _ (List.mem_of_getElem? (i := 35) rfl)) (hw _ (List.mem_of_getElem? (i := 34) rfl)) (hw _ (List.mem_of_getElem? (i := 7) rfl)) (hw _ (List.mem_of_getElem? (i := 36) rfl)) (by decide) (rmC l Z a0 hw dd (p0 - p1) T6.heap n0 F6_dd_cents) rfl (by decide) 0 (by decide) (by decide) (by decide) pd_5 E6_dd [] [] rfl rfl rfl (Nat.le_of_eq rfl) rfl at_46 rfl ?_
    intro T7 L7 v7 X7 q7c
    obtain ⟨rfl, e7, N7⟩ := q7c
    show OEnds p e below s _ _ _ T7 (mkF m 49 #[.val (.long p0), .second, .val (.long p1), .second, .val (.ref x), .val (.ref y), .val (.ref dd), .val (.long (p0 - p1)), .second, .unset] [(.long (p0 - p1))])
    have M7 := Fr.app M6 N7
    refine s_lload X7 hx hby (n := 51) (x := (p0 - p1)) at_49 rfl rfl ?_
    refine s_lcmp X7 hx hby (n := 52) at_51 rfl ?_
    refine s_ifY X7 hx hby (n := 57) at_52 (XT.ll_eq_t rfl) (by decide) (by decide) ?_
    refine s_aload X7 hx hby (n := 59) (x := (.ref dd)) at_57 rfl rfl rfl ?_
    refine s_aload X7 hx hby (n := 61) (x := (.ref y)) at_59 rfl rfl rfl ?_
    refine s_callV X7 hx hby hml hZ (n := 64) hown (hw _ (List.mem_of_getElem? (i := 37) rfl)) (hw _ (List.mem_of_getElem? (i := 38) rfl)) (notFace_of_selects (args := #[]) (mvT hZ (hw _ (List.mem_of_getElem? (i := 40) rfl)))) (hw _ (List.mem_of_getElem? (i := 40) rfl)) (hw _ (List.mem_of_getElem? (i := 39) rfl)) (hw _ (List.mem_of_getElem? (i := 7) rfl)) (hw _ (List.mem_of_getElem? (i := 41) rfl)) (by decide) (rmP l Z a0 hw dd y (p0 - p1) p1 (own_ok2 (own_ok c5)) T6.heap n0 Z6 F6_dd_cents F6_y_cents) e7 (by decide) 0 (by decide) (by decide) (by decide) pd_4 E6_dd [(.ref y)] [] rfl rfl rfl (Nat.le_of_eq rfl) rfl at_61 rfl ?_
    intro T8 L8 v8 X8 q8c
    obtain ⟨bb, rfl, N8, K8, E8_bb, F8_bb_cents⟩ := q8c
    show OEnds p e below s _ _ _ T8 (mkF m 64 #[.val (.long p0), .second, .val (.long p1), .second, .val (.ref x), .val (.ref y), .val (.ref dd), .val (.long (p0 - p1)), .second, .unset] [(.ref bb)])
    have E8_x := E6_x.keep K8
    have F8_x_cents := F6_x_cents.keep K8 nin0
    have E8_y := E6_y.keep K8
    have F8_y_cents := F6_y_cents.keep K8 nin0
    have E8_dd := E6_dd.keep K8
    have F8_dd_cents := F6_dd_cents.keep K8 nin0
    have M8 := Fr.app M7 N8
    have Z8 := Nat.le_trans Z6 K8.1
    refine s_astore X8 hx hby (n := 66) (L' := #[.val (.long p0), .second, .val (.long p1), .second, .val (.ref x), .val (.ref y), .val (.ref dd), .val (.long (p0 - p1)), .second, .val (.ref bb)]) at_64 rfl rfl rfl ?_
    refine s_aload X8 hx hby (n := 68) (x := (.ref bb)) at_66 rfl rfl rfl ?_
    refine s_callV X8 hx hby hml hZ (n := 71) hown (hw _ (List.mem_of_getElem? (i := 32) rfl)) (hw _ (List.mem_of_getElem? (i := 33) rfl)) (notFace_of_selects (args := #[]) (mvT hZ (hw _ (List.mem_of_getElem? (i := 35) rfl)))) (hw _ (List.mem_of_getElem? (i := 35) rfl)) (hw _ (List.mem_of_getElem? (i := 34) rfl)) (hw _ (List.mem_of_getElem? (i := 7) rfl)) (hw _ (List.mem_of_getElem? (i := 36) rfl)) (by decide) (rmC l Z a0 hw bb ((p0 - p1) + p1) T8.heap n0 F8_bb_cents) rfl (by decide) 0 (by decide) (by decide) (by decide) pd_5 E8_bb [] [] rfl rfl rfl (Nat.le_of_eq rfl) rfl at_68 rfl ?_
    intro T9 L9 v9 X9 q9c
    obtain ⟨rfl, e9, N9⟩ := q9c
    show OEnds p e below s _ _ _ T9 (mkF m 71 #[.val (.long p0), .second, .val (.long p1), .second, .val (.ref x), .val (.ref y), .val (.ref dd), .val (.long (p0 - p1)), .second, .val (.ref bb)] [(.long ((p0 - p1) + p1))])
    have M9 := Fr.app M8 N9
    refine s_lloadN X9 hx hby (n := 72) (x := p0) at_71 rfl rfl ?_
    refine s_lcmp X9 hx hby (n := 73) at_72 rfl ?_
    refine s_ifN X9 hx hby (n := 76) at_73 (XT.ll_ne_f (Int64.sub_add_cancel _ _)) rfl ?_
    refine s_iconst X9 hx hby (n := 77) (v := (1 : Int32)) at_76 rfl rfl ?_
    refine s_goto X9 hx hby (n := 81) at_77 (by decide) (by decide) ?_
    exact s_retN X9 hx hby hlk hret (t := .boolean) (by simp) (z' := (1 : Int32)) (by decide) at_81 (by decide) (by decide) ⟨rfl, M9⟩
set_option maxRecDepth 65536 in
set_option maxHeartbeats 40000000 in
theorem comes_1 {Post : Tables → Env → Array Value → State → Outcome → State → Prop} (hpost : ∀ tb e args s v u, (limb_1_1.after args s (.returned v) u = true ∧ limb_1_2.after args s (.returned v) u = true ∧ True) → FrameEnd s (.returned v) u (Jvm.fieldLocs frame_1_writes args s ++ Jvm.arrayLocs frame_1_arrays args s ++ Jvm.staticLocs frame_1_statics s) room_1.cells room_1.slots → Post tb e args s (.returned v) u) :
    ArmFor flags0 classFile x code maxLocals ret World_1 tables_1 room_1 Calls_1 rest_1 Pre_1 Post := by
  intro l hfl _ _ p e ha hc hk s m args below hf hA hF happ hP
  obtain ⟨hcalls, hrest, hpre⟩ := hP
  obtain ⟨-, -, -, hnamed, -, -, -, hat⟩ := (Spec.applies_iff hf).mp happ
  obtain ⟨hg, hn⟩ := and_e (Cond.before_iff.mp (show (Jvm.Cond.and given_1 narrow_1).before args s = true from hpre))
  obtain ⟨hcount, g0⟩ := and_e hg
  obtain ⟨q0, g1⟩ := and_e g0
  obtain ⟨w0, w1, rfl⟩ : ∃ w0 w1 : Value, args = #[w0, w1] := by
    have hs : args.size = 2 := by simpa [Cond.value, given_1] using hcount
    obtain ⟨L⟩ := args
    match L, hs with
    | [w0, w1], _ => exact ⟨w0, w1, rfl⟩
  have hw := fun d (hd : d ∈ tables_1) => atoms_spec (ws := Jvm.Cond.code x code maxLocals ret :: tables_1) hat d (List.mem_cons_of_mem _ hd)
  have hfit : Fit s := fun {y c} hc i hi => by
    obtain ⟨ha, rfl⟩ := Array.getElem?_eq_some_iff.mp hc
    have q := List.all_eq_true.mp ((Array.all_eq_true_iff_forall_mem.mp hF) _ (Array.getElem_mem ha)) i (List.mem_range.mpr hi)
    simpa [Array.getElem?_eq_getElem hi] using q
  obtain ⟨i0, r0⟩ := isL_v q0
  obtain rfl : w0 = (.long i0) := Option.some.inj r0
  obtain ⟨i1, r1⟩ := isL_v g1
  obtain rfl : w1 = (.long i1) := Option.some.inj r1
  obtain ⟨n, o, h1, h2, h3, _, L, rfl, ⟨rfl, N⟩, hq⟩ := rm0 l s _ hw i0 i1 s.heap s.heap.size (Nat.le_refl _) p e ha hc hk s m _ below hf ((Spec.applies_iff_loose hf).mp happ).1 ⟨rfl, State.Warmed39.refl s, rfl⟩ trivial
  refine ⟨n, _, h1, h2, h3, hpost _ _ _ _ _ _ ⟨Cond.after_iff.mpr rfl, Cond.after_iff.mpr (eq_i res_at (Term.int_eval (1)) rfl), trivial⟩ ⟨hq.1, hq.2.1, (hq.2.2.sift fun y hy => Or.inr (N y hy)).mono (by decide) (by decide)⟩⟩
theorem main_1_1 : Claimed_1_1 := comes_1 fun _ _ _ _ _ _ h hF => ⟨h.1, hF⟩
theorem main_1_2 : Claimed_1_2 := comes_1 fun _ _ _ _ _ _ h hF => ⟨h.2.1, hF⟩
end Jvm.Pilot.@@N@@
namespace Jvm.Pilot.@@N@@
open Jvm Jvm.ClassFile Sem Op Lib Jvm.Free Jvm.Stand Jvm.Pilot.@@N@@.Jvm.D
/-! MADE BY PROGRAM (witnessworld.py) out of the Statement's table words and the real class files: 11 classes; the members and pool entries that the words name. The judged class is class 1, her method 2. -/
namespace start1
open Jvm.ClassFile
def u (s : String) : CpInfo := .utf8 (stringToUtf16 s)
/-- a pool by its gaps: so many unusable entries, then the entry; so many at the end -/
def gap : Nat → List CpInfo → List CpInfo
  | 0, r => r
  | n + 1, r => .unusable :: gap n r
def poolList (es : List (Nat × CpInfo)) (last : Nat) : List CpInfo := es.foldr (fun e r => gap e.1 (e.2 :: r)) (gap last [])
def pool (es : List (Nat × CpInfo)) (last : Nat) : Array CpInfo := ⟨poolList es last⟩
def fileOf (pool : Array CpInfo) (this : Nat) (attrs : Array Attribute := #[]) (ms : Array MethodInfo := #[]) (fl : Nat := 33) (sup : Nat := 0) (ifs : Array Nat := #[]) (fds : Array FieldInfo := #[]) : ClassFile where
  minorVersion := 0
  majorVersion := 65
  constantPool := pool
  accessFlags := fl
  thisClass := this
  superClass := sup
  interfaces := ifs
  fields := fds
  methods := ms
  attributes := attrs
def plain (name : String) (sup : Option ClassId) : Class where
  name := name
  kind := .ordinary
  loader := none
  accessFlags := 33
  super := sup
  interfaces := #[]
  cf := none
  fields := #[]
  methods := #[]
  instanceTypes := #[]
  staticTypes := #[]
  resolved := #[]
  callSites := []
  init := .initialized
  statics := none
  mirror := none

def pool0 : Array CpInfo := pool [(5, u "<init>"), (0, u "()V"), (1, .class_ 10), (1, u "java/lang/Object")] 113

def k0c0 : Code := { maxStack := 0, maxLocals := 1, code := object_method_1_code, exceptionTable := #[], attributes := #[] }
def k0m0 : Method := { name := "<init>", desc := "()V", sig := { parameters := [], returnType := none }, accessFlags := 1, code := some k0c0 }
/-- java/lang/Object -/
def k0 : Class := { plain "java/lang/Object" none with
  accessFlags := 33
  interfaces := #[]
  cf := some (fileOf pool0 8 #[] #[{ accessFlags := 1, nameIndex := 5, descriptorIndex := 6, attributes := #[] }] 33 0 #[] #[])
  fields := #[]
  methods := #[k0m0]
  instanceTypes := #[]
  staticTypes := #[]
  resolved := Array.replicate 124 none
  statics := none }

def pool1 : Array CpInfo := pool [(2, .class_ 4), (1, u "java/lang/Object"), (0, u "<init>"), (0, u "()V"), (2, .long 9223372036854775808), (1, .long 9223372036854775807), (1, .methodref 14 15), (0, .class_ 16), (0, .nameAndType 17 18), (0, u "com/example/deferral_ledger/deferralledger/model/MoneyMinusPinLaw"), (0, u "differenceOverflows"), (0, u "(JJ)Z"), (0, .class_ 20), (0, u "com/example/deferral_ledger/deferralledger/model/Money"), (0, .methodref 19 22), (0, .nameAndType 5 23), (0, u "(J)V"), (0, .methodref 19 25), (0, .nameAndType 26 27), (0, u "minus"), (0, u "(Lcom/example/deferral_ledger/deferralledger/model/Money;)Lcom/example/deferral_ledger/deferralledger/model/Money;"), (0, .methodref 19 29), (0, .nameAndType 30 31), (0, u "cents"), (0, u "()J"), (0, .methodref 19 33), (0, .nameAndType 34 27), (0, u "plus"), (3, u "law")] 2

def k1m0 : Method := { name := "<init>", desc := "()V", sig := { parameters := [], returnType := none }, accessFlags := 2, code := none }
def k1c1 : Code := { maxStack := 6, maxLocals := 4, code := method_2_code, exceptionTable := #[], attributes := #[] }
def k1m1 : Method := { name := "differenceOverflows", desc := "(JJ)Z", sig := { parameters := [.long, .long], returnType := some .boolean }, accessFlags := 10, code := some k1c1 }
def k1c2 : Code := { maxStack := 4, maxLocals := 10, code := code, exceptionTable := #[], attributes := #[] }
def k1m2 : Method := { name := "law", desc := "(JJ)Z", sig := { parameters := [.long, .long], returnType := some .boolean }, accessFlags := 9, code := some k1c2 }
/-- com/example/deferral_ledger/deferralledger/model/MoneyMinusPinLaw -/
def k1 : Class := { plain "com/example/deferral_ledger/deferralledger/model/MoneyMinusPinLaw" (some 0) with
  accessFlags := 49
  interfaces := #[]
  cf := some (fileOf pool1 14 #[] #[{ accessFlags := 2, nameIndex := 5, descriptorIndex := 6, attributes := #[] }, { accessFlags := 10, nameIndex := 17, descriptorIndex := 18, attributes := #[] }, { accessFlags := 9, nameIndex := 38, descriptorIndex := 18, attributes := #[] }] 49 2 #[] #[])
  fields := #[]
  methods := #[k1m0, k1m1, k1m2]
  instanceTypes := #[]
  staticTypes := #[]
  resolved := Array.replicate 41 none
  statics := none }

def pool2 : Array CpInfo := pool [(1, .methodref 2 3), (0, .class_ 4), (0, .nameAndType 5 6), (0, u "java/lang/Object"), (0, u "<init>"), (0, u "()V"), (0, .class_ 8), (0, u "java/lang/Record")] 13

def k2c0 : Code := { maxStack := 1, maxLocals := 1, code := jdk_30_method_1_code, exceptionTable := #[], attributes := #[] }
def k2m0 : Method := { name := "<init>", desc := "()V", sig := { parameters := [], returnType := none }, accessFlags := 4, code := some k2c0 }
/-- java/lang/Record -/
def k2 : Class := { plain "java/lang/Record" (some 0) with
  accessFlags := 1057
  interfaces := #[]
  cf := some (fileOf pool2 7 #[] #[{ accessFlags := 4, nameIndex := 5, descriptorIndex := 6, attributes := #[] }] 1057 2 #[] #[])
  fields := #[]
  methods := #[k2m0]
  instanceTypes := #[]
  staticTypes := #[]
  resolved := Array.replicate 22 none
  statics := none }

def pool3 : Array CpInfo := pool [(1, .methodref 2 3), (0, .class_ 4), (0, .nameAndType 5 6), (0, u "java/lang/Record"), (0, u "<init>"), (0, u "()V"), (0, .fieldref 8 9), (0, .class_ 10), (0, .nameAndType 11 12), (0, u "com/example/deferral_ledger/deferralledger/model/Money"), (0, u "cents"), (0, u "J"), (8, .methodref 8 22), (0, .nameAndType 5 23), (0, u "(J)V"), (21, u "()J"), (39, .methodref 86 87), (0, .class_ 88), (0, .nameAndType 89 90), (0, u "java/lang/Math"), (0, u "addExact"), (0, u "(JJ)J"), (0, .methodref 86 92), (0, .nameAndType 93 90), (0, u "subtractExact"), (15, u "ZERO"), (0, u "Lcom/example/deferral_ledger/deferralledger/model/Money;"), (0, u "CENT_DIGITS"), (0, u "I"), (2, u "WHOLE_DIGITS"), (14, u "plus"), (0, u "(Lcom/example/deferral_ledger/deferralledger/model/Money;)Lcom/example/deferral_ledger/deferralledger/model/Money;"), (0, u "minus")] 8

def k3c0 : Code := { maxStack := 3, maxLocals := 3, code := prog_62_method_1_code, exceptionTable := #[], attributes := #[] }
def k3m0 : Method := { name := "<init>", desc := "(J)V", sig := { parameters := [.long], returnType := none }, accessFlags := 1, code := some k3c0 }
def k3c1 : Code := { maxStack := 6, maxLocals := 2, code := prog_62_method_7_code, exceptionTable := #[], attributes := #[] }
def k3m1 : Method := { name := "plus", desc := "(Lcom/example/deferral_ledger/deferralledger/model/Money;)Lcom/example/deferral_ledger/deferralledger/model/Money;", sig := { parameters := [(.object "com/example/deferral_ledger/deferralledger/model/Money")], returnType := some (.object "com/example/deferral_ledger/deferralledger/model/Money") }, accessFlags := 1, code := some k3c1 }
def k3c2 : Code := { maxStack := 6, maxLocals := 2, code := prog_62_method_8_code, exceptionTable := #[], attributes := #[] }
def k3m2 : Method := { name := "minus", desc := "(Lcom/example/deferral_ledger/deferralledger/model/Money;)Lcom/example/deferral_ledger/deferralledger/model/Money;", sig := { parameters := [(.object "com/example/deferral_ledger/deferralledger/model/Money")], returnType := some (.object "com/example/deferral_ledger/deferralledger/model/Money") }, accessFlags := 1, code := some k3c2 }
def k3c3 : Code := { maxStack := 2, maxLocals := 1, code := prog_62_method_13_code, exceptionTable := #[], attributes := #[] }
def k3m3 : Method := { name := "cents", desc := "()J", sig := { parameters := [], returnType := some .long }, accessFlags := 1, code := some k3c3 }
/-- com/example/deferral_ledger/deferralledger/model/Money -/
def k3 : Class := { plain "com/example/deferral_ledger/deferralledger/model/Money" (some 2) with
  accessFlags := 49
  interfaces := #[]
  cf := some (fileOf pool3 8 #[] #[{ accessFlags := 1, nameIndex := 5, descriptorIndex := 23, attributes := #[] }, { accessFlags := 1, nameIndex := 130, descriptorIndex := 131, attributes := #[] }, { accessFlags := 1, nameIndex := 132, descriptorIndex := 131, attributes := #[] }, { accessFlags := 1, nameIndex := 11, descriptorIndex := 45, attributes := #[] }] 49 2 #[] #[{ accessFlags := 18, nameIndex := 11, descriptorIndex := 12, attributes := #[] }, { accessFlags := 25, nameIndex := 109, descriptorIndex := 110, attributes := #[] }, { accessFlags := 26, nameIndex := 111, descriptorIndex := 112, attributes := #[] }, { accessFlags := 26, nameIndex := 115, descriptorIndex := 112, attributes := #[] }])
  fields := #[{ name := "cents", type := .long, accessFlags := 18, slot := 0, constantValue := 0 }, { name := "ZERO", type := (.object "com/example/deferral_ledger/deferralledger/model/Money"), accessFlags := 25, slot := 0, constantValue := 0 }, { name := "CENT_DIGITS", type := .int, accessFlags := 26, slot := 1, constantValue := 0 }, { name := "WHOLE_DIGITS", type := .int, accessFlags := 26, slot := 2, constantValue := 0 }]
  methods := #[k3m0, k3m1, k3m2, k3m3]
  instanceTypes := #[.long]
  staticTypes := #[(.object "com/example/deferral_ledger/deferralledger/model/Money"), .int, .int]
  resolved := Array.replicate 141 none
  statics := none }

def pool4 : Array CpInfo := pool [(1, .class_ 2), (0, u "java/lang/Math"), (1, .class_ 6), (1, u "java/lang/Object"), (0, u "<init>"), (0, u "()V"), (89, .class_ 100), (1, u "java/lang/Math$RandomNumberGeneratorHolder"), (20, u "(JJ)J"), (50, u "negativeZeroFloatBits"), (0, u "J"), (2, u "negativeZeroDoubleBits"), (68, u "$assertionsDisabled"), (0, u "Z"), (91, u "twoToTheDoubleScaleDown"), (0, u "D"), (4, u "twoToTheDoubleScaleUp"), (9, u "E"), (3, u "PI"), (2, u "TAU"), (2, u "DEGREES_TO_RADIANS"), (0, u "RADIANS_TO_DEGREES"), (27, u "addExact"), (0, u "subtractExact")] 65

def k4m0 : Method := { name := "<init>", desc := "()V", sig := { parameters := [], returnType := none }, accessFlags := 2, code := none }
def k4c1 : Code := { maxStack := 6, maxLocals := 6, code := jdk_29_method_25_code, exceptionTable := #[], attributes := #[] }
def k4m1 : Method := { name := "addExact", desc := "(JJ)J", sig := { parameters := [.long, .long], returnType := some .long }, accessFlags := 9, code := some k4c1 }
def k4c2 : Code := { maxStack := 6, maxLocals := 6, code := jdk_29_method_27_code, exceptionTable := #[], attributes := #[] }
def k4m2 : Method := { name := "subtractExact", desc := "(JJ)J", sig := { parameters := [.long, .long], returnType := some .long }, accessFlags := 9, code := some k4c2 }
/-- java/lang/Math -/
def k4 : Class := { plain "java/lang/Math" (some 0) with
  accessFlags := 49
  interfaces := #[]
  cf := some (fileOf pool4 1 #[.nestMembers #[98]] #[{ accessFlags := 2, nameIndex := 7, descriptorIndex := 8, attributes := #[] }, { accessFlags := 9, nameIndex := 393, descriptorIndex := 121, attributes := #[] }, { accessFlags := 9, nameIndex := 394, descriptorIndex := 121, attributes := #[] }] 49 4 #[] #[{ accessFlags := 25, nameIndex := 354, descriptorIndex := 339, attributes := #[] }, { accessFlags := 25, nameIndex := 358, descriptorIndex := 339, attributes := #[] }, { accessFlags := 25, nameIndex := 361, descriptorIndex := 339, attributes := #[] }, { accessFlags := 26, nameIndex := 364, descriptorIndex := 339, attributes := #[] }, { accessFlags := 26, nameIndex := 365, descriptorIndex := 339, attributes := #[] }, { accessFlags := 26, nameIndex := 172, descriptorIndex := 173, attributes := #[] }, { accessFlags := 26, nameIndex := 176, descriptorIndex := 173, attributes := #[] }, { accessFlags := 8, nameIndex := 344, descriptorIndex := 339, attributes := #[] }, { accessFlags := 8, nameIndex := 338, descriptorIndex := 339, attributes := #[] }, { accessFlags := 4120, nameIndex := 245, descriptorIndex := 246, attributes := #[] }])
  fields := #[{ name := "E", type := .double, accessFlags := 25, slot := 0, constantValue := 0 }, { name := "PI", type := .double, accessFlags := 25, slot := 1, constantValue := 0 }, { name := "TAU", type := .double, accessFlags := 25, slot := 2, constantValue := 0 }, { name := "DEGREES_TO_RADIANS", type := .double, accessFlags := 26, slot := 3, constantValue := 0 }, { name := "RADIANS_TO_DEGREES", type := .double, accessFlags := 26, slot := 4, constantValue := 0 }, { name := "negativeZeroFloatBits", type := .long, accessFlags := 26, slot := 5, constantValue := 0 }, { name := "negativeZeroDoubleBits", type := .long, accessFlags := 26, slot := 6, constantValue := 0 }, { name := "twoToTheDoubleScaleUp", type := .double, accessFlags := 8, slot := 7, constantValue := 0 }, { name := "twoToTheDoubleScaleDown", type := .double, accessFlags := 8, slot := 8, constantValue := 0 }, { name := "$assertionsDisabled", type := .boolean, accessFlags := 4120, slot := 9, constantValue := 0 }]
  methods := #[k4m0, k4m1, k4m2]
  instanceTypes := #[]
  staticTypes := #[.double, .double, .double, .double, .double, .long, .long, .double, .double, .boolean]
  resolved := Array.replicate 460 none
  statics := none }

def pool5 : Array CpInfo := pool [(1, u "java/lang/Cloneable"), (0, .class_ 1), (0, u "java/lang/Object"), (0, .class_ 3)] 3

/-- java/lang/Cloneable -/
def k5 : Class := { plain "java/lang/Cloneable" (some 0) with
  accessFlags := 1537
  interfaces := #[]
  cf := some (fileOf pool5 2 #[] #[] 1537 4 #[] #[])
  fields := #[]
  methods := #[]
  instanceTypes := #[]
  staticTypes := #[]
  resolved := Array.replicate 8 none
  statics := none }

def pool6 : Array CpInfo := pool [(1, u "java/io/Serializable"), (0, .class_ 1), (0, u "java/lang/Object"), (0, .class_ 3)] 3

/-- java/io/Serializable -/
def k6 : Class := { plain "java/io/Serializable" (some 0) with
  accessFlags := 1537
  interfaces := #[]
  cf := some (fileOf pool6 2 #[] #[] 1537 4 #[] #[])
  fields := #[]
  methods := #[]
  instanceTypes := #[]
  staticTypes := #[]
  resolved := Array.replicate 8 none
  statics := none }

/-- the primitive byte -/
def k7 : Class := { plain "byte" none with kind := .primitive 'B', accessFlags := 0x411 }
/-- [B -/
def k8 : Class := { plain "[B" (some 0) with kind := .array 7 .byte, interfaces := #[5, 6], accessFlags := 1041 }

/-- the primitive int -/
def k9 : Class := { plain "int" none with kind := .primitive 'I', accessFlags := 0x411 }
/-- [I -/
def k10 : Class := { plain "[I" (some 0) with kind := .array 9 .int, interfaces := #[5, 6], accessFlags := 1041 }

def heap : Heap := #[]
def classes : Array Class := #[k0, k1, k2, k3, k4, k5, k6, k7, k8, k9, k10]
def interned : List (Array UInt16 × Addr) := []
def slotsUsed : Nat := 0
def theMethod : MethodId := ⟨1, 2⟩
def args0 : Array Value := #[.long 5, .long 6]
def aboutOver (below : List Frame) : State where
  vm := { classes := classes, interned := interned.toArray }
  heap := heap
  slotsUsed := slotsUsed
  threads := #[{ frames := .invoking theMethod args0 :: below }]
def below0 : List Frame := [.native { method := ⟨0, 0⟩, args := #[] }]
def about1 : State := aboutOver below0
def p0 : Program := .bare "" "" ""
def e0 : Env := launch0.env 0 0 0
theorem w_frames : about1.frames = Frame.invoking theMethod args0 :: below0 := rfl
set_option maxRecDepth 65536 in
theorem w_args : argsFit about1.vm theMethod args0 = true := by decide +kernel
set_option maxRecDepth 65536 in
theorem w_heap : heapFits about1 = true := by decide +kernel
set_option maxRecDepth 65536 in
theorem w_runnable : about1.curStatus? = some .runnable := by decide +kernel
set_option maxRecDepth 65536 in
theorem w_alone : about1.alone = true := by decide +kernel
set_option maxRecDepth 65536 in
theorem w_named : about1.methodNamed? x = some theMethod := by decide +kernel
set_option maxRecDepth 65536 in
theorem w_hears : about1.hears theMethod below0 = true := by decide +kernel
set_option maxRecDepth 65536 in
theorem w_ripe : about1.ripe theMethod args0 below0 = true := by decide +kernel
theorem w_running : about1.status = .running := rfl
set_option maxRecDepth 65536 in
theorem w_room : about1.hasRoom e0.platform room_1 = true :=
  launch0.hasRoom_least _ room_1 (by decide +kernel) (by decide +kernel) (by decide +kernel) (by decide +kernel) (by decide +kernel) (by decide +kernel)
theorem allAtoms_all (ts : List Jvm.Cond) (a : Array Jvm.Value) (st : Jvm.State) : (allAtoms ts).before a st = ts.all (fun c => c.before a st) := by
  induction ts with
  | nil => rfl
  | cons c t ih =>
    show (Jvm.Cond.and c (allAtoms t)).before a st = _
    rw [Jvm.Cond.before_and, ih, List.all_cons]
def words1 : List Jvm.Cond := Jvm.Cond.code x code maxLocals ret :: tables_1
/-- a 'code' word, met by the world's own term for the bytes: nothing is compared byte by byte -/
theorem code_word {y : MethodName} {bytes : ByteArray} {mx : Nat} {rt : Option FieldType} {a : Array Value} {s : State} {m : MethodId} {meth : Method} {c : Code} (h1 : s.methodNamed? y = some m) (h2 : s.vm.method? m = some meth) (h3 : meth.code = some c) (h4 : c.code = bytes)
    (h5 : (c.maxLocals == mx && c.exceptionTable.isEmpty && decide (c.maxStack ≤ mostOperands) && decide (meth.sig.returnType = rt) && !meth.locks && decide (parseMethodDescriptor y.desc = some meth.sig)) = true) : (Jvm.Cond.code y bytes mx rt).before a s = true := by
  simp only [Bool.and_eq_true, beq_iff_eq, Bool.not_eq_true', decide_eq_true_eq] at h5
  obtain ⟨⟨⟨⟨⟨g1, g2⟩, g3⟩, g4⟩, g5⟩, g6⟩ := h5
  simp [Cond.before, Cond.holds, Cond.value, h1, h2, h3, h4, g1, g2, g3, g4, g5, g6]
def isCode : Jvm.Cond → Bool
  | .code _ _ _ _ => true
  | _ => false
theorem all_split {L : List Jvm.Cond} {P : Jvm.Cond → Bool} (h1 : L.all (fun c => isCode c || P c) = true) (h2 : ∀ c ∈ L.filter isCode, P c = true) : L.all P = true := by
  refine List.all_eq_true.mpr fun c hc => ?_
  have h := List.all_eq_true.mp h1 c hc
  rcases Bool.eq_false_or_eq_true (isCode c) with hi | hi
  · exact h2 c (List.mem_filter.mpr ⟨hc, hi⟩)
  · simpa [hi] using h
set_option maxRecDepth 65536 in
theorem w_c0 : (Jvm.Cond.code x code maxLocals ret).before args0 about1 = true := code_word (m := ⟨1, 2⟩) (meth := k1m2) (c := k1c2) (by decide +kernel) rfl rfl rfl (by decide +kernel)
set_option maxRecDepth 65536 in
theorem w_c1 : (Jvm.Cond.code ({ cls := "com/example/deferral_ledger/deferralledger/model/MoneyMinusPinLaw", name := "differenceOverflows", desc := "(JJ)Z" } : Jvm.MethodName) method_2_code (4 : Nat) (Option.some Jvm.ClassFile.FieldType.boolean)).before args0 about1 = true := code_word (m := ⟨1, 1⟩) (meth := k1m1) (c := k1c1) (by decide +kernel) rfl rfl rfl (by decide +kernel)
set_option maxRecDepth 65536 in
theorem w_c2 : (Jvm.Cond.code ({ cls := "com/example/deferral_ledger/deferralledger/model/Money", name := "<init>", desc := "(J)V" } : Jvm.MethodName) prog_62_method_1_code (3 : Nat) (Option.none : Option Jvm.ClassFile.FieldType)).before args0 about1 = true := code_word (m := ⟨3, 0⟩) (meth := k3m0) (c := k3c0) (by decide +kernel) rfl rfl rfl (by decide +kernel)
set_option maxRecDepth 65536 in
theorem w_c3 : (Jvm.Cond.code ({ cls := "java/lang/Record", name := "<init>", desc := "()V" } : Jvm.MethodName) jdk_30_method_1_code (1 : Nat) (Option.none : Option Jvm.ClassFile.FieldType)).before args0 about1 = true := code_word (m := ⟨2, 0⟩) (meth := k2m0) (c := k2c0) (by decide +kernel) rfl rfl rfl (by decide +kernel)
set_option maxRecDepth 65536 in
theorem w_c4 : (Jvm.Cond.code ({ cls := "java/lang/Object", name := "<init>", desc := "()V" } : Jvm.MethodName) object_method_1_code (1 : Nat) (Option.none : Option Jvm.ClassFile.FieldType)).before args0 about1 = true := code_word (m := ⟨0, 0⟩) (meth := k0m0) (c := k0c0) (by decide +kernel) rfl rfl rfl (by decide +kernel)
set_option maxRecDepth 65536 in
theorem w_c5 : (Jvm.Cond.code ({ cls := "com/example/deferral_ledger/deferralledger/model/Money", name := "minus", desc := "(Lcom/example/deferral_ledger/deferralledger/model/Money;)Lcom/example/deferral_ledger/deferralledger/model/Money;" } : Jvm.MethodName) prog_62_method_8_code (2 : Nat) (Option.some (Jvm.ClassFile.FieldType.object "com/example/deferral_ledger/deferralledger/model/Money"))).before args0 about1 = true := code_word (m := ⟨3, 2⟩) (meth := k3m2) (c := k3c2) (by decide +kernel) rfl rfl rfl (by decide +kernel)
set_option maxRecDepth 65536 in
theorem w_c6 : (Jvm.Cond.code ({ cls := "java/lang/Math", name := "subtractExact", desc := "(JJ)J" } : Jvm.MethodName) jdk_29_method_27_code (6 : Nat) (Option.some Jvm.ClassFile.FieldType.long)).before args0 about1 = true := code_word (m := ⟨4, 2⟩) (meth := k4m2) (c := k4c2) (by decide +kernel) rfl rfl rfl (by decide +kernel)
set_option maxRecDepth 65536 in
theorem w_c7 : (Jvm.Cond.code ({ cls := "com/example/deferral_ledger/deferralledger/model/Money", name := "cents", desc := "()J" } : Jvm.MethodName) prog_62_method_13_code (1 : Nat) (Option.some Jvm.ClassFile.FieldType.long)).before args0 about1 = true := code_word (m := ⟨3, 3⟩) (meth := k3m3) (c := k3c3) (by decide +kernel) rfl rfl rfl (by decide +kernel)
set_option maxRecDepth 65536 in
theorem w_c8 : (Jvm.Cond.code ({ cls := "com/example/deferral_ledger/deferralledger/model/Money", name := "plus", desc := "(Lcom/example/deferral_ledger/deferralledger/model/Money;)Lcom/example/deferral_ledger/deferralledger/model/Money;" } : Jvm.MethodName) prog_62_method_7_code (2 : Nat) (Option.some (Jvm.ClassFile.FieldType.object "com/example/deferral_ledger/deferralledger/model/Money"))).before args0 about1 = true := code_word (m := ⟨3, 1⟩) (meth := k3m1) (c := k3c1) (by decide +kernel) rfl rfl rfl (by decide +kernel)
set_option maxRecDepth 65536 in
theorem w_c9 : (Jvm.Cond.code ({ cls := "java/lang/Math", name := "addExact", desc := "(JJ)J" } : Jvm.MethodName) jdk_29_method_25_code (6 : Nat) (Option.some Jvm.ClassFile.FieldType.long)).before args0 about1 = true := code_word (m := ⟨4, 1⟩) (meth := k4m1) (c := k4c1) (by decide +kernel) rfl rfl rfl (by decide +kernel)
def codes1 : List Jvm.Cond := [Jvm.Cond.code x code maxLocals ret, Jvm.Cond.code ({ cls := "com/example/deferral_ledger/deferralledger/model/MoneyMinusPinLaw", name := "differenceOverflows", desc := "(JJ)Z" } : Jvm.MethodName) method_2_code (4 : Nat) (Option.some Jvm.ClassFile.FieldType.boolean), Jvm.Cond.code ({ cls := "com/example/deferral_ledger/deferralledger/model/Money", name := "<init>", desc := "(J)V" } : Jvm.MethodName) prog_62_method_1_code (3 : Nat) (Option.none : Option Jvm.ClassFile.FieldType), Jvm.Cond.code ({ cls := "java/lang/Record", name := "<init>", desc := "()V" } : Jvm.MethodName) jdk_30_method_1_code (1 : Nat) (Option.none : Option Jvm.ClassFile.FieldType), Jvm.Cond.code ({ cls := "java/lang/Object", name := "<init>", desc := "()V" } : Jvm.MethodName) object_method_1_code (1 : Nat) (Option.none : Option Jvm.ClassFile.FieldType), Jvm.Cond.code ({ cls := "com/example/deferral_ledger/deferralledger/model/Money", name := "minus", desc := "(Lcom/example/deferral_ledger/deferralledger/model/Money;)Lcom/example/deferral_ledger/deferralledger/model/Money;" } : Jvm.MethodName) prog_62_method_8_code (2 : Nat) (Option.some (Jvm.ClassFile.FieldType.object "com/example/deferral_ledger/deferralledger/model/Money")), Jvm.Cond.code ({ cls := "java/lang/Math", name := "subtractExact", desc := "(JJ)J" } : Jvm.MethodName) jdk_29_method_27_code (6 : Nat) (Option.some Jvm.ClassFile.FieldType.long), Jvm.Cond.code ({ cls := "com/example/deferral_ledger/deferralledger/model/Money", name := "cents", desc := "()J" } : Jvm.MethodName) prog_62_method_13_code (1 : Nat) (Option.some Jvm.ClassFile.FieldType.long), Jvm.Cond.code ({ cls := "com/example/deferral_ledger/deferralledger/model/Money", name := "plus", desc := "(Lcom/example/deferral_ledger/deferralledger/model/Money;)Lcom/example/deferral_ledger/deferralledger/model/Money;" } : Jvm.MethodName) prog_62_method_7_code (2 : Nat) (Option.some (Jvm.ClassFile.FieldType.object "com/example/deferral_ledger/deferralledger/model/Money")), Jvm.Cond.code ({ cls := "java/lang/Math", name := "addExact", desc := "(JJ)J" } : Jvm.MethodName) jdk_29_method_25_code (6 : Nat) (Option.some Jvm.ClassFile.FieldType.long)]
set_option maxRecDepth 65536 in
theorem codes_eq : words1.filter isCode = codes1 := rfl
theorem w_codes : ∀ c ∈ words1.filter isCode, c.before args0 about1 = true := by
  rw [codes_eq]
  intro c hc
  simp only [codes1, List.mem_cons, List.not_mem_nil, or_false] at hc
  rcases hc with rfl | rfl | rfl | rfl | rfl | rfl | rfl | rfl | rfl | rfl
  · exact w_c0
  · exact w_c1
  · exact w_c2
  · exact w_c3
  · exact w_c4
  · exact w_c5
  · exact w_c6
  · exact w_c7
  · exact w_c8
  · exact w_c9
set_option maxRecDepth 65536 in
theorem w_t1 : (words1.take 24).all (fun c => isCode c || c.before args0 about1) = true := by decide +kernel
set_option maxRecDepth 65536 in
theorem w_t2 : (words1.drop 24).all (fun c => isCode c || c.before args0 about1) = true := by decide +kernel
theorem w_tables : (allAtoms (Jvm.Cond.code x code maxLocals ret :: tables_1)).before args0 about1 = true := by
  rw [allAtoms_all]
  show words1.all (fun c => c.before args0 about1) = true
  refine all_split ?_ w_codes
  rw [← List.take_append_drop 24 words1, List.all_append, w_t1, w_t2]
  rfl
set_option maxRecDepth 65536 in
theorem w_case : (Jvm.Cond.and given_1 narrow_1).before args0 about1 = true := by decide +kernel
theorem w_applies : (headSpec (Jvm.Cond.code x code maxLocals ret :: tables_1) room_1).applies x e0.platform about1 = true :=
  (Spec.applies_iff w_frames).mpr ⟨w_running, w_runnable, w_alone, w_named, w_hears, w_ripe, w_room, w_tables⟩
theorem atStart : AtStart classFile x code maxLocals ret World_1 tables_1 room_1 Calls_1 rest_1 Pre_1 launch0 p0 e0 about1 theMethod args0 below0 :=
  ⟨lists_1, trivial, launch0.admits_env _ _ _, launch0.least_env, fairChoices_fair.cas, fairChoices_fair.clock, w_frames, w_args, w_heap, w_applies, trivial, trivial, w_case⟩
end start1
theorem witness_1 : WitnessClaimed_1 := ⟨start1.p0, start1.e0, start1.about1, start1.theMethod, start1.args0, start1.below0, start1.atStart⟩
end Jvm.Pilot.@@N@@
