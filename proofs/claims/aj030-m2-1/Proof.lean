import JvmDerived
import JvmDerived.Pilot.@@N@@Statement
import JvmDerived.Pilot.@@N@@Code
set_option linter.unusedVariables false
set_option linter.unusedSimpArgs false
namespace Jvm.Own
open Sem ClassFile Op Lib Jvm.Stand Jvm.Free Jvm.LawKit Jvm.RoadKit
/-- the walk that stands in T at the frame g runs to the method's return, and F is said of the state, the value and the places -/
def OE (p : Program) (e : Env) (below : List Frame) (F : State → Option Value → List Loc → Prop) (T : State) (g : JFrame) : Prop :=
  ∃ (t : State) (v : Option Value) (L : List Loc), Steps p.tables e below (T.setTop g) t ∧ t.status = .running ∧ Ended t below (.returned v) ∧ F t v L
/-- the narrow end -/
def FN (s : State) (C S : Nat) (Q : Option Value → Heap → List Loc → Prop) : State → Option Value → List Loc → Prop := fun t v L => Q v t.heap L ∧ FrameEnd s (.returned v) t L C S
/-- the wide end: it may have interned; the tables are said too -/
def FW (s : State) (C S : Nat) (Q : Option Value → Heap → List Loc → Vm → Prop) : State → Option Value → List Loc → Prop := fun t v L => Q v t.heap L t.vm ∧ ReturnedEndW s (.returned v) t L C S
abbrev OEnds (p : Program) (e : Env) (below : List Frame) (s : State) (C S : Nat) (Q : Option Value → Heap → List Loc → Prop) (T : State) (g : JFrame) : Prop := OE p e below (FN s C S Q) T g
def OCon (l : Launch) (Z : State) (y : MethodName) (bytes : ByteArray) (maxL : Nat) (ret : Option FieldType) (ws : List Jvm.Cond) (rm : Room) (as' : Array Value) (h : Heap) (Q : Option Value → Heap → List Loc → Prop) : Prop :=
  MetFree l y (head1 (Jvm.Cond.code y bytes maxL ret :: ws) rm) (fun a U => a = as' ∧ Z.Warmed39 U.vm ∧ U.heap = h) (fun _ _ _ _ _ => True) (fun _ U o U' => ∃ v L, o = .returned v ∧ Q v U'.heap L ∧ FrameEnd U o U' L rm.cells rm.slots)
/-- a contract of a callee that may intern: V is asked of the tables at its start, Q says what they are at its end -/
def OConV (l : Launch) (Z : State) (y : MethodName) (bytes : ByteArray) (maxL : Nat) (ret : Option FieldType) (ws : List Jvm.Cond) (rm : Room) (as' : Array Value) (h : Heap) (V : Vm → Prop) (Q : Option Value → Heap → List Loc → Vm → Prop) : Prop :=
  MetFree l y (head1 (Jvm.Cond.code y bytes maxL ret :: ws) rm) (fun a U => a = as' ∧ Z.Warmed39 U.vm ∧ U.heap = h ∧ V U.vm) (fun _ _ _ _ _ => True) (fun _ U o U' => ∃ v L, o = .returned v ∧ Q v U'.heap L U'.vm ∧ ReturnedEndW U o U' L rm.cells rm.slots)
section Walk
variable {p : Program} {l : Launch} {e : Env} {R : Room} {s : State} {m : MethodId} {args : Array Value} {below : List Frame} {meth : Method} {c : Code} {T : State} {locs : List Loc} {cells slots : Nat} {C S : Nat} {Q : Option Value → Heap → List Loc → Prop} {QV : Option Value → Heap → List Loc → Vm → Prop} {V : Vm → Prop} {FF : State → Option Value → List Loc → Prop} {bytes : ByteArray} {pc n : Nat} {L : Array Slot} {st : List Value} {Z : State} {a0 : Array Value} {h : Heap} {vm0 : Vm} {k0 : Nat}
theorem OE.pre {T' : State} {g g' : JFrame} (k : OE p e below FF T' g') (f : ∀ t, Steps p.tables e below (T'.setTop g') t → Steps p.tables e below (T.setTop g) t) : OE p e below FF T g := by
  obtain ⟨t, v, L, h1, h2⟩ := k
  exact ⟨t, v, L, f _ h1, h2⟩
theorem con {y : MethodName} {maxL : Nat} {ret : Option FieldType} {ws : List Jvm.Cond} {rm : Room} {as' : Array Value} (hp : plainFor y = true)
    (body : ∀ (p : Program) (e : Env) (s : State) (m : MethodId) (below : List Frame) (meth : Method) (c : Code) (s₁ : State), p.tables.exec = Jvm.exec → c.code = bytes → c.maxLocals = maxL → Z.Warmed39 s.vm → s.vm.findClass y.cls = some m.cls → meth.name = y.name → meth.sig.returnType = ret → meth.locks = false →
      Stand p l e rm s m as' below meth c s₁ [] 0 0 → s₁.heap = h → OEnds p e below s rm.cells rm.slots Q s₁ (entryFrame m as' maxL)) : OCon l Z y bytes maxL ret ws rm as' h Q := by
  refine MetFree.of_bodySF hp hisR ?_
  intro p e s m args below meth c s₁ Bd hml hP hK
  obtain ⟨rfl, hZ, hh⟩ := hP
  obtain ⟨t, v, L, h1, h2, h3, h4, h5⟩ := body p e s m below meth c s₁ Bd.exec Bd.bytes hml hZ (findClass_of_methodNamed Bd.named) (name_of_methodNamed Bd.named Bd.method).1 Bd.returns Bd.notSynchronized (Stand.of_body Bd) (by rw [← hh, Bd.state]; rfl)
  exact ⟨t, _, h1, h2, h3, v, L, rfl, h4, h5⟩
theorem conV {y : MethodName} {maxL : Nat} {ret : Option FieldType} {ws : List Jvm.Cond} {rm : Room} {as' : Array Value} (hp : plainFor y = true)
    (body : ∀ (p : Program) (e : Env) (s : State) (m : MethodId) (below : List Frame) (meth : Method) (c : Code) (s₁ : State), p.tables.exec = Jvm.exec → c.code = bytes → c.maxLocals = maxL → Z.Warmed39 (s.setVm s.vm).vm → (s.setVm s.vm).vm.findClass y.cls = some m.cls → meth.name = y.name → meth.sig.returnType = ret → meth.locks = false →
      Stand p l e rm (s.setVm s.vm) m as' below meth c s₁ [] 0 0 → s₁.heap = h → s.heap = h → V s.vm → s.Since s.vm s.heap.size → OE p e below (FW s rm.cells rm.slots QV) s₁ (entryFrame m as' maxL)) : OConV l Z y bytes maxL ret ws rm as' h V QV := by
  refine MetFree.of_bodySF hp hisR ?_
  intro p e s m args below meth c s₁ Bd hml hP hK
  obtain ⟨rfl, hZ, hh, hV⟩ := hP
  obtain ⟨t, v, L, h1, h2, h3, h4, h5⟩ := body p e s m below meth c s₁ Bd.exec Bd.bytes hml hZ (findClass_of_methodNamed Bd.named) (name_of_methodNamed Bd.named Bd.method).1 Bd.returns Bd.notSynchronized (Stand.of_body Bd) (by rw [← hh, Bd.state]; rfl) hh hV (State.WarmedH.since (State.WarmedH.refl s) s.heap.size)
  exact ⟨t, _, h1, h2, h3, v, L, rfl, h4, h5⟩
theorem entry {mm : MethodId} {as' : Array Value} {maxL : Nat} {g : JFrame} (q : entryFrame mm as' maxL = g) (k : OE p e below FF T g) : OE p e below FF T (entryFrame mm as' maxL) := q ▸ k
theorem s_iloadN (X : Stand p l e R s m args below meth c T locs cells slots) (hx : p.tables.exec = Jvm.exec) (hby : c.code = bytes) {i : Fin 4} {x : Int32} (hd : decode bytes pc = .ok (.iload_n i, 1)) (hl : L[i.val]? = some (.val (.int x))) (hn : pc + 1 = n) (k : OE p e below FF T (mkF m n L (.int x :: st))) : OE p e below FF T (mkF m pc L (st)) := by
  subst hn
  exact k.pre fun t r => XS.iloadN X.here hx rfl (hb hby hd) hl r
theorem s_iload (X : Stand p l e R s m args below meth c T locs cells slots) (hx : p.tables.exec = Jvm.exec) (hby : c.code = bytes) {i : Nat} {x : Int32} (hd : decode bytes pc = .ok (.iload i, 2)) (hl : L[i]? = some (.val (.int x))) (hn : pc + 2 = n) (k : OE p e below FF T (mkF m n L (.int x :: st))) : OE p e below FF T (mkF m pc L (st)) := by
  subst hn
  exact k.pre fun t r => XS.iload X.here hx rfl (hb hby hd) hl r
theorem s_lloadN (X : Stand p l e R s m args below meth c T locs cells slots) (hx : p.tables.exec = Jvm.exec) (hby : c.code = bytes) {i : Fin 4} {x : Int64} (hd : decode bytes pc = .ok (.lload_n i, 1)) (hl : L[i.val]? = some (.val (.long x))) (hn : pc + 1 = n) (k : OE p e below FF T (mkF m n L (.long x :: st))) : OE p e below FF T (mkF m pc L (st)) := by
  subst hn
  exact k.pre fun t r => XT.lloadN X.here hx rfl (hb hby hd) hl r
theorem s_lload (X : Stand p l e R s m args below meth c T locs cells slots) (hx : p.tables.exec = Jvm.exec) (hby : c.code = bytes) {i : Nat} {x : Int64} (hd : decode bytes pc = .ok (.lload i, 2)) (hl : L[i]? = some (.val (.long x))) (hn : pc + 2 = n) (k : OE p e below FF T (mkF m n L (.long x :: st))) : OE p e below FF T (mkF m pc L (st)) := by
  subst hn
  exact k.pre fun t r => XT.lload X.here hx rfl (hb hby hd) hl r
theorem s_aloadN (X : Stand p l e R s m args below meth c T locs cells slots) (hx : p.tables.exec = Jvm.exec) (hby : c.code = bytes) {i : Fin 4} {x : Value} (hd : decode bytes pc = .ok (.aload_n i, 1)) (hl : L[i.val]? = some (.val x)) (hv : x.isRef = true) (hn : pc + 1 = n) (k : OE p e below FF T (mkF m n L (x :: st))) : OE p e below FF T (mkF m pc L (st)) := by
  subst hn
  exact k.pre fun t r => XS.aloadN X.here hx rfl (hb hby hd) hl hv r
theorem s_aload (X : Stand p l e R s m args below meth c T locs cells slots) (hx : p.tables.exec = Jvm.exec) (hby : c.code = bytes) {i : Nat} {x : Value} (hd : decode bytes pc = .ok (.aload i, 2)) (hl : L[i]? = some (.val x)) (hv : x.isRef = true) (hn : pc + 2 = n) (k : OE p e below FF T (mkF m n L (x :: st))) : OE p e below FF T (mkF m pc L (st)) := by
  subst hn
  exact k.pre fun t r => XS.aload X.here hx rfl (hb hby hd) hl hv r
theorem s_istoreN (X : Stand p l e R s m args below meth c T locs cells slots) (hx : p.tables.exec = Jvm.exec) (hby : c.code = bytes) {i : Fin 4} {x : Int32} {L' : Array Slot} (hd : decode bytes pc = .ok (.istore_n i, 1)) (hl : storeLocals L i.val (.int x) = some L') (hn : pc + 1 = n) (k : OE p e below FF T (mkF m n L' (st))) : OE p e below FF T (mkF m pc L (.int x :: st)) := by
  subst hn
  exact k.pre fun t r => XS.istoreN X.here hx rfl (hb hby hd) rfl hl r
theorem s_istore (X : Stand p l e R s m args below meth c T locs cells slots) (hx : p.tables.exec = Jvm.exec) (hby : c.code = bytes) {i : Nat} {x : Int32} {L' : Array Slot} (hd : decode bytes pc = .ok (.istore i, 2)) (hl : storeLocals L i (.int x) = some L') (hn : pc + 2 = n) (k : OE p e below FF T (mkF m n L' (st))) : OE p e below FF T (mkF m pc L (.int x :: st)) := by
  subst hn
  exact k.pre fun t r => XS.istore X.here hx rfl (hb hby hd) rfl hl r
theorem s_lstoreN (X : Stand p l e R s m args below meth c T locs cells slots) (hx : p.tables.exec = Jvm.exec) (hby : c.code = bytes) {i : Fin 4} {x : Int64} {L' : Array Slot} (hd : decode bytes pc = .ok (.lstore_n i, 1)) (hl : storeLocals L i.val (.long x) = some L') (hn : pc + 1 = n) (k : OE p e below FF T (mkF m n L' (st))) : OE p e below FF T (mkF m pc L (.long x :: st)) := by
  subst hn
  exact k.pre fun t r => XT.lstoreN X.here hx rfl (hb hby hd) rfl hl r
theorem s_lstore (X : Stand p l e R s m args below meth c T locs cells slots) (hx : p.tables.exec = Jvm.exec) (hby : c.code = bytes) {i : Nat} {x : Int64} {L' : Array Slot} (hd : decode bytes pc = .ok (.lstore i, 2)) (hl : storeLocals L i (.long x) = some L') (hn : pc + 2 = n) (k : OE p e below FF T (mkF m n L' (st))) : OE p e below FF T (mkF m pc L (.long x :: st)) := by
  subst hn
  exact k.pre fun t r => XT.lstore X.here hx rfl (hb hby hd) rfl hl r
theorem s_astoreN (X : Stand p l e R s m args below meth c T locs cells slots) (hx : p.tables.exec = Jvm.exec) (hby : c.code = bytes) {i : Fin 4} {x : Value} {L' : Array Slot} (hd : decode bytes pc = .ok (.astore_n i, 1)) (hv : x.isRef = true) (hl : storeLocals L i.val x = some L') (hn : pc + 1 = n) (k : OE p e below FF T (mkF m n L' (st))) : OE p e below FF T (mkF m pc L (x :: st)) := by
  subst hn
  exact k.pre fun t r => XS.astoreN X.here hx rfl (hb hby hd) rfl hv hl r
theorem s_astore (X : Stand p l e R s m args below meth c T locs cells slots) (hx : p.tables.exec = Jvm.exec) (hby : c.code = bytes) {i : Nat} {x : Value} {L' : Array Slot} (hd : decode bytes pc = .ok (.astore i, 2)) (hv : x.isRef = true) (hl : storeLocals L i x = some L') (hn : pc + 2 = n) (k : OE p e below FF T (mkF m n L' (st))) : OE p e below FF T (mkF m pc L (x :: st)) := by
  subst hn
  exact k.pre fun t r => XS.astore X.here hx rfl (hb hby hd) rfl hv hl r
theorem s_iinc (X : Stand p l e R s m args below meth c T locs cells slots) (hx : p.tables.exec = Jvm.exec) (hby : c.code = bytes) {i : Nat} {cst : Int} {x v : Int32} {L' : Array Slot} (hd : decode bytes pc = .ok (.iinc i cst, 3)) (hv : Int32.ofInt cst = v) (hi : L[i]? = some (.val (.int x))) (hl : storeLocals L i (.int (x + v)) = some L') (hn : pc + 3 = n) (k : OE p e below FF T (mkF m n L' (st))) : OE p e below FF T (mkF m pc L (st)) := by
  subst hn
  exact k.pre fun t r => XT.iincV X.here hx rfl _ (hb hby hd) hv hi hl r
theorem s_iconst (X : Stand p l e R s m args below meth c T locs cells slots) (hx : p.tables.exec = Jvm.exec) (hby : c.code = bytes) {i : Int} {v : Int32} (hd : decode bytes pc = .ok (.iconst i, 1)) (hv : Int32.ofInt i = v) (hn : pc + 1 = n) (k : OE p e below FF T (mkF m n L (.int v :: st))) : OE p e below FF T (mkF m pc L (st)) := by
  subst hn
  exact k.pre fun t r => XT.iconstV X.here hx rfl _ (hb hby hd) hv r
theorem s_bipush (X : Stand p l e R s m args below meth c T locs cells slots) (hx : p.tables.exec = Jvm.exec) (hby : c.code = bytes) {i : Int} {v : Int32} (hd : decode bytes pc = .ok (.bipush i, 2)) (hv : (Int8.ofInt i).toInt32 = v) (hn : pc + 2 = n) (k : OE p e below FF T (mkF m n L (.int v :: st))) : OE p e below FF T (mkF m pc L (st)) := by
  subst hn
  exact k.pre fun t r => XT.bipushV X.here hx rfl _ (hb hby hd) hv r
theorem s_sipush (X : Stand p l e R s m args below meth c T locs cells slots) (hx : p.tables.exec = Jvm.exec) (hby : c.code = bytes) {i : Int} {v : Int32} (hd : decode bytes pc = .ok (.sipush i, 3)) (hv : (Int16.ofInt i).toInt32 = v) (hn : pc + 3 = n) (k : OE p e below FF T (mkF m n L (.int v :: st))) : OE p e below FF T (mkF m pc L (st)) := by
  subst hn
  exact k.pre fun t r => XT.sipushV X.here hx rfl _ (hb hby hd) hv r
theorem s_lconst (X : Stand p l e R s m args below meth c T locs cells slots) (hx : p.tables.exec = Jvm.exec) (hby : c.code = bytes) {i : Fin 2} {v : Int64} (hd : decode bytes pc = .ok (.lconst i, 1)) (hv : Int64.ofNat i = v) (hn : pc + 1 = n) (k : OE p e below FF T (mkF m n L (.long v :: st))) : OE p e below FF T (mkF m pc L (st)) := by
  subst hn
  exact k.pre fun t r => XT.lconstV X.here hx rfl _ (hb hby hd) hv r
theorem s_aconstNull (X : Stand p l e R s m args below meth c T locs cells slots) (hx : p.tables.exec = Jvm.exec) (hby : c.code = bytes)  (hd : decode bytes pc = .ok (.aconst_null, 1)) (hn : pc + 1 = n) (k : OE p e below FF T (mkF m n L (.null :: st))) : OE p e below FF T (mkF m pc L (st)) := by
  subst hn
  exact k.pre fun t r => XS.aconstNull X.here hx rfl (hb hby hd)  r
theorem s_iadd (X : Stand p l e R s m args below meth c T locs cells slots) (hx : p.tables.exec = Jvm.exec) (hby : c.code = bytes) {x y : Int32} (hd : decode bytes pc = .ok (.iadd, 1)) (hn : pc + 1 = n) (k : OE p e below FF T (mkF m n L (.int (x + y) :: st))) : OE p e below FF T (mkF m pc L (.int y :: .int x :: st)) := by
  subst hn
  exact k.pre fun t r => XS.iadd X.here hx rfl (hb hby hd) rfl r
theorem s_isub (X : Stand p l e R s m args below meth c T locs cells slots) (hx : p.tables.exec = Jvm.exec) (hby : c.code = bytes) {x y : Int32} (hd : decode bytes pc = .ok (.isub, 1)) (hn : pc + 1 = n) (k : OE p e below FF T (mkF m n L (.int (x - y) :: st))) : OE p e below FF T (mkF m pc L (.int y :: .int x :: st)) := by
  subst hn
  exact k.pre fun t r => XS.isub X.here hx rfl (hb hby hd) rfl r
theorem s_iand (X : Stand p l e R s m args below meth c T locs cells slots) (hx : p.tables.exec = Jvm.exec) (hby : c.code = bytes) {x y : Int32} (hd : decode bytes pc = .ok (.iand, 1)) (hn : pc + 1 = n) (k : OE p e below FF T (mkF m n L (.int (x &&& y) :: st))) : OE p e below FF T (mkF m pc L (.int y :: .int x :: st)) := by
  subst hn
  exact k.pre fun t r => XS.iand X.here hx rfl (hb hby hd) rfl r
theorem s_imul (X : Stand p l e R s m args below meth c T locs cells slots) (hx : p.tables.exec = Jvm.exec) (hby : c.code = bytes) {x y : Int32} (hd : decode bytes pc = .ok (.imul, 1)) (hn : pc + 1 = n) (k : OE p e below FF T (mkF m n L (.int (x * y) :: st))) : OE p e below FF T (mkF m pc L (.int y :: .int x :: st)) := by
  subst hn
  exact k.pre fun t r => XS.imul X.here hx rfl (hb hby hd) rfl r
theorem s_ixor (X : Stand p l e R s m args below meth c T locs cells slots) (hx : p.tables.exec = Jvm.exec) (hby : c.code = bytes) {x y : Int32} (hd : decode bytes pc = .ok (.ixor, 1)) (hn : pc + 1 = n) (k : OE p e below FF T (mkF m n L (.int (x ^^^ y) :: st))) : OE p e below FF T (mkF m pc L (.int y :: .int x :: st)) := by
  subst hn
  exact k.pre fun t r => XT.ixor X.here hx rfl (hb hby hd) rfl r
theorem s_ior (X : Stand p l e R s m args below meth c T locs cells slots) (hx : p.tables.exec = Jvm.exec) (hby : c.code = bytes) {x y : Int32} (hd : decode bytes pc = .ok (.ior, 1)) (hn : pc + 1 = n) (k : OE p e below FF T (mkF m n L (.int (x ||| y) :: st))) : OE p e below FF T (mkF m pc L (.int y :: .int x :: st)) := by
  subst hn
  exact k.pre fun t r => XT.ior X.here hx rfl (hb hby hd) rfl r
theorem s_ishl (X : Stand p l e R s m args below meth c T locs cells slots) (hx : p.tables.exec = Jvm.exec) (hby : c.code = bytes) {x y : Int32} (hd : decode bytes pc = .ok (.ishl, 1)) (hn : pc + 1 = n) (k : OE p e below FF T (mkF m n L (.int (x <<< (y &&& 31)) :: st))) : OE p e below FF T (mkF m pc L (.int y :: .int x :: st)) := by
  subst hn
  exact k.pre fun t r => XT.ishl X.here hx rfl (hb hby hd) rfl r
theorem s_ishr (X : Stand p l e R s m args below meth c T locs cells slots) (hx : p.tables.exec = Jvm.exec) (hby : c.code = bytes) {x y : Int32} (hd : decode bytes pc = .ok (.ishr, 1)) (hn : pc + 1 = n) (k : OE p e below FF T (mkF m n L (.int (x >>> (y &&& 31)) :: st))) : OE p e below FF T (mkF m pc L (.int y :: .int x :: st)) := by
  subst hn
  exact k.pre fun t r => XT.ishr X.here hx rfl (hb hby hd) rfl r
theorem s_iushr (X : Stand p l e R s m args below meth c T locs cells slots) (hx : p.tables.exec = Jvm.exec) (hby : c.code = bytes) {x y : Int32} (hd : decode bytes pc = .ok (.iushr, 1)) (hn : pc + 1 = n) (k : OE p e below FF T (mkF m n L (.int (XT.ushr x y) :: st))) : OE p e below FF T (mkF m pc L (.int y :: .int x :: st)) := by
  subst hn
  exact k.pre fun t r => XT.iushr X.here hx rfl (hb hby hd) rfl r
theorem s_ladd (X : Stand p l e R s m args below meth c T locs cells slots) (hx : p.tables.exec = Jvm.exec) (hby : c.code = bytes) {x y : Int64} (hd : decode bytes pc = .ok (.ladd, 1)) (hn : pc + 1 = n) (k : OE p e below FF T (mkF m n L (.long (x + y) :: st))) : OE p e below FF T (mkF m pc L (.long y :: .long x :: st)) := by
  subst hn
  exact k.pre fun t r => XT.ladd X.here hx rfl (hb hby hd) rfl r
theorem s_lsub (X : Stand p l e R s m args below meth c T locs cells slots) (hx : p.tables.exec = Jvm.exec) (hby : c.code = bytes) {x y : Int64} (hd : decode bytes pc = .ok (.lsub, 1)) (hn : pc + 1 = n) (k : OE p e below FF T (mkF m n L (.long (x - y) :: st))) : OE p e below FF T (mkF m pc L (.long y :: .long x :: st)) := by
  subst hn
  exact k.pre fun t r => XT.lsub X.here hx rfl (hb hby hd) rfl r
theorem s_lmul (X : Stand p l e R s m args below meth c T locs cells slots) (hx : p.tables.exec = Jvm.exec) (hby : c.code = bytes) {x y : Int64} (hd : decode bytes pc = .ok (.lmul, 1)) (hn : pc + 1 = n) (k : OE p e below FF T (mkF m n L (.long (x * y) :: st))) : OE p e below FF T (mkF m pc L (.long y :: .long x :: st)) := by
  subst hn
  exact k.pre fun t r => XT.lmul X.here hx rfl (hb hby hd) rfl r
theorem s_land (X : Stand p l e R s m args below meth c T locs cells slots) (hx : p.tables.exec = Jvm.exec) (hby : c.code = bytes) {x y : Int64} (hd : decode bytes pc = .ok (.land, 1)) (hn : pc + 1 = n) (k : OE p e below FF T (mkF m n L (.long (x &&& y) :: st))) : OE p e below FF T (mkF m pc L (.long y :: .long x :: st)) := by
  subst hn
  exact k.pre fun t r => XT.land X.here hx rfl (hb hby hd) rfl r
theorem s_lor (X : Stand p l e R s m args below meth c T locs cells slots) (hx : p.tables.exec = Jvm.exec) (hby : c.code = bytes) {x y : Int64} (hd : decode bytes pc = .ok (.lor, 1)) (hn : pc + 1 = n) (k : OE p e below FF T (mkF m n L (.long (x ||| y) :: st))) : OE p e below FF T (mkF m pc L (.long y :: .long x :: st)) := by
  subst hn
  exact k.pre fun t r => XT.lor X.here hx rfl (hb hby hd) rfl r
theorem s_lxor (X : Stand p l e R s m args below meth c T locs cells slots) (hx : p.tables.exec = Jvm.exec) (hby : c.code = bytes) {x y : Int64} (hd : decode bytes pc = .ok (.lxor, 1)) (hn : pc + 1 = n) (k : OE p e below FF T (mkF m n L (.long (x ^^^ y) :: st))) : OE p e below FF T (mkF m pc L (.long y :: .long x :: st)) := by
  subst hn
  exact k.pre fun t r => XT.lxor X.here hx rfl (hb hby hd) rfl r
theorem s_lshl (X : Stand p l e R s m args below meth c T locs cells slots) (hx : p.tables.exec = Jvm.exec) (hby : c.code = bytes) {x : Int64} {y : Int32} (hd : decode bytes pc = .ok (.lshl, 1)) (hn : pc + 1 = n) (k : OE p e below FF T (mkF m n L (.long (x <<< (y.toInt64 &&& 63)) :: st))) : OE p e below FF T (mkF m pc L (.int y :: .long x :: st)) := by
  subst hn
  exact k.pre fun t r => XT.lshl X.here hx rfl (hb hby hd) rfl r
theorem s_lshr (X : Stand p l e R s m args below meth c T locs cells slots) (hx : p.tables.exec = Jvm.exec) (hby : c.code = bytes) {x : Int64} {y : Int32} (hd : decode bytes pc = .ok (.lshr, 1)) (hn : pc + 1 = n) (k : OE p e below FF T (mkF m n L (.long (x >>> (y.toInt64 &&& 63)) :: st))) : OE p e below FF T (mkF m pc L (.int y :: .long x :: st)) := by
  subst hn
  exact k.pre fun t r => XT.lshr X.here hx rfl (hb hby hd) rfl r
theorem s_lushr (X : Stand p l e R s m args below meth c T locs cells slots) (hx : p.tables.exec = Jvm.exec) (hby : c.code = bytes) {x : Int64} {y : Int32} (hd : decode bytes pc = .ok (.lushr, 1)) (hn : pc + 1 = n) (k : OE p e below FF T (mkF m n L (.long (XT.ushrL x y) :: st))) : OE p e below FF T (mkF m pc L (.int y :: .long x :: st)) := by
  subst hn
  exact k.pre fun t r => XT.lushr X.here hx rfl (hb hby hd) rfl r
theorem s_idiv (X : Stand p l e R s m args below meth c T locs cells slots) (hx : p.tables.exec = Jvm.exec) (hby : c.code = bytes) {x y : Int32} (hd : decode bytes pc = .ok (.idiv, 1)) (hy : y ≠ 0) (hn : pc + 1 = n) (k : OE p e below FF T (mkF m n L (.int (x / y) :: st))) : OE p e below FF T (mkF m pc L (.int y :: .int x :: st)) := by
  subst hn
  exact k.pre fun t r => XS.idiv X.here hx rfl (hb hby hd) rfl hy r
theorem s_ldiv (X : Stand p l e R s m args below meth c T locs cells slots) (hx : p.tables.exec = Jvm.exec) (hby : c.code = bytes) {x y : Int64} (hd : decode bytes pc = .ok (.ldiv, 1)) (hy : y ≠ 0) (hn : pc + 1 = n) (k : OE p e below FF T (mkF m n L (.long (x / y) :: st))) : OE p e below FF T (mkF m pc L (.long y :: .long x :: st)) := by
  subst hn
  exact k.pre fun t r => XT.ldiv X.here hx rfl (hb hby hd) rfl hy r
theorem s_irem (X : Stand p l e R s m args below meth c T locs cells slots) (hx : p.tables.exec = Jvm.exec) (hby : c.code = bytes) {x y : Int32} (hd : decode bytes pc = .ok (.irem, 1)) (hy : y ≠ 0) (hn : pc + 1 = n) (k : OE p e below FF T (mkF m n L (.int (x % y) :: st))) : OE p e below FF T (mkF m pc L (.int y :: .int x :: st)) := by
  subst hn
  exact k.pre fun t r => iremM X hx rfl (hb hby hd) rfl hy r
theorem s_lrem (X : Stand p l e R s m args below meth c T locs cells slots) (hx : p.tables.exec = Jvm.exec) (hby : c.code = bytes) {x y : Int64} (hd : decode bytes pc = .ok (.lrem, 1)) (hy : y ≠ 0) (hn : pc + 1 = n) (k : OE p e below FF T (mkF m n L (.long (x % y) :: st))) : OE p e below FF T (mkF m pc L (.long y :: .long x :: st)) := by
  subst hn
  rw [← lrem_mod] at k
  exact k.pre fun t r => XT.lrem X.here hx rfl (hb hby hd) rfl hy r
theorem s_ineg (X : Stand p l e R s m args below meth c T locs cells slots) (hx : p.tables.exec = Jvm.exec) (hby : c.code = bytes) {x : Int32} (hd : decode bytes pc = .ok (.ineg, 1)) (hn : pc + 1 = n) (k : OE p e below FF T (mkF m n L (.int (-x) :: st))) : OE p e below FF T (mkF m pc L (.int x :: st)) := by
  subst hn
  exact k.pre fun t r => XS.ineg X.here hx rfl (hb hby hd) rfl r
theorem s_lneg (X : Stand p l e R s m args below meth c T locs cells slots) (hx : p.tables.exec = Jvm.exec) (hby : c.code = bytes) {x : Int64} (hd : decode bytes pc = .ok (.lneg, 1)) (hn : pc + 1 = n) (k : OE p e below FF T (mkF m n L (.long (-x) :: st))) : OE p e below FF T (mkF m pc L (.long x :: st)) := by
  subst hn
  exact k.pre fun t r => XT.lneg X.here hx rfl (hb hby hd) rfl r
theorem s_i2l (X : Stand p l e R s m args below meth c T locs cells slots) (hx : p.tables.exec = Jvm.exec) (hby : c.code = bytes) {x : Int32} (hd : decode bytes pc = .ok (.i2l, 1)) (hn : pc + 1 = n) (k : OE p e below FF T (mkF m n L (.long x.toInt64 :: st))) : OE p e below FF T (mkF m pc L (.int x :: st)) := by
  subst hn
  exact k.pre fun t r => XT.i2l X.here hx rfl (hb hby hd) rfl r
theorem s_l2i (X : Stand p l e R s m args below meth c T locs cells slots) (hx : p.tables.exec = Jvm.exec) (hby : c.code = bytes) {x : Int64} (hd : decode bytes pc = .ok (.l2i, 1)) (hn : pc + 1 = n) (k : OE p e below FF T (mkF m n L (.int x.toInt32 :: st))) : OE p e below FF T (mkF m pc L (.long x :: st)) := by
  subst hn
  exact k.pre fun t r => XT.l2i X.here hx rfl (hb hby hd) rfl r
theorem s_i2b (X : Stand p l e R s m args below meth c T locs cells slots) (hx : p.tables.exec = Jvm.exec) (hby : c.code = bytes) {x : Int32} (hd : decode bytes pc = .ok (.i2b, 1)) (hn : pc + 1 = n) (k : OE p e below FF T (mkF m n L (.int x.toInt8.toInt32 :: st))) : OE p e below FF T (mkF m pc L (.int x :: st)) := by
  subst hn
  exact k.pre fun t r => XT.i2b X.here hx rfl (hb hby hd) rfl r
theorem s_i2c (X : Stand p l e R s m args below meth c T locs cells slots) (hx : p.tables.exec = Jvm.exec) (hby : c.code = bytes) {x : Int32} (hd : decode bytes pc = .ok (.i2c, 1)) (hn : pc + 1 = n) (k : OE p e below FF T (mkF m n L (.int x.toUInt32.toUInt16.toUInt32.toInt32 :: st))) : OE p e below FF T (mkF m pc L (.int x :: st)) := by
  subst hn
  exact k.pre fun t r => XT.i2c X.here hx rfl (hb hby hd) rfl r
theorem s_i2s (X : Stand p l e R s m args below meth c T locs cells slots) (hx : p.tables.exec = Jvm.exec) (hby : c.code = bytes) {x : Int32} (hd : decode bytes pc = .ok (.i2s, 1)) (hn : pc + 1 = n) (k : OE p e below FF T (mkF m n L (.int x.toInt16.toInt32 :: st))) : OE p e below FF T (mkF m pc L (.int x :: st)) := by
  subst hn
  exact k.pre fun t r => XT.i2s X.here hx rfl (hb hby hd) rfl r
theorem s_lcmp (X : Stand p l e R s m args below meth c T locs cells slots) (hx : p.tables.exec = Jvm.exec) (hby : c.code = bytes) {x y : Int64} (hd : decode bytes pc = .ok (.lcmp, 1)) (hn : pc + 1 = n) (k : OE p e below FF T (mkF m n L (.int (XT.cmpL x y) :: st))) : OE p e below FF T (mkF m pc L (.long y :: .long x :: st)) := by
  subst hn
  exact k.pre fun t r => XT.lcmp X.here hx rfl (hb hby hd) rfl r
theorem s_dup (X : Stand p l e R s m args below meth c T locs cells slots) (hx : p.tables.exec = Jvm.exec) (hby : c.code = bytes) {x : Value} (hd : decode bytes pc = .ok (.dup, 1)) (hc : x.category = 1) (hn : pc + 1 = n) (k : OE p e below FF T (mkF m n L (x :: x :: st))) : OE p e below FF T (mkF m pc L (x :: st)) := by
  subst hn
  exact k.pre fun t r => XS.dup X.here hx rfl (hb hby hd) rfl hc r
theorem s_pop (X : Stand p l e R s m args below meth c T locs cells slots) (hx : p.tables.exec = Jvm.exec) (hby : c.code = bytes) {x : Value} (hd : decode bytes pc = .ok (.pop, 1)) (hc : x.category = 1) (hn : pc + 1 = n) (k : OE p e below FF T (mkF m n L (st))) : OE p e below FF T (mkF m pc L (x :: st)) := by
  subst hn
  exact k.pre fun t r => XT.pop X.here hx rfl (hb hby hd) rfl hc r
theorem s_dupX1 (X : Stand p l e R s m args below meth c T locs cells slots) (hx : p.tables.exec = Jvm.exec) (hby : c.code = bytes) {x y : Value} (hd : decode bytes pc = .ok (.dup_x1, 1)) (hc : x.category = 1) (hc' : y.category = 1) (hn : pc + 1 = n) (k : OE p e below FF T (mkF m n L (x :: y :: x :: st))) : OE p e below FF T (mkF m pc L (x :: y :: st)) := by
  subst hn
  exact k.pre fun t r => XT.dupX1 X.here hx rfl (hb hby hd) rfl hc hc' r
theorem s_dup2 (X : Stand p l e R s m args below meth c T locs cells slots) (hx : p.tables.exec = Jvm.exec) (hby : c.code = bytes) {x y : Value} (hd : decode bytes pc = .ok (.dup2, 1)) (hc : x.category = 1) (hc' : y.category = 1) (hn : pc + 1 = n) (k : OE p e below FF T (mkF m n L (x :: y :: x :: y :: st))) : OE p e below FF T (mkF m pc L (x :: y :: st)) := by
  subst hn
  exact k.pre fun t r => XT.dup2 X.here hx rfl (hb hby hd) rfl hc hc' r
theorem s_dup2L (X : Stand p l e R s m args below meth c T locs cells slots) (hx : p.tables.exec = Jvm.exec) (hby : c.code = bytes) {x : Int64} (hd : decode bytes pc = .ok (.dup2, 1)) (hn : pc + 1 = n) (k : OE p e below FF T (mkF m n L (.long x :: .long x :: st))) : OE p e below FF T (mkF m pc L (.long x :: st)) := by
  subst hn
  exact k.pre fun t r => XT.dup2L X.here hx rfl (hb hby hd) rfl r
theorem s_goto (X : Stand p l e R s m args below meth c T locs cells slots) (hx : p.tables.exec = Jvm.exec) (hby : c.code = bytes) {o : Int}  (hd : decode bytes pc = .ok (.goto o, 3)) (ho : 0 ≤ (pc : Int) + o) (hn : ((pc : Int) + o).toNat = n) (k : OE p e below FF T (mkF m n L st)) : OE p e below FF T (mkF m pc L (st)) :=
  k.pre fun t r => XS.goto X.here hx rfl rfl (hb hby hd)  ho hn r
theorem s_ifY (X : Stand p l e R s m args below meth c T locs cells slots) (hx : p.tables.exec = Jvm.exec) (hby : c.code = bytes) {o : Int} {cd : ClassFile.Cond} {x : Int32} (hd : decode bytes pc = .ok (.ifCond cd o, 3)) (hc : ifCond.holds cd x = true) (ho : 0 ≤ (pc : Int) + o) (hn : ((pc : Int) + o).toNat = n) (k : OE p e below FF T (mkF m n L st)) : OE p e below FF T (mkF m pc L (.int x :: st)) :=
  k.pre fun t r => XS.ifYes X.here hx rfl rfl (hb hby hd) rfl hc ho hn r
theorem s_ifN (X : Stand p l e R s m args below meth c T locs cells slots) (hx : p.tables.exec = Jvm.exec) (hby : c.code = bytes) {o : Int} {cd : ClassFile.Cond} {x : Int32} (hd : decode bytes pc = .ok (.ifCond cd o, 3)) (hc : ifCond.holds cd x = false) (hn : pc + 3 = n) (k : OE p e below FF T (mkF m n L st)) : OE p e below FF T (mkF m pc L (.int x :: st)) := by
  subst hn
  exact k.pre fun t r => XS.ifNo X.here hx rfl (hb hby hd) rfl hc r
theorem s_icmpY (X : Stand p l e R s m args below meth c T locs cells slots) (hx : p.tables.exec = Jvm.exec) (hby : c.code = bytes) {o : Int} {cd : ClassFile.Cond} {x y : Int32} (hd : decode bytes pc = .ok (.if_icmp cd o, 3)) (hc : if_icmp.holds cd x y = true) (ho : 0 ≤ (pc : Int) + o) (hn : ((pc : Int) + o).toNat = n) (k : OE p e below FF T (mkF m n L st)) : OE p e below FF T (mkF m pc L (.int y :: .int x :: st)) :=
  k.pre fun t r => XS.icmpYes X.here hx rfl rfl (hb hby hd) rfl hc ho hn r
theorem s_icmpN (X : Stand p l e R s m args below meth c T locs cells slots) (hx : p.tables.exec = Jvm.exec) (hby : c.code = bytes) {o : Int} {cd : ClassFile.Cond} {x y : Int32} (hd : decode bytes pc = .ok (.if_icmp cd o, 3)) (hc : if_icmp.holds cd x y = false) (hn : pc + 3 = n) (k : OE p e below FF T (mkF m n L st)) : OE p e below FF T (mkF m pc L (.int y :: .int x :: st)) := by
  subst hn
  exact k.pre fun t r => XS.icmpNo X.here hx rfl (hb hby hd) rfl hc r
theorem s_acmpY (X : Stand p l e R s m args below meth c T locs cells slots) (hx : p.tables.exec = Jvm.exec) (hby : c.code = bytes) {o : Int} {cd : ClassFile.ACond} {x y : Value} (hd : decode bytes pc = .ok (.if_acmp cd o, 3)) (h1 : x.isRef = true) (h2 : y.isRef = true) (hc : XT.acmp cd x y = true) (ho : 0 ≤ (pc : Int) + o) (hn : ((pc : Int) + o).toNat = n) (k : OE p e below FF T (mkF m n L st)) : OE p e below FF T (mkF m pc L (y :: x :: st)) :=
  k.pre fun t r => XT.acmpYes X.here hx rfl rfl (hb hby hd) rfl h1 h2 hc ho hn r
theorem s_acmpN (X : Stand p l e R s m args below meth c T locs cells slots) (hx : p.tables.exec = Jvm.exec) (hby : c.code = bytes) {o : Int} {cd : ClassFile.ACond} {x y : Value} (hd : decode bytes pc = .ok (.if_acmp cd o, 3)) (h1 : x.isRef = true) (h2 : y.isRef = true) (hc : XT.acmp cd x y = false) (hn : pc + 3 = n) (k : OE p e below FF T (mkF m n L st)) : OE p e below FF T (mkF m pc L (y :: x :: st)) := by
  subst hn
  exact k.pre fun t r => XT.acmpNo X.here hx rfl (hb hby hd) rfl h1 h2 hc r
theorem s_nullY (X : Stand p l e R s m args below meth c T locs cells slots) (hx : p.tables.exec = Jvm.exec) (hby : c.code = bytes) {o : Int} {x : Value} (hd : decode bytes pc = .ok (.ifnull o, 3)) (hv : x = .null) (ho : 0 ≤ (pc : Int) + o) (hn : ((pc : Int) + o).toNat = n) (k : OE p e below FF T (mkF m n L st)) : OE p e below FF T (mkF m pc L (x :: st)) :=
  k.pre fun t r => XT.nullYes X.here hx rfl rfl (hb hby hd) rfl hv ho hn r
theorem s_nullN (X : Stand p l e R s m args below meth c T locs cells slots) (hx : p.tables.exec = Jvm.exec) (hby : c.code = bytes) {o : Int} {x : Value} (hd : decode bytes pc = .ok (.ifnull o, 3)) (h1 : x.isRef = true) (hv : ¬ x = .null) (hn : pc + 3 = n) (k : OE p e below FF T (mkF m n L st)) : OE p e below FF T (mkF m pc L (x :: st)) := by
  subst hn
  exact k.pre fun t r => XT.nullNo X.here hx rfl (hb hby hd) rfl h1 hv r
theorem s_nonnullY (X : Stand p l e R s m args below meth c T locs cells slots) (hx : p.tables.exec = Jvm.exec) (hby : c.code = bytes) {o : Int} {x : Value} (hd : decode bytes pc = .ok (.ifnonnull o, 3)) (h1 : x.isRef = true) (hv : ¬ x = .null) (ho : 0 ≤ (pc : Int) + o) (hn : ((pc : Int) + o).toNat = n) (k : OE p e below FF T (mkF m n L st)) : OE p e below FF T (mkF m pc L (x :: st)) :=
  k.pre fun t r => XT.nonnullYes X.here hx rfl rfl (hb hby hd) rfl h1 hv ho hn r
theorem s_nonnullN (X : Stand p l e R s m args below meth c T locs cells slots) (hx : p.tables.exec = Jvm.exec) (hby : c.code = bytes) {o : Int} {x : Value} (hd : decode bytes pc = .ok (.ifnonnull o, 3)) (hv : x = .null) (hn : pc + 3 = n) (k : OE p e below FF T (mkF m n L st)) : OE p e below FF T (mkF m pc L (x :: st)) := by
  subst hn
  exact k.pre fun t r => XT.nonnullNo X.here hx rfl (hb hby hd) rfl hv r
theorem s_iincC (X : Stand p l e R s m args below meth c T locs cells slots) (hx : p.tables.exec = Jvm.exec) (hby : c.code = bytes) {i : Nat} {cst : Int} {x v z : Int32} {L' : Array Slot} (hd : decode bytes pc = .ok (.iinc i cst, 3)) (hv : Int32.ofInt cst = v) (hi : L[i]? = some (.val (.int x))) (hz : x + v = z) (hl : storeLocals L i (.int z) = some L') (hn : pc + 3 = n) (k : OE p e below FF T (mkF m n L' (st))) : OE p e below FF T (mkF m pc L (st)) := by
  subst hn
  exact k.pre fun t r => XT.iincV X.here hx rfl _ (hb hby hd) hv hi (hz ▸ hl) r

theorem s_fold {x z : Int32} (hz : x = z) (k : OE p e below FF T (mkF m pc L (.int z :: st))) : OE p e below FF T (mkF m pc L (.int x :: st)) := hz ▸ k
theorem s_foldJ {x z : Int64} (hz : x = z) (k : OE p e below FF T (mkF m pc L (.long z :: st))) : OE p e below FF T (mkF m pc L (.long x :: st)) := hz ▸ k
/-- the constants of the pool -/
theorem s_ldcI (X : Stand p l e R s m args below meth c T locs cells slots) (hx : p.tables.exec = Jvm.exec) (hby : c.code = bytes) (hZ : Z.Warmed39 s.vm) {own : String} {index : Nat} {v : Int32} (hown : s.vm.findClass own = some m.cls) (w : (Jvm.Cond.constant own index v).before a0 Z = true) (hd : decode bytes pc = .ok (.ldc index, 2)) (hn : pc + 2 = n) (k : OE p e below FF T (mkF m n L (.int v :: st))) : OE p e below FF T (mkF m pc L st) := by
  subst hn
  exact k.pre fun t r => X.ldcI hx hown (mvT hZ w) rfl (hb hby hd) r
theorem s_ldcWI (X : Stand p l e R s m args below meth c T locs cells slots) (hx : p.tables.exec = Jvm.exec) (hby : c.code = bytes) (hZ : Z.Warmed39 s.vm) {own : String} {index : Nat} {v : Int32} (hown : s.vm.findClass own = some m.cls) (w : (Jvm.Cond.constant own index v).before a0 Z = true) (hd : decode bytes pc = .ok (.ldc_w index, 3)) (hn : pc + 3 = n) (k : OE p e below FF T (mkF m n L (.int v :: st))) : OE p e below FF T (mkF m pc L st) := by
  subst hn
  exact k.pre fun t r => X.ldcWI hx hown (mvT hZ w) rfl (hb hby hd) r
theorem s_ldc2J (X : Stand p l e R s m args below meth c T locs cells slots) (hx : p.tables.exec = Jvm.exec) (hby : c.code = bytes) (hZ : Z.Warmed39 s.vm) {own : String} {index : Nat} {v : Int64} (hown : s.vm.findClass own = some m.cls) (w : (Jvm.Cond.constantLong own index v).before a0 Z = true) (hd : decode bytes pc = .ok (.ldc2_w index, 3)) (hn : pc + 3 = n) (k : OE p e below FF T (mkF m n L (.long v :: st))) : OE p e below FF T (mkF m pc L st) := by
  subst hn
  exact k.pre fun t r => X.ldc2J hx hown (mvT hZ w) rfl (hb hby hd) r
/-- the returns -/
theorem s_retV (X : Stand p l e R s m args below meth c T locs cells slots) (hx : p.tables.exec = Jvm.exec) (hby : c.code = bytes) (hlk : meth.locks = false) {t : FieldType} (hret : meth.sig.returnType = some t) {w : Value} {i : Instr} (hi : (i = .ireturn ∧ (t = .int ∨ t = .boolean ∨ t = .byte ∨ t = .char ∨ t = .short) ∧ ∃ z, w = .int z) ∨ (i = .lreturn ∧ t = .long ∧ ∃ z, w = .long z) ∨ (i = .dreturn ∧ t = .double ∧ ∃ z, w = .double z) ∨ (i = .freturn ∧ t = .float ∧ ∃ z, w = .float z) ∨ (i = .areturn ∧ t.isReference = true ∧ w.isRef = true))
    (hnw : narrow t w = w) (hd : decode bytes pc = .ok (i, 1)) (hc : cells ≤ C) (hs : slots ≤ S) (q : Q (some w) T.heap locs) : OEnds p e below s C S Q T (mkF m pc L (w :: st)) := by
  obtain ⟨fs, hr, hrun, hended, hW, hsame⟩ := X.leave (v := some w) (fun h => by rw [hret] at h; cases h) hlk
  exact ⟨_, _, _, retOut X hx hret hnw hi (hb hby hd) hr, hrun, hended, q, ⟨_, rfl⟩, hW, hsame.mono hc hs⟩
theorem s_retI (X : Stand p l e R s m args below meth c T locs cells slots) (hx : p.tables.exec = Jvm.exec) (hby : c.code = bytes) (hlk : meth.locks = false) (hret : meth.sig.returnType = some .int) {z : Int32} (hd : decode bytes pc = .ok (.ireturn, 1)) (hc : cells ≤ C) (hs : slots ≤ S) (q : Q (some (.int z)) T.heap locs) : OEnds p e below s C S Q T (mkF m pc L (.int z :: st)) :=
  s_retV X hx hby hlk hret (Or.inl ⟨rfl, Or.inl rfl, _, rfl⟩) rfl hd hc hs q
theorem s_retJ (X : Stand p l e R s m args below meth c T locs cells slots) (hx : p.tables.exec = Jvm.exec) (hby : c.code = bytes) (hlk : meth.locks = false) (hret : meth.sig.returnType = some .long) {z : Int64} (hd : decode bytes pc = .ok (.lreturn, 1)) (hc : cells ≤ C) (hs : slots ≤ S) (q : Q (some (.long z)) T.heap locs) : OEnds p e below s C S Q T (mkF m pc L (.long z :: st)) :=
  s_retV X hx hby hlk hret (Or.inr (Or.inl ⟨rfl, rfl, _, rfl⟩)) rfl hd hc hs q
theorem s_retA (X : Stand p l e R s m args below meth c T locs cells slots) (hx : p.tables.exec = Jvm.exec) (hby : c.code = bytes) (hlk : meth.locks = false) {t : FieldType} (hret : meth.sig.returnType = some t) (ht : t.isReference = true) {w : Value} (hw : w.isRef = true) (hd : decode bytes pc = .ok (.areturn, 1)) (hc : cells ≤ C) (hs : slots ≤ S) (q : Q (some w) T.heap locs) : OEnds p e below s C S Q T (mkF m pc L (w :: st)) :=
  s_retV X hx hby hlk hret (Or.inr (Or.inr (Or.inr (Or.inr ⟨rfl, ht, hw⟩)))) (by cases w <;> cases t <;> simp_all [Value.isRef, FieldType.isReference, narrow]) hd hc hs q
theorem s_retN (X : Stand p l e R s m args below meth c T locs cells slots) (hx : p.tables.exec = Jvm.exec) (hby : c.code = bytes) (hlk : meth.locks = false) {t : FieldType} (hret : meth.sig.returnType = some t) (ht : t = .boolean ∨ t = .byte ∨ t = .char ∨ t = .short) {z z' : Int32} (hz : nar t z = z') (hd : decode bytes pc = .ok (.ireturn, 1)) (hc : cells ≤ C) (hs : slots ≤ S) (q : Q (some (.int z')) T.heap locs) : OEnds p e below s C S Q T (mkF m pc L (.int z :: st)) := by
  subst hz
  obtain ⟨fs, hr, hrun, hended, hW, hsame⟩ := X.leave (v := some (.int (nar t z))) (fun h => by rw [hret] at h; cases h) hlk
  exact ⟨_, _, _, retN X hx hret ht (hb hby hd) hr, hrun, hended, q, ⟨_, rfl⟩, hW, hsame.mono hc hs⟩
theorem s_ret (X : Stand p l e R s m args below meth c T locs cells slots) (hx : p.tables.exec = Jvm.exec) (hby : c.code = bytes) (hlk : meth.locks = false) (hret : meth.sig.returnType = none) (hd : decode bytes pc = .ok (.return_, 1)) (hc : cells ≤ C) (hs : slots ≤ S) (q : Q none T.heap locs) : OEnds p e below s C S Q T (mkF m pc L []) := by
  obtain ⟨fs, hr, hrun, hended, hW, hsame⟩ := X.leave (v := none) (fun _ => rfl) hlk
  exact ⟨_, _, _, X.returnOut hx hret (hb hby hd) hr, hrun, hended, q, ⟨_, rfl⟩, hW, hsame.mono hc hs⟩
/-- the returns of a walk that may have interned -/
theorem v_retV (X : Stand p l e R (s.setVm vm0) m args below meth c T locs cells slots) (hx : p.tables.exec = Jvm.exec) (hby : c.code = bytes) (hlk : meth.locks = false) {t : FieldType} (hret : meth.sig.returnType = some t) {w : Value} {i : Instr} (hi : (i = .ireturn ∧ (t = .int ∨ t = .boolean ∨ t = .byte ∨ t = .char ∨ t = .short) ∧ ∃ z, w = .int z) ∨ (i = .lreturn ∧ t = .long ∧ ∃ z, w = .long z) ∨ (i = .dreturn ∧ t = .double ∧ ∃ z, w = .double z) ∨ (i = .freturn ∧ t = .float ∧ ∃ z, w = .float z) ∨ (i = .areturn ∧ t.isReference = true ∧ w.isRef = true))
    (hnw : narrow t w = w) (hd : decode bytes pc = .ok (i, 1)) (hS : s.Since vm0 k0) (hk : k0 ≤ T.heap.size) (hc : cells ≤ C) (hs : slots ≤ S) (q : QV (some w) T.heap locs T.vm) : OE p e below (FW s C S QV) T (mkF m pc L (w :: st)) := by
  obtain ⟨fs, hr, hrun, hended, hW, hsame⟩ := X.leave (v := some w) (fun h => by rw [hret] at h; cases h) hlk
  obtain ⟨q1, q2, q3⟩ := hS.ended hW hk (hsame.mono hc hs)
  exact ⟨_, _, _, retOut X hx hret hnw hi (hb hby hd) hr, hrun, hended, q, ⟨_, rfl⟩, q1, q2, q3⟩
theorem v_retA (X : Stand p l e R (s.setVm vm0) m args below meth c T locs cells slots) (hx : p.tables.exec = Jvm.exec) (hby : c.code = bytes) (hlk : meth.locks = false) {t : FieldType} (hret : meth.sig.returnType = some t) (ht : t.isReference = true) {w : Value} (hw : w.isRef = true) (hd : decode bytes pc = .ok (.areturn, 1)) (hS : s.Since vm0 k0) (hk : k0 ≤ T.heap.size) (hc : cells ≤ C) (hs : slots ≤ S) (q : QV (some w) T.heap locs T.vm) : OE p e below (FW s C S QV) T (mkF m pc L (w :: st)) :=
  v_retV X hx hby hlk hret (Or.inr (Or.inr (Or.inr (Or.inr ⟨rfl, ht, hw⟩)))) (by cases w <;> cases t <;> simp_all [Value.isRef, FieldType.isReference, narrow]) hd hS hk hc hs q
theorem v_retN (X : Stand p l e R (s.setVm vm0) m args below meth c T locs cells slots) (hx : p.tables.exec = Jvm.exec) (hby : c.code = bytes) (hlk : meth.locks = false) {t : FieldType} (hret : meth.sig.returnType = some t) (ht : t = .boolean ∨ t = .byte ∨ t = .char ∨ t = .short) {z z' : Int32} (hz : nar t z = z') (hd : decode bytes pc = .ok (.ireturn, 1)) (hS : s.Since vm0 k0) (hk : k0 ≤ T.heap.size) (hc : cells ≤ C) (hs : slots ≤ S) (q : QV (some (.int z')) T.heap locs T.vm) : OE p e below (FW s C S QV) T (mkF m pc L (.int z :: st)) := by
  subst hz
  obtain ⟨fs, hr, hrun, hended, hW, hsame⟩ := X.leave (v := some (.int (nar t z))) (fun h => by rw [hret] at h; cases h) hlk
  obtain ⟨q1, q2, q3⟩ := hS.ended hW hk (hsame.mono hc hs)
  exact ⟨_, _, _, retN X hx hret ht (hb hby hd) hr, hrun, hended, q, ⟨_, rfl⟩, q1, q2, q3⟩
theorem v_ret (X : Stand p l e R (s.setVm vm0) m args below meth c T locs cells slots) (hx : p.tables.exec = Jvm.exec) (hby : c.code = bytes) (hlk : meth.locks = false) (hret : meth.sig.returnType = none) (hd : decode bytes pc = .ok (.return_, 1)) (hS : s.Since vm0 k0) (hk : k0 ≤ T.heap.size) (hc : cells ≤ C) (hs : slots ≤ S) (q : QV none T.heap locs T.vm) : OE p e below (FW s C S QV) T (mkF m pc L []) := by
  obtain ⟨fs, hr, hrun, hended, hW, hsame⟩ := X.leave (v := none) (fun _ => rfl) hlk
  obtain ⟨q1, q2, q3⟩ := hS.ended hW hk (hsame.mono hc hs)
  exact ⟨_, _, _, X.returnOut hx hret (hb hby hd) hr, hrun, hended, q, ⟨_, rfl⟩, q1, q2, q3⟩
/-- who pays for a call of a callee that may intern -/
theorem backOfV {y : MethodName} {yb : ByteArray} {maxL : Nat} {ret : Option FieldType} {rm : Room} {len W : Nat} {as' : Array Value} (hM : OConV l Z y yb maxL ret [] rm as' h V QV) (hZ : Z.Warmed39 s.vm) (wc : (Jvm.Cond.code y yb maxL ret).before a0 Z = true) (wz : (Jvm.Cond.initialized y.cls).before a0 Z = true) (hf : rm.frames + 1 ≤ R.frames) (hl : W + (maxL + 11) + rm.locals ≤ R.locals) (hV : ∀ vm₁, s.WarmedH vm₁ → V vm₁) :
    BackS l R p e below s args y len W (fun A a => a = as' ∧ A.U.heap = h ∧ A.cells + rm.cells ≤ R.cells ∧ A.slots + rm.slots ≤ R.slots)
      (fun A _ v B => ∃ L, QV v B.U.heap L B.U.vm ∧ B.locs = A.locs ++ L ∧ B.cells = A.cells + rm.cells ∧ B.slots = A.slots + rm.slots) :=
  BackS.of_freeW (bytes := yb) (maxL := maxL) (ret := ret) (E := fun _ _ o t L k n => k = rm.cells ∧ n = rm.slots ∧ ∃ v, o = .returned v ∧ QV v t.heap L t.vm) hM hf hl
    (fun m meth c A a Y hp => have hU : Z.Warmed39 A.U.vm := wtrans hZ Y.warmed
      ⟨by show (Jvm.Cond.and _ .tt).before a A.U = true; rw [Cond.before_and, mv hU wc]; rfl, mv hU wc, mv hU wz, hp.2.2.1, hp.2.2.2⟩)
    (fun m meth c A a g mk Y hp => ⟨hp.1, wtrans hZ Y.warmed, hp.2.1, hV _ Y.warmed⟩) (fun _ _ _ _ _ _ _ _ _ => trivial)
    (fun _ _ _ _ ⟨v, L, h1, h2, h3⟩ => ⟨L, _, _, h3, rfl, rfl, v, h1, h2⟩)
    (fun m meth c A a g mk v t L k n Y hp _ _ ⟨e1, e2, v', e3, e4⟩ => by cases e3; subst e1 e2; exact ⟨L, e4, rfl, rfl, rfl⟩)
theorem v_callS (X : Stand p l e R (s.setVm vm0) m args below meth c T locs cells slots) (hx : p.tables.exec = Jvm.exec) (hby : c.code = bytes) {ml : Nat} (hml : c.maxLocals = ml) (hZ : Z.Warmed39 (s.setVm vm0).vm) {own : String} {index : Nat} {y : MethodName} {yb : ByteArray} {maxL : Nat} {ret : Option FieldType} (hown : (s.setVm vm0).vm.findClass own = some m.cls) (w1 : (Jvm.Cond.methodLink own index y).before a0 Z = true) (w2 : (Jvm.Cond.static y).before a0 Z = true) (w3 : (Jvm.Cond.initialized y.cls).before a0 Z = true) (w4 : (Jvm.Cond.code y yb maxL ret).before a0 Z = true) (hy : y.cls ≠ "java/lang/invoke/MethodHandle" ∧ y.cls ≠ "java/lang/invoke/VarHandle")
    {rm : Room} {as' : Array Value} (K : OConV l Z y yb maxL ret [] rm as' h V QV) (hV : ∀ vm₁, (s.setVm vm0).WarmedH vm₁ → V vm₁) (hS : s.Since vm0 k0) (hk : k0 ≤ h.size) (eT : T.heap = h) (hf : rm.frames + 1 ≤ R.frames) (W : Nat) (hl : W + (maxL + 11) + rm.locals ≤ R.locals) (hc : cells + rm.cells ≤ R.cells) (hs : slots + rm.slots ≤ R.slots) {ps : List FieldType} {rt : Option FieldType} (pd : parseMethodDescriptor y.desc = some ⟨ps, rt⟩) (argsL rest : List Value) (hlen : argsL.length = ps.length) (has : argsL.toArray = as') (hst : st = argsL.reverse ++ rest) (hW : (rest.map fun v => v.category).sum ≤ W) (hsz : L.size = ml) (hd : decode bytes pc = .ok (.invokestatic index, 3)) (hn : pc + 3 = n)
    (k : ∀ T' L' v, Stand p l e R (s.setVm T'.vm) m args below meth c T' (locs ++ L') (cells + rm.cells) (slots + rm.slots) → s.Since T'.vm T'.heap.size → Z.Warmed39 (s.setVm T'.vm).vm → (s.setVm T'.vm).vm.findClass own = some m.cls → QV v T'.heap L' T'.vm → OE p e below FF T' (mkF m n L (v.toList ++ rest))) : OE p e below FF T (mkF m pc L st) := by
  subst hn has
  obtain ⟨v, _, ⟨T', L', k', n'⟩, -, X', hS', hg, ⟨Lc, hQ, l', y', z'⟩, f'⟩ := callSS X hx (y := y) hown (mvT hZ w1) (mvT hZ w2) (mvT hZ w3) (mvT hZ w4) hy (backOfV (W := W) K hZ w4 w3 hf hl hV) (g := mkF m pc L st) rfl (by rw [hml]; exact hsz) (argsL := argsL) (rest := rest) (lenOf pd hlen) hst (by show 2 * 0 + _ ≤ _; rw [Nat.mul_zero, Nat.zero_add]; exact hW) (hb hby hd) (fun _ _ => ⟨rfl, eT, hc, hs⟩)
  dsimp only [Pt.U, Pt.locs, Pt.cells, Pt.slots] at X' l' y' z' f' hQ hS' hg
  subst l' y' z'
  have hS2 : s.Since T'.vm T'.heap.size := hS.trans hS' (Nat.le_trans hk (by rw [← eT]; exact hg))
  exact (k T' Lc v X' hS2 (State.Warmed39.trans hZ hS'.1) ((hS'.1.alike.findClass _ _).trans hown) hQ).pre fun t r => f'.trans r
theorem v_callI (X : Stand p l e R (s.setVm vm0) m args below meth c T locs cells slots) (hx : p.tables.exec = Jvm.exec) (hby : c.code = bytes) {ml : Nat} (hml : c.maxLocals = ml) (hZ : Z.Warmed39 (s.setVm vm0).vm) {own : String} {index : Nat} {y : MethodName} {yb : ByteArray} {maxL : Nat} (hown : (s.setVm vm0).vm.findClass own = some m.cls) (w1 : (Jvm.Cond.methodLink own index y).before a0 Z = true) (hy1 : y.name = "<init>") (w2 : (Jvm.Cond.instanceMethod y).before a0 Z = true) (w3 : (Jvm.Cond.initialized y.cls).before a0 Z = true) (w4 : (Jvm.Cond.code y yb maxL none).before a0 Z = true) (hy : y.cls ≠ "java/lang/invoke/MethodHandle" ∧ y.cls ≠ "java/lang/invoke/VarHandle")
    {rm : Room} {as' : Array Value} (K : OConV l Z y yb maxL none [] rm as' h V QV) (hV : ∀ vm₁, (s.setVm vm0).WarmedH vm₁ → V vm₁) (hS : s.Since vm0 k0) (hk : k0 ≤ h.size) (eT : T.heap = h) (hf : rm.frames + 1 ≤ R.frames) (W : Nat) (hl : W + (maxL + 11) + rm.locals ≤ R.locals) (hc : cells + rm.cells ≤ R.cells) (hs : slots + rm.slots ≤ R.slots) {ps : List FieldType} {rt : Option FieldType} (pd : parseMethodDescriptor y.desc = some ⟨ps, rt⟩) (a : Addr) (argsL rest : List Value) (hlen : argsL.length = ps.length) (has : (Value.ref a :: argsL).toArray = as') (hst : st = argsL.reverse ++ .ref a :: rest) (hW : (rest.map fun v => v.category).sum ≤ W) (hsz : L.size = ml) (hd : decode bytes pc = .ok (.invokespecial index, 3)) (hn : pc + 3 = n)
    (k : ∀ T' L' v, Stand p l e R (s.setVm T'.vm) m args below meth c T' (locs ++ L') (cells + rm.cells) (slots + rm.slots) → s.Since T'.vm T'.heap.size → Z.Warmed39 (s.setVm T'.vm).vm → (s.setVm T'.vm).vm.findClass own = some m.cls → QV v T'.heap L' T'.vm → OE p e below FF T' (mkF m n L (v.toList ++ rest))) : OE p e below FF T (mkF m pc L st) := by
  subst hn has
  obtain ⟨v, _, ⟨T', L', k', n'⟩, -, X', hS', hg, ⟨Lc, hQ, l', y', z'⟩, f'⟩ := X.specialBackS hx (y := y) hy1 hown (mvT hZ w1) (mvT hZ w2) (mvT hZ w4) hy (backOfV (W := W) K hZ w4 w3 hf hl hV) (g := mkF m pc L st) rfl (by rw [hml]; exact hsz) (Steps.refl _) (a := a) (argsL := argsL) (rest := rest) (lenOf pd hlen) hst (by show 2 * 0 + _ ≤ _; rw [Nat.mul_zero, Nat.zero_add]; exact hW) (hb hby hd) (fun _ _ => ⟨rfl, eT, hc, hs⟩)
  dsimp only [Pt.U, Pt.locs, Pt.cells, Pt.slots] at X' l' y' z' f' hQ hS' hg
  subst l' y' z'
  have hS2 : s.Since T'.vm T'.heap.size := hS.trans hS' (Nat.le_trans hk (by rw [← eT]; exact hg))
  exact (k T' Lc v X' hS2 (State.Warmed39.trans hZ hS'.1) ((hS'.1.alike.findClass _ _).trans hown) hQ).pre fun t r => f'.trans r
theorem v_callV (X : Stand p l e R (s.setVm vm0) m args below meth c T locs cells slots) (hx : p.tables.exec = Jvm.exec) (hby : c.code = bytes) {ml : Nat} (hml : c.maxLocals = ml) (hZ : Z.Warmed39 (s.setVm vm0).vm) {own K0 : String} {index : Nat} {y z : MethodName} {yb : ByteArray} {maxL : Nat} {ret : Option FieldType} (hown : (s.setVm vm0).vm.findClass own = some m.cls) (w1 : (Jvm.Cond.methodLink own index y).before a0 Z = true) (w2 : (Jvm.Cond.declares y).before a0 Z = true) (w5 : NotFace (s.setVm vm0) y) (w6 : (Jvm.Cond.selects K0 y z).before a0 Z = true) (w7 : (Jvm.Cond.instanceMethod z).before a0 Z = true) (w3 : (Jvm.Cond.initialized z.cls).before a0 Z = true) (w4 : (Jvm.Cond.code z yb maxL ret).before a0 Z = true) (hy : y.cls ≠ "java/lang/invoke/MethodHandle" ∧ y.cls ≠ "java/lang/invoke/VarHandle")
    {rm : Room} {as' : Array Value} (K : OConV l Z z yb maxL ret [] rm as' h V QV) (hV : ∀ vm₁, (s.setVm vm0).WarmedH vm₁ → V vm₁) (hS : s.Since vm0 k0) (hk : k0 ≤ h.size) (eT : T.heap = h) (hf : rm.frames + 1 ≤ R.frames) (W : Nat) (hl : W + (maxL + 11) + rm.locals ≤ R.locals) (hc : cells + rm.cells ≤ R.cells) (hs : slots + rm.slots ≤ R.slots) {ps : List FieldType} {rt : Option FieldType} (pd : parseMethodDescriptor y.desc = some ⟨ps, rt⟩) {a : Addr} (E : Exa Z h a K0) (argsL rest : List Value) (hlen : argsL.length = ps.length) (has : (Value.ref a :: argsL).toArray = as') (hst : st = argsL.reverse ++ .ref a :: rest) (hW : (rest.map fun v => v.category).sum ≤ W) (hsz : L.size = ml) (hd : decode bytes pc = .ok (.invokevirtual index, 3)) (hn : pc + 3 = n)
    (k : ∀ T' L' v, Stand p l e R (s.setVm T'.vm) m args below meth c T' (locs ++ L') (cells + rm.cells) (slots + rm.slots) → s.Since T'.vm T'.heap.size → Z.Warmed39 (s.setVm T'.vm).vm → (s.setVm T'.vm).vm.findClass own = some m.cls → QV v T'.heap L' T'.vm → OE p e below FF T' (mkF m n L (v.toList ++ rest))) : OE p e below FF T (mkF m pc L st) := by
  subst hn has
  obtain ⟨cq, kq, qa, qb, qc⟩ := isOf hZ eT E
  obtain ⟨v, _, ⟨T', L', k', n'⟩, -, X', hS', hg, ⟨Lc, hQ, l', y', z'⟩, f'⟩ := X.virtualBackS hx (y := y) (z := z) hown (mvT hZ w1) (mvT hZ w2) w5 (mvT hZ w6) (mvT hZ w7) hy (backOfV (W := W) K hZ w4 w3 hf hl hV) qa qc (g := mkF m pc L st) rfl (by rw [hml]; exact hsz) (Steps.refl _) (argsL := argsL) (rest := rest) (lenOf pd hlen) hst (by show 2 * 0 + _ ≤ _; rw [Nat.mul_zero, Nat.zero_add]; exact hW) (hb hby hd) (fun _ _ => ⟨rfl, eT, hc, hs⟩)
  dsimp only [Pt.U, Pt.locs, Pt.cells, Pt.slots] at X' l' y' z' f' hQ hS' hg
  subst l' y' z'
  have hS2 : s.Since T'.vm T'.heap.size := hS.trans hS' (Nat.le_trans hk (by rw [← eT]; exact hg))
  exact (k T' Lc v X' hS2 (State.Warmed39.trans hZ hS'.1) ((hS'.1.alike.findClass _ _).trans hown) hQ).pre fun t r => f'.trans r
/-- 'ldc' of a String constant, its text read; the first time in the run behind the start -/
theorem v_ldc (X : Stand p l e R (s.setVm vm0) m args below meth c T locs cells slots) (hx : p.tables.exec = Jvm.exec) (hby : c.code = bytes) (hZ : Z.Warmed39 (s.setVm vm0).vm) {own text : String} {index : Nat} (hown : (s.setVm vm0).vm.findClass own = some m.cls) (w : (Jvm.Cond.stringLink own index text).before a0 Z = true) (wS : ∀ a ∈ Bundle.stringAtoms, a.before a0 Z = true) (eT : T.heap = h) (hS : s.Since vm0 k0) (hk : k0 ≤ h.size) (N : Fr s.heap.size locs) (hkeep : Ext Z.heap s.heap) {Ts : List String} (I : IB Z vm0 Ts) (hnot : text ∉ Ts) (hh : Jvm.Lit.constHeld Z own index) (hcw : Jvm.Lit.compactW.before a0 Z = true)
    {vs : List Value} {z : Int32} (ht : (∀ c ∈ text.toList, c.toNat < 256) ∧ text.toList.map (fun c => Value.int (Jvm.Lit.byteI c.toNat.toUInt16)) = vs) (hz : ¬ z < 0) (hlv : z.toNatClampNeg = vs.length) (num : Nat) (hnum : 4 * text.toList.length ≤ num) (hbig : num ≤ 536870912) (hc : cells + 2 ≤ R.cells) (hl : slots + (num + 4) ≤ R.slots) (hd : decode bytes pc = .ok (.ldc index, 2)) (hn : pc + 2 = n)
    (k : ∀ T' h' a b kb k1, Stand p l e R (s.setVm T'.vm) m args below meth c T' locs (cells + 2) (slots + (num + 4)) → T'.heap = h' → Ext h h' → s.Since T'.vm k1 → k1 ≤ h'.size → Z.Warmed39 (s.setVm T'.vm).vm → (s.setVm T'.vm).vm.findClass own = some m.cls → Exa Z h' a "java/lang/String" → Fld Z h' a "java/lang/String" "coder" "B" (.int 0) → Fld Z h' a "java/lang/String" "value" "[B" (.ref b) → Arv Z h' b kb .byte z vs (.int 0) → IB Z T'.vm (text :: Ts) → Lit (s.setVm T'.vm) own index a → OE p e below FF T' (mkF m n L (.ref a :: st))) : OE p e below FF T (mkF m pc L st) := by
  subst hn
  obtain ⟨a, T', h', k1, b, kb, r1, r2, r3, r4, r5, r6, r7, r8, r9, r10, r11, -, -, r14, r15, r16⟩ := ldcSVL X hx hZ hown w wS eT hS hk N hkeep.2 I hnot hh hcw ht hz hlv (g := mkF m pc L st) rfl (hb hby hd) hnum hbig hc hl
  exact (k T' h' a b kb k1 r1 r2 r3 r4 r5 r6 r7 r8 r9 r10 r11 r14 r15).pre r16
/-- .. and again -/
theorem v_ldcAgain (X : Stand p l e R (s.setVm vm0) m args below meth c T locs cells slots) (hx : p.tables.exec = Jvm.exec) (hby : c.code = bytes) (hZ : Z.Warmed39 (s.setVm vm0).vm) {own text : String} {index : Nat} (hown : (s.setVm vm0).vm.findClass own = some m.cls) (w : (Jvm.Cond.stringLink own index text).before a0 Z = true) {a : Addr} (Lt : Lit (s.setVm vm0) own index a) (hd : decode bytes pc = .ok (.ldc index, 2)) (hn : pc + 2 = n)
    (k : OE p e below FF T (mkF m n L (.ref a :: st))) : OE p e below FF T (mkF m pc L st) := by
  subst hn
  exact k.pre (ldcAgain X hx hZ hown w Lt (g := mkF m pc L st) rfl (hb hby hd))
theorem IB.warm {Z1 : State} {vm1 : Vm} {Ts : List String} (I : IB Z1 vm0 Ts) {s1 : State} (hW : (s1.setVm vm0).WarmedH vm1) : IB Z1 vm1 Ts := by
  obtain ⟨more, h1, h2⟩ := I
  exact ⟨more, by rw [hW.interned_eq]; exact h1, h2⟩
/-- the heap: fields -/
theorem s_getF (X : Stand p l e R s m args below meth c T locs cells slots) (hx : p.tables.exec = Jvm.exec) (hby : c.code = bytes) (hZ : Z.Warmed39 s.vm) {own O f d : String} {index : Nat} (hown : s.vm.findClass own = some m.cls) (w : (Jvm.Cond.fieldLink own index O f d).before a0 Z = true) (eT : T.heap = h) {a : Addr} {v : Value} (F : Fld Z h a O f d v) (hd : decode bytes pc = .ok (.getfield index, 3)) (hn : pc + 3 = n)
    (k : ∀ T', Stand p l e R s m args below meth c T' locs cells slots → T'.heap = h → OE p e below FF T' (mkF m n L (v :: st))) : OE p e below FF T (mkF m pc L (.ref a :: st)) := by
  subst hn
  obtain ⟨T', X', e', f'⟩ := getF X hx hZ hown (host := "") (Or.inl w) Via.refl eT F (g := mkF m pc L (.ref a :: st)) rfl rfl (hb hby hd)
  exact (k T' X' e').pre f'
theorem s_putF (X : Stand p l e R s m args below meth c T locs cells slots) (hx : p.tables.exec = Jvm.exec) (hby : c.code = bytes) (hZ : Z.Warmed39 s.vm) {own O f d K : String} {index kk : Nat} {ty : FieldType} (hown : s.vm.findClass own = some m.cls) (w : (Jvm.Cond.fieldLink own index O f d).before a0 Z = true) (eT : T.heap = h) {a : Addr} {v old : Value} (F : Fld Z h a O f d old) (E : Exa Z h a K)
    (Lw : (Jvm.Cond.lays K O f d).before a0 Z = true ∨ ((Jvm.Cond.laysFinal K O f d).before a0 Z = true ∧ own = O ∧ meth.name = "<init>")) (wi : (Jvm.Cond.instantiable K kk).before a0 Z = true) (hty : parseFieldDescriptor d = some ty) (hnw : narrow ty v = v) (hf : fits ty v = true) (hd : decode bytes pc = .ok (.putfield index, 3)) (hn : pc + 3 = n)
    (k : ∀ T' h', Stand p l e R s m args below meth c T' (locs ++ [⟨a, RoadKit.slotOf Z O f d⟩]) cells slots → T'.heap = h' → Wr h h' a (RoadKit.slotOf Z O f d) v → OE p e below FF T' (mkF m n L st)) : OE p e below FF T (mkF m pc L (v :: .ref a :: st)) := by
  subst hn
  obtain ⟨T', h', X', e', W', f'⟩ := putF X hx hZ hown (host := "") (Or.inl w) Via.refl eT F E Lw wi hty hnw hf (g := mkF m pc L (v :: .ref a :: st)) rfl rfl (hb hby hd)
  exact (k T' h' X' e' W').pre f'
theorem s_getS (X : Stand p l e R s m args below meth c T locs cells slots) (hx : p.tables.exec = Jvm.exec) (hby : c.code = bytes) (hZ : Z.Warmed39 s.vm) {own O f d : String} {index : Nat} (hown : s.vm.findClass own = some m.cls) (w : (Jvm.Cond.fieldLink own index O f d).before a0 Z = true) (eT : T.heap = h) {v : Value} (F : Sta Z h O f d v) (hd : decode bytes pc = .ok (.getstatic index, 3)) (hn : pc + 3 = n)
    (k : ∀ T', Stand p l e R s m args below meth c T' locs cells slots → T'.heap = h → OE p e below FF T' (mkF m n L (v :: st))) : OE p e below FF T (mkF m pc L st) := by
  subst hn
  obtain ⟨T', X', e', f'⟩ := getS X hx hZ hown (host := "") w Via.refl eT F (g := mkF m pc L st) rfl (hb hby hd)
  exact (k T' X' e').pre f'
theorem s_newO (X : Stand p l e R s m args below meth c T locs cells slots) (hx : p.tables.exec = Jvm.exec) (hby : c.code = bytes) (hZ : Z.Warmed39 s.vm) {own K : String} {index num : Nat} (hown : s.vm.findClass own = some m.cls) (w : (Jvm.Cond.classLink own index K).before a0 Z = true) (wi : (Jvm.Cond.instantiable K num).before a0 Z = true) (wz : (Jvm.Cond.initialized K).before a0 Z = true) (eT : T.heap = h) (hc : cells + 1 ≤ R.cells) (hl : slots + num ≤ R.slots) (hd : decode bytes pc = .ok (.new index, 3)) (hn : pc + 3 = n)
    (k : ∀ T' h' a, a = h.size → Stand p l e R s m args below meth c T' locs (cells + 1) (slots + num) → T'.heap = h' → Ext h h' → Exa Z h' a K → (∀ {O nm d : String} {ty : FieldType}, Laid Z a0 K O nm d → parseFieldDescriptor d = some ty → Fld Z h' a O nm d (defaultValue ty)) → OE p e below FF T' (mkF m n L (.ref a :: st))) : OE p e below FF T (mkF m pc L st) := by
  subst hn
  obtain ⟨T', h', X', e', E', A', D', -, f'⟩ := newO X hx hZ hown w wi wz eT (g := mkF m pc L st) rfl (hb hby hd) hc hl
  exact (k T' h' _ rfl X' e' E' A' D').pre f'
theorem s_initO (X : Stand p l e R s m args below meth c T locs cells slots) (hx : p.tables.exec = Jvm.exec) (hby : c.code = bytes) {ml : Nat} (hml : c.maxLocals = ml) (hZ : Z.Warmed39 s.vm) {own : String} {index : Nat} (hown : s.vm.findClass own = some m.cls) (w1 : (Jvm.Cond.methodLink own index Lib.objectInit).before a0 Z = true) (w2 : (Jvm.Cond.instanceMethod Lib.objectInit).before a0 Z = true) (w3 : (Jvm.Cond.code Lib.objectInit ⟨#[0xb1]⟩ 1 none).before a0 Z = true) (eT : T.heap = h) {a : Addr} (hf : 1 ≤ R.frames) (W : Nat) (hW : (st.map fun v => v.category).sum ≤ W) (hl : W + 12 ≤ R.locals) (hsz : L.size = ml) (hd : decode bytes pc = .ok (.invokespecial index, 3)) (hn : pc + 3 = n)
    (k : ∀ T', Stand p l e R s m args below meth c T' locs cells slots → T'.heap = h → OE p e below FF T' (mkF m n L st)) : OE p e below FF T (mkF m pc L (.ref a :: st)) := by
  subst hn
  obtain ⟨T', X', e', f'⟩ := initO X hx hZ hown w1 w2 w3 eT (g := mkF m pc L (.ref a :: st)) rfl (by rw [hml]; exact hsz) rfl (hb hby hd) hf (W := W) (by show 2 * 0 + _ ≤ _; rw [Nat.mul_zero, Nat.zero_add]; exact hW) hl
  exact (k T' X' e').pre f'
/-- the calls by a contract -/
theorem s_callS (X : Stand p l e R s m args below meth c T locs cells slots) (hx : p.tables.exec = Jvm.exec) (hby : c.code = bytes) {ml : Nat} (hml : c.maxLocals = ml) (hZ : Z.Warmed39 s.vm) {own : String} {index : Nat} {y : MethodName} {yb : ByteArray} {maxL : Nat} {ret : Option FieldType} (hown : s.vm.findClass own = some m.cls) (w1 : (Jvm.Cond.methodLink own index y).before a0 Z = true) (w2 : (Jvm.Cond.static y).before a0 Z = true) (w3 : (Jvm.Cond.initialized y.cls).before a0 Z = true) (w4 : (Jvm.Cond.code y yb maxL ret).before a0 Z = true) (hy : y.cls ≠ "java/lang/invoke/MethodHandle" ∧ y.cls ≠ "java/lang/invoke/VarHandle")
    {rm : Room} {as' : Array Value} {Q' : Option Value → Heap → List Loc → Prop} (K : OCon l Z y yb maxL ret [] rm as' h Q') (eT : T.heap = h) (hf : rm.frames + 1 ≤ R.frames) (W : Nat) (hl : W + (maxL + 11) + rm.locals ≤ R.locals) (hc : cells + rm.cells ≤ R.cells) (hs : slots + rm.slots ≤ R.slots) {ps : List FieldType} {rt : Option FieldType} (pd : parseMethodDescriptor y.desc = some ⟨ps, rt⟩) (argsL rest : List Value) (hlen : argsL.length = ps.length) (has : argsL.toArray = as') (hst : st = argsL.reverse ++ rest) (hW : (rest.map fun v => v.category).sum ≤ W) (hsz : L.size = ml) (hd : decode bytes pc = .ok (.invokestatic index, 3)) (hn : pc + 3 = n)
    (k : ∀ T' L' v, Stand p l e R s m args below meth c T' (locs ++ L') (cells + rm.cells) (slots + rm.slots) → Q' v T'.heap L' → OE p e below FF T' (mkF m n L (v.toList ++ rest))) : OE p e below FF T (mkF m pc L st) := by
  subst hn has
  obtain ⟨v, _, ⟨T', L', k', n'⟩, -, X', ⟨Lc, hQ, l', y', z'⟩, f'⟩ := Jvm.LawKit.callS X hx (y := y) hown (mvT hZ w1) (mvT hZ w2) (mvT hZ w3) (mvT hZ w4) hy (backOf (W := W) K hZ w4 w3 hf hl) (g := mkF m pc L st) rfl (by rw [hml]; exact hsz) (argsL := argsL) (rest := rest) (lenOf pd hlen) hst (by show 2 * 0 + _ ≤ _; rw [Nat.mul_zero, Nat.zero_add]; exact hW) (hb hby hd) (fun _ _ => ⟨rfl, eT, hc, hs⟩)
  dsimp only [Pt.U, Pt.locs, Pt.cells, Pt.slots] at X' l' y' z' f' hQ
  subst l' y' z'
  exact (k T' Lc v X' hQ).pre f'
theorem s_callI (X : Stand p l e R s m args below meth c T locs cells slots) (hx : p.tables.exec = Jvm.exec) (hby : c.code = bytes) {ml : Nat} (hml : c.maxLocals = ml) (hZ : Z.Warmed39 s.vm) {own : String} {index : Nat} {y : MethodName} {yb : ByteArray} {maxL : Nat} (hy1 : y.name = "<init>") (hown : s.vm.findClass own = some m.cls) (w1 : (Jvm.Cond.methodLink own index y).before a0 Z = true) (w2 : (Jvm.Cond.instanceMethod y).before a0 Z = true) (w3 : (Jvm.Cond.initialized y.cls).before a0 Z = true) (w4 : (Jvm.Cond.code y yb maxL none).before a0 Z = true) (hy : y.cls ≠ "java/lang/invoke/MethodHandle" ∧ y.cls ≠ "java/lang/invoke/VarHandle")
    {rm : Room} {as' : Array Value} {Q' : Option Value → Heap → List Loc → Prop} (K : OCon l Z y yb maxL none [] rm as' h Q') (eT : T.heap = h) (hf : rm.frames + 1 ≤ R.frames) (W : Nat) (hl : W + (maxL + 11) + rm.locals ≤ R.locals) (hc : cells + rm.cells ≤ R.cells) (hs : slots + rm.slots ≤ R.slots) {ps : List FieldType} {rt : Option FieldType} (pd : parseMethodDescriptor y.desc = some ⟨ps, rt⟩) (a : Addr) (argsL rest : List Value) (hlen : argsL.length = ps.length) (has : (Value.ref a :: argsL).toArray = as') (hst : st = argsL.reverse ++ .ref a :: rest) (hW : (rest.map fun v => v.category).sum ≤ W) (hsz : L.size = ml) (hd : decode bytes pc = .ok (.invokespecial index, 3)) (hn : pc + 3 = n)
    (k : ∀ T' L' v, Stand p l e R s m args below meth c T' (locs ++ L') (cells + rm.cells) (slots + rm.slots) → Q' v T'.heap L' → OE p e below FF T' (mkF m n L (v.toList ++ rest))) : OE p e below FF T (mkF m pc L st) := by
  subst hn has
  obtain ⟨v, _, ⟨T', L', k', n'⟩, -, X', ⟨Lc, hQ, l', y', z'⟩, f'⟩ := X.specialBack hx (y := y) hy1 hown (mvT hZ w1) (mvT hZ w2) (mvT hZ w4) hy (backOf (W := W) K hZ w4 w3 hf hl) (g := mkF m pc L st) rfl (by rw [hml]; exact hsz) (Steps.refl _) (a := a) (argsL := argsL) (rest := rest) (lenOf pd hlen) hst (by show 2 * 0 + _ ≤ _; rw [Nat.mul_zero, Nat.zero_add]; exact hW) (hb hby hd) (fun _ _ => ⟨rfl, eT, hc, hs⟩)
  dsimp only [Pt.U, Pt.locs, Pt.cells, Pt.slots] at X' l' y' z' f' hQ
  subst l' y' z'
  exact (k T' Lc v X' hQ).pre fun t r => f'.trans r
theorem s_callV (X : Stand p l e R s m args below meth c T locs cells slots) (hx : p.tables.exec = Jvm.exec) (hby : c.code = bytes) {ml : Nat} (hml : c.maxLocals = ml) (hZ : Z.Warmed39 s.vm) {own K0 : String} {index : Nat} {y z : MethodName} {yb : ByteArray} {maxL : Nat} {ret : Option FieldType} (hown : s.vm.findClass own = some m.cls) (w1 : (Jvm.Cond.methodLink own index y).before a0 Z = true) (w2 : (Jvm.Cond.declares y).before a0 Z = true) (w5 : NotFace s y) (w6 : (Jvm.Cond.selects K0 y z).before a0 Z = true) (w7 : (Jvm.Cond.instanceMethod z).before a0 Z = true) (w3 : (Jvm.Cond.initialized z.cls).before a0 Z = true) (w4 : (Jvm.Cond.code z yb maxL ret).before a0 Z = true) (hy : y.cls ≠ "java/lang/invoke/MethodHandle" ∧ y.cls ≠ "java/lang/invoke/VarHandle")
    {rm : Room} {as' : Array Value} {Q' : Option Value → Heap → List Loc → Prop} (K : OCon l Z z yb maxL ret [] rm as' h Q') (eT : T.heap = h) (hf : rm.frames + 1 ≤ R.frames) (W : Nat) (hl : W + (maxL + 11) + rm.locals ≤ R.locals) (hc : cells + rm.cells ≤ R.cells) (hs : slots + rm.slots ≤ R.slots) {ps : List FieldType} {rt : Option FieldType} (pd : parseMethodDescriptor y.desc = some ⟨ps, rt⟩) {a : Addr} (E : Exa Z h a K0) (argsL rest : List Value) (hlen : argsL.length = ps.length) (has : (Value.ref a :: argsL).toArray = as') (hst : st = argsL.reverse ++ .ref a :: rest) (hW : (rest.map fun v => v.category).sum ≤ W) (hsz : L.size = ml) (hd : decode bytes pc = .ok (.invokevirtual index, 3)) (hn : pc + 3 = n)
    (k : ∀ T' L' v, Stand p l e R s m args below meth c T' (locs ++ L') (cells + rm.cells) (slots + rm.slots) → Q' v T'.heap L' → OE p e below FF T' (mkF m n L (v.toList ++ rest))) : OE p e below FF T (mkF m pc L st) := by
  subst hn has
  obtain ⟨cq, kq, qa, qb, qc⟩ := isOf hZ eT E
  obtain ⟨v, _, ⟨T', L', k', n'⟩, -, X', ⟨Lc, hQ, l', y', z'⟩, f'⟩ := X.virtualBack hx (y := y) (z := z) hown (mvT hZ w1) (mvT hZ w2) w5 (mvT hZ w6) (mvT hZ w7) hy (backOf (W := W) K hZ w4 w3 hf hl) qa qc (g := mkF m pc L st) rfl (by rw [hml]; exact hsz) (Steps.refl _) (argsL := argsL) (rest := rest) (lenOf pd hlen) hst (by show 2 * 0 + _ ≤ _; rw [Nat.mul_zero, Nat.zero_add]; exact hW) (hb hby hd) (fun _ _ => ⟨rfl, eT, hc, hs⟩)
  dsimp only [Pt.U, Pt.locs, Pt.cells, Pt.slots] at X' l' y' z' f' hQ
  subst l' y' z'
  exact (k T' Lc v X' hQ).pre fun t r => f'.trans r
/-- arrays -/
theorem s_newP (X : Stand p l e R s m args below meth c T locs cells slots) (hx : p.tables.exec = Jvm.exec) (hby : c.code = bytes) (hZ : Z.Warmed39 s.vm) {aty : ArrayType} (w : (Jvm.Cond.arrayClass (newarray.typeOf aty)).before a0 Z = true) {ty : FieldType} (hty : newarray.typeOf aty = ty) (eT : T.heap = h) {num : Int32} (hnn : ¬ num < 0) (cap : Nat) (hcap : num.toNatClampNeg ≤ cap) (hb8 : cap * 8 ≤ 536870912) (hc : cells + 1 ≤ R.cells) (hl : slots + cap ≤ R.slots) (hd : decode bytes pc = .ok (.newarray aty, 2)) (hn : pc + 2 = n)
    (k : ∀ T' h' cA a, a = h.size → Stand p l e R s m args below meth c T' locs (cells + 1) (slots + cap) → T'.heap = h' → Ext h h' → Arr Z h' a (newA cA ty num) ty → OE p e below FF T' (mkF m n L (.ref a :: st))) : OE p e below FF T (mkF m pc L (.int num :: st)) := by
  subst hn hty
  obtain ⟨T', h', cA, X', e', E', A', f'⟩ := newP X hx hZ w eT (g := mkF m pc L (.int num :: st)) rfl (hb hby hd) rfl hnn hcap hb8 hc hl
  exact (k T' h' cA _ rfl X' e' E' A').pre f'
theorem s_arraylength (X : Stand p l e R s m args below meth c T locs cells slots) (hx : p.tables.exec = Jvm.exec) (hby : c.code = bytes) (hZ : Z.Warmed39 s.vm) (eT : T.heap = h) {a : Addr} {cl : Cell} {ty : FieldType} (A : Arr Z h a cl ty) {z : Int32} (hsz : cl.slots.size = z.toNatClampNeg) (hz : ¬ z < 0) (hd : decode bytes pc = .ok (.arraylength, 1)) (hn : pc + 1 = n)
    (k : OE p e below FF T (mkF m n L (.int z :: st))) : OE p e below FF T (mkF m pc L (.ref a :: st)) := by
  subst hn
  rw [← len_of hsz hz] at k
  exact k.pre fun t r => X.arraylength hx (by rw [eT]; exact A.1) (State.isArrayOf_alike hZ.alike A.2.1) (g := mkF m pc L (.ref a :: st)) rfl rfl (hb hby hd) _ r
theorem s_iaload (X : Stand p l e R s m args below meth c T locs cells slots) (hx : p.tables.exec = Jvm.exec) (hby : c.code = bytes) (hZ : Z.Warmed39 s.vm) (eT : T.heap = h) {a : Addr} {cl : Cell} (A : Arr Z h a cl .int) {j : Int32} (hj : ¬ (j < 0 ∨ cl.slots.size ≤ j.toNatClampNeg)) {v : Value} (hv : cl.slots[j.toNatClampNeg]? = some v) (hd : decode bytes pc = .ok (.iaload, 1)) (hn : pc + 1 = n)
    (k : OE p e below FF T (mkF m n L (v :: st))) : OE p e below FF T (mkF m pc L (.int j :: .ref a :: st)) := by
  subst hn
  exact k.pre fun t r => X.iaload hx (by rw [eT]; exact A.1) (State.isArrayOf_alike hZ.alike A.2.1) A.2.2 hj hv (g := mkF m pc L (.int j :: .ref a :: st)) rfl rfl (hb hby hd) _ r
theorem s_baload (X : Stand p l e R s m args below meth c T locs cells slots) (hx : p.tables.exec = Jvm.exec) (hby : c.code = bytes) (hZ : Z.Warmed39 s.vm) (eT : T.heap = h) {a : Addr} {cl : Cell} (A : Arr Z h a cl .byte) {j : Int32} (hj : ¬ (j < 0 ∨ cl.slots.size ≤ j.toNatClampNeg)) {v : Value} (hv : cl.slots[j.toNatClampNeg]? = some v) (hd : decode bytes pc = .ok (.baload, 1)) (hn : pc + 1 = n)
    (k : OE p e below FF T (mkF m n L (v :: st))) : OE p e below FF T (mkF m pc L (.int j :: .ref a :: st)) := by
  subst hn
  exact k.pre fun t r => X.baloadBytes hx (by rw [eT]; exact A.1) (State.isArrayOf_alike hZ.alike A.2.1) A.2.2 hj hv (g := mkF m pc L (.int j :: .ref a :: st)) rfl rfl (hb hby hd) _ r
theorem s_caload (X : Stand p l e R s m args below meth c T locs cells slots) (hx : p.tables.exec = Jvm.exec) (hby : c.code = bytes) (hZ : Z.Warmed39 s.vm) (eT : T.heap = h) {a : Addr} {cl : Cell} (A : Arr Z h a cl .char) {j : Int32} (hj : ¬ (j < 0 ∨ cl.slots.size ≤ j.toNatClampNeg)) {v : Value} (hv : cl.slots[j.toNatClampNeg]? = some v) (hd : decode bytes pc = .ok (.caload, 1)) (hn : pc + 1 = n)
    (k : OE p e below FF T (mkF m n L (v :: st))) : OE p e below FF T (mkF m pc L (.int j :: .ref a :: st)) := by
  subst hn
  exact k.pre fun t r => X.caload hx (by rw [eT]; exact A.1) (State.isArrayOf_alike hZ.alike A.2.1) A.2.2 hj hv (g := mkF m pc L (.int j :: .ref a :: st)) rfl rfl (hb hby hd) _ r
theorem s_iastore (X : Stand p l e R s m args below meth c T locs cells slots) (hx : p.tables.exec = Jvm.exec) (hby : c.code = bytes) (hZ : Z.Warmed39 s.vm) (eT : T.heap = h) {a : Addr} {cl : Cell} (A : Arr Z h a cl .int) {j x : Int32} (hj : ¬ (j < 0 ∨ cl.slots.size ≤ j.toNatClampNeg)) (hd : decode bytes pc = .ok (.iastore, 1)) (hn : pc + 1 = n)
    (k : ∀ T' h', Stand p l e R s m args below meth c T' (locs ++ [⟨a, j.toNatClampNeg⟩]) cells slots → T'.heap = h' → Wr h h' a j.toNatClampNeg (.int x) → OE p e below FF T' (mkF m n L st)) : OE p e below FF T (mkF m pc L (.int x :: .int j :: .ref a :: st)) := by
  subst hn
  obtain ⟨T', h', X', e', W', f'⟩ := stI X hx hZ eT A hj (g := mkF m pc L (.int x :: .int j :: .ref a :: st)) rfl rfl (hb hby hd)
  exact (k T' h' X' e' W').pre f'
theorem s_bastore (X : Stand p l e R s m args below meth c T locs cells slots) (hx : p.tables.exec = Jvm.exec) (hby : c.code = bytes) (hZ : Z.Warmed39 s.vm) (eT : T.heap = h) {a : Addr} {cl : Cell} (A : Arr Z h a cl .byte) {j x : Int32} (hj : ¬ (j < 0 ∨ cl.slots.size ≤ j.toNatClampNeg)) (hd : decode bytes pc = .ok (.bastore, 1)) (hn : pc + 1 = n)
    (k : ∀ T' h', Stand p l e R s m args below meth c T' (locs ++ [⟨a, j.toNatClampNeg⟩]) cells slots → T'.heap = h' → Wr h h' a j.toNatClampNeg (.int (nar .byte x)) → OE p e below FF T' (mkF m n L st)) : OE p e below FF T (mkF m pc L (.int x :: .int j :: .ref a :: st)) := by
  subst hn
  obtain ⟨T', h', X', e', W', f'⟩ := stB X hx hZ eT A hj (g := mkF m pc L (.int x :: .int j :: .ref a :: st)) rfl rfl (hb hby hd)
  exact (k T' h' X' e' W').pre f'
theorem s_castore (X : Stand p l e R s m args below meth c T locs cells slots) (hx : p.tables.exec = Jvm.exec) (hby : c.code = bytes) (hZ : Z.Warmed39 s.vm) (eT : T.heap = h) {a : Addr} {cl : Cell} (A : Arr Z h a cl .char) {j x : Int32} (hj : ¬ (j < 0 ∨ cl.slots.size ≤ j.toNatClampNeg)) (hd : decode bytes pc = .ok (.castore, 1)) (hn : pc + 1 = n)
    (k : ∀ T' h', Stand p l e R s m args below meth c T' (locs ++ [⟨a, j.toNatClampNeg⟩]) cells slots → T'.heap = h' → Wr h h' a j.toNatClampNeg (.int (nar .char x)) → OE p e below FF T' (mkF m n L st)) : OE p e below FF T (mkF m pc L (.int x :: .int j :: .ref a :: st)) := by
  subst hn
  obtain ⟨T', h', X', e', W', f'⟩ := stC X hx hZ eT A hj (g := mkF m pc L (.int x :: .int j :: .ref a :: st)) rfl rfl (hb hby hd)
  exact (k T' h' X' e' W').pre f'
theorem s_bastoreC (X : Stand p l e R s m args below meth c T locs cells slots) (hx : p.tables.exec = Jvm.exec) (hby : c.code = bytes) (hZ : Z.Warmed39 s.vm) (eT : T.heap = h) {a : Addr} {cl : Cell} (A : Arr Z h a cl .byte) {j x : Int32} (i : Nat) (hj : ¬ j < 0) (hi : j.toNatClampNeg = i) (hs : i < cl.slots.size) (hd : decode bytes pc = .ok (.bastore, 1)) (hn : pc + 1 = n)
    (k : ∀ T' h', Stand p l e R s m args below meth c T' (locs ++ [⟨a, i⟩]) cells slots → T'.heap = h' → Wr h h' a i (.int (nar .byte x)) → OE p e below FF T' (mkF m n L st)) : OE p e below FF T (mkF m pc L (.int x :: .int j :: .ref a :: st)) := by
  subst hi
  exact s_bastore X hx hby hZ eT A (fun q => q.elim hj (Nat.not_le.mpr hs)) hd hn k
theorem s_iastoreC (X : Stand p l e R s m args below meth c T locs cells slots) (hx : p.tables.exec = Jvm.exec) (hby : c.code = bytes) (hZ : Z.Warmed39 s.vm) (eT : T.heap = h) {a : Addr} {cl : Cell} (A : Arr Z h a cl .int) {j x : Int32} (i : Nat) (hj : ¬ j < 0) (hi : j.toNatClampNeg = i) (hs : i < cl.slots.size) (hd : decode bytes pc = .ok (.iastore, 1)) (hn : pc + 1 = n)
    (k : ∀ T' h', Stand p l e R s m args below meth c T' (locs ++ [⟨a, i⟩]) cells slots → T'.heap = h' → Wr h h' a i (.int x) → OE p e below FF T' (mkF m n L st)) : OE p e below FF T (mkF m pc L (.int x :: .int j :: .ref a :: st)) := by
  subst hi
  exact s_iastore X hx hby hZ eT A (fun q => q.elim hj (Nat.not_le.mpr hs)) hd hn k
theorem s_castoreC (X : Stand p l e R s m args below meth c T locs cells slots) (hx : p.tables.exec = Jvm.exec) (hby : c.code = bytes) (hZ : Z.Warmed39 s.vm) (eT : T.heap = h) {a : Addr} {cl : Cell} (A : Arr Z h a cl .char) {j x : Int32} (i : Nat) (hj : ¬ j < 0) (hi : j.toNatClampNeg = i) (hs : i < cl.slots.size) (hd : decode bytes pc = .ok (.castore, 1)) (hn : pc + 1 = n)
    (k : ∀ T' h', Stand p l e R s m args below meth c T' (locs ++ [⟨a, i⟩]) cells slots → T'.heap = h' → Wr h h' a i (.int (nar .char x)) → OE p e below FF T' (mkF m n L st)) : OE p e below FF T (mkF m pc L (.int x :: .int j :: .ref a :: st)) := by
  subst hi
  exact s_castore X hx hby hZ eT A (fun q => q.elim hj (Nat.not_le.mpr hs)) hd hn k
theorem s_baloadC (X : Stand p l e R s m args below meth c T locs cells slots) (hx : p.tables.exec = Jvm.exec) (hby : c.code = bytes) (hZ : Z.Warmed39 s.vm) (eT : T.heap = h) {a : Addr} {cl : Cell} (A : Arr Z h a cl .byte) {j : Int32} (i : Nat) (hj : ¬ j < 0) (hi : j.toNatClampNeg = i) (hs : i < cl.slots.size) {v : Value} (hv : cl.slots[i]? = some v) (hd : decode bytes pc = .ok (.baload, 1)) (hn : pc + 1 = n)
    (k : OE p e below FF T (mkF m n L (v :: st))) : OE p e below FF T (mkF m pc L (.int j :: .ref a :: st)) := by
  subst hi
  exact s_baload X hx hby hZ eT A (fun q => q.elim hj (Nat.not_le.mpr hs)) hv hd hn k
theorem s_caloadC (X : Stand p l e R s m args below meth c T locs cells slots) (hx : p.tables.exec = Jvm.exec) (hby : c.code = bytes) (hZ : Z.Warmed39 s.vm) (eT : T.heap = h) {a : Addr} {cl : Cell} (A : Arr Z h a cl .char) {j : Int32} (i : Nat) (hj : ¬ j < 0) (hi : j.toNatClampNeg = i) (hs : i < cl.slots.size) {v : Value} (hv : cl.slots[i]? = some v) (hd : decode bytes pc = .ok (.caload, 1)) (hn : pc + 1 = n)
    (k : OE p e below FF T (mkF m n L (v :: st))) : OE p e below FF T (mkF m pc L (.int j :: .ref a :: st)) := by
  subst hi
  exact s_caload X hx hby hZ eT A (fun q => q.elim hj (Nat.not_le.mpr hs)) hv hd hn k
theorem s_ialoadC (X : Stand p l e R s m args below meth c T locs cells slots) (hx : p.tables.exec = Jvm.exec) (hby : c.code = bytes) (hZ : Z.Warmed39 s.vm) (eT : T.heap = h) {a : Addr} {cl : Cell} (A : Arr Z h a cl .int) {j : Int32} (i : Nat) (hj : ¬ j < 0) (hi : j.toNatClampNeg = i) (hs : i < cl.slots.size) {v : Value} (hv : cl.slots[i]? = some v) (hd : decode bytes pc = .ok (.iaload, 1)) (hn : pc + 1 = n)
    (k : OE p e below FF T (mkF m n L (v :: st))) : OE p e below FF T (mkF m pc L (.int j :: .ref a :: st)) := by
  subst hi
  exact s_iaload X hx hby hZ eT A (fun q => q.elim hj (Nat.not_le.mpr hs)) hv hd hn k
theorem set_hit {cl : Cell} {i : Nat} {v : Value} (hs : i < cl.slots.size) : (cl.setSlot i v).slots[i]? = some v := by simp [Cell.setSlot, hs]
theorem set_mis {cl : Cell} {i j : Nat} {v : Value} {w : Option Value} (hv : cl.slots[j]? = w) (q : i ≠ j) : (cl.setSlot i v).slots[j]? = w := by
  rw [← hv]; exact Array.getElem?_setIfInBounds_ne q
theorem new_at (cA : ClassId) (ty : FieldType) {z : Int32} {i : Nat} (q : i < z.toNatClampNeg) : (newA cA ty z).slots[i]? = some (defaultValue ty) := by simp [newA, q]
/-- instanceof, checkcast, aaload -/
theorem s_instY (X : Stand p l e R s m args below meth c T locs cells slots) (hx : p.tables.exec = Jvm.exec) (hby : c.code = bytes) (hZ : Z.Warmed39 s.vm) {own K : String} {index : Nat} (hown : s.vm.findClass own = some m.cls) (w : (Jvm.Cond.classLink own index K).before a0 Z = true) (eT : T.heap = h) {a : Addr} (F : Ins Z h a K true) (hd : decode bytes pc = .ok (.instanceof index, 3)) (hn : pc + 3 = n)
    (k : ∀ T', Stand p l e R s m args below meth c T' locs cells slots → T'.heap = h → OE p e below FF T' (mkF m n L (.int 1 :: st))) : OE p e below FF T (mkF m pc L (.ref a :: st)) := by
  subst hn
  obtain ⟨T', X', e', f'⟩ := instY X hx hZ hown w eT F (g := mkF m pc L (.ref a :: st)) rfl rfl (hb hby hd)
  exact (k T' X' e').pre f'
theorem s_instNo (X : Stand p l e R s m args below meth c T locs cells slots) (hx : p.tables.exec = Jvm.exec) (hby : c.code = bytes) (hZ : Z.Warmed39 s.vm) {own K C0 : String} {index : Nat} (hown : s.vm.findClass own = some m.cls) (w : (Jvm.Cond.classLink own index K).before a0 Z = true) (eT : T.heap = h) {a : Addr} (E : Exa Z h a C0) (F : ∃ c t, Z.vm.findClass C0 = some c ∧ Z.vm.findClass K = some t ∧ Z.vm.assignable c t = false) (hd : decode bytes pc = .ok (.instanceof index, 3)) (hn : pc + 3 = n)
    (k : ∀ T', Stand p l e R s m args below meth c T' locs cells slots → T'.heap = h → OE p e below FF T' (mkF m n L (.int 0 :: st))) : OE p e below FF T (mkF m pc L (.ref a :: st)) := by
  subst hn
  obtain ⟨T', X', e', f'⟩ := instNo X hx hZ hown w eT E F (g := mkF m pc L (.ref a :: st)) rfl rfl (hb hby hd)
  exact (k T' X' e').pre f'
theorem s_instNull (X : Stand p l e R s m args below meth c T locs cells slots) (hx : p.tables.exec = Jvm.exec) (hby : c.code = bytes) {index : Nat} (hd : decode bytes pc = .ok (.instanceof index, 3)) (hn : pc + 3 = n)
    (k : OE p e below FF T (mkF m n L (.int 0 :: st))) : OE p e below FF T (mkF m pc L (.null :: st)) := by
  subst hn
  exact k.pre fun t r => Stand.instanceofNull X hx (g := mkF m pc L (.null :: st)) rfl rfl (hb hby hd) t r
theorem s_castY (X : Stand p l e R s m args below meth c T locs cells slots) (hx : p.tables.exec = Jvm.exec) (hby : c.code = bytes) (hZ : Z.Warmed39 s.vm) {own K : String} {index : Nat} (hown : s.vm.findClass own = some m.cls) (w : (Jvm.Cond.classLink own index K).before a0 Z = true) (eT : T.heap = h) {a : Addr} (F : Ins Z h a K true) (hd : decode bytes pc = .ok (.checkcast index, 3)) (hn : pc + 3 = n)
    (k : ∀ T', Stand p l e R s m args below meth c T' locs cells slots → T'.heap = h → OE p e below FF T' (mkF m n L (.ref a :: st))) : OE p e below FF T (mkF m pc L (.ref a :: st)) := by
  subst hn
  obtain ⟨T', X', e', f'⟩ := castY X hx hZ hown w eT F (g := mkF m pc L (.ref a :: st)) rfl rfl (hb hby hd)
  exact (k T' X' e').pre f'
theorem s_aaload (X : Stand p l e R s m args below meth c T locs cells slots) (hx : p.tables.exec = Jvm.exec) (hby : c.code = bytes) (hZ : Z.Warmed39 s.vm) (eT : T.heap = h) {a : Addr} {cl : Cell} {ty : FieldType} (A : Arr Z h a cl ty) (hty : ty.isReference = true) {j : Int32} (hj : ¬ (j < 0 ∨ cl.slots.size ≤ j.toNatClampNeg)) {v : Value} (hv : cl.slots[j.toNatClampNeg]? = some v) (hd : decode bytes pc = .ok (.aaload, 1)) (hn : pc + 1 = n)
    (k : OE p e below FF T (mkF m n L (v :: st))) : OE p e below FF T (mkF m pc L (.int j :: .ref a :: st)) := by
  subst hn
  exact k.pre fun t r => X.aaload hx (by rw [eT]; exact A.1) (State.isArrayOf_alike hZ.alike A.2.1) hty A.2.2 hj hv (g := mkF m pc L (.int j :: .ref a :: st)) rfl rfl (hb hby hd) _ r
theorem ns_root {O K : String} {num : Nat} (w : (Jvm.Cond.noSuperclass O).before a0 Z = true) (wi : (Jvm.Cond.instantiable K num).before a0 Z = true) (hn : O ≠ K) : NS Z O K := by
  obtain ⟨c, k, h1, h2, h3, -, -⟩ := Cond.noSuperclass_spec w
  obtain ⟨t, kt, g1, -⟩ := Cond.instantiable_spec wi
  have ne := ids_ne h1 g1 hn
  refine ⟨c, t, h1, g1, fun fuel => ?_⟩
  match fuel with
  | 0 => rfl
  | f + 1 => simp [Vm.isSubclassAux, ne, h2, h3]
theorem ns_no {C0 S0 K : String} {num : Nat} (w : (Jvm.Cond.superclass C0 S0).before a0 Z = true) (wi : (Jvm.Cond.instantiable K num).before a0 Z = true) (nn : NS Z C0 K) (hn : C0 ≠ K) : ∃ c t, Z.vm.findClass C0 = some c ∧ Z.vm.findClass K = some t ∧ Z.vm.assignable c t = false := by
  obtain ⟨c, t, q0, g0, n3⟩ := nn
  obtain ⟨p, k, kp, h1, h2, h3, h4, h5, -, h7⟩ := Cond.superclass_spec q0 w
  obtain ⟨t', kt, g1, g2, g3, g4, -⟩ := Cond.instantiable_spec wi
  cases g0.symm.trans g1
  have ne := ids_ne q0 g0 hn
  have g7 : kt.isInterface = false := by simp only [Bool.or_eq_false_iff] at g4; exact g4.1
  refine ⟨c, t, q0, g0, ?_⟩
  show Z.vm.assignableAux (255 + 1) c t = false
  simp [Vm.assignableAux, ne, h2, g2, h5, g3, g7, Vm.isSubclass, n3]
end Walk
/-- a boolean as an int -/
def b2i (b : Bool) : Int32 := if b = true then 1 else 0
theorem b2i_t : b2i true = 1 := rfl
theorem b2i_f : b2i false = 0 := rfl
theorem nar_b2i (b : Bool) : nar .boolean (b2i b) = b2i b := by cases b <;> decide
theorem ifb_eq_t {b : Bool} (q : b = false) : ifCond.holds .eq (b2i b) = true := by subst q; decide
theorem ifb_eq_f {b : Bool} (q : b = true) : ifCond.holds .eq (b2i b) = false := by subst q; decide
theorem ifb_ne_t {b : Bool} (q : b = true) : ifCond.holds .ne (b2i b) = true := by subst q; decide
theorem ifb_ne_f {b : Bool} (q : b = false) : ifCond.holds .ne (b2i b) = false := by subst q; decide
theorem icb_eq_t {a b : Bool} (q : a = b) : if_icmp.holds .eq (b2i a) (b2i b) = true := by subst q; cases a <;> decide
theorem icb_eq_f {a b : Bool} (q : ¬ a = b) : if_icmp.holds .eq (b2i a) (b2i b) = false := by cases a <;> cases b <;> first | exact absurd rfl q | decide
theorem icb_ne_t {a b : Bool} (q : ¬ a = b) : if_icmp.holds .ne (b2i a) (b2i b) = true := by cases a <;> cases b <;> first | exact absurd rfl q | decide
theorem icb_ne_f {a b : Bool} (q : a = b) : if_icmp.holds .ne (b2i a) (b2i b) = false := by subst q; cases a <;> decide
end Jvm.Own
namespace Jvm.Own
open Sem ClassFile Op Lib Jvm.Stand Jvm.Free Jvm.LawKit Jvm.RoadKit
section Walk3
variable {p : Program} {l : Launch} {e : Env} {R : Room} {s : State} {m : MethodId} {args : Array Value} {below : List Frame} {meth : Method} {c : Code} {T : State} {locs : List Loc} {cells slots : Nat} {FF : State → Option Value → List Loc → Prop} {bytes : ByteArray} {pc n : Nat} {L : Array Slot} {st : List Value} {Z : State} {a0 : Array Value} {h : Heap}
/-- 'invokevirtual' of a private method -/
theorem s_callP (X : Stand p l e R s m args below meth c T locs cells slots) (hx : p.tables.exec = Jvm.exec) (hby : c.code = bytes) {ml : Nat} (hml : c.maxLocals = ml) (hZ : Z.Warmed39 s.vm) {own K0 K1 : String} {index : Nat} {y : MethodName} {yb : ByteArray} {maxL : Nat} {ret : Option FieldType} (hown : s.vm.findClass own = some m.cls) (w1 : (Jvm.Cond.methodLink own index y).before a0 Z = true) (w2 : (Jvm.Cond.privateMethod y).before a0 Z = true) (w6 : (Jvm.Cond.selects K0 y y).before a0 Z = true) (w7 : (Jvm.Cond.instanceMethod y).before a0 Z = true) (w3 : (Jvm.Cond.initialized y.cls).before a0 Z = true) (w4 : (Jvm.Cond.code y yb maxL ret).before a0 Z = true) (hy : y.cls ≠ "java/lang/invoke/MethodHandle" ∧ y.cls ≠ "java/lang/invoke/VarHandle")
    {rm : Room} {as' : Array Value} {Q' : Option Value → Heap → List Loc → Prop} (K : OCon l Z y yb maxL ret [] rm as' h Q') (eT : T.heap = h) (hf : rm.frames + 1 ≤ R.frames) (W : Nat) (hl : W + (maxL + 11) + rm.locals ≤ R.locals) (hc : cells + rm.cells ≤ R.cells) (hs : slots + rm.slots ≤ R.slots) {ps : List FieldType} {rt : Option FieldType} (pd : parseMethodDescriptor y.desc = some ⟨ps, rt⟩) {a : Addr} (E : Exa Z h a K1) (argsL rest : List Value) (hlen : argsL.length = ps.length) (has : (Value.ref a :: argsL).toArray = as') (hst : st = argsL.reverse ++ .ref a :: rest) (hW : (rest.map fun v => v.category).sum ≤ W) (hsz : L.size = ml) (hd : decode bytes pc = .ok (.invokevirtual index, 3)) (hn : pc + 3 = n)
    (k : ∀ T' L' v, Stand p l e R s m args below meth c T' (locs ++ L') (cells + rm.cells) (slots + rm.slots) → Q' v T'.heap L' → OE p e below FF T' (mkF m n L (v.toList ++ rest))) : OE p e below FF T (mkF m pc L st) := by
  subst hn has
  obtain ⟨cell, kc, c1, c2, c3, c4, c5⟩ := E
  have hpr : s.PrivateAt y := Cond.privateMethod_at (args := args) (mvT hZ w2)
  obtain ⟨cc, r2, m2, q1, q2, q3, q4, kP, hkP, hkPi⟩ := Cond.selects_spec (mvT (args := args) hZ w6)
  have hsel : (Jvm.Cond.selects y.cls y y).before args s = true := selects_self_of_private (findClass_of_methodNamed q3) hkP hkPi hpr (mvT hZ w7) hy
  obtain ⟨v, _, ⟨T', L', k', n'⟩, -, X', ⟨Lc, hQ, l', y', z'⟩, f'⟩ := X.privateBack hx (y := y) hown (mvT hZ w1) (mvT hZ w7) hsel hpr (mvT hZ w4) hy (backOf (W := W) K hZ w4 w3 hf hl) (g := mkF m pc L st) rfl (by rw [hml]; exact hsz) (Steps.refl _) (a := a) (cell := cell) (by rw [eT]; exact c1) (fun q ee => by rw [ee] at c4; cases c4) (argsL := argsL) (rest := rest) (lenOf pd hlen) hst (by show 2 * 0 + _ ≤ _; rw [Nat.mul_zero, Nat.zero_add]; exact hW) (hb hby hd) (fun _ _ => ⟨rfl, eT, hc, hs⟩)
  dsimp only [Pt.U, Pt.locs, Pt.cells, Pt.slots] at X' l' y' z' f' hQ
  subst l' y' z'
  exact (k T' Lc v X' hQ).pre fun t r => f'.trans r
/-- 'invokespecial' of a superclass's method; the class that declares it is no interface by the word wf -/
theorem s_callU (X : Stand p l e R s m args below meth c T locs cells slots) (hx : p.tables.exec = Jvm.exec) (hby : c.code = bytes) {ml : Nat} (hml : c.maxLocals = ml) (hZ : Z.Warmed39 s.vm) {own K0 K1 : String} {index : Nat} {y y2 : MethodName} {yb : ByteArray} {maxL : Nat} {ret : Option FieldType} (hown : s.vm.findClass own = some m.cls) (w1 : (Jvm.Cond.methodLink own index y).before a0 Z = true) (wf : (Jvm.Cond.selects K0 y2 y2).before a0 Z = true) (hy2 : y2.cls = y.cls) (w5 : (Jvm.Cond.superclass own y.cls).before a0 Z = true) (hn1 : y.name ≠ "<init>") (w7 : (Jvm.Cond.instanceMethod y).before a0 Z = true) (w3 : (Jvm.Cond.initialized y.cls).before a0 Z = true) (w4 : (Jvm.Cond.code y yb maxL ret).before a0 Z = true) (hy : y.cls ≠ "java/lang/invoke/MethodHandle" ∧ y.cls ≠ "java/lang/invoke/VarHandle")
    {rm : Room} {as' : Array Value} {Q' : Option Value → Heap → List Loc → Prop} (K : OCon l Z y yb maxL ret [] rm as' h Q') (eT : T.heap = h) (hf : rm.frames + 1 ≤ R.frames) (W : Nat) (hl : W + (maxL + 11) + rm.locals ≤ R.locals) (hc : cells + rm.cells ≤ R.cells) (hs : slots + rm.slots ≤ R.slots) {ps : List FieldType} {rt : Option FieldType} (pd : parseMethodDescriptor y.desc = some ⟨ps, rt⟩) {a : Addr} (E : Exa Z h a K1) (argsL rest : List Value) (hlen : argsL.length = ps.length) (has : (Value.ref a :: argsL).toArray = as') (hst : st = argsL.reverse ++ .ref a :: rest) (hW : (rest.map fun v => v.category).sum ≤ W) (hsz : L.size = ml) (hd : decode bytes pc = .ok (.invokespecial index, 3)) (hn : pc + 3 = n)
    (k : ∀ T' L' v, Stand p l e R s m args below meth c T' (locs ++ L') (cells + rm.cells) (slots + rm.slots) → Q' v T'.heap L' → OE p e below FF T' (mkF m n L (v.toList ++ rest))) : OE p e below FF T (mkF m pc L st) := by
  subst hn has
  have w2 : (Jvm.Cond.sameMethod y.cls y.cls y.name y.desc).before a0 Z = true := by
    obtain ⟨mk, methM, hnamed, hmethM, -, -⟩ := Cond.instanceMethod_spec w7
    obtain ⟨cc, r2, m2, q1, q2, q3, q4, kP, hkP, hkPi⟩ := Cond.selects_spec wf
    have e1 := findClass_of_methodNamed hnamed
    have e2 := findClass_of_methodNamed q3
    rw [hy2] at e2
    have e3 : mk.cls = m2.cls := Option.some.inj (e1.symm.trans e2)
    have hf := State.methodFound?_of_named hnamed hy
    have hnamed' : Z.methodNamed? ⟨y.cls, y.name, y.desc⟩ = some mk := hnamed
    simp only [Cond.before, Cond.holds, Cond.value, e1, hf, hnamed', e3, hkP]
    simp [hkPi]
  obtain ⟨v, _, ⟨T', L', k', n'⟩, -, X', ⟨Lc, hQ, l', y', z'⟩, f'⟩ := superBack X hx hZ hown w1 w2 w7 w5 hn1 (backOf (W := W) K hZ w4 w3 hf hl) eT (Ins.self E) (g := mkF m pc L st) rfl (by rw [hml]; exact hsz) w4 (argsL := argsL) (rest := rest) (lenOf pd hlen) hst (by show 2 * 0 + _ ≤ _; rw [Nat.mul_zero, Nat.zero_add]; exact hW) (hb hby hd) (fun _ _ => ⟨rfl, eT, hc, hs⟩)
  dsimp only [Pt.U, Pt.locs, Pt.cells, Pt.slots] at X' l' y' z' f' hQ
  subst l' y' z'
  exact (k T' Lc v X' hQ).pre fun t r => f'.trans r
/-- System.arraycopy between byte arrays -/
theorem s_copyB (X : Stand p l e R s m args below meth c T locs cells slots) (hx : p.tables.exec = Jvm.exec) (hby : c.code = bytes) {ml : Nat} (hml : c.maxLocals = ml) (hZ : Z.Warmed39 s.vm) {own : String} {index : Nat} (hown : s.vm.findClass own = some m.cls)
    (w1 : (Jvm.Cond.methodLink own index Jvm.Stand.acN).before a0 Z = true) (w2 : (Jvm.Cond.native Jvm.Stand.acN).before a0 Z = true) (w3 : (Jvm.Cond.static Jvm.Stand.acN).before a0 Z = true) (w4 : (Jvm.Cond.initialized "java/lang/System").before a0 Z = true) (eT : T.heap = h)
    {a b : Addr} {k k' : ClassId} {z z' sp dp nn : Int32} {vs vd us : List Value} {dv dd : Value} (A : Arv Z h a k .byte z vs dv) (B : Arv Z h b k' .byte z' vd dd)
    (h1 : ¬ sp < 0) (h2 : ¬ dp < 0) (h3 : ¬ nn < 0) (h4 : sp.toNatClampNeg + nn.toNatClampNeg ≤ z.toNatClampNeg) (h5 : dp.toNatClampNeg + nn.toNatClampNeg ≤ z'.toNatClampNeg)
    (hus : us = (List.range nn.toNatClampNeg).map fun i => vs.getD (sp.toNatClampNeg + i) dv) (hl : dp.toNatClampNeg + nn.toNatClampNeg ≤ vd.length) {n0 : Nat} (N : Fr n0 locs) (ge : n0 ≤ b)
    (hf : 1 ≤ R.frames) (W : Nat) (hW : (st.map fun v => v.category).sum ≤ W) (hlo : W + (nativeFrameWords "java/lang/System" "arraycopy" 5 + 11) ≤ R.locals) (hsz : L.size = ml) (hd : decode bytes pc = .ok (.invokestatic index, 3)) (hn : pc + 3 = n)
    (kk : ∀ T' h' L', Stand p l e R s m args below meth c T' L' cells slots → T'.heap = h' → Fr n0 L' → Keep h h' [b] → Arv Z h' b k' .byte z' (vd.take dp.toNatClampNeg ++ us ++ vd.drop (dp.toNatClampNeg + nn.toNatClampNeg)) dd → OE p e below FF T' (mkF m n L st)) : OE p e below FF T (mkF m pc L (.int nn :: .int dp :: .ref b :: .int sp :: .ref a :: st)) := by
  subst hn
  obtain ⟨T', h', L', X', e', N', K', A', f'⟩ := cpA X hx hZ hown w1 w2 w3 w4 eT A B (Or.inl ⟨rfl, rfl⟩) h1 h2 h3 h4 h5 hus hl N ge (g := mkF m pc L (.int nn :: .int dp :: .ref b :: .int sp :: .ref a :: st)) rfl (by rw [hml]; exact hsz) rfl (hb hby hd) hf (W := W) (by show 2 * 0 + _ ≤ _; rw [Nat.mul_zero, Nat.zero_add]; exact hW) hlo
  exact (kk T' h' L' X' e' N' K' A').pre f'
end Walk3
/-- numbers -/
theorem n32 {n : Nat} (q : n < 2147483648) : (Int32.ofNat n).toInt = n := Int32.toInt_ofNat_of_lt (by show n < 2 ^ 31; omega)
theorem c32 {n : Nat} (q : n < 2147483648) : (Int32.ofNat n).toNatClampNeg = n := by
  rw [show (Int32.ofNat n).toNatClampNeg = (Int32.ofNat n).toInt.toNat from rfl, n32 q]; simp
theorem p32 {n : Nat} (q : n < 2147483648) : ¬ (Int32.ofNat n) < 0 := by
  rw [Int32.lt_iff_toInt_lt, n32 q, show (0 : Int32).toInt = 0 from by decide]; omega
theorem lt32 {a b : Nat} (p : a < 2147483648) (q : b < 2147483648) : (Int32.ofNat a < Int32.ofNat b) ↔ a < b := by
  rw [Int32.lt_iff_toInt_lt, n32 p, n32 q]; omega
theorem eq32 {a b : Nat} (p : a < 2147483648) (q : b < 2147483648) : (Int32.ofNat a = Int32.ofNat b) ↔ a = b := by
  rw [← Int32.toInt_inj, n32 p, n32 q]; omega
theorem add32 (a b : Nat) : Int32.ofNat a + Int32.ofNat b = Int32.ofNat (a + b) := (Int32.ofNat_add a b).symm
theorem sub32 {a b : Nat} (q : b ≤ a) : Int32.ofNat a - Int32.ofNat b = Int32.ofNat (a - b) := by
  have := add32 (a - b) b
  rw [Nat.sub_add_cancel q] at this
  rw [← this, Int32.add_sub_cancel]
theorem shr0 (x : Int32) : x >>> ((0 : Int32) &&& 31) = x := by
  rw [show ((0 : Int32) &&& 31) = 0 from by decide]; simp
theorem shl0 (x : Int32) : x <<< ((0 : Int32) &&& 31) = x := by
  rw [show ((0 : Int32) &&& 31) = 0 from by decide]; simp
theorem range_all (vs rest : List Value) (d : Value) (z : Nat) (hz : z = 0) : (List.range vs.length).map (fun i => (vs ++ rest).getD (z + i) d) = vs := by
  subst hz
  refine List.ext_getElem (by simp) fun i h1 h2 => ?_
  simp [List.getElem?_append_left h2, List.getElem?_eq_getElem h2]
/-- a char's byte -/
def bt (x : Int32) : Int32 := nar .byte (x.toInt8.toInt32)
theorem gd_l (a b : List Int32) (c : Int32) (i : Nat) (q : i < a.length) : (a ++ c :: b).getD i 0 = a.getD i 0 := by
  simp only [List.getD_eq_getElem?_getD, List.getElem?_append_left q]
theorem gd_m (a b : List Int32) (c : Int32) (i : Nat) (q : i = a.length) : (a ++ c :: b).getD i 0 = c := by
  subst q; simp
theorem gd_r (a b : List Int32) (c : Int32) (i : Nat) (q : a.length < i) : (a ++ c :: b).getD i 0 = b.getD (i - a.length - 1) 0 := by
  simp only [List.getD_eq_getElem?_getD]
  rw [List.getElem?_append_right (Nat.le_of_lt q)]
  obtain ⟨j, hj⟩ : ∃ j, i - a.length = j + 1 := ⟨i - a.length - 1, by omega⟩
  rw [hj]; simp
theorem getDm (bs : List Int32) (i : Nat) : (bs.map Value.int).getD i (.int 0) = .int (bs.getD i 0) := by
  simp only [List.getD_eq_getElem?_getD, List.getElem?_map]
  cases bs[i]? <;> rfl
/-- the cells that stood when the law began stand as they stood; n0 is a mark above them -/
def Oln (Z : State) (n0 : Nat) (h : Heap) : Prop := (Z.heap.size ≤ n0 ∧ n0 ≤ h.size) ∧ Ext Z.heap h
section OlnFacts
variable {Z : State} {n0 n1 : Nat} {h h' : Heap} {ws : List Addr} {a : Addr} {sl : Nat} {v : Value} {L : List Loc}
theorem Oln.le (O : Oln Z n0 h) : n0 ≤ h.size := O.1.2
theorem Oln.ext (O : Oln Z n0 h) (E : Ext h h') : Oln Z n0 h' := ⟨⟨O.1.1, Nat.le_trans O.1.2 E.1⟩, Nat.le_trans O.2.1 E.1, fun x c q => E.2 x c (O.2.2 x c q)⟩
theorem Oln.keep (O : Oln Z n0 h) (K : Keep h h' ws) (q : ∀ x ∈ ws, n0 ≤ x) : Oln Z n0 h' := ⟨⟨O.1.1, Nat.le_trans O.1.2 K.1⟩, Nat.le_trans O.2.1 K.1, fun x c r => K.2.1 x c (O.2.2 x c r) fun z => absurd (Nat.lt_of_lt_of_le (Array.getElem?_eq_some_iff.mp r).1 O.1.1) (Nat.not_lt.mpr (q x z))⟩
theorem Oln.wr (O : Oln Z n0 h) (W : Wr h h' a sl v) (q : n0 ≤ a) : Oln Z n0 h' := O.keep (Keep.of_wr W) (allS q all0)
theorem Oln.top (O : Oln Z n0 h) : Oln Z h.size h := ⟨⟨Nat.le_trans O.1.1 O.1.2, Nat.le_refl _⟩, O.2⟩
theorem Oln.start (s : State) : Oln s s.heap.size s.heap := ⟨⟨Nat.le_refl _, Nat.le_refl _⟩, Nat.le_refl _, fun _ _ q => q⟩
theorem fr_mono (N : Fr n1 L) (q : n0 ≤ n1) : Fr n0 L := fun y hy => Nat.le_trans q (N y hy)
end OlnFacts
theorem notFace_cls {args : Array Value} {s : State} {C : String} {y y2 : MethodName} (q : y2.cls = y.cls) (hsel : (Jvm.Cond.selects C y2 y2).before args s = true) : NotFace s y := fun r0 h0 => by
  obtain ⟨c2, r2, m2, q1, q2, q3, q4, kP, hkP, hkPi⟩ := Cond.selects_spec hsel
  have e1 := findClass_of_methodNamed h0
  have e2 := findClass_of_methodNamed q3
  rw [q] at e2
  have e3 : r0.cls = m2.cls := Option.some.inj (e1.symm.trans e2)
  exact ⟨kP, by rw [e3]; exact hkP, hkPi⟩
/-- a byte array that holds the bytes bs -/
def Bys (Z : State) (h : Heap) (b : Addr) (bs : List Int32) : Prop := bs.length < 2147483648 ∧ ∃ k, Arv Z h b k .byte (Int32.ofNat bs.length) (bs.map Value.int) (.int 0)
/-- a Latin-1 String that holds the bytes bs -/
def Str (Z : State) (h : Heap) (r : Addr) (bs : List Int32) : Prop := Exa Z h r "java/lang/String" ∧ Fld Z h r "java/lang/String" "coder" "B" (.int (0 : Int32)) ∧ ∃ b, Fld Z h r "java/lang/String" "value" "[B" (.ref b) ∧ Bys Z h b bs
/-- a StringBuilder of capacity 16 that holds the bytes pre -/
def SBd (Z : State) (h : Heap) (o d : Addr) (pre : List Int32) : Prop := Exa Z h o "java/lang/StringBuilder" ∧ Fld Z h o "java/lang/AbstractStringBuilder" "value" "[B" (.ref d) ∧ Fld Z h o "java/lang/AbstractStringBuilder" "coder" "B" (.int (0 : Int32)) ∧ Fld Z h o "java/lang/AbstractStringBuilder" "count" "I" (.int (Int32.ofNat pre.length)) ∧ pre.length < 16 ∧ ∃ k, Arv Z h d k .byte 16 (pre.map Value.int ++ List.replicate (16 - pre.length) (.int 0)) (.int 0)
section StrFacts
variable {Z : State} {h h' : Heap} {a0 : Array Value} {b r o d : Addr} {bs cs pre : List Int32} {ws : List Addr} {v : Value} {sl : Nat}
theorem Bys.ext (F : Bys Z h b bs) (E : Ext h h') : Bys Z h' b bs := by
  obtain ⟨q, k, A⟩ := F
  exact ⟨q, k, A.ext E⟩
theorem Bys.keep (F : Bys Z h b bs) (K : Keep h h' ws) (q : b ∉ ws) : Bys Z h' b bs := by
  obtain ⟨q1, k, A⟩ := F
  exact ⟨q1, k, A.keep K q⟩
theorem Bys.other {a : Addr} (F : Bys Z h b bs) (W : Wr h h' a sl v) (q : b ≠ a) : Bys Z h' b bs := by
  obtain ⟨q1, k, A⟩ := F
  exact ⟨q1, k, A.other W q⟩
theorem Bys.lt (F : Bys Z h b bs) : b < h.size := by
  obtain ⟨_, k, A⟩ := F
  exact A.lt
theorem Str.ext (F : Str Z h r bs) (E : Ext h h') : Str Z h' r bs := by
  obtain ⟨h1, h2, b, h3, h4⟩ := F
  exact ⟨h1.ext E, h2.ext E, b, h3.ext E, h4.ext E⟩
theorem Str.keep (F : Str Z h r bs) (K : Keep h h' []) : Str Z h' r bs := by
  obtain ⟨h1, h2, b, h3, h4⟩ := F
  exact ⟨h1.keep K, h2.keep K nin0, b, h3.keep K nin0, h4.keep K nin0⟩
theorem Str.lt (F : Str Z h r bs) : r < h.size := F.1.lt
theorem SBd.ext (F : SBd Z h o d pre) (E : Ext h h') : SBd Z h' o d pre := by
  obtain ⟨h1, h2, h3, h4, h5, k, h6⟩ := F
  exact ⟨h1.ext E, h2.ext E, h3.ext E, h4.ext E, h5, k, h6.ext E⟩
theorem SBd.keep (F : SBd Z h o d pre) (K : Keep h h' []) : SBd Z h' o d pre := by
  obtain ⟨h1, h2, h3, h4, h5, k, h6⟩ := F
  exact ⟨h1.keep K, h2.keep K nin0, h3.keep K nin0, h4.keep K nin0, h5, k, h6.keep K nin0⟩
theorem arv_ne {a : Addr} {k k' : ClassId} {ty ty' : FieldType} {z z' : Int32} {vs vs' : List Value} {dv dv' : Value} (F : Arv Z h a k ty z vs dv) (G : Arv Z h b k' ty' z' vs' dv') (q : z.toNatClampNeg ≠ z'.toNatClampNeg) : a ≠ b := fun ee => by
  subst ee
  obtain ⟨c, A, -, S, -⟩ := F
  obtain ⟨c', A', -, S', -⟩ := G
  cases A.1.symm.trans A'.1
  exact q (S.symm.trans S')
theorem arv_exa {a : Addr} {C : String} {num : Nat} {k : ClassId} {ty : FieldType} {z : Int32} {vs : List Value} {dv : Value} (E : Exa Z h a C) (wi : (Jvm.Cond.instantiable C num).before a0 Z = true) (F : Arv Z h b k ty z vs dv) : a ≠ b := by
  obtain ⟨c, A, -⟩ := F
  exact ne_arr E wi A
/-- a short String is no part of a builder -/
theorem Str.aside (F : Str Z h r cs) (hc : cs.length < 16) (G : SBd Z h o d pre) (ws1 : (Jvm.Cond.instantiable "java/lang/String" 4).before a0 Z = true) (ws2 : (Jvm.Cond.instantiable "java/lang/StringBuilder" 4).before a0 Z = true) (K : Keep h h' [o, d]) : Str Z h' r cs := by
  obtain ⟨h1, h2, b, h3, h4, kb, h5⟩ := F
  obtain ⟨g1, g2, g3, g4, g5, k, g6⟩ := G
  have n1 : r ≠ o := ne_exa h1 g1 (by decide)
  have n2 : r ≠ d := arv_exa h1 ws1 g6
  have n3 : b ≠ o := (arv_exa g1 ws2 h5).symm
  have n4 : b ≠ d := arv_ne h5 g6 (by rw [c32 h4]; show cs.length ≠ 16; omega)
  exact ⟨h1.keep K, h2.keep K (ninS n1 (ninS n2 nin0)), b, h3.keep K (ninS n1 (ninS n2 nin0)), h4, kb, h5.keep K (ninS n3 (ninS n4 nin0))⟩
theorem SBd.other {a : Addr} (F : SBd Z h o d pre) (W : Wr h h' a sl v) (q1 : o ≠ a) (q2 : d ≠ a) : SBd Z h' o d pre := by
  obtain ⟨h1, h2, h3, h4, h5, k, h6⟩ := F
  exact ⟨h1.wr W, h2.other W (Or.inl q1), h3.other W (Or.inl q1), h4.other W (Or.inl q1), h5, k, h6.other W q2⟩
theorem sb_room : ∀ k : Fin 17, ¬ (0 : Int32) < Int32.ofNat k.1 - 16 := by decide
theorem sb_app (pre cs : List Int32) (q : pre.length + cs.length < 16) : (pre.map Value.int ++ List.replicate (16 - pre.length) (Value.int 0)).take pre.length ++ cs.map Value.int ++ (pre.map Value.int ++ List.replicate (16 - pre.length) (Value.int 0)).drop (pre.length + cs.length) = (pre ++ cs).map Value.int ++ List.replicate (16 - (pre ++ cs).length) (Value.int 0) := by
  have e1 : (pre.map Value.int ++ List.replicate (16 - pre.length) (Value.int 0)).take pre.length = pre.map Value.int := by
    rw [List.take_append_of_le_length (by rw [List.length_map]; exact Nat.le_refl _), List.take_of_length_le (by rw [List.length_map]; exact Nat.le_refl _)]
  have e2 : (pre.map Value.int ++ List.replicate (16 - pre.length) (Value.int 0)).drop (pre.length + cs.length) = List.replicate (16 - (pre ++ cs).length) (Value.int 0) := by
    rw [List.drop_append, List.drop_eq_nil_of_le (by rw [List.length_map]; omega)]
    simp only [List.length_map, List.nil_append, List.drop_replicate, List.length_append]
    congr 1; omega
  rw [e1, e2, List.map_append]
/-- the state of the empty text's constant: not loaded, or loaded -/
def LS (Z : State) (own : String) (idx : Nat) (vm : Vm) (h : Heap) : Prop := IB Z vm [] ∨ (IB Z vm [""] ∧ ∃ a, Lit (Z.setVm vm) own idx a ∧ Str Z h a [])
theorem LS.warm {own : String} {idx : Nat} {vm vm' : Vm} {s1 : State} (F : LS Z own idx vm h) (hW : (s1.setVm vm).WarmedH vm') : LS Z own idx vm' h := by
  rcases F with I | ⟨I, a, Lt, S⟩
  · exact Or.inl (IB.warm I hW)
  · refine Or.inr ⟨IB.warm I hW, a, ?_, S⟩
    have q : Lit (s1.setVm vm) own idx a := Lt
    exact Lit.stays q hW.wide
theorem LS.keep {own : String} {idx : Nat} {vm : Vm} (F : LS Z own idx vm h) (K : Keep h h' []) : LS Z own idx vm h' := by
  rcases F with I | ⟨I, a, Lt, S⟩
  · exact Or.inl I
  · exact Or.inr ⟨I, a, Lt, S.keep K⟩
theorem LS.ib {own : String} {idx : Nat} {vm : Vm} (F : LS Z own idx vm h) : ∃ Ts, "." ∉ Ts ∧ IB Z vm Ts := by
  rcases F with I | ⟨I, -⟩
  · exact ⟨[], by simp, I⟩
  · exact ⟨[""], by decide, I⟩
theorem le255 (x : Int32) : ¬ (255 : Int32) < (x &&& 255) := by
  have q := (c_and x 255 (by decide)).2
  rw [Int32.lt_iff_toInt_lt]; omega
theorem le255n (x : Int32) : ¬ (255 : Int32) < nar .char (x &&& 255) := by
  rw [show nar .char (x &&& 255) = x &&& 255 from i2c_mask x]; exact le255 x
theorem and3 (x : Int32) : (x &&& 3) = 0 ∨ (x &&& 3) = 1 ∨ (x &&& 3) = 2 ∨ (x &&& 3) = 3 := by
  have q := c_and x 3 (by decide)
  have k3 : (3 : Int32).toInt = 3 := by decide
  simp only [← Int32.toInt_inj, k3, show (0 : Int32).toInt = 0 from by decide, show (1 : Int32).toInt = 1 from by decide, show (2 : Int32).toInt = 2 from by decide]
  rw [k3] at q; omega
theorem Keep.more {h0 : Heap} {ws ws' : List Addr} (K : Keep h0 h ws) (q : ∀ x ∈ ws, x ∈ ws') : Keep h0 h ws' := ⟨K.1, fun x c hx r => K.2.1 x c hx fun z => r (q x z), K.2.2⟩
end StrFacts
end Jvm.Own
namespace Jvm.Own
open Sem ClassFile Op Lib Jvm.Stand Jvm.Free Jvm.LawKit Jvm.RoadKit
section Re
variable {p : Program} {l : Launch} {e : Env} {R : Room} {s : State} {m : MethodId} {args : Array Value} {below : List Frame} {meth : Method} {c : Code} {T : State} {locs : List Loc} {cells slots : Nat} {FF : State → Option Value → List Loc → Prop} {bytes : ByteArray} {pc n : Nat} {L : Array Slot} {st : List Value} {Z : State} {a0 : Array Value} {h : Heap} {vm0 : Vm} {k0 : Nat}
/-- the walk over another start: the true start's frames and tables, the heap that stands now -/
theorem rebase (X : Stand p l e R s m args below meth c T locs cells slots) (hc : cells ≤ R.cells) (hs : slots ≤ R.slots) :
    Stand p l e { R with cells := R.cells - cells, slots := R.slots - slots } ({ s with heap := T.heap, slotsUsed := T.slotsUsed } : State) m args below meth c T [] 0 0 := by
  have hroom : ({ s with heap := T.heap, slotsUsed := T.slotsUsed } : State).hasRoom e.platform { R with cells := R.cells - cells, slots := R.slots - slots } = true := by
    have h0 := X.room
    have h1 := X.heapSize
    have h2 := X.used
    have h3 := X.book
    simp only [State.hasRoom, Bool.and_eq_true, decide_eq_true_eq] at h0 ⊢
    obtain ⟨⟨⟨⟨a1, a2⟩, a3⟩, a4⟩, a5⟩ := h0
    refine ⟨⟨⟨⟨a1, a2⟩, ?_⟩, ?_⟩, h3⟩
    · show T.heap.size + (R.cells - cells) ≤ _; omega
    · show T.slotsUsed + (R.slots - slots) ≤ _; omega
  refine ⟨X.admits, X.cas, X.clock, X.frames, hroom, X.hears, X.method, X.code, X.here, X.tail, X.warmed, X.limits, X.bytes, ?_⟩
  obtain ⟨q1, q2, q3, q4, q5, q6⟩ := X.same
  have hnil : T.heap.toList.drop T.heap.size = [] := List.drop_eq_nil_of_le (by simp)
  refine ⟨q1, Nat.le_refl _, Nat.le_refl _, ?_, ?_, ?_⟩
  · show T.slotsUsed = T.slotsUsed + ((T.heap.toList.drop T.heap.size).map (·.slots.size)).sum
    rw [hnil]; rfl
  · show ((T.heap.toList.drop T.heap.size).map (·.slots.size)).sum ≤ 0
    rw [hnil]; exact Nat.le_refl _
  · intro a cl q; exact ⟨cl, q, rfl, rfl, fun _ _ => rfl⟩
/-- 'ldc' of a String constant, its text read, the first time; whatever the walk has written that was not there when the law began -/
theorem v_ldcR (X : Stand p l e R (s.setVm vm0) m args below meth c T locs cells slots) (hx : p.tables.exec = Jvm.exec) (hby : c.code = bytes) (hZ : Z.Warmed39 (s.setVm vm0).vm) {own text : String} {index : Nat} (hown : (s.setVm vm0).vm.findClass own = some m.cls) (w : (Jvm.Cond.stringLink own index text).before a0 Z = true) (wS : ∀ a ∈ Bundle.stringAtoms, a.before a0 Z = true) (eT : T.heap = h) (hS : s.Since vm0 k0) (hk : k0 ≤ h.size) (hkeep : Ext Z.heap h) {Ts : List String} (I : IB Z vm0 Ts) (hnot : text ∉ Ts) (hh : Jvm.Lit.constHeld Z own index) (hcw : Jvm.Lit.compactW.before a0 Z = true)
    {vs : List Value} {z : Int32} (ht : (∀ c ∈ text.toList, c.toNat < 256) ∧ text.toList.map (fun c => Value.int (Jvm.Lit.byteI c.toNat.toUInt16)) = vs) (hz : ¬ z < 0) (hlv : z.toNatClampNeg = vs.length) (num : Nat) (hnum : 4 * text.toList.length ≤ num) (hbig : num ≤ 536870912) (hc : cells + 2 ≤ R.cells) (hl : slots + (num + 4) ≤ R.slots) (hd : decode bytes pc = .ok (.ldc index, 2)) (hn : pc + 2 = n)
    (k : ∀ T' h' a b kb k1, Stand p l e R (s.setVm T'.vm) m args below meth c T' locs (cells + 2) (slots + (num + 4)) → T'.heap = h' → Ext h h' → s.Since T'.vm k1 → k1 ≤ h'.size → Z.Warmed39 (s.setVm T'.vm).vm → (s.setVm T'.vm).vm.findClass own = some m.cls → Exa Z h' a "java/lang/String" → Fld Z h' a "java/lang/String" "coder" "B" (.int 0) → Fld Z h' a "java/lang/String" "value" "[B" (.ref b) → Arv Z h' b kb .byte z vs (.int 0) → IB Z T'.vm (text :: Ts) → Lit (s.setVm T'.vm) own index a → (s.setVm vm0).Warmed39 T'.vm → OE p e below FF T' (mkF m n L (.ref a :: st))) : OE p e below FF T (mkF m pc L st) := by
  subst hn
  have X1 : Stand p l e { R with cells := R.cells - cells, slots := R.slots - slots } ((({ s with vm := vm0, heap := T.heap, slotsUsed := T.slotsUsed } : State)).setVm vm0) m args below meth c T [] 0 0 := rebase X (by omega) (by omega)
  obtain ⟨a, T', h', k1, b, kb, r1, r2, r3, r4, r5, r6, r7, r8, r9, r10, r11, -, -, r14, r15, r16⟩ := ldcSVL X1 hx hZ hown w wS eT (State.WarmedH.since (State.WarmedH.refl _) T.heap.size) (by rw [← eT]; exact Nat.le_refl _) (Fr.nil _) (by show ∀ (b : Addr) (cl : Cell), Z.heap[b]? = some cl → T.heap[b]? = some cl; rw [eT]; exact hkeep.2) I hnot hh hcw ht hz hlv (g := mkF m pc L st) rfl (hb hby hd) hnum hbig (by show 0 + 2 ≤ R.cells - cells; omega) (by show 0 + (num + 4) ≤ R.slots - slots; omega)
  have hW : (s.setVm vm0).Warmed39 T'.vm := r4.1
  have X2 := X.retabled hW
  have same2 : (T.setVm T'.vm).sameButNew (T'.setVm (T.setVm T'.vm).vm) [] 2 (num + 4) := by
    obtain ⟨q1, q2, q3, q4, q5, q6⟩ := r1.same
    have p1 := X2.same.1
    refine ⟨?_, q2, by simpa using q3, q4, by simpa using q5, q6⟩
    have e1 : (T.setVm T'.vm).setFrames T'.frames = { (s.setVm T'.vm).setFrames T'.frames with heap := T.heap, slotsUsed := T.slotsUsed } := by
      have e2 : T.setVm T'.vm = { ((s.setVm T'.vm)).setFrames T.frames with heap := T.heap, slotsUsed := T.slotsUsed } := p1
      rw [e2]
      show ({ (((s.setVm T'.vm).setFrames T.frames).setFrames T'.frames) with heap := T.heap, slotsUsed := T.slotsUsed } : State) = _
      rw [State.setFrames_setFrames]
    show T'.setVm T'.vm = { (T.setVm T'.vm).setFrames T'.frames with heap := T'.heap, slotsUsed := T'.slotsUsed }
    rw [e1]
    exact q1
  have X3 := X2.moved (T₂ := T') (l₂ := []) (c₂ := 2) (n₂ := num + 4) r1.here r1.tail (by have a1 := r1.limits; have a2 := X2.limits; exact a1.trans a2.symm) (by have a1 := r1.bytes; have a2 := X2.bytes; exact a1.trans a2.symm) (State.WarmedH.refl (T.setVm T'.vm)) same2
  rw [List.append_nil] at X3
  have hS2 : s.Since T'.vm h'.size := ⟨State.Warmed39.trans (t := s.setVm vm0) hS.1 hW, fun j q hj hq => by
    by_cases u : j < vm0.interned.size
    · rw [hW.old_pair (s := s.setVm vm0) u] at hq
      obtain ⟨x, y⟩ := hS.2 j q hj hq
      exact ⟨x, Nat.lt_of_lt_of_le y (Nat.le_trans hk r3.1)⟩
    · obtain ⟨x, y⟩ := r4.2 j q (Nat.le_of_not_lt u) hq
      exact ⟨Nat.le_trans X.same.2.1 x, Nat.lt_of_lt_of_le y r5⟩⟩
  exact (k T' h' a b kb h'.size X3 r2 r3 hS2 (Nat.le_refl _) r6 r7 r8 r9 r10 r11 r14 r15 hW).pre r16
end Re
/-- a String stands aside of an object of another class -/
theorem Str.asideO {Z : State} {h h' : Heap} {a0 : Array Value} {r o : Addr} {C : String} {num : Nat} {bs : List Int32} (F : Str Z h r bs) (E : Exa Z h o C) (hC : C ≠ "java/lang/String") (wi : (Jvm.Cond.instantiable C num).before a0 Z = true) (K : Keep h h' [o]) : Str Z h' r bs := by
  obtain ⟨h1, h2, b, h3, h4, kb, h5⟩ := F
  have n1 : r ≠ o := ne_exa h1 E (fun q => hC q.symm)
  have n3 : b ≠ o := (arv_exa E wi h5).symm
  exact ⟨h1.keep K, h2.keep K (ninS n1 nin0), b, h3.keep K (ninS n1 nin0), h4, kb, h5.keep K (ninS n3 nin0)⟩
/-- a String's bytes are one list -/
theorem Str.inj {Z : State} {h : Heap} {r : Addr} {bs cs : List Int32} (F : Str Z h r bs) (G : Str Z h r cs) : bs = cs := by
  obtain ⟨-, -, b, h3, h4, kb, cl, A, -, S, -, H, -⟩ := F
  obtain ⟨-, -, b', g3, g4, kb', cl', A', -, S', -, H', -⟩ := G
  have e : b = b' := by
    by_cases q : b = b'
    · exact q
    · exact absurd rfl (Fld.ne h3 g3 (fun z => q (by cases z; rfl)))
  subst e
  cases A.1.symm.trans A'.1
  rw [c32 h4] at S
  rw [c32 g4] at S'
  have el : bs.length = cs.length := S.symm.trans S'
  refine List.ext_getElem el fun i h1 h2 => ?_
  have q1 := H i (by rw [S]; exact h1)
  have q2 := H' i (by rw [S]; exact h1)
  rw [getDm] at q1 q2
  have q3 := q1.symm.trans q2
  simp [List.getD_eq_getElem?_getD, List.getElem?_eq_getElem h1, List.getElem?_eq_getElem h2] at q3
  exact q3
/-- the state of the three constants -/
def IS (Z : State) (O1 O2 : String) (vm : Vm) (h : Heap) : Prop := ∃ Ts, IB Z vm Ts ∧ ("" ∉ Ts ∨ ∃ a, Lit (Z.setVm vm) O1 7 a ∧ Str Z h a []) ∧ ("system" ∉ Ts ∨ ∃ a, Lit (Z.setVm vm) O2 7 a) ∧ ("stream" ∉ Ts ∨ ∃ a, Lit (Z.setVm vm) O2 22 a)
section QF
variable {Z s1 : State} {O1 : String} {vm vm' : Vm} {h h' : Heap} {a0 : Array Value} {Ts : List String} {text t2 : String} {i : Nat}
theorem lit_stays {own : String} {a : Addr} (L : Lit (Z.setVm vm) own i a) (hW : (s1.setVm vm).Warmed39 vm') : Lit (Z.setVm vm') own i a := by
  have q : Lit (s1.setVm vm) own i a := L
  exact Lit.stays q hW
/-- the empty text's constant in the class O1 -/
def Qe1 (Z : State) (O1 : String) (vm : Vm) (h : Heap) (Ts : List String) : Prop := "" ∉ Ts ∨ ∃ a, Lit (Z.setVm vm) O1 7 a ∧ Str Z h a []
/-- another constant -/
def Qe2 (Z : State) (O1 : String) (i : Nat) (text : String) (vm : Vm) (Ts : List String) : Prop := text ∉ Ts ∨ ∃ a, Lit (Z.setVm vm) O1 i a
theorem Qe1.ext (F : Qe1 Z O1 vm h Ts) (E : Ext h h') : Qe1 Z O1 vm h' Ts := F.imp id fun ⟨a, L, S⟩ => ⟨a, L, S.ext E⟩
theorem Qe1.wrO {o : Addr} {C : String} {num sl : Nat} {v : Value} (F : Qe1 Z O1 vm h Ts) (E : Exa Z h o C) (hC : C ≠ "java/lang/String") (wi : (Jvm.Cond.instantiable C num).before a0 Z = true) (W : Wr h h' o sl v) : Qe1 Z O1 vm h' Ts := F.imp id fun ⟨a, L, S⟩ => ⟨a, L, S.asideO E hC wi (Keep.of_wr W)⟩
theorem Qe1.more (F : Qe1 Z O1 vm h Ts) (q : "" ≠ t2) (hW : (s1.setVm vm).Warmed39 vm') : Qe1 Z O1 vm' h (t2 :: Ts) := F.imp (fun z => fun y => (List.mem_cons.mp y).elim q z) fun ⟨a, L, S⟩ => ⟨a, lit_stays L hW, S⟩
theorem Qe2.more (F : Qe2 Z O1 i text vm Ts) (q : text ≠ t2) (hW : (s1.setVm vm).Warmed39 vm') : Qe2 Z O1 i text vm' (t2 :: Ts) := F.imp (fun z => fun y => (List.mem_cons.mp y).elim q z) fun ⟨a, L⟩ => ⟨a, lit_stays L hW⟩
end QF
section ISF
variable {Z s1 : State} {O1 O2 : String} {vm vm' : Vm} {h h' : Heap} {a0 : Array Value}
theorem IS.start : IS Z O1 O2 Z.vm h := ⟨[], IB.start, Or.inl (by simp), Or.inl (by simp), Or.inl (by simp)⟩
theorem IS.warm (F : IS Z O1 O2 vm h) (hW : (s1.setVm vm).WarmedH vm') : IS Z O1 O2 vm' h := by
  obtain ⟨Ts, I, h1, h2, h3⟩ := F
  exact ⟨Ts, IB.warm I hW, h1.imp id (fun ⟨a, L, S⟩ => ⟨a, lit_stays L hW.wide, S⟩), h2.imp id (fun ⟨a, L⟩ => ⟨a, lit_stays L hW.wide⟩), h3.imp id (fun ⟨a, L⟩ => ⟨a, lit_stays L hW.wide⟩)⟩
theorem IS.keep (F : IS Z O1 O2 vm h) (K : Keep h h' []) : IS Z O1 O2 vm h' := by
  obtain ⟨Ts, I, h1, h2, h3⟩ := F
  exact ⟨Ts, I, h1.imp id (fun ⟨a, L, S⟩ => ⟨a, L, S.keep K⟩), h2, h3⟩
theorem IS.asideO {o : Addr} {C : String} {num : Nat} (F : IS Z O1 O2 vm h) (E : Exa Z h o C) (hC : C ≠ "java/lang/String") (wi : (Jvm.Cond.instantiable C num).before a0 Z = true) (K : Keep h h' [o]) : IS Z O1 O2 vm h' := by
  obtain ⟨Ts, I, h1, h2, h3⟩ := F
  exact ⟨Ts, I, h1.imp id (fun ⟨a, L, S⟩ => ⟨a, L, S.asideO E hC wi K⟩), h2, h3⟩
end ISF
end Jvm.Own
namespace Jvm.Pilot.@@N@@
open Jvm Jvm.ClassFile Sem Op Lib Jvm.Free Jvm.Stand Jvm.LawKit Jvm.RoadKit Bundle Jvm.Own Jvm.Pilot.@@N@@.Jvm.D
theorem d1_0 : decode method_3_code 0 = .ok (.iload_n 0, 1) := by decide +kernel
theorem d1_1 : decode method_3_code 1 = .ok (.iconst 3, 1) := by decide +kernel
theorem d1_2 : decode method_3_code 2 = .ok (.iand, 1) := by decide +kernel
theorem d1_3 : decode method_3_code 3 = .ok (.istore_n 1, 1) := by decide +kernel
theorem d1_4 : decode method_3_code 4 = .ok (.iload_n 0, 1) := by decide +kernel
theorem d1_5 : decode method_3_code 5 = .ok (.iconst 0, 1) := by decide +kernel
theorem d1_6 : decode method_3_code 6 = .ok (.invokestatic 7, 3) := by decide +kernel
theorem d1_9 : decode method_3_code 9 = .ok (.istore_n 2, 1) := by decide +kernel
theorem d1_10 : decode method_3_code 10 = .ok (.iload_n 0, 1) := by decide +kernel
theorem d1_11 : decode method_3_code 11 = .ok (.iconst 1, 1) := by decide +kernel
theorem d1_12 : decode method_3_code 12 = .ok (.invokestatic 7, 3) := by decide +kernel
theorem d1_15 : decode method_3_code 15 = .ok (.istore_n 3, 1) := by decide +kernel
theorem d1_16 : decode method_3_code 16 = .ok (.iload_n 0, 1) := by decide +kernel
theorem d1_17 : decode method_3_code 17 = .ok (.iconst 2, 1) := by decide +kernel
theorem d1_18 : decode method_3_code 18 = .ok (.invokestatic 7, 3) := by decide +kernel
theorem d1_21 : decode method_3_code 21 = .ok (.istore 4, 2) := by decide +kernel
theorem d1_23 : decode method_3_code 23 = .ok (.iload_n 1, 1) := by decide +kernel
theorem d1_24 : decode method_3_code 24 = .ok (.ifCond .ne 14, 3) := by decide +kernel
theorem d1_27 : decode method_3_code 27 = .ok (.new 13, 3) := by decide +kernel
theorem d1_30 : decode method_3_code 30 = .ok (.dup, 1) := by decide +kernel
theorem d1_31 : decode method_3_code 31 = .ok (.iconst 0, 1) := by decide +kernel
theorem d1_32 : decode method_3_code 32 = .ok (.newarray .char, 2) := by decide +kernel
theorem d1_34 : decode method_3_code 34 = .ok (.invokespecial 15, 3) := by decide +kernel
theorem d1_37 : decode method_3_code 37 = .ok (.areturn, 1) := by decide +kernel
theorem d1_38 : decode method_3_code 38 = .ok (.iload_n 1, 1) := by decide +kernel
theorem d1_39 : decode method_3_code 39 = .ok (.iconst 1, 1) := by decide +kernel
theorem d1_40 : decode method_3_code 40 = .ok (.if_icmp .ne 18, 3) := by decide +kernel
theorem d1_43 : decode method_3_code 43 = .ok (.new 13, 3) := by decide +kernel
theorem d1_46 : decode method_3_code 46 = .ok (.dup, 1) := by decide +kernel
theorem d1_47 : decode method_3_code 47 = .ok (.iconst 1, 1) := by decide +kernel
theorem d1_48 : decode method_3_code 48 = .ok (.newarray .char, 2) := by decide +kernel
theorem d1_50 : decode method_3_code 50 = .ok (.dup, 1) := by decide +kernel
theorem d1_51 : decode method_3_code 51 = .ok (.iconst 0, 1) := by decide +kernel
theorem d1_52 : decode method_3_code 52 = .ok (.iload_n 2, 1) := by decide +kernel
theorem d1_53 : decode method_3_code 53 = .ok (.castore, 1) := by decide +kernel
theorem d1_54 : decode method_3_code 54 = .ok (.invokespecial 15, 3) := by decide +kernel
theorem d1_57 : decode method_3_code 57 = .ok (.areturn, 1) := by decide +kernel
theorem d1_58 : decode method_3_code 58 = .ok (.iload_n 1, 1) := by decide +kernel
theorem d1_59 : decode method_3_code 59 = .ok (.iconst 2, 1) := by decide +kernel
theorem d1_60 : decode method_3_code 60 = .ok (.if_icmp .ne 22, 3) := by decide +kernel
theorem d1_63 : decode method_3_code 63 = .ok (.new 13, 3) := by decide +kernel
theorem d1_66 : decode method_3_code 66 = .ok (.dup, 1) := by decide +kernel
theorem d1_67 : decode method_3_code 67 = .ok (.iconst 2, 1) := by decide +kernel
theorem d1_68 : decode method_3_code 68 = .ok (.newarray .char, 2) := by decide +kernel
theorem d1_70 : decode method_3_code 70 = .ok (.dup, 1) := by decide +kernel
theorem d1_71 : decode method_3_code 71 = .ok (.iconst 0, 1) := by decide +kernel
theorem d1_72 : decode method_3_code 72 = .ok (.iload_n 2, 1) := by decide +kernel
theorem d1_73 : decode method_3_code 73 = .ok (.castore, 1) := by decide +kernel
theorem d1_74 : decode method_3_code 74 = .ok (.dup, 1) := by decide +kernel
theorem d1_75 : decode method_3_code 75 = .ok (.iconst 1, 1) := by decide +kernel
theorem d1_76 : decode method_3_code 76 = .ok (.iload_n 3, 1) := by decide +kernel
theorem d1_77 : decode method_3_code 77 = .ok (.castore, 1) := by decide +kernel
theorem d1_78 : decode method_3_code 78 = .ok (.invokespecial 15, 3) := by decide +kernel
theorem d1_81 : decode method_3_code 81 = .ok (.areturn, 1) := by decide +kernel
theorem d1_82 : decode method_3_code 82 = .ok (.new 13, 3) := by decide +kernel
theorem d1_85 : decode method_3_code 85 = .ok (.dup, 1) := by decide +kernel
theorem d1_86 : decode method_3_code 86 = .ok (.iconst 3, 1) := by decide +kernel
theorem d1_87 : decode method_3_code 87 = .ok (.newarray .char, 2) := by decide +kernel
theorem d1_89 : decode method_3_code 89 = .ok (.dup, 1) := by decide +kernel
theorem d1_90 : decode method_3_code 90 = .ok (.iconst 0, 1) := by decide +kernel
theorem d1_91 : decode method_3_code 91 = .ok (.iload_n 2, 1) := by decide +kernel
theorem d1_92 : decode method_3_code 92 = .ok (.castore, 1) := by decide +kernel
theorem d1_93 : decode method_3_code 93 = .ok (.dup, 1) := by decide +kernel
theorem d1_94 : decode method_3_code 94 = .ok (.iconst 1, 1) := by decide +kernel
theorem d1_95 : decode method_3_code 95 = .ok (.iload_n 3, 1) := by decide +kernel
theorem d1_96 : decode method_3_code 96 = .ok (.castore, 1) := by decide +kernel
theorem d1_97 : decode method_3_code 97 = .ok (.dup, 1) := by decide +kernel
theorem d1_98 : decode method_3_code 98 = .ok (.iconst 2, 1) := by decide +kernel
theorem d1_99 : decode method_3_code 99 = .ok (.iload 4, 2) := by decide +kernel
theorem d1_101 : decode method_3_code 101 = .ok (.castore, 1) := by decide +kernel
theorem d1_102 : decode method_3_code 102 = .ok (.invokespecial 15, 3) := by decide +kernel
theorem d1_105 : decode method_3_code 105 = .ok (.areturn, 1) := by decide +kernel
theorem d2_0 : decode method_2_code 0 = .ok (.iload_n 0, 1) := by decide +kernel
theorem d2_1 : decode method_2_code 1 = .ok (.iconst 2, 1) := by decide +kernel
theorem d2_2 : decode method_2_code 2 = .ok (.bipush 8, 2) := by decide +kernel
theorem d2_4 : decode method_2_code 4 = .ok (.iload_n 1, 1) := by decide +kernel
theorem d2_5 : decode method_2_code 5 = .ok (.imul, 1) := by decide +kernel
theorem d2_6 : decode method_2_code 6 = .ok (.iadd, 1) := by decide +kernel
theorem d2_7 : decode method_2_code 7 = .ok (.iushr, 1) := by decide +kernel
theorem d2_8 : decode method_2_code 8 = .ok (.sipush 255, 3) := by decide +kernel
theorem d2_11 : decode method_2_code 11 = .ok (.iand, 1) := by decide +kernel
theorem d2_12 : decode method_2_code 12 = .ok (.i2c, 1) := by decide +kernel
theorem d2_13 : decode method_2_code 13 = .ok (.ireturn, 1) := by decide +kernel
theorem d3_0 : decode jdk_42_method_3_code 0 = .ok (.aload_n 0, 1) := by decide +kernel
theorem d3_1 : decode jdk_42_method_3_code 1 = .ok (.aload_n 1, 1) := by decide +kernel
theorem d3_2 : decode jdk_42_method_3_code 2 = .ok (.iconst 0, 1) := by decide +kernel
theorem d3_3 : decode jdk_42_method_3_code 3 = .ok (.aload_n 1, 1) := by decide +kernel
theorem d3_4 : decode jdk_42_method_3_code 4 = .ok (.arraylength, 1) := by decide +kernel
theorem d3_5 : decode jdk_42_method_3_code 5 = .ok (.aconst_null, 1) := by decide +kernel
theorem d3_6 : decode jdk_42_method_3_code 6 = .ok (.invokespecial 27, 3) := by decide +kernel
theorem d3_9 : decode jdk_42_method_3_code 9 = .ok (.return_, 1) := by decide +kernel
theorem d4_0 : decode jdk_42_method_149_code 0 = .ok (.aload_n 0, 1) := by decide +kernel
theorem d4_1 : decode jdk_42_method_149_code 1 = .ok (.invokespecial 1, 3) := by decide +kernel
theorem d4_4 : decode jdk_42_method_149_code 4 = .ok (.iload_n 3, 1) := by decide +kernel
theorem d4_5 : decode jdk_42_method_149_code 5 = .ok (.ifCond .ne 22, 3) := by decide +kernel
theorem d4_8 : decode jdk_42_method_149_code 8 = .ok (.aload_n 0, 1) := by decide +kernel
theorem d4_9 : decode jdk_42_method_149_code 9 = .ok (.ldc 7, 2) := by decide +kernel
theorem d4_11 : decode jdk_42_method_149_code 11 = .ok (.getfield 9, 3) := by decide +kernel
theorem d4_14 : decode jdk_42_method_149_code 14 = .ok (.putfield 9, 3) := by decide +kernel
theorem d4_17 : decode jdk_42_method_149_code 17 = .ok (.aload_n 0, 1) := by decide +kernel
theorem d4_18 : decode jdk_42_method_149_code 18 = .ok (.ldc 7, 2) := by decide +kernel
theorem d4_20 : decode jdk_42_method_149_code 20 = .ok (.getfield 15, 3) := by decide +kernel
theorem d4_23 : decode jdk_42_method_149_code 23 = .ok (.putfield 15, 3) := by decide +kernel
theorem d4_26 : decode jdk_42_method_149_code 26 = .ok (.return_, 1) := by decide +kernel
theorem d4_27 : decode jdk_42_method_149_code 27 = .ok (.getstatic 38, 3) := by decide +kernel
theorem d4_30 : decode jdk_42_method_149_code 30 = .ok (.ifCond .eq 28, 3) := by decide +kernel
theorem d4_33 : decode jdk_42_method_149_code 33 = .ok (.aload_n 1, 1) := by decide +kernel
theorem d4_34 : decode jdk_42_method_149_code 34 = .ok (.iload_n 2, 1) := by decide +kernel
theorem d4_35 : decode jdk_42_method_149_code 35 = .ok (.iload_n 3, 1) := by decide +kernel
theorem d4_36 : decode jdk_42_method_149_code 36 = .ok (.invokestatic 177, 3) := by decide +kernel
theorem d4_39 : decode jdk_42_method_149_code 39 = .ok (.astore 5, 2) := by decide +kernel
theorem d4_41 : decode jdk_42_method_149_code 41 = .ok (.aload_n 0, 1) := by decide +kernel
theorem d4_42 : decode jdk_42_method_149_code 42 = .ok (.aload 5, 2) := by decide +kernel
theorem d4_44 : decode jdk_42_method_149_code 44 = .ok (.iload_n 3, 1) := by decide +kernel
theorem d4_45 : decode jdk_42_method_149_code 45 = .ok (.invokestatic 47, 3) := by decide +kernel
theorem d4_48 : decode jdk_42_method_149_code 48 = .ok (.putfield 15, 3) := by decide +kernel
theorem d4_51 : decode jdk_42_method_149_code 51 = .ok (.aload_n 0, 1) := by decide +kernel
theorem d4_52 : decode jdk_42_method_149_code 52 = .ok (.aload 5, 2) := by decide +kernel
theorem d4_54 : decode jdk_42_method_149_code 54 = .ok (.putfield 9, 3) := by decide +kernel
theorem d4_57 : decode jdk_42_method_149_code 57 = .ok (.return_, 1) := by decide +kernel
theorem d6_0 : decode jdk_52_method_16_code 0 = .ok (.iload_n 2, 1) := by decide +kernel
theorem d6_1 : decode jdk_52_method_16_code 1 = .ok (.newarray .byte, 2) := by decide +kernel
theorem d6_3 : decode jdk_52_method_16_code 3 = .ok (.astore_n 3, 1) := by decide +kernel
theorem d6_4 : decode jdk_52_method_16_code 4 = .ok (.aload_n 0, 1) := by decide +kernel
theorem d6_5 : decode jdk_52_method_16_code 5 = .ok (.iload_n 1, 1) := by decide +kernel
theorem d6_6 : decode jdk_52_method_16_code 6 = .ok (.aload_n 3, 1) := by decide +kernel
theorem d6_7 : decode jdk_52_method_16_code 7 = .ok (.iconst 0, 1) := by decide +kernel
theorem d6_8 : decode jdk_52_method_16_code 8 = .ok (.iload_n 2, 1) := by decide +kernel
theorem d6_9 : decode jdk_52_method_16_code 9 = .ok (.invokestatic 115, 3) := by decide +kernel
theorem d6_12 : decode jdk_52_method_16_code 12 = .ok (.istore 4, 2) := by decide +kernel
theorem d6_14 : decode jdk_52_method_16_code 14 = .ok (.iload 4, 2) := by decide +kernel
theorem d6_16 : decode jdk_52_method_16_code 16 = .ok (.iload_n 2, 1) := by decide +kernel
theorem d6_17 : decode jdk_52_method_16_code 17 = .ok (.if_icmp .eq 40, 3) := by decide +kernel
theorem d6_57 : decode jdk_52_method_16_code 57 = .ok (.aload_n 3, 1) := by decide +kernel
theorem d6_58 : decode jdk_52_method_16_code 58 = .ok (.areturn, 1) := by decide +kernel
theorem d7_0 : decode jdk_52_method_21_code 0 = .ok (.iconst 0, 1) := by decide +kernel
theorem d7_1 : decode jdk_52_method_21_code 1 = .ok (.istore 5, 2) := by decide +kernel
theorem d7_3 : decode jdk_52_method_21_code 3 = .ok (.iload 5, 2) := by decide +kernel
theorem d7_5 : decode jdk_52_method_21_code 5 = .ok (.iload 4, 2) := by decide +kernel
theorem d7_7 : decode jdk_52_method_21_code 7 = .ok (.if_icmp .ge 37, 3) := by decide +kernel
theorem d7_10 : decode jdk_52_method_21_code 10 = .ok (.aload_n 0, 1) := by decide +kernel
theorem d7_11 : decode jdk_52_method_21_code 11 = .ok (.iload_n 1, 1) := by decide +kernel
theorem d7_12 : decode jdk_52_method_21_code 12 = .ok (.caload, 1) := by decide +kernel
theorem d7_13 : decode jdk_52_method_21_code 13 = .ok (.istore 6, 2) := by decide +kernel
theorem d7_15 : decode jdk_52_method_21_code 15 = .ok (.iload 6, 2) := by decide +kernel
theorem d7_17 : decode jdk_52_method_21_code 17 = .ok (.sipush 255, 3) := by decide +kernel
theorem d7_20 : decode jdk_52_method_21_code 20 = .ok (.if_icmp .le 6, 3) := by decide +kernel
theorem d7_26 : decode jdk_52_method_21_code 26 = .ok (.aload_n 2, 1) := by decide +kernel
theorem d7_27 : decode jdk_52_method_21_code 27 = .ok (.iload_n 3, 1) := by decide +kernel
theorem d7_28 : decode jdk_52_method_21_code 28 = .ok (.iload 6, 2) := by decide +kernel
theorem d7_30 : decode jdk_52_method_21_code 30 = .ok (.i2b, 1) := by decide +kernel
theorem d7_31 : decode jdk_52_method_21_code 31 = .ok (.bastore, 1) := by decide +kernel
theorem d7_32 : decode jdk_52_method_21_code 32 = .ok (.iinc 1 1, 3) := by decide +kernel
theorem d7_35 : decode jdk_52_method_21_code 35 = .ok (.iinc 3 1, 3) := by decide +kernel
theorem d7_38 : decode jdk_52_method_21_code 38 = .ok (.iinc 5 1, 3) := by decide +kernel
theorem d7_41 : decode jdk_52_method_21_code 41 = .ok (.goto (-38), 3) := by decide +kernel
theorem d7_44 : decode jdk_52_method_21_code 44 = .ok (.iload 4, 2) := by decide +kernel
theorem d7_46 : decode jdk_52_method_21_code 46 = .ok (.ireturn, 1) := by decide +kernel
theorem d8_0 : decode jdk_52_method_15_code 0 = .ok (.iload_n 1, 1) := by decide +kernel
theorem d8_1 : decode jdk_52_method_15_code 1 = .ok (.aload_n 0, 1) := by decide +kernel
theorem d8_2 : decode jdk_52_method_15_code 2 = .ok (.arraylength, 1) := by decide +kernel
theorem d8_3 : decode jdk_52_method_15_code 3 = .ok (.isub, 1) := by decide +kernel
theorem d8_4 : decode jdk_52_method_15_code 4 = .ok (.bipush 31, 2) := by decide +kernel
theorem d8_6 : decode jdk_52_method_15_code 6 = .ok (.iushr, 1) := by decide +kernel
theorem d8_7 : decode jdk_52_method_15_code 7 = .ok (.i2b, 1) := by decide +kernel
theorem d8_8 : decode jdk_52_method_15_code 8 = .ok (.ireturn, 1) := by decide +kernel
theorem d9_0 : decode prog_39_method_1_code 0 = .ok (.aload_n 0, 1) := by decide +kernel
theorem d9_1 : decode prog_39_method_1_code 1 = .ok (.invokespecial 1, 3) := by decide +kernel
theorem d9_4 : decode prog_39_method_1_code 4 = .ok (.aload_n 0, 1) := by decide +kernel
theorem d9_5 : decode prog_39_method_1_code 5 = .ok (.aload_n 1, 1) := by decide +kernel
theorem d9_6 : decode prog_39_method_1_code 6 = .ok (.ldc 7, 2) := by decide +kernel
theorem d9_8 : decode prog_39_method_1_code 8 = .ok (.invokestatic 9, 3) := by decide +kernel
theorem d9_11 : decode prog_39_method_1_code 11 = .ok (.checkcast 15, 3) := by decide +kernel
theorem d9_14 : decode prog_39_method_1_code 14 = .ok (.putfield 17, 3) := by decide +kernel
theorem d9_17 : decode prog_39_method_1_code 17 = .ok (.aload_n 0, 1) := by decide +kernel
theorem d9_18 : decode prog_39_method_1_code 18 = .ok (.aload_n 2, 1) := by decide +kernel
theorem d9_19 : decode prog_39_method_1_code 19 = .ok (.ldc 22, 2) := by decide +kernel
theorem d9_21 : decode prog_39_method_1_code 21 = .ok (.invokestatic 9, 3) := by decide +kernel
theorem d9_24 : decode prog_39_method_1_code 24 = .ok (.checkcast 15, 3) := by decide +kernel
theorem d9_27 : decode prog_39_method_1_code 27 = .ok (.putfield 24, 3) := by decide +kernel
theorem d9_30 : decode prog_39_method_1_code 30 = .ok (.iload_n 3, 1) := by decide +kernel
theorem d9_31 : decode prog_39_method_1_code 31 = .ok (.ifCond .ge 17, 3) := by decide +kernel
theorem d9_48 : decode prog_39_method_1_code 48 = .ok (.aload_n 0, 1) := by decide +kernel
theorem d9_49 : decode prog_39_method_1_code 49 = .ok (.iload_n 3, 1) := by decide +kernel
theorem d9_50 : decode prog_39_method_1_code 50 = .ok (.putfield 35, 3) := by decide +kernel
theorem d9_53 : decode prog_39_method_1_code 53 = .ok (.return_, 1) := by decide +kernel
theorem d10_0 : decode jdk_31_method_11_code 0 = .ok (.aload_n 0, 1) := by decide +kernel
theorem d10_1 : decode jdk_31_method_11_code 1 = .ok (.ifnonnull 12, 3) := by decide +kernel
theorem d10_13 : decode jdk_31_method_11_code 13 = .ok (.aload_n 0, 1) := by decide +kernel
theorem d10_14 : decode jdk_31_method_11_code 14 = .ok (.areturn, 1) := by decide +kernel
theorem d11_0 : decode method_4_code 0 = .ok (.iload_n 0, 1) := by decide +kernel
theorem d11_1 : decode method_4_code 1 = .ok (.iconst 3, 1) := by decide +kernel
theorem d11_2 : decode method_4_code 2 = .ok (.iand, 1) := by decide +kernel
theorem d11_3 : decode method_4_code 3 = .ok (.istore_n 2, 1) := by decide +kernel
theorem d11_4 : decode method_4_code 4 = .ok (.iload_n 2, 1) := by decide +kernel
theorem d11_5 : decode method_4_code 5 = .ok (.iload_n 1, 1) := by decide +kernel
theorem d11_6 : decode method_4_code 6 = .ok (.iconst 3, 1) := by decide +kernel
theorem d11_7 : decode method_4_code 7 = .ok (.iand, 1) := by decide +kernel
theorem d11_8 : decode method_4_code 8 = .ok (.if_icmp .eq 5, 3) := by decide +kernel
theorem d11_11 : decode method_4_code 11 = .ok (.iconst 0, 1) := by decide +kernel
theorem d11_12 : decode method_4_code 12 = .ok (.ireturn, 1) := by decide +kernel
theorem d11_13 : decode method_4_code 13 = .ok (.iload_n 2, 1) := by decide +kernel
theorem d11_14 : decode method_4_code 14 = .ok (.iconst 1, 1) := by decide +kernel
theorem d11_15 : decode method_4_code 15 = .ok (.if_icmp .lt 18, 3) := by decide +kernel
theorem d11_18 : decode method_4_code 18 = .ok (.iload_n 0, 1) := by decide +kernel
theorem d11_19 : decode method_4_code 19 = .ok (.iconst 0, 1) := by decide +kernel
theorem d11_20 : decode method_4_code 20 = .ok (.invokestatic 7, 3) := by decide +kernel
theorem d11_23 : decode method_4_code 23 = .ok (.iload_n 1, 1) := by decide +kernel
theorem d11_24 : decode method_4_code 24 = .ok (.iconst 0, 1) := by decide +kernel
theorem d11_25 : decode method_4_code 25 = .ok (.invokestatic 7, 3) := by decide +kernel
theorem d11_28 : decode method_4_code 28 = .ok (.if_icmp .eq 5, 3) := by decide +kernel
theorem d11_31 : decode method_4_code 31 = .ok (.iconst 0, 1) := by decide +kernel
theorem d11_32 : decode method_4_code 32 = .ok (.ireturn, 1) := by decide +kernel
theorem d11_33 : decode method_4_code 33 = .ok (.iload_n 2, 1) := by decide +kernel
theorem d11_34 : decode method_4_code 34 = .ok (.iconst 2, 1) := by decide +kernel
theorem d11_35 : decode method_4_code 35 = .ok (.if_icmp .lt 18, 3) := by decide +kernel
theorem d11_38 : decode method_4_code 38 = .ok (.iload_n 0, 1) := by decide +kernel
theorem d11_39 : decode method_4_code 39 = .ok (.iconst 1, 1) := by decide +kernel
theorem d11_40 : decode method_4_code 40 = .ok (.invokestatic 7, 3) := by decide +kernel
theorem d11_43 : decode method_4_code 43 = .ok (.iload_n 1, 1) := by decide +kernel
theorem d11_44 : decode method_4_code 44 = .ok (.iconst 1, 1) := by decide +kernel
theorem d11_45 : decode method_4_code 45 = .ok (.invokestatic 7, 3) := by decide +kernel
theorem d11_48 : decode method_4_code 48 = .ok (.if_icmp .eq 5, 3) := by decide +kernel
theorem d11_51 : decode method_4_code 51 = .ok (.iconst 0, 1) := by decide +kernel
theorem d11_52 : decode method_4_code 52 = .ok (.ireturn, 1) := by decide +kernel
theorem d11_53 : decode method_4_code 53 = .ok (.iload_n 2, 1) := by decide +kernel
theorem d11_54 : decode method_4_code 54 = .ok (.iconst 3, 1) := by decide +kernel
theorem d11_55 : decode method_4_code 55 = .ok (.if_icmp .lt 18, 3) := by decide +kernel
theorem d11_58 : decode method_4_code 58 = .ok (.iload_n 0, 1) := by decide +kernel
theorem d11_59 : decode method_4_code 59 = .ok (.iconst 2, 1) := by decide +kernel
theorem d11_60 : decode method_4_code 60 = .ok (.invokestatic 7, 3) := by decide +kernel
theorem d11_63 : decode method_4_code 63 = .ok (.iload_n 1, 1) := by decide +kernel
theorem d11_64 : decode method_4_code 64 = .ok (.iconst 2, 1) := by decide +kernel
theorem d11_65 : decode method_4_code 65 = .ok (.invokestatic 7, 3) := by decide +kernel
theorem d11_68 : decode method_4_code 68 = .ok (.if_icmp .eq 5, 3) := by decide +kernel
theorem d11_71 : decode method_4_code 71 = .ok (.iconst 0, 1) := by decide +kernel
theorem d11_72 : decode method_4_code 72 = .ok (.ireturn, 1) := by decide +kernel
theorem d11_73 : decode method_4_code 73 = .ok (.iconst 1, 1) := by decide +kernel
theorem d11_74 : decode method_4_code 74 = .ok (.ireturn, 1) := by decide +kernel
theorem d12_0 : decode prog_39_method_6_code 0 = .ok (.aload_n 1, 1) := by decide +kernel
theorem d12_1 : decode prog_39_method_6_code 1 = .ok (.instanceof 18, 3) := by decide +kernel
theorem d12_4 : decode prog_39_method_6_code 4 = .ok (.ifCond .eq 51, 3) := by decide +kernel
theorem d12_7 : decode prog_39_method_6_code 7 = .ok (.aload_n 1, 1) := by decide +kernel
theorem d12_8 : decode prog_39_method_6_code 8 = .ok (.checkcast 18, 3) := by decide +kernel
theorem d12_11 : decode prog_39_method_6_code 11 = .ok (.astore_n 2, 1) := by decide +kernel
theorem d12_12 : decode prog_39_method_6_code 12 = .ok (.aload_n 2, 1) := by decide +kernel
theorem d12_13 : decode prog_39_method_6_code 13 = .ok (.getfield 17, 3) := by decide +kernel
theorem d12_16 : decode prog_39_method_6_code 16 = .ok (.aload_n 0, 1) := by decide +kernel
theorem d12_17 : decode prog_39_method_6_code 17 = .ok (.getfield 17, 3) := by decide +kernel
theorem d12_20 : decode prog_39_method_6_code 20 = .ok (.invokevirtual 45, 3) := by decide +kernel
theorem d12_23 : decode prog_39_method_6_code 23 = .ok (.ifCond .eq 32, 3) := by decide +kernel
theorem d12_26 : decode prog_39_method_6_code 26 = .ok (.aload_n 2, 1) := by decide +kernel
theorem d12_27 : decode prog_39_method_6_code 27 = .ok (.getfield 24, 3) := by decide +kernel
theorem d12_30 : decode prog_39_method_6_code 30 = .ok (.aload_n 0, 1) := by decide +kernel
theorem d12_31 : decode prog_39_method_6_code 31 = .ok (.getfield 24, 3) := by decide +kernel
theorem d12_34 : decode prog_39_method_6_code 34 = .ok (.invokevirtual 45, 3) := by decide +kernel
theorem d12_37 : decode prog_39_method_6_code 37 = .ok (.ifCond .eq 18, 3) := by decide +kernel
theorem d12_40 : decode prog_39_method_6_code 40 = .ok (.aload_n 2, 1) := by decide +kernel
theorem d12_41 : decode prog_39_method_6_code 41 = .ok (.getfield 35, 3) := by decide +kernel
theorem d12_44 : decode prog_39_method_6_code 44 = .ok (.aload_n 0, 1) := by decide +kernel
theorem d12_45 : decode prog_39_method_6_code 45 = .ok (.getfield 35, 3) := by decide +kernel
theorem d12_48 : decode prog_39_method_6_code 48 = .ok (.if_icmp .ne 7, 3) := by decide +kernel
theorem d12_51 : decode prog_39_method_6_code 51 = .ok (.iconst 1, 1) := by decide +kernel
theorem d12_52 : decode prog_39_method_6_code 52 = .ok (.goto 4, 3) := by decide +kernel
theorem d12_55 : decode prog_39_method_6_code 55 = .ok (.iconst 0, 1) := by decide +kernel
theorem d12_56 : decode prog_39_method_6_code 56 = .ok (.ireturn, 1) := by decide +kernel
theorem d13_0 : decode jdk_42_method_66_code 0 = .ok (.aload_n 0, 1) := by decide +kernel
theorem d13_1 : decode jdk_42_method_66_code 1 = .ok (.aload_n 1, 1) := by decide +kernel
theorem d13_2 : decode jdk_42_method_66_code 2 = .ok (.if_acmp .ne 5, 3) := by decide +kernel
theorem d13_5 : decode jdk_42_method_66_code 5 = .ok (.iconst 1, 1) := by decide +kernel
theorem d13_6 : decode jdk_42_method_66_code 6 = .ok (.ireturn, 1) := by decide +kernel
theorem d13_7 : decode jdk_42_method_66_code 7 = .ok (.aload_n 1, 1) := by decide +kernel
theorem d13_8 : decode jdk_42_method_66_code 8 = .ok (.instanceof 10, 3) := by decide +kernel
theorem d13_11 : decode jdk_42_method_66_code 11 = .ok (.ifCond .eq 43, 3) := by decide +kernel
theorem d13_14 : decode jdk_42_method_66_code 14 = .ok (.aload_n 1, 1) := by decide +kernel
theorem d13_15 : decode jdk_42_method_66_code 15 = .ok (.checkcast 10, 3) := by decide +kernel
theorem d13_18 : decode jdk_42_method_66_code 18 = .ok (.astore_n 2, 1) := by decide +kernel
theorem d13_19 : decode jdk_42_method_66_code 19 = .ok (.getstatic 38, 3) := by decide +kernel
theorem d13_22 : decode jdk_42_method_66_code 22 = .ok (.ifCond .eq 14, 3) := by decide +kernel
theorem d13_25 : decode jdk_42_method_66_code 25 = .ok (.aload_n 0, 1) := by decide +kernel
theorem d13_26 : decode jdk_42_method_66_code 26 = .ok (.getfield 15, 3) := by decide +kernel
theorem d13_29 : decode jdk_42_method_66_code 29 = .ok (.aload_n 2, 1) := by decide +kernel
theorem d13_30 : decode jdk_42_method_66_code 30 = .ok (.getfield 15, 3) := by decide +kernel
theorem d13_33 : decode jdk_42_method_66_code 33 = .ok (.if_icmp .ne 21, 3) := by decide +kernel
theorem d13_36 : decode jdk_42_method_66_code 36 = .ok (.aload_n 0, 1) := by decide +kernel
theorem d13_37 : decode jdk_42_method_66_code 37 = .ok (.getfield 9, 3) := by decide +kernel
theorem d13_40 : decode jdk_42_method_66_code 40 = .ok (.aload_n 2, 1) := by decide +kernel
theorem d13_41 : decode jdk_42_method_66_code 41 = .ok (.getfield 9, 3) := by decide +kernel
theorem d13_44 : decode jdk_42_method_66_code 44 = .ok (.invokestatic 541, 3) := by decide +kernel
theorem d13_47 : decode jdk_42_method_66_code 47 = .ok (.ifCond .eq 7, 3) := by decide +kernel
theorem d13_50 : decode jdk_42_method_66_code 50 = .ok (.iconst 1, 1) := by decide +kernel
theorem d13_51 : decode jdk_42_method_66_code 51 = .ok (.goto 4, 3) := by decide +kernel
theorem d13_54 : decode jdk_42_method_66_code 54 = .ok (.iconst 0, 1) := by decide +kernel
theorem d13_55 : decode jdk_42_method_66_code 55 = .ok (.ireturn, 1) := by decide +kernel
theorem d14_0 : decode jdk_43_method_13_code 0 = .ok (.aload_n 0, 1) := by decide +kernel
theorem d14_1 : decode jdk_43_method_13_code 1 = .ok (.arraylength, 1) := by decide +kernel
theorem d14_2 : decode jdk_43_method_13_code 2 = .ok (.aload_n 1, 1) := by decide +kernel
theorem d14_3 : decode jdk_43_method_13_code 3 = .ok (.arraylength, 1) := by decide +kernel
theorem d14_4 : decode jdk_43_method_13_code 4 = .ok (.if_icmp .ne 30, 3) := by decide +kernel
theorem d14_7 : decode jdk_43_method_13_code 7 = .ok (.iconst 0, 1) := by decide +kernel
theorem d14_8 : decode jdk_43_method_13_code 8 = .ok (.istore_n 2, 1) := by decide +kernel
theorem d14_9 : decode jdk_43_method_13_code 9 = .ok (.iload_n 2, 1) := by decide +kernel
theorem d14_10 : decode jdk_43_method_13_code 10 = .ok (.aload_n 0, 1) := by decide +kernel
theorem d14_11 : decode jdk_43_method_13_code 11 = .ok (.arraylength, 1) := by decide +kernel
theorem d14_12 : decode jdk_43_method_13_code 12 = .ok (.if_icmp .ge 20, 3) := by decide +kernel
theorem d14_15 : decode jdk_43_method_13_code 15 = .ok (.aload_n 0, 1) := by decide +kernel
theorem d14_16 : decode jdk_43_method_13_code 16 = .ok (.iload_n 2, 1) := by decide +kernel
theorem d14_17 : decode jdk_43_method_13_code 17 = .ok (.baload, 1) := by decide +kernel
theorem d14_18 : decode jdk_43_method_13_code 18 = .ok (.aload_n 1, 1) := by decide +kernel
theorem d14_19 : decode jdk_43_method_13_code 19 = .ok (.iload_n 2, 1) := by decide +kernel
theorem d14_20 : decode jdk_43_method_13_code 20 = .ok (.baload, 1) := by decide +kernel
theorem d14_21 : decode jdk_43_method_13_code 21 = .ok (.if_icmp .eq 5, 3) := by decide +kernel
theorem d14_24 : decode jdk_43_method_13_code 24 = .ok (.iconst 0, 1) := by decide +kernel
theorem d14_25 : decode jdk_43_method_13_code 25 = .ok (.ireturn, 1) := by decide +kernel
theorem d14_26 : decode jdk_43_method_13_code 26 = .ok (.iinc 2 1, 3) := by decide +kernel
theorem d14_29 : decode jdk_43_method_13_code 29 = .ok (.goto (-20), 3) := by decide +kernel
theorem d14_32 : decode jdk_43_method_13_code 32 = .ok (.iconst 1, 1) := by decide +kernel
theorem d14_33 : decode jdk_43_method_13_code 33 = .ok (.ireturn, 1) := by decide +kernel
theorem d14_34 : decode jdk_43_method_13_code 34 = .ok (.iconst 0, 1) := by decide +kernel
theorem d14_35 : decode jdk_43_method_13_code 35 = .ok (.ireturn, 1) := by decide +kernel
theorem d15_0 : decode jdk_33_method_22_code 0 = .ok (.iload_n 0, 1) := by decide +kernel
theorem d15_1 : decode jdk_33_method_22_code 1 = .ok (.bipush (-128), 2) := by decide +kernel
theorem d15_3 : decode jdk_33_method_22_code 3 = .ok (.if_icmp .lt 20, 3) := by decide +kernel
theorem d15_6 : decode jdk_33_method_22_code 6 = .ok (.iload_n 0, 1) := by decide +kernel
theorem d15_7 : decode jdk_33_method_22_code 7 = .ok (.getstatic 191, 3) := by decide +kernel
theorem d15_10 : decode jdk_33_method_22_code 10 = .ok (.if_icmp .gt 13, 3) := by decide +kernel
theorem d15_13 : decode jdk_33_method_22_code 13 = .ok (.getstatic 195, 3) := by decide +kernel
theorem d15_16 : decode jdk_33_method_22_code 16 = .ok (.iload_n 0, 1) := by decide +kernel
theorem d15_17 : decode jdk_33_method_22_code 17 = .ok (.sipush 128, 3) := by decide +kernel
theorem d15_20 : decode jdk_33_method_22_code 20 = .ok (.iadd, 1) := by decide +kernel
theorem d15_21 : decode jdk_33_method_22_code 21 = .ok (.aaload, 1) := by decide +kernel
theorem d15_22 : decode jdk_33_method_22_code 22 = .ok (.areturn, 1) := by decide +kernel
theorem d15_23 : decode jdk_33_method_22_code 23 = .ok (.new 1, 3) := by decide +kernel
theorem d15_26 : decode jdk_33_method_22_code 26 = .ok (.dup, 1) := by decide +kernel
theorem d15_27 : decode jdk_33_method_22_code 27 = .ok (.iload_n 0, 1) := by decide +kernel
theorem d15_28 : decode jdk_33_method_22_code 28 = .ok (.invokespecial 199, 3) := by decide +kernel
theorem d15_31 : decode jdk_33_method_22_code 31 = .ok (.areturn, 1) := by decide +kernel
theorem d16_0 : decode jdk_33_method_23_code 0 = .ok (.aload_n 0, 1) := by decide +kernel
theorem d16_1 : decode jdk_33_method_23_code 1 = .ok (.invokespecial 202, 3) := by decide +kernel
theorem d16_4 : decode jdk_33_method_23_code 4 = .ok (.aload_n 0, 1) := by decide +kernel
theorem d16_5 : decode jdk_33_method_23_code 5 = .ok (.iload_n 1, 1) := by decide +kernel
theorem d16_6 : decode jdk_33_method_23_code 6 = .ok (.putfield 205, 3) := by decide +kernel
theorem d16_9 : decode jdk_33_method_23_code 9 = .ok (.return_, 1) := by decide +kernel
theorem d17_0 : decode jdk_18_method_1_code 0 = .ok (.aload_n 0, 1) := by decide +kernel
theorem d17_1 : decode jdk_18_method_1_code 1 = .ok (.invokespecial 1, 3) := by decide +kernel
theorem d17_4 : decode jdk_18_method_1_code 4 = .ok (.return_, 1) := by decide +kernel
theorem pd_0 : parseMethodDescriptor "([CI[BII)I" = some ⟨[(.array (.char)), .int, (.array (.byte)), .int, .int], some (.int)⟩ := by decide +kernel
theorem pd_1 : parseMethodDescriptor "([CII)[B" = some ⟨[(.array (.char)), .int, .int], some ((.array (.byte)))⟩ := by decide +kernel
theorem pd_2 : parseMethodDescriptor "([BI)B" = some ⟨[(.array (.byte)), .int], some (.byte)⟩ := by decide +kernel
theorem pd_3 : parseMethodDescriptor "([CIILjava/lang/Void;)V" = some ⟨[(.array (.char)), .int, .int, .object "java/lang/Void"], none⟩ := by decide +kernel
theorem pd_4 : parseMethodDescriptor "(II)C" = some ⟨[.int, .int], some (.char)⟩ := by decide +kernel
theorem pd_5 : parseMethodDescriptor "([B[B)Z" = some ⟨[(.array (.byte)), (.array (.byte))], some (.boolean)⟩ := by decide +kernel
theorem pd_6 : parseMethodDescriptor "([C)V" = some ⟨[(.array (.char))], none⟩ := by decide +kernel
theorem pd_7 : parseMethodDescriptor "(Ljava/lang/Object;Ljava/lang/String;)Ljava/lang/Object;" = some ⟨[.object "java/lang/Object", .object "java/lang/String"], some (.object "java/lang/Object")⟩ := by decide +kernel
theorem pd_8 : parseMethodDescriptor "(Ljava/lang/Object;)Z" = some ⟨[.object "java/lang/Object"], some (.boolean)⟩ := by decide +kernel
theorem pd_9 : parseMethodDescriptor "()V" = some ⟨[], none⟩ := by decide +kernel
theorem pd_10 : parseMethodDescriptor "(I)V" = some ⟨[.int], none⟩ := by decide +kernel
theorem pd_11 : parseMethodDescriptor "(I)Ljava/lang/String;" = some ⟨[.int], some (.object "java/lang/String")⟩ := by decide +kernel
theorem pd_12 : parseMethodDescriptor "(Ljava/lang/String;Ljava/lang/String;I)V" = some ⟨[.object "java/lang/String", .object "java/lang/String", .int], none⟩ := by decide +kernel
theorem pd_13 : parseMethodDescriptor "(II)Z" = some ⟨[.int, .int], some (.boolean)⟩ := by decide +kernel
theorem pd_14 : parseMethodDescriptor "(I)Ljava/lang/Integer;" = some ⟨[.int], some (.object "java/lang/Integer")⟩ := by decide +kernel
theorem pq0 : plainName "java/lang/StringUTF16" = true := by first | (simp [plainName, overriddenIn]; done) | decide +kernel
theorem eq0f (m : MethodId) (x0 : Addr) (x1 : Int32) : entryFrame m #[(.ref x0), (.int x1)] 2 = mkF m 0 #[.val (.ref x0), .val (.int x1)] [] := by first | (simp [entryFrame, mkF, argsToLocals, Value.category, maxLocals]; done) | rfl
set_option maxRecDepth 65536 in
set_option maxHeartbeats 40000000 in
theorem rmCAL (l : Launch) (Z : State) (a0 : Array Value) (hw : ∀ d ∈ tables_1, d.before a0 Z = true) (z0 : Int32) (hz0 : ¬ z0 = (0 : Int32)) (Sz0 : Sta Z Z.heap "java/lang/String" "COMPACT_STRINGS" "Z" (.int z0)) (fm : Value) (hfm : fm.isRef = true) (Sfm : Sta Z Z.heap "jdk/internal/util/Preconditions" "SIOOBE_FORMATTER" "Ljava/util/function/BiFunction;" fm) (q : Addr) (p2 : Int32) (kq : ClassId) (vs : List Value) (h0 : Heap) (n0 : Nat) (O0 : Oln Z n0 h0) (qA : Arv Z h0 q kq .byte p2 vs (.int 0)) :
    OCon l Z (⟨"java/lang/StringUTF16", "coderFromArrayLen", "([BI)B"⟩ : MethodName) jdk_52_method_15_code 2 (some (.byte)) [] ({ frames := 0, cells := 0, slots := 0, locals := 0 } : Room) #[(.ref q), (.int p2)] h0 (fun v h L => v = some (.int (0 : Int32)) ∧ h = h0 ∧ Fr n0 L) := by
  refine con (plainFor_of_name pq0) ?_
  intro p e s m below meth c s₁ hx hby hml hZ hown hnm hret hlk X0 e0
  refine entry (eq0f m q p2) ?_
  have M0 := Fr.nil n0
  obtain ⟨scb, sAb, shk, sSz, shz, sHb, sGb⟩ := qA
  refine s_iloadN X0 hx hby (n := 1) (x := p2) d8_0 rfl rfl ?_
  refine s_aloadN X0 hx hby (n := 2) (x := (.ref q)) d8_1 rfl rfl rfl ?_
  refine s_arraylength X0 hx hby hZ (n := 3) e0 sAb (z := p2) sSz shz d8_2 rfl ?_
  refine s_isub X0 hx hby (n := 4) d8_3 rfl ?_
  refine s_fold (z := (0 : Int32)) (Int32.sub_self _) ?_
  refine s_bipush X0 hx hby (n := 6) (v := (31 : Int32)) d8_4 rfl rfl ?_
  refine s_iushr X0 hx hby (n := 7) d8_6 rfl ?_
  refine s_fold (z := (0 : Int32)) (by decide) ?_
  refine s_i2b X0 hx hby (n := 8) d8_7 rfl ?_
  refine s_fold (z := (0 : Int32)) (by decide) ?_
  exact s_retN X0 hx hby hlk hret (t := .byte) (by simp) (z' := (0 : Int32)) (by decide) d8_8 (by decide) (by decide) ⟨rfl, e0, M0⟩
theorem eq1f (m : MethodId) (x0 : Addr) (x1 : Int32) (x2 : Addr) (x3 : Int32) (x4 : Int32) : entryFrame m #[(.ref x0), (.int x1), (.ref x2), (.int x3), (.int x4)] 7 = mkF m 0 #[.val (.ref x0), .val (.int x1), .val (.ref x2), .val (.int x3), .val (.int x4), .unset, .unset] [] := by first | (simp [entryFrame, mkF, argsToLocals, Value.category, maxLocals]; done) | rfl
set_option maxRecDepth 65536 in
set_option maxHeartbeats 40000000 in
theorem rmC5_1 (l : Launch) (Z : State) (a0 : Array Value) (hw : ∀ d ∈ tables_1, d.before a0 Z = true) (z0 : Int32) (hz0 : ¬ z0 = (0 : Int32)) (Sz0 : Sta Z Z.heap "java/lang/String" "COMPACT_STRINGS" "Z" (.int z0)) (fm : Value) (hfm : fm.isRef = true) (Sfm : Sta Z Z.heap "jdk/internal/util/Preconditions" "SIOOBE_FORMATTER" "Ljava/util/function/BiFunction;" fm) (ch q : Addr) (kc kq : ClassId) (x0 : Int32) (l0 : ¬ (255 : Int32) < x0) (h0 : Heap) (n0 : Nat) (O0 : Oln Z n0 h0) (cA : Arv Z h0 ch kc .char (1 : Int32) [.int x0] (.int 0)) (qA : Arv Z h0 q kq .byte (1 : Int32) (List.replicate 1 (.int 0)) (.int 0)) (nec : ch ≠ q) (n_q : n0 ≤ q) :
    OCon l Z (⟨"java/lang/StringUTF16", "compress", "([CI[BII)I"⟩ : MethodName) jdk_52_method_21_code 7 (some (.int)) [] ({ frames := 0, cells := 0, slots := 0, locals := 0 } : Room) #[(.ref ch), (.int (0 : Int32)), (.ref q), (.int (0 : Int32)), (.int (1 : Int32))] h0 (fun v h L => v = some (.int (1 : Int32)) ∧ Fr n0 L ∧ Keep h0 h [q] ∧ ∃ bs, bs = [bt x0] ∧ Bys Z h q bs) := by
  refine con (plainFor_of_name pq0) ?_
  intro p e s m below meth c s₁ hx hby hml hZ hown hnm hret hlk X0 e0
  refine entry (eq1f m ch (0 : Int32) q (0 : Int32) (1 : Int32)) ?_
  have M0 := Fr.nil n0
  have K0 := Keep.refl h0 [q]
  refine s_iconst X0 hx hby (n := 1) (v := (0 : Int32)) d7_0 rfl rfl ?_
  refine s_istore X0 hx hby (n := 3) (L' := #[.val (.ref ch), .val (.int (0 : Int32)), .val (.ref q), .val (.int (0 : Int32)), .val (.int (1 : Int32)), .val (.int (0 : Int32)), .unset]) d7_1 rfl rfl ?_
  refine s_iload X0 hx hby (n := 5) (x := (0 : Int32)) d7_3 rfl rfl ?_
  refine s_iload X0 hx hby (n := 7) (x := (1 : Int32)) d7_5 rfl rfl ?_
  refine s_icmpN X0 hx hby (n := 10) d7_7 (by decide) rfl ?_
  refine s_aloadN X0 hx hby (n := 11) (x := (.ref ch)) d7_10 rfl rfl rfl ?_
  refine s_iloadN X0 hx hby (n := 12) (x := (0 : Int32)) d7_11 rfl rfl ?_
  obtain ⟨cl1, Ar1, hk1, Sz1, hz1, Hb1, Gb1⟩ := id cA
  refine s_caloadC X0 hx hby hZ (n := 13) e0 Ar1 0 (by decide) (by decide) (by rw [Sz1]; decide) (v := .int x0) (Hb1 0 (by rw [Sz1]; decide)) d7_12 rfl ?_
  refine s_istore X0 hx hby (n := 15) (L' := #[.val (.ref ch), .val (.int (0 : Int32)), .val (.ref q), .val (.int (0 : Int32)), .val (.int (1 : Int32)), .val (.int (0 : Int32)), .val (.int x0)]) d7_13 rfl rfl ?_
  refine s_iload X0 hx hby (n := 17) (x := x0) d7_15 rfl rfl ?_
  refine s_sipush X0 hx hby (n := 20) (v := (255 : Int32)) d7_17 rfl rfl ?_
  refine s_icmpY X0 hx hby (n := 26) d7_20 (XT.ii_le_t l0) (by decide) (by decide) ?_
  refine s_aloadN X0 hx hby (n := 27) (x := (.ref q)) d7_26 rfl rfl rfl ?_
  refine s_iloadN X0 hx hby (n := 28) (x := (0 : Int32)) d7_27 rfl rfl ?_
  refine s_iload X0 hx hby (n := 30) (x := x0) d7_28 rfl rfl ?_
  refine s_i2b X0 hx hby (n := 31) d7_30 rfl ?_
  obtain ⟨cl2, Ar2, hk2, Sz2, hz2, Hb2, Gb2⟩ := id qA
  refine s_bastoreC X0 hx hby hZ (n := 32) e0 Ar2 0 (by decide) (by decide) (by rw [Sz2]; decide) d7_31 rfl ?_
  intro T2 h2 X2 e2 W2
  have V2 := Arv.set (j := (0 : Int32)) Ar2 hk2 Sz2 hz2 Hb2 Gb2 (fits_nar_byte _) W2 0 rfl (by simp)
  have M2 := Fr.snoc X2 M0 n_q
  have K2 := Keep.wr K0 W2 (Or.inl (List.mem_of_getElem? (i := 0) rfl))
  have OO2 := O0.wr W2 n_q
  have C2 := cA.other W2 nec
  refine s_iincC X2 hx hby (n := 35) (v := (1 : Int32)) (x := (0 : Int32)) (z := (1 : Int32)) (L' := #[.val (.ref ch), .val (.int (1 : Int32)), .val (.ref q), .val (.int (0 : Int32)), .val (.int (1 : Int32)), .val (.int (0 : Int32)), .val (.int x0)]) d7_32 rfl rfl (by decide) rfl rfl ?_
  refine s_iincC X2 hx hby (n := 38) (v := (1 : Int32)) (x := (0 : Int32)) (z := (1 : Int32)) (L' := #[.val (.ref ch), .val (.int (1 : Int32)), .val (.ref q), .val (.int (1 : Int32)), .val (.int (1 : Int32)), .val (.int (0 : Int32)), .val (.int x0)]) d7_35 rfl rfl (by decide) rfl rfl ?_
  refine s_iincC X2 hx hby (n := 41) (v := (1 : Int32)) (x := (0 : Int32)) (z := (1 : Int32)) (L' := #[.val (.ref ch), .val (.int (1 : Int32)), .val (.ref q), .val (.int (1 : Int32)), .val (.int (1 : Int32)), .val (.int (1 : Int32)), .val (.int x0)]) d7_38 rfl rfl (by decide) rfl rfl ?_
  refine s_goto X2 hx hby (n := 3) d7_41 (by decide) (by decide) ?_
  refine s_iload X2 hx hby (n := 5) (x := (1 : Int32)) d7_3 rfl rfl ?_
  refine s_iload X2 hx hby (n := 7) (x := (1 : Int32)) d7_5 rfl rfl ?_
  refine s_icmpY X2 hx hby (n := 44) d7_7 (by decide) (by decide) (by decide) ?_
  refine s_iload X2 hx hby (n := 46) (x := (1 : Int32)) d7_44 rfl rfl ?_
  exact s_retI X2 hx hby hlk hret d7_46 (by decide) (by decide) (by rw [e2]; exact ⟨rfl, M2, K2, [bt x0], rfl, ⟨by simp, _, V2⟩⟩)
theorem eq2f (m : MethodId) (x0 : Addr) (x1 : Int32) (x2 : Int32) : entryFrame m #[(.ref x0), (.int x1), (.int x2)] 6 = mkF m 0 #[.val (.ref x0), .val (.int x1), .val (.int x2), .unset, .unset, .unset] [] := by first | (simp [entryFrame, mkF, argsToLocals, Value.category, maxLocals]; done) | rfl
set_option maxRecDepth 65536 in
set_option maxHeartbeats 40000000 in
theorem rmC3_1 (l : Launch) (Z : State) (a0 : Array Value) (hw : ∀ d ∈ tables_1, d.before a0 Z = true) (z0 : Int32) (hz0 : ¬ z0 = (0 : Int32)) (Sz0 : Sta Z Z.heap "java/lang/String" "COMPACT_STRINGS" "Z" (.int z0)) (fm : Value) (hfm : fm.isRef = true) (Sfm : Sta Z Z.heap "jdk/internal/util/Preconditions" "SIOOBE_FORMATTER" "Ljava/util/function/BiFunction;" fm) (ch : Addr) (kc : ClassId) (x0 : Int32) (l0 : ¬ (255 : Int32) < x0) (h0 : Heap) (n0 : Nat) (O0 : Oln Z n0 h0) (cA : Arv Z h0 ch kc .char (1 : Int32) [.int x0] (.int 0)) :
    OCon l Z (⟨"java/lang/StringUTF16", "compress", "([CII)[B"⟩ : MethodName) jdk_52_method_16_code 6 (some ((.array (.byte)))) [] ({ frames := 1, cells := 1, slots := 1, locals := 18 } : Room) #[(.ref ch), (.int (0 : Int32)), (.int (1 : Int32))] h0 (fun v h L => ∃ q bs, v = some (.ref q) ∧ bs = [bt x0] ∧ Fr n0 L ∧ Keep h0 h [] ∧ Bys Z h q bs) := by
  refine con (plainFor_of_name pq0) ?_
  intro p e s m below meth c s₁ hx hby hml hZ hown hnm hret hlk X0 e0
  refine entry (eq2f m ch (0 : Int32) (1 : Int32)) ?_
  have M0 := Fr.nil n0
  have K0 := Keep.refl h0 []
  refine s_iloadN X0 hx hby (n := 1) (x := (1 : Int32)) d6_0 rfl rfl ?_
  refine s_newP X0 hx hby hZ (n := 3) (hw _ (List.mem_of_getElem? (i := 26) rfl)) (ty := .byte) rfl e0 (num := (1 : Int32)) (by decide) 1 (by decide) (by decide) (by decide) (by decide) d6_1 rfl ?_
  intro T1 h1 cq q gq X1 e1 Q1 A1
  have n_q : n0 ≤ q := by rw [gq]; exact Oln.le O0
  have V1_q := Arv.new A1 (by decide)
  have K1 := K0.ext Q1
  have OO1 := O0.ext Q1
  have V1 : Arv Z h1 q cq .byte (1 : Int32) (List.replicate 1 (.int 0)) (.int 0) := Arv.pad V1_q (pad_rep [] _ 1)
  have nec : ch ≠ q := by rw [gq]; exact Nat.ne_of_lt cA.lt
  have cA2 := cA.ext Q1
  refine s_astoreN X1 hx hby (n := 4) (L' := #[.val (.ref ch), .val (.int (0 : Int32)), .val (.int (1 : Int32)), .val (.ref q), .unset, .unset]) d6_3 rfl rfl rfl ?_
  refine s_aloadN X1 hx hby (n := 5) (x := (.ref ch)) d6_4 rfl rfl rfl ?_
  refine s_iloadN X1 hx hby (n := 6) (x := (0 : Int32)) d6_5 rfl rfl ?_
  refine s_aloadN X1 hx hby (n := 7) (x := (.ref q)) d6_6 rfl rfl rfl ?_
  refine s_iconst X1 hx hby (n := 8) (v := (0 : Int32)) d6_7 rfl rfl ?_
  refine s_iloadN X1 hx hby (n := 9) (x := (1 : Int32)) d6_8 rfl rfl ?_
  refine s_callS X1 hx hby hml hZ (n := 12) hown (hw _ (List.mem_of_getElem? (i := 38) rfl)) (hw _ (List.mem_of_getElem? (i := 39) rfl)) (hw _ (List.mem_of_getElem? (i := 36) rfl)) (hw _ (List.mem_of_getElem? (i := 40) rfl)) (by decide) (rmC5_1 l Z a0 hw z0 hz0 Sz0 fm hfm Sfm ch q kc cq x0 l0 h1 n0 OO1 cA2 V1 nec n_q) e1 (by decide) 0 (by decide) (by decide) (by decide) pd_0 [(.ref ch), (.int (0 : Int32)), (.ref q), (.int (0 : Int32)), (.int (1 : Int32))] [] rfl rfl rfl (Nat.le_of_eq rfl) rfl d6_9 rfl ?_
  intro T2 L2 v2 X2 q2c
  obtain ⟨rfl, N2, K2, bs, hbs, B2⟩ := q2c
  show OE p e below _ T2 (mkF m 12 #[.val (.ref ch), .val (.int (0 : Int32)), .val (.int (1 : Int32)), .val (.ref q), .unset, .unset] [(.int (1 : Int32))])
  have KK2 := K1.trans K2 (allS (Or.inr (by rw [gq]; exact Nat.le_refl _)) all0)
  have M2 := Fr.app M0 N2
  refine s_istore X2 hx hby (n := 14) (L' := #[.val (.ref ch), .val (.int (0 : Int32)), .val (.int (1 : Int32)), .val (.ref q), .val (.int (1 : Int32)), .unset]) d6_12 rfl rfl ?_
  refine s_iload X2 hx hby (n := 16) (x := (1 : Int32)) d6_14 rfl rfl ?_
  refine s_iloadN X2 hx hby (n := 17) (x := (1 : Int32)) d6_16 rfl rfl ?_
  refine s_icmpY X2 hx hby (n := 57) d6_17 (by decide) (by decide) (by decide) ?_
  refine s_aloadN X2 hx hby (n := 58) (x := (.ref q)) d6_57 rfl rfl rfl ?_
  exact s_retA X2 hx hby hlk hret rfl rfl d6_58 (by decide) (by decide) ⟨q, bs, rfl, hbs, M2, KK2, B2⟩
theorem pq1 : plainName "java/lang/String" = true := by first | (simp [plainName, overriddenIn]; done) | decide +kernel
theorem eq3f (m : MethodId) (x0 : Addr) (x1 : Addr) (x2 : Int32) (x3 : Int32) : entryFrame m #[(.ref x0), (.ref x1), (.int x2), (.int x3), .null] 6 = mkF m 0 #[.val (.ref x0), .val (.ref x1), .val (.int x2), .val (.int x3), .val .null, .unset] [] := by first | (simp [entryFrame, mkF, argsToLocals, Value.category, maxLocals]; done) | rfl
set_option maxRecDepth 65536 in
set_option maxHeartbeats 40000000 in
theorem rmSV_1 (l : Launch) (Z : State) (a0 : Array Value) (hw : ∀ d ∈ tables_1, d.before a0 Z = true) (z0 : Int32) (hz0 : ¬ z0 = (0 : Int32)) (Sz0 : Sta Z Z.heap "java/lang/String" "COMPACT_STRINGS" "Z" (.int z0)) (fm : Value) (hfm : fm.isRef = true) (Sfm : Sta Z Z.heap "jdk/internal/util/Preconditions" "SIOOBE_FORMATTER" "Ljava/util/function/BiFunction;" fm) (r ch : Addr) (kc : ClassId) (x0 : Int32) (l0 : ¬ (255 : Int32) < x0) (h0 : Heap) (n0 : Nat) (O0 : Oln Z n0 h0) (cA : Arv Z h0 ch kc .char (1 : Int32) [.int x0] (.int 0)) (n_r : n0 ≤ r) (E0 : Exa Z h0 r "java/lang/String") (F0v : Fld Z h0 r "java/lang/String" "value" "[B" .null) (F0c : Fld Z h0 r "java/lang/String" "coder" "B" (.int (0 : Int32))) :
    OCon l Z (⟨"java/lang/String", "<init>", "([CIILjava/lang/Void;)V"⟩ : MethodName) jdk_42_method_149_code 6 (none) [] ({ frames := 2, cells := 1, slots := 1, locals := 35 } : Room) #[(.ref r), (.ref ch), (.int (0 : Int32)), (.int (1 : Int32)), .null] h0 (fun v h L => v = none ∧ Fr n0 L ∧ Keep h0 h [r] ∧ ∃ bs, bs = [bt x0] ∧ Str Z h r bs) := by
  refine con (plainFor_of_name pq1) ?_
  intro p e s m below meth c s₁ hx hby hml hZ hown hnm hret hlk X0 e0
  refine entry (eq3f m r ch (0 : Int32) (1 : Int32)) ?_
  have M0 := Fr.nil n0
  have K0 := Keep.refl h0 [r]
  refine s_aloadN X0 hx hby (n := 1) (x := (.ref r)) d4_0 rfl rfl rfl ?_
  refine s_initO X0 hx hby hml hZ (n := 4) hown (hw _ (List.mem_of_getElem? (i := 22) rfl)) (hw _ (List.mem_of_getElem? (i := 23) rfl)) (hw _ (List.mem_of_getElem? (i := 24) rfl)) e0 (by decide) 0 (Nat.le_of_eq rfl) (by decide) rfl d4_1 rfl ?_
  intro T1 X1 e1
  refine s_iloadN X1 hx hby (n := 5) (x := (1 : Int32)) d4_4 rfl rfl ?_
  refine s_ifY X1 hx hby (n := 27) d4_5 (by decide) (by decide) (by decide) ?_
  refine s_getS X1 hx hby hZ (n := 30) hown (hw _ (List.mem_of_getElem? (i := 33) rfl)) e1 (Sz0.ext O0.2) d4_27 rfl ?_
  intro T2 X2 e2
  refine s_ifN X2 hx hby (n := 33) d4_30 (XT.i0_eq_f hz0) rfl ?_
  refine s_aloadN X2 hx hby (n := 34) (x := (.ref ch)) d4_33 rfl rfl rfl ?_
  refine s_iloadN X2 hx hby (n := 35) (x := (0 : Int32)) d4_34 rfl rfl ?_
  refine s_iloadN X2 hx hby (n := 36) (x := (1 : Int32)) d4_35 rfl rfl ?_
  refine s_callS X2 hx hby hml hZ (n := 39) hown (hw _ (List.mem_of_getElem? (i := 34) rfl)) (hw _ (List.mem_of_getElem? (i := 35) rfl)) (hw _ (List.mem_of_getElem? (i := 36) rfl)) (hw _ (List.mem_of_getElem? (i := 37) rfl)) (by decide) (rmC3_1 l Z a0 hw z0 hz0 Sz0 fm hfm Sfm ch kc x0 l0 h0 n0 O0 cA) e2 (by decide) 0 (by decide) (by decide) (by decide) pd_1 [(.ref ch), (.int (0 : Int32)), (.int (1 : Int32))] [] rfl rfl rfl (Nat.le_of_eq rfl) rfl d4_36 rfl ?_
  intro T3 L3 v3 X3 q3c
  obtain ⟨q, bs, rfl, hbs, N3, K3, B3⟩ := q3c
  show OE p e below _ T3 (mkF m 39 #[.val (.ref r), .val (.ref ch), .val (.int (0 : Int32)), .val (.int (1 : Int32)), .val .null, .unset] [(.ref q)])
  have E3 := E0.keep K3
  have F3_value := F0v.keep K3 nin0
  have F3_coder := F0c.keep K3 nin0
  have KK3 := K0.trans K3 all0
  have OO3 := O0.keep K3 all0
  have M3 := Fr.app M0 N3
  obtain ⟨qlt, kq, qA⟩ := id B3
  have ne3 : q ≠ r := (arv_exa E3 (hw _ (List.mem_of_getElem? (i := 12) rfl)) qA).symm
  have qA0 := qA
  rw [hbs] at qA0
  refine s_astore X3 hx hby (n := 41) (L' := #[.val (.ref r), .val (.ref ch), .val (.int (0 : Int32)), .val (.int (1 : Int32)), .val .null, .val (.ref q)]) d4_39 rfl rfl rfl ?_
  refine s_aloadN X3 hx hby (n := 42) (x := (.ref r)) d4_41 rfl rfl rfl ?_
  refine s_aload X3 hx hby (n := 44) (x := (.ref q)) d4_42 rfl rfl rfl ?_
  refine s_iloadN X3 hx hby (n := 45) (x := (1 : Int32)) d4_44 rfl rfl ?_
  refine s_callS X3 hx hby hml hZ (n := 48) hown (hw _ (List.mem_of_getElem? (i := 41) rfl)) (hw _ (List.mem_of_getElem? (i := 42) rfl)) (hw _ (List.mem_of_getElem? (i := 36) rfl)) (hw _ (List.mem_of_getElem? (i := 43) rfl)) (by decide) (rmCAL l Z a0 hw z0 hz0 Sz0 fm hfm Sfm q (1 : Int32) kq _ T3.heap n0 OO3 qA0) rfl (by decide) 1 (by decide) (by decide) (by decide) pd_2 [(.ref q), (.int (1 : Int32))] [(.ref r)] rfl rfl rfl (Nat.le_of_eq rfl) rfl d4_45 rfl ?_
  intro T4 L4 v4 X4 q4c
  obtain ⟨rfl, e4, N4⟩ := q4c
  show OE p e below _ T4 (mkF m 48 #[.val (.ref r), .val (.ref ch), .val (.int (0 : Int32)), .val (.int (1 : Int32)), .val .null, .val (.ref q)] [(.int (0 : Int32)), (.ref r)])
  have M4 := Fr.app M3 N4
  refine s_putF X4 hx hby hZ (n := 51) hown (hw _ (List.mem_of_getElem? (i := 32) rfl)) e4 F3_coder E3 (Or.inr ⟨(hw _ (List.mem_of_getElem? (i := 28) rfl)), rfl, hnm⟩) (hw _ (List.mem_of_getElem? (i := 12) rfl)) (ty := .byte) (by decide) rfl rfl d4_48 rfl ?_
  intro T5 h5 X5 e5 W5
  have E5_r := E3.wr W5
  have F5_r_value := Fld.other W5 F3_value (Or.inr (slot_ne (Or.inr (hw _ (List.mem_of_getElem? (i := 27) rfl))) (Or.inr (hw _ (List.mem_of_getElem? (i := 28) rfl))) (by decide) (t := (.array (.byte))) (t' := .byte) (by decide) (by decide)))
  have F5_r_coder := Fld.same W5 F3_coder
  have M5 := Fr.snoc X5 M4 n_r
  have K5 := Keep.wr KK3 W5 (Or.inl (List.mem_of_getElem? (i := 0) rfl))
  have qA5 := qA.other W5 ne3
  refine s_aloadN X5 hx hby (n := 52) (x := (.ref r)) d4_51 rfl rfl rfl ?_
  refine s_aload X5 hx hby (n := 54) (x := (.ref q)) d4_52 rfl rfl rfl ?_
  refine s_putF X5 hx hby hZ (n := 57) hown (hw _ (List.mem_of_getElem? (i := 31) rfl)) e5 F5_r_value E5_r (Or.inr ⟨(hw _ (List.mem_of_getElem? (i := 27) rfl)), rfl, hnm⟩) (hw _ (List.mem_of_getElem? (i := 12) rfl)) (ty := (.array (.byte))) (by decide) rfl rfl d4_54 rfl ?_
  intro T6 h6 X6 e6 W6
  have E6_r := E5_r.wr W6
  have F6_r_value := Fld.same W6 F5_r_value
  have F6_r_coder := Fld.other W6 F5_r_coder (Or.inr (slot_ne (Or.inr (hw _ (List.mem_of_getElem? (i := 28) rfl))) (Or.inr (hw _ (List.mem_of_getElem? (i := 27) rfl))) (by decide) (t := .byte) (t' := (.array (.byte))) (by decide) (by decide)))
  have M6 := Fr.snoc X6 M5 n_r
  have K6 := Keep.wr K5 W6 (Or.inl (List.mem_of_getElem? (i := 0) rfl))
  have qA6 := qA5.other W6 ne3
  exact s_ret X6 hx hby hlk hret d4_57 (by decide) (by decide) (by rw [e6]; exact ⟨rfl, M6, K6, bs, hbs, E6_r, F6_r_coder, q, F6_r_value, qlt, _, qA6⟩)
theorem eq4f (m : MethodId) (x0 : Addr) (x1 : Addr) : entryFrame m #[(.ref x0), (.ref x1)] 2 = mkF m 0 #[.val (.ref x0), .val (.ref x1)] [] := by first | (simp [entryFrame, mkF, argsToLocals, Value.category, maxLocals]; done) | rfl
set_option maxRecDepth 65536 in
set_option maxHeartbeats 40000000 in
theorem rmSC_1 (l : Launch) (Z : State) (a0 : Array Value) (hw : ∀ d ∈ tables_1, d.before a0 Z = true) (z0 : Int32) (hz0 : ¬ z0 = (0 : Int32)) (Sz0 : Sta Z Z.heap "java/lang/String" "COMPACT_STRINGS" "Z" (.int z0)) (fm : Value) (hfm : fm.isRef = true) (Sfm : Sta Z Z.heap "jdk/internal/util/Preconditions" "SIOOBE_FORMATTER" "Ljava/util/function/BiFunction;" fm) (r ch : Addr) (kc : ClassId) (x0 : Int32) (l0 : ¬ (255 : Int32) < x0) (h0 : Heap) (n0 : Nat) (O0 : Oln Z n0 h0) (cA : Arv Z h0 ch kc .char (1 : Int32) [.int x0] (.int 0)) (n_r : n0 ≤ r) (E0 : Exa Z h0 r "java/lang/String") (F0v : Fld Z h0 r "java/lang/String" "value" "[B" .null) (F0c : Fld Z h0 r "java/lang/String" "coder" "B" (.int (0 : Int32))) :
    OCon l Z (⟨"java/lang/String", "<init>", "([C)V"⟩ : MethodName) jdk_42_method_3_code 2 (none) [] ({ frames := 3, cells := 1, slots := 1, locals := 52 } : Room) #[(.ref r), (.ref ch)] h0 (fun v h L => v = none ∧ Fr n0 L ∧ Keep h0 h [r] ∧ ∃ bs, bs = [bt x0] ∧ Str Z h r bs) := by
  refine con (plainFor_of_name pq1) ?_
  intro p e s m below meth c s₁ hx hby hml hZ hown hnm hret hlk X0 e0
  refine entry (eq4f m r ch) ?_
  have M0 := Fr.nil n0
  obtain ⟨scb, sAb, shk, sSz, shz, sHb, sGb⟩ := id cA
  refine s_aloadN X0 hx hby (n := 1) (x := (.ref r)) d3_0 rfl rfl rfl ?_
  refine s_aloadN X0 hx hby (n := 2) (x := (.ref ch)) d3_1 rfl rfl rfl ?_
  refine s_iconst X0 hx hby (n := 3) (v := (0 : Int32)) d3_2 rfl rfl ?_
  refine s_aloadN X0 hx hby (n := 4) (x := (.ref ch)) d3_3 rfl rfl rfl ?_
  refine s_arraylength X0 hx hby hZ (n := 5) e0 sAb (z := (1 : Int32)) sSz shz d3_4 rfl ?_
  refine s_aconstNull X0 hx hby (n := 6) d3_5 rfl ?_
  refine s_callI X0 hx hby hml hZ (n := 9) rfl hown (hw _ (List.mem_of_getElem? (i := 18) rfl)) (hw _ (List.mem_of_getElem? (i := 19) rfl)) (hw _ (List.mem_of_getElem? (i := 13) rfl)) (hw _ (List.mem_of_getElem? (i := 21) rfl)) (by decide) (rmSV_1 l Z a0 hw z0 hz0 Sz0 fm hfm Sfm r ch kc x0 l0 h0 n0 O0 cA n_r E0 F0v F0c) e0 (by decide) 0 (by decide) (by decide) (by decide) pd_3 r [(.ref ch), (.int (0 : Int32)), (.int (1 : Int32)), .null] [] rfl rfl rfl (Nat.le_of_eq rfl) rfl d3_6 rfl ?_
  intro T1 L1 v1 X1 q1c
  obtain ⟨rfl, N1, K1, S1⟩ := q1c
  show OE p e below _ T1 (mkF m 9 #[.val (.ref r), .val (.ref ch)] [])
  have M1 := Fr.app M0 N1
  exact s_ret X1 hx hby hlk hret d3_9 (by decide) (by decide) ⟨rfl, M1, K1, S1⟩
set_option maxRecDepth 65536 in
set_option maxHeartbeats 40000000 in
theorem rmC5_2 (l : Launch) (Z : State) (a0 : Array Value) (hw : ∀ d ∈ tables_1, d.before a0 Z = true) (z0 : Int32) (hz0 : ¬ z0 = (0 : Int32)) (Sz0 : Sta Z Z.heap "java/lang/String" "COMPACT_STRINGS" "Z" (.int z0)) (fm : Value) (hfm : fm.isRef = true) (Sfm : Sta Z Z.heap "jdk/internal/util/Preconditions" "SIOOBE_FORMATTER" "Ljava/util/function/BiFunction;" fm) (ch q : Addr) (kc kq : ClassId) (x0 x1 : Int32) (l0 : ¬ (255 : Int32) < x0) (l1 : ¬ (255 : Int32) < x1) (h0 : Heap) (n0 : Nat) (O0 : Oln Z n0 h0) (cA : Arv Z h0 ch kc .char (2 : Int32) [.int x0, .int x1] (.int 0)) (qA : Arv Z h0 q kq .byte (2 : Int32) (List.replicate 2 (.int 0)) (.int 0)) (nec : ch ≠ q) (n_q : n0 ≤ q) :
    OCon l Z (⟨"java/lang/StringUTF16", "compress", "([CI[BII)I"⟩ : MethodName) jdk_52_method_21_code 7 (some (.int)) [] ({ frames := 0, cells := 0, slots := 0, locals := 0 } : Room) #[(.ref ch), (.int (0 : Int32)), (.ref q), (.int (0 : Int32)), (.int (2 : Int32))] h0 (fun v h L => v = some (.int (2 : Int32)) ∧ Fr n0 L ∧ Keep h0 h [q] ∧ ∃ bs, bs = [bt x0, bt x1] ∧ Bys Z h q bs) := by
  refine con (plainFor_of_name pq0) ?_
  intro p e s m below meth c s₁ hx hby hml hZ hown hnm hret hlk X0 e0
  refine entry (eq1f m ch (0 : Int32) q (0 : Int32) (2 : Int32)) ?_
  have M0 := Fr.nil n0
  have K0 := Keep.refl h0 [q]
  refine s_iconst X0 hx hby (n := 1) (v := (0 : Int32)) d7_0 rfl rfl ?_
  refine s_istore X0 hx hby (n := 3) (L' := #[.val (.ref ch), .val (.int (0 : Int32)), .val (.ref q), .val (.int (0 : Int32)), .val (.int (2 : Int32)), .val (.int (0 : Int32)), .unset]) d7_1 rfl rfl ?_
  refine s_iload X0 hx hby (n := 5) (x := (0 : Int32)) d7_3 rfl rfl ?_
  refine s_iload X0 hx hby (n := 7) (x := (2 : Int32)) d7_5 rfl rfl ?_
  refine s_icmpN X0 hx hby (n := 10) d7_7 (by decide) rfl ?_
  refine s_aloadN X0 hx hby (n := 11) (x := (.ref ch)) d7_10 rfl rfl rfl ?_
  refine s_iloadN X0 hx hby (n := 12) (x := (0 : Int32)) d7_11 rfl rfl ?_
  obtain ⟨cl1, Ar1, hk1, Sz1, hz1, Hb1, Gb1⟩ := id cA
  refine s_caloadC X0 hx hby hZ (n := 13) e0 Ar1 0 (by decide) (by decide) (by rw [Sz1]; decide) (v := .int x0) (Hb1 0 (by rw [Sz1]; decide)) d7_12 rfl ?_
  refine s_istore X0 hx hby (n := 15) (L' := #[.val (.ref ch), .val (.int (0 : Int32)), .val (.ref q), .val (.int (0 : Int32)), .val (.int (2 : Int32)), .val (.int (0 : Int32)), .val (.int x0)]) d7_13 rfl rfl ?_
  refine s_iload X0 hx hby (n := 17) (x := x0) d7_15 rfl rfl ?_
  refine s_sipush X0 hx hby (n := 20) (v := (255 : Int32)) d7_17 rfl rfl ?_
  refine s_icmpY X0 hx hby (n := 26) d7_20 (XT.ii_le_t l0) (by decide) (by decide) ?_
  refine s_aloadN X0 hx hby (n := 27) (x := (.ref q)) d7_26 rfl rfl rfl ?_
  refine s_iloadN X0 hx hby (n := 28) (x := (0 : Int32)) d7_27 rfl rfl ?_
  refine s_iload X0 hx hby (n := 30) (x := x0) d7_28 rfl rfl ?_
  refine s_i2b X0 hx hby (n := 31) d7_30 rfl ?_
  obtain ⟨cl2, Ar2, hk2, Sz2, hz2, Hb2, Gb2⟩ := id qA
  refine s_bastoreC X0 hx hby hZ (n := 32) e0 Ar2 0 (by decide) (by decide) (by rw [Sz2]; decide) d7_31 rfl ?_
  intro T2 h2 X2 e2 W2
  have V2 := Arv.set (j := (0 : Int32)) Ar2 hk2 Sz2 hz2 Hb2 Gb2 (fits_nar_byte _) W2 0 rfl (by simp)
  have M2 := Fr.snoc X2 M0 n_q
  have K2 := Keep.wr K0 W2 (Or.inl (List.mem_of_getElem? (i := 0) rfl))
  have OO2 := O0.wr W2 n_q
  have C2 := cA.other W2 nec
  refine s_iincC X2 hx hby (n := 35) (v := (1 : Int32)) (x := (0 : Int32)) (z := (1 : Int32)) (L' := #[.val (.ref ch), .val (.int (1 : Int32)), .val (.ref q), .val (.int (0 : Int32)), .val (.int (2 : Int32)), .val (.int (0 : Int32)), .val (.int x0)]) d7_32 rfl rfl (by decide) rfl rfl ?_
  refine s_iincC X2 hx hby (n := 38) (v := (1 : Int32)) (x := (0 : Int32)) (z := (1 : Int32)) (L' := #[.val (.ref ch), .val (.int (1 : Int32)), .val (.ref q), .val (.int (1 : Int32)), .val (.int (2 : Int32)), .val (.int (0 : Int32)), .val (.int x0)]) d7_35 rfl rfl (by decide) rfl rfl ?_
  refine s_iincC X2 hx hby (n := 41) (v := (1 : Int32)) (x := (0 : Int32)) (z := (1 : Int32)) (L' := #[.val (.ref ch), .val (.int (1 : Int32)), .val (.ref q), .val (.int (1 : Int32)), .val (.int (2 : Int32)), .val (.int (1 : Int32)), .val (.int x0)]) d7_38 rfl rfl (by decide) rfl rfl ?_
  refine s_goto X2 hx hby (n := 3) d7_41 (by decide) (by decide) ?_
  refine s_iload X2 hx hby (n := 5) (x := (1 : Int32)) d7_3 rfl rfl ?_
  refine s_iload X2 hx hby (n := 7) (x := (2 : Int32)) d7_5 rfl rfl ?_
  refine s_icmpN X2 hx hby (n := 10) d7_7 (by decide) rfl ?_
  refine s_aloadN X2 hx hby (n := 11) (x := (.ref ch)) d7_10 rfl rfl rfl ?_
  refine s_iloadN X2 hx hby (n := 12) (x := (1 : Int32)) d7_11 rfl rfl ?_
  obtain ⟨cl3, Ar3, hk3, Sz3, hz3, Hb3, Gb3⟩ := id C2
  refine s_caloadC X2 hx hby hZ (n := 13) e2 Ar3 1 (by decide) (by decide) (by rw [Sz3]; decide) (v := .int x1) (Hb3 1 (by rw [Sz3]; decide)) d7_12 rfl ?_
  refine s_istore X2 hx hby (n := 15) (L' := #[.val (.ref ch), .val (.int (1 : Int32)), .val (.ref q), .val (.int (1 : Int32)), .val (.int (2 : Int32)), .val (.int (1 : Int32)), .val (.int x1)]) d7_13 rfl rfl ?_
  refine s_iload X2 hx hby (n := 17) (x := x1) d7_15 rfl rfl ?_
  refine s_sipush X2 hx hby (n := 20) (v := (255 : Int32)) d7_17 rfl rfl ?_
  refine s_icmpY X2 hx hby (n := 26) d7_20 (XT.ii_le_t l1) (by decide) (by decide) ?_
  refine s_aloadN X2 hx hby (n := 27) (x := (.ref q)) d7_26 rfl rfl rfl ?_
  refine s_iloadN X2 hx hby (n := 28) (x := (1 : Int32)) d7_27 rfl rfl ?_
  refine s_iload X2 hx hby (n := 30) (x := x1) d7_28 rfl rfl ?_
  refine s_i2b X2 hx hby (n := 31) d7_30 rfl ?_
  obtain ⟨cl4, Ar4, hk4, Sz4, hz4, Hb4, Gb4⟩ := id V2
  refine s_bastoreC X2 hx hby hZ (n := 32) e2 Ar4 1 (by decide) (by decide) (by rw [Sz4]; decide) d7_31 rfl ?_
  intro T4 h4 X4 e4 W4
  have V4 := Arv.set (j := (1 : Int32)) Ar4 hk4 Sz4 hz4 Hb4 Gb4 (fits_nar_byte _) W4 1 rfl (by simp)
  have M4 := Fr.snoc X4 M2 n_q
  have K4 := Keep.wr K2 W4 (Or.inl (List.mem_of_getElem? (i := 0) rfl))
  have OO4 := OO2.wr W4 n_q
  have C4 := C2.other W4 nec
  refine s_iincC X4 hx hby (n := 35) (v := (1 : Int32)) (x := (1 : Int32)) (z := (2 : Int32)) (L' := #[.val (.ref ch), .val (.int (2 : Int32)), .val (.ref q), .val (.int (1 : Int32)), .val (.int (2 : Int32)), .val (.int (1 : Int32)), .val (.int x1)]) d7_32 rfl rfl (by decide) rfl rfl ?_
  refine s_iincC X4 hx hby (n := 38) (v := (1 : Int32)) (x := (1 : Int32)) (z := (2 : Int32)) (L' := #[.val (.ref ch), .val (.int (2 : Int32)), .val (.ref q), .val (.int (2 : Int32)), .val (.int (2 : Int32)), .val (.int (1 : Int32)), .val (.int x1)]) d7_35 rfl rfl (by decide) rfl rfl ?_
  refine s_iincC X4 hx hby (n := 41) (v := (1 : Int32)) (x := (1 : Int32)) (z := (2 : Int32)) (L' := #[.val (.ref ch), .val (.int (2 : Int32)), .val (.ref q), .val (.int (2 : Int32)), .val (.int (2 : Int32)), .val (.int (2 : Int32)), .val (.int x1)]) d7_38 rfl rfl (by decide) rfl rfl ?_
  refine s_goto X4 hx hby (n := 3) d7_41 (by decide) (by decide) ?_
  refine s_iload X4 hx hby (n := 5) (x := (2 : Int32)) d7_3 rfl rfl ?_
  refine s_iload X4 hx hby (n := 7) (x := (2 : Int32)) d7_5 rfl rfl ?_
  refine s_icmpY X4 hx hby (n := 44) d7_7 (by decide) (by decide) (by decide) ?_
  refine s_iload X4 hx hby (n := 46) (x := (2 : Int32)) d7_44 rfl rfl ?_
  exact s_retI X4 hx hby hlk hret d7_46 (by decide) (by decide) (by rw [e4]; exact ⟨rfl, M4, K4, [bt x0, bt x1], rfl, ⟨by simp, _, V4⟩⟩)
set_option maxRecDepth 65536 in
set_option maxHeartbeats 40000000 in
theorem rmC3_2 (l : Launch) (Z : State) (a0 : Array Value) (hw : ∀ d ∈ tables_1, d.before a0 Z = true) (z0 : Int32) (hz0 : ¬ z0 = (0 : Int32)) (Sz0 : Sta Z Z.heap "java/lang/String" "COMPACT_STRINGS" "Z" (.int z0)) (fm : Value) (hfm : fm.isRef = true) (Sfm : Sta Z Z.heap "jdk/internal/util/Preconditions" "SIOOBE_FORMATTER" "Ljava/util/function/BiFunction;" fm) (ch : Addr) (kc : ClassId) (x0 x1 : Int32) (l0 : ¬ (255 : Int32) < x0) (l1 : ¬ (255 : Int32) < x1) (h0 : Heap) (n0 : Nat) (O0 : Oln Z n0 h0) (cA : Arv Z h0 ch kc .char (2 : Int32) [.int x0, .int x1] (.int 0)) :
    OCon l Z (⟨"java/lang/StringUTF16", "compress", "([CII)[B"⟩ : MethodName) jdk_52_method_16_code 6 (some ((.array (.byte)))) [] ({ frames := 1, cells := 1, slots := 2, locals := 18 } : Room) #[(.ref ch), (.int (0 : Int32)), (.int (2 : Int32))] h0 (fun v h L => ∃ q bs, v = some (.ref q) ∧ bs = [bt x0, bt x1] ∧ Fr n0 L ∧ Keep h0 h [] ∧ Bys Z h q bs) := by
  refine con (plainFor_of_name pq0) ?_
  intro p e s m below meth c s₁ hx hby hml hZ hown hnm hret hlk X0 e0
  refine entry (eq2f m ch (0 : Int32) (2 : Int32)) ?_
  have M0 := Fr.nil n0
  have K0 := Keep.refl h0 []
  refine s_iloadN X0 hx hby (n := 1) (x := (2 : Int32)) d6_0 rfl rfl ?_
  refine s_newP X0 hx hby hZ (n := 3) (hw _ (List.mem_of_getElem? (i := 26) rfl)) (ty := .byte) rfl e0 (num := (2 : Int32)) (by decide) 2 (by decide) (by decide) (by decide) (by decide) d6_1 rfl ?_
  intro T1 h1 cq q gq X1 e1 Q1 A1
  have n_q : n0 ≤ q := by rw [gq]; exact Oln.le O0
  have V1_q := Arv.new A1 (by decide)
  have K1 := K0.ext Q1
  have OO1 := O0.ext Q1
  have V1 : Arv Z h1 q cq .byte (2 : Int32) (List.replicate 2 (.int 0)) (.int 0) := Arv.pad V1_q (pad_rep [] _ 2)
  have nec : ch ≠ q := by rw [gq]; exact Nat.ne_of_lt cA.lt
  have cA2 := cA.ext Q1
  refine s_astoreN X1 hx hby (n := 4) (L' := #[.val (.ref ch), .val (.int (0 : Int32)), .val (.int (2 : Int32)), .val (.ref q), .unset, .unset]) d6_3 rfl rfl rfl ?_
  refine s_aloadN X1 hx hby (n := 5) (x := (.ref ch)) d6_4 rfl rfl rfl ?_
  refine s_iloadN X1 hx hby (n := 6) (x := (0 : Int32)) d6_5 rfl rfl ?_
  refine s_aloadN X1 hx hby (n := 7) (x := (.ref q)) d6_6 rfl rfl rfl ?_
  refine s_iconst X1 hx hby (n := 8) (v := (0 : Int32)) d6_7 rfl rfl ?_
  refine s_iloadN X1 hx hby (n := 9) (x := (2 : Int32)) d6_8 rfl rfl ?_
  refine s_callS X1 hx hby hml hZ (n := 12) hown (hw _ (List.mem_of_getElem? (i := 38) rfl)) (hw _ (List.mem_of_getElem? (i := 39) rfl)) (hw _ (List.mem_of_getElem? (i := 36) rfl)) (hw _ (List.mem_of_getElem? (i := 40) rfl)) (by decide) (rmC5_2 l Z a0 hw z0 hz0 Sz0 fm hfm Sfm ch q kc cq x0 x1 l0 l1 h1 n0 OO1 cA2 V1 nec n_q) e1 (by decide) 0 (by decide) (by decide) (by decide) pd_0 [(.ref ch), (.int (0 : Int32)), (.ref q), (.int (0 : Int32)), (.int (2 : Int32))] [] rfl rfl rfl (Nat.le_of_eq rfl) rfl d6_9 rfl ?_
  intro T2 L2 v2 X2 q2c
  obtain ⟨rfl, N2, K2, bs, hbs, B2⟩ := q2c
  show OE p e below _ T2 (mkF m 12 #[.val (.ref ch), .val (.int (0 : Int32)), .val (.int (2 : Int32)), .val (.ref q), .unset, .unset] [(.int (2 : Int32))])
  have KK2 := K1.trans K2 (allS (Or.inr (by rw [gq]; exact Nat.le_refl _)) all0)
  have M2 := Fr.app M0 N2
  refine s_istore X2 hx hby (n := 14) (L' := #[.val (.ref ch), .val (.int (0 : Int32)), .val (.int (2 : Int32)), .val (.ref q), .val (.int (2 : Int32)), .unset]) d6_12 rfl rfl ?_
  refine s_iload X2 hx hby (n := 16) (x := (2 : Int32)) d6_14 rfl rfl ?_
  refine s_iloadN X2 hx hby (n := 17) (x := (2 : Int32)) d6_16 rfl rfl ?_
  refine s_icmpY X2 hx hby (n := 57) d6_17 (by decide) (by decide) (by decide) ?_
  refine s_aloadN X2 hx hby (n := 58) (x := (.ref q)) d6_57 rfl rfl rfl ?_
  exact s_retA X2 hx hby hlk hret rfl rfl d6_58 (by decide) (by decide) ⟨q, bs, rfl, hbs, M2, KK2, B2⟩
set_option maxRecDepth 65536 in
set_option maxHeartbeats 40000000 in
theorem rmSV_2 (l : Launch) (Z : State) (a0 : Array Value) (hw : ∀ d ∈ tables_1, d.before a0 Z = true) (z0 : Int32) (hz0 : ¬ z0 = (0 : Int32)) (Sz0 : Sta Z Z.heap "java/lang/String" "COMPACT_STRINGS" "Z" (.int z0)) (fm : Value) (hfm : fm.isRef = true) (Sfm : Sta Z Z.heap "jdk/internal/util/Preconditions" "SIOOBE_FORMATTER" "Ljava/util/function/BiFunction;" fm) (r ch : Addr) (kc : ClassId) (x0 x1 : Int32) (l0 : ¬ (255 : Int32) < x0) (l1 : ¬ (255 : Int32) < x1) (h0 : Heap) (n0 : Nat) (O0 : Oln Z n0 h0) (cA : Arv Z h0 ch kc .char (2 : Int32) [.int x0, .int x1] (.int 0)) (n_r : n0 ≤ r) (E0 : Exa Z h0 r "java/lang/String") (F0v : Fld Z h0 r "java/lang/String" "value" "[B" .null) (F0c : Fld Z h0 r "java/lang/String" "coder" "B" (.int (0 : Int32))) :
    OCon l Z (⟨"java/lang/String", "<init>", "([CIILjava/lang/Void;)V"⟩ : MethodName) jdk_42_method_149_code 6 (none) [] ({ frames := 2, cells := 1, slots := 2, locals := 35 } : Room) #[(.ref r), (.ref ch), (.int (0 : Int32)), (.int (2 : Int32)), .null] h0 (fun v h L => v = none ∧ Fr n0 L ∧ Keep h0 h [r] ∧ ∃ bs, bs = [bt x0, bt x1] ∧ Str Z h r bs) := by
  refine con (plainFor_of_name pq1) ?_
  intro p e s m below meth c s₁ hx hby hml hZ hown hnm hret hlk X0 e0
  refine entry (eq3f m r ch (0 : Int32) (2 : Int32)) ?_
  have M0 := Fr.nil n0
  have K0 := Keep.refl h0 [r]
  refine s_aloadN X0 hx hby (n := 1) (x := (.ref r)) d4_0 rfl rfl rfl ?_
  refine s_initO X0 hx hby hml hZ (n := 4) hown (hw _ (List.mem_of_getElem? (i := 22) rfl)) (hw _ (List.mem_of_getElem? (i := 23) rfl)) (hw _ (List.mem_of_getElem? (i := 24) rfl)) e0 (by decide) 0 (Nat.le_of_eq rfl) (by decide) rfl d4_1 rfl ?_
  intro T1 X1 e1
  refine s_iloadN X1 hx hby (n := 5) (x := (2 : Int32)) d4_4 rfl rfl ?_
  refine s_ifY X1 hx hby (n := 27) d4_5 (by decide) (by decide) (by decide) ?_
  refine s_getS X1 hx hby hZ (n := 30) hown (hw _ (List.mem_of_getElem? (i := 33) rfl)) e1 (Sz0.ext O0.2) d4_27 rfl ?_
  intro T2 X2 e2
  refine s_ifN X2 hx hby (n := 33) d4_30 (XT.i0_eq_f hz0) rfl ?_
  refine s_aloadN X2 hx hby (n := 34) (x := (.ref ch)) d4_33 rfl rfl rfl ?_
  refine s_iloadN X2 hx hby (n := 35) (x := (0 : Int32)) d4_34 rfl rfl ?_
  refine s_iloadN X2 hx hby (n := 36) (x := (2 : Int32)) d4_35 rfl rfl ?_
  refine s_callS X2 hx hby hml hZ (n := 39) hown (hw _ (List.mem_of_getElem? (i := 34) rfl)) (hw _ (List.mem_of_getElem? (i := 35) rfl)) (hw _ (List.mem_of_getElem? (i := 36) rfl)) (hw _ (List.mem_of_getElem? (i := 37) rfl)) (by decide) (rmC3_2 l Z a0 hw z0 hz0 Sz0 fm hfm Sfm ch kc x0 x1 l0 l1 h0 n0 O0 cA) e2 (by decide) 0 (by decide) (by decide) (by decide) pd_1 [(.ref ch), (.int (0 : Int32)), (.int (2 : Int32))] [] rfl rfl rfl (Nat.le_of_eq rfl) rfl d4_36 rfl ?_
  intro T3 L3 v3 X3 q3c
  obtain ⟨q, bs, rfl, hbs, N3, K3, B3⟩ := q3c
  show OE p e below _ T3 (mkF m 39 #[.val (.ref r), .val (.ref ch), .val (.int (0 : Int32)), .val (.int (2 : Int32)), .val .null, .unset] [(.ref q)])
  have E3 := E0.keep K3
  have F3_value := F0v.keep K3 nin0
  have F3_coder := F0c.keep K3 nin0
  have KK3 := K0.trans K3 all0
  have OO3 := O0.keep K3 all0
  have M3 := Fr.app M0 N3
  obtain ⟨qlt, kq, qA⟩ := id B3
  have ne3 : q ≠ r := (arv_exa E3 (hw _ (List.mem_of_getElem? (i := 12) rfl)) qA).symm
  have qA0 := qA
  rw [hbs] at qA0
  refine s_astore X3 hx hby (n := 41) (L' := #[.val (.ref r), .val (.ref ch), .val (.int (0 : Int32)), .val (.int (2 : Int32)), .val .null, .val (.ref q)]) d4_39 rfl rfl rfl ?_
  refine s_aloadN X3 hx hby (n := 42) (x := (.ref r)) d4_41 rfl rfl rfl ?_
  refine s_aload X3 hx hby (n := 44) (x := (.ref q)) d4_42 rfl rfl rfl ?_
  refine s_iloadN X3 hx hby (n := 45) (x := (2 : Int32)) d4_44 rfl rfl ?_
  refine s_callS X3 hx hby hml hZ (n := 48) hown (hw _ (List.mem_of_getElem? (i := 41) rfl)) (hw _ (List.mem_of_getElem? (i := 42) rfl)) (hw _ (List.mem_of_getElem? (i := 36) rfl)) (hw _ (List.mem_of_getElem? (i := 43) rfl)) (by decide) (rmCAL l Z a0 hw z0 hz0 Sz0 fm hfm Sfm q (2 : Int32) kq _ T3.heap n0 OO3 qA0) rfl (by decide) 1 (by decide) (by decide) (by decide) pd_2 [(.ref q), (.int (2 : Int32))] [(.ref r)] rfl rfl rfl (Nat.le_of_eq rfl) rfl d4_45 rfl ?_
  intro T4 L4 v4 X4 q4c
  obtain ⟨rfl, e4, N4⟩ := q4c
  show OE p e below _ T4 (mkF m 48 #[.val (.ref r), .val (.ref ch), .val (.int (0 : Int32)), .val (.int (2 : Int32)), .val .null, .val (.ref q)] [(.int (0 : Int32)), (.ref r)])
  have M4 := Fr.app M3 N4
  refine s_putF X4 hx hby hZ (n := 51) hown (hw _ (List.mem_of_getElem? (i := 32) rfl)) e4 F3_coder E3 (Or.inr ⟨(hw _ (List.mem_of_getElem? (i := 28) rfl)), rfl, hnm⟩) (hw _ (List.mem_of_getElem? (i := 12) rfl)) (ty := .byte) (by decide) rfl rfl d4_48 rfl ?_
  intro T5 h5 X5 e5 W5
  have E5_r := E3.wr W5
  have F5_r_value := Fld.other W5 F3_value (Or.inr (slot_ne (Or.inr (hw _ (List.mem_of_getElem? (i := 27) rfl))) (Or.inr (hw _ (List.mem_of_getElem? (i := 28) rfl))) (by decide) (t := (.array (.byte))) (t' := .byte) (by decide) (by decide)))
  have F5_r_coder := Fld.same W5 F3_coder
  have M5 := Fr.snoc X5 M4 n_r
  have K5 := Keep.wr KK3 W5 (Or.inl (List.mem_of_getElem? (i := 0) rfl))
  have qA5 := qA.other W5 ne3
  refine s_aloadN X5 hx hby (n := 52) (x := (.ref r)) d4_51 rfl rfl rfl ?_
  refine s_aload X5 hx hby (n := 54) (x := (.ref q)) d4_52 rfl rfl rfl ?_
  refine s_putF X5 hx hby hZ (n := 57) hown (hw _ (List.mem_of_getElem? (i := 31) rfl)) e5 F5_r_value E5_r (Or.inr ⟨(hw _ (List.mem_of_getElem? (i := 27) rfl)), rfl, hnm⟩) (hw _ (List.mem_of_getElem? (i := 12) rfl)) (ty := (.array (.byte))) (by decide) rfl rfl d4_54 rfl ?_
  intro T6 h6 X6 e6 W6
  have E6_r := E5_r.wr W6
  have F6_r_value := Fld.same W6 F5_r_value
  have F6_r_coder := Fld.other W6 F5_r_coder (Or.inr (slot_ne (Or.inr (hw _ (List.mem_of_getElem? (i := 28) rfl))) (Or.inr (hw _ (List.mem_of_getElem? (i := 27) rfl))) (by decide) (t := .byte) (t' := (.array (.byte))) (by decide) (by decide)))
  have M6 := Fr.snoc X6 M5 n_r
  have K6 := Keep.wr K5 W6 (Or.inl (List.mem_of_getElem? (i := 0) rfl))
  have qA6 := qA5.other W6 ne3
  exact s_ret X6 hx hby hlk hret d4_57 (by decide) (by decide) (by rw [e6]; exact ⟨rfl, M6, K6, bs, hbs, E6_r, F6_r_coder, q, F6_r_value, qlt, _, qA6⟩)
set_option maxRecDepth 65536 in
set_option maxHeartbeats 40000000 in
theorem rmSC_2 (l : Launch) (Z : State) (a0 : Array Value) (hw : ∀ d ∈ tables_1, d.before a0 Z = true) (z0 : Int32) (hz0 : ¬ z0 = (0 : Int32)) (Sz0 : Sta Z Z.heap "java/lang/String" "COMPACT_STRINGS" "Z" (.int z0)) (fm : Value) (hfm : fm.isRef = true) (Sfm : Sta Z Z.heap "jdk/internal/util/Preconditions" "SIOOBE_FORMATTER" "Ljava/util/function/BiFunction;" fm) (r ch : Addr) (kc : ClassId) (x0 x1 : Int32) (l0 : ¬ (255 : Int32) < x0) (l1 : ¬ (255 : Int32) < x1) (h0 : Heap) (n0 : Nat) (O0 : Oln Z n0 h0) (cA : Arv Z h0 ch kc .char (2 : Int32) [.int x0, .int x1] (.int 0)) (n_r : n0 ≤ r) (E0 : Exa Z h0 r "java/lang/String") (F0v : Fld Z h0 r "java/lang/String" "value" "[B" .null) (F0c : Fld Z h0 r "java/lang/String" "coder" "B" (.int (0 : Int32))) :
    OCon l Z (⟨"java/lang/String", "<init>", "([C)V"⟩ : MethodName) jdk_42_method_3_code 2 (none) [] ({ frames := 3, cells := 1, slots := 2, locals := 52 } : Room) #[(.ref r), (.ref ch)] h0 (fun v h L => v = none ∧ Fr n0 L ∧ Keep h0 h [r] ∧ ∃ bs, bs = [bt x0, bt x1] ∧ Str Z h r bs) := by
  refine con (plainFor_of_name pq1) ?_
  intro p e s m below meth c s₁ hx hby hml hZ hown hnm hret hlk X0 e0
  refine entry (eq4f m r ch) ?_
  have M0 := Fr.nil n0
  obtain ⟨scb, sAb, shk, sSz, shz, sHb, sGb⟩ := id cA
  refine s_aloadN X0 hx hby (n := 1) (x := (.ref r)) d3_0 rfl rfl rfl ?_
  refine s_aloadN X0 hx hby (n := 2) (x := (.ref ch)) d3_1 rfl rfl rfl ?_
  refine s_iconst X0 hx hby (n := 3) (v := (0 : Int32)) d3_2 rfl rfl ?_
  refine s_aloadN X0 hx hby (n := 4) (x := (.ref ch)) d3_3 rfl rfl rfl ?_
  refine s_arraylength X0 hx hby hZ (n := 5) e0 sAb (z := (2 : Int32)) sSz shz d3_4 rfl ?_
  refine s_aconstNull X0 hx hby (n := 6) d3_5 rfl ?_
  refine s_callI X0 hx hby hml hZ (n := 9) rfl hown (hw _ (List.mem_of_getElem? (i := 18) rfl)) (hw _ (List.mem_of_getElem? (i := 19) rfl)) (hw _ (List.mem_of_getElem? (i := 13) rfl)) (hw _ (List.mem_of_getElem? (i := 21) rfl)) (by decide) (rmSV_2 l Z a0 hw z0 hz0 Sz0 fm hfm Sfm r ch kc x0 x1 l0 l1 h0 n0 O0 cA n_r E0 F0v F0c) e0 (by decide) 0 (by decide) (by decide) (by decide) pd_3 r [(.ref ch), (.int (0 : Int32)), (.int (2 : Int32)), .null] [] rfl rfl rfl (Nat.le_of_eq rfl) rfl d3_6 rfl ?_
  intro T1 L1 v1 X1 q1c
  obtain ⟨rfl, N1, K1, S1⟩ := q1c
  show OE p e below _ T1 (mkF m 9 #[.val (.ref r), .val (.ref ch)] [])
  have M1 := Fr.app M0 N1
  exact s_ret X1 hx hby hlk hret d3_9 (by decide) (by decide) ⟨rfl, M1, K1, S1⟩
set_option maxRecDepth 65536 in
set_option maxHeartbeats 40000000 in
theorem rmC5_3 (l : Launch) (Z : State) (a0 : Array Value) (hw : ∀ d ∈ tables_1, d.before a0 Z = true) (z0 : Int32) (hz0 : ¬ z0 = (0 : Int32)) (Sz0 : Sta Z Z.heap "java/lang/String" "COMPACT_STRINGS" "Z" (.int z0)) (fm : Value) (hfm : fm.isRef = true) (Sfm : Sta Z Z.heap "jdk/internal/util/Preconditions" "SIOOBE_FORMATTER" "Ljava/util/function/BiFunction;" fm) (ch q : Addr) (kc kq : ClassId) (x0 x1 x2 : Int32) (l0 : ¬ (255 : Int32) < x0) (l1 : ¬ (255 : Int32) < x1) (l2 : ¬ (255 : Int32) < x2) (h0 : Heap) (n0 : Nat) (O0 : Oln Z n0 h0) (cA : Arv Z h0 ch kc .char (3 : Int32) [.int x0, .int x1, .int x2] (.int 0)) (qA : Arv Z h0 q kq .byte (3 : Int32) (List.replicate 3 (.int 0)) (.int 0)) (nec : ch ≠ q) (n_q : n0 ≤ q) :
    OCon l Z (⟨"java/lang/StringUTF16", "compress", "([CI[BII)I"⟩ : MethodName) jdk_52_method_21_code 7 (some (.int)) [] ({ frames := 0, cells := 0, slots := 0, locals := 0 } : Room) #[(.ref ch), (.int (0 : Int32)), (.ref q), (.int (0 : Int32)), (.int (3 : Int32))] h0 (fun v h L => v = some (.int (3 : Int32)) ∧ Fr n0 L ∧ Keep h0 h [q] ∧ ∃ bs, bs = [bt x0, bt x1, bt x2] ∧ Bys Z h q bs) := by
  refine con (plainFor_of_name pq0) ?_
  intro p e s m below meth c s₁ hx hby hml hZ hown hnm hret hlk X0 e0
  refine entry (eq1f m ch (0 : Int32) q (0 : Int32) (3 : Int32)) ?_
  have M0 := Fr.nil n0
  have K0 := Keep.refl h0 [q]
  refine s_iconst X0 hx hby (n := 1) (v := (0 : Int32)) d7_0 rfl rfl ?_
  refine s_istore X0 hx hby (n := 3) (L' := #[.val (.ref ch), .val (.int (0 : Int32)), .val (.ref q), .val (.int (0 : Int32)), .val (.int (3 : Int32)), .val (.int (0 : Int32)), .unset]) d7_1 rfl rfl ?_
  refine s_iload X0 hx hby (n := 5) (x := (0 : Int32)) d7_3 rfl rfl ?_
  refine s_iload X0 hx hby (n := 7) (x := (3 : Int32)) d7_5 rfl rfl ?_
  refine s_icmpN X0 hx hby (n := 10) d7_7 (by decide) rfl ?_
  refine s_aloadN X0 hx hby (n := 11) (x := (.ref ch)) d7_10 rfl rfl rfl ?_
  refine s_iloadN X0 hx hby (n := 12) (x := (0 : Int32)) d7_11 rfl rfl ?_
  obtain ⟨cl1, Ar1, hk1, Sz1, hz1, Hb1, Gb1⟩ := id cA
  refine s_caloadC X0 hx hby hZ (n := 13) e0 Ar1 0 (by decide) (by decide) (by rw [Sz1]; decide) (v := .int x0) (Hb1 0 (by rw [Sz1]; decide)) d7_12 rfl ?_
  refine s_istore X0 hx hby (n := 15) (L' := #[.val (.ref ch), .val (.int (0 : Int32)), .val (.ref q), .val (.int (0 : Int32)), .val (.int (3 : Int32)), .val (.int (0 : Int32)), .val (.int x0)]) d7_13 rfl rfl ?_
  refine s_iload X0 hx hby (n := 17) (x := x0) d7_15 rfl rfl ?_
  refine s_sipush X0 hx hby (n := 20) (v := (255 : Int32)) d7_17 rfl rfl ?_
  refine s_icmpY X0 hx hby (n := 26) d7_20 (XT.ii_le_t l0) (by decide) (by decide) ?_
  refine s_aloadN X0 hx hby (n := 27) (x := (.ref q)) d7_26 rfl rfl rfl ?_
  refine s_iloadN X0 hx hby (n := 28) (x := (0 : Int32)) d7_27 rfl rfl ?_
  refine s_iload X0 hx hby (n := 30) (x := x0) d7_28 rfl rfl ?_
  refine s_i2b X0 hx hby (n := 31) d7_30 rfl ?_
  obtain ⟨cl2, Ar2, hk2, Sz2, hz2, Hb2, Gb2⟩ := id qA
  refine s_bastoreC X0 hx hby hZ (n := 32) e0 Ar2 0 (by decide) (by decide) (by rw [Sz2]; decide) d7_31 rfl ?_
  intro T2 h2 X2 e2 W2
  have V2 := Arv.set (j := (0 : Int32)) Ar2 hk2 Sz2 hz2 Hb2 Gb2 (fits_nar_byte _) W2 0 rfl (by simp)
  have M2 := Fr.snoc X2 M0 n_q
  have K2 := Keep.wr K0 W2 (Or.inl (List.mem_of_getElem? (i := 0) rfl))
  have OO2 := O0.wr W2 n_q
  have C2 := cA.other W2 nec
  refine s_iincC X2 hx hby (n := 35) (v := (1 : Int32)) (x := (0 : Int32)) (z := (1 : Int32)) (L' := #[.val (.ref ch), .val (.int (1 : Int32)), .val (.ref q), .val (.int (0 : Int32)), .val (.int (3 : Int32)), .val (.int (0 : Int32)), .val (.int x0)]) d7_32 rfl rfl (by decide) rfl rfl ?_
  refine s_iincC X2 hx hby (n := 38) (v := (1 : Int32)) (x := (0 : Int32)) (z := (1 : Int32)) (L' := #[.val (.ref ch), .val (.int (1 : Int32)), .val (.ref q), .val (.int (1 : Int32)), .val (.int (3 : Int32)), .val (.int (0 : Int32)), .val (.int x0)]) d7_35 rfl rfl (by decide) rfl rfl ?_
  refine s_iincC X2 hx hby (n := 41) (v := (1 : Int32)) (x := (0 : Int32)) (z := (1 : Int32)) (L' := #[.val (.ref ch), .val (.int (1 : Int32)), .val (.ref q), .val (.int (1 : Int32)), .val (.int (3 : Int32)), .val (.int (1 : Int32)), .val (.int x0)]) d7_38 rfl rfl (by decide) rfl rfl ?_
  refine s_goto X2 hx hby (n := 3) d7_41 (by decide) (by decide) ?_
  refine s_iload X2 hx hby (n := 5) (x := (1 : Int32)) d7_3 rfl rfl ?_
  refine s_iload X2 hx hby (n := 7) (x := (3 : Int32)) d7_5 rfl rfl ?_
  refine s_icmpN X2 hx hby (n := 10) d7_7 (by decide) rfl ?_
  refine s_aloadN X2 hx hby (n := 11) (x := (.ref ch)) d7_10 rfl rfl rfl ?_
  refine s_iloadN X2 hx hby (n := 12) (x := (1 : Int32)) d7_11 rfl rfl ?_
  obtain ⟨cl3, Ar3, hk3, Sz3, hz3, Hb3, Gb3⟩ := id C2
  refine s_caloadC X2 hx hby hZ (n := 13) e2 Ar3 1 (by decide) (by decide) (by rw [Sz3]; decide) (v := .int x1) (Hb3 1 (by rw [Sz3]; decide)) d7_12 rfl ?_
  refine s_istore X2 hx hby (n := 15) (L' := #[.val (.ref ch), .val (.int (1 : Int32)), .val (.ref q), .val (.int (1 : Int32)), .val (.int (3 : Int32)), .val (.int (1 : Int32)), .val (.int x1)]) d7_13 rfl rfl ?_
  refine s_iload X2 hx hby (n := 17) (x := x1) d7_15 rfl rfl ?_
  refine s_sipush X2 hx hby (n := 20) (v := (255 : Int32)) d7_17 rfl rfl ?_
  refine s_icmpY X2 hx hby (n := 26) d7_20 (XT.ii_le_t l1) (by decide) (by decide) ?_
  refine s_aloadN X2 hx hby (n := 27) (x := (.ref q)) d7_26 rfl rfl rfl ?_
  refine s_iloadN X2 hx hby (n := 28) (x := (1 : Int32)) d7_27 rfl rfl ?_
  refine s_iload X2 hx hby (n := 30) (x := x1) d7_28 rfl rfl ?_
  refine s_i2b X2 hx hby (n := 31) d7_30 rfl ?_
  obtain ⟨cl4, Ar4, hk4, Sz4, hz4, Hb4, Gb4⟩ := id V2
  refine s_bastoreC X2 hx hby hZ (n := 32) e2 Ar4 1 (by decide) (by decide) (by rw [Sz4]; decide) d7_31 rfl ?_
  intro T4 h4 X4 e4 W4
  have V4 := Arv.set (j := (1 : Int32)) Ar4 hk4 Sz4 hz4 Hb4 Gb4 (fits_nar_byte _) W4 1 rfl (by simp)
  have M4 := Fr.snoc X4 M2 n_q
  have K4 := Keep.wr K2 W4 (Or.inl (List.mem_of_getElem? (i := 0) rfl))
  have OO4 := OO2.wr W4 n_q
  have C4 := C2.other W4 nec
  refine s_iincC X4 hx hby (n := 35) (v := (1 : Int32)) (x := (1 : Int32)) (z := (2 : Int32)) (L' := #[.val (.ref ch), .val (.int (2 : Int32)), .val (.ref q), .val (.int (1 : Int32)), .val (.int (3 : Int32)), .val (.int (1 : Int32)), .val (.int x1)]) d7_32 rfl rfl (by decide) rfl rfl ?_
  refine s_iincC X4 hx hby (n := 38) (v := (1 : Int32)) (x := (1 : Int32)) (z := (2 : Int32)) (L' := #[.val (.ref ch), .val (.int (2 : Int32)), .val (.ref q), .val (.int (2 : Int32)), .val (.int (3 : Int32)), .val (.int (1 : Int32)), .val (.int x1)]) d7_35 rfl rfl (by decide) rfl rfl ?_
  refine s_iincC X4 hx hby (n := 41) (v := (1 : Int32)) (x := (1 : Int32)) (z := (2 : Int32)) (L' := #[.val (.ref ch), .val (.int (2 : Int32)), .val (.ref q), .val (.int (2 : Int32)), .val (.int (3 : Int32)), .val (.int (2 : Int32)), .val (.int x1)]) d7_38 rfl rfl (by decide) rfl rfl ?_
  refine s_goto X4 hx hby (n := 3) d7_41 (by decide) (by decide) ?_
  refine s_iload X4 hx hby (n := 5) (x := (2 : Int32)) d7_3 rfl rfl ?_
  refine s_iload X4 hx hby (n := 7) (x := (3 : Int32)) d7_5 rfl rfl ?_
  refine s_icmpN X4 hx hby (n := 10) d7_7 (by decide) rfl ?_
  refine s_aloadN X4 hx hby (n := 11) (x := (.ref ch)) d7_10 rfl rfl rfl ?_
  refine s_iloadN X4 hx hby (n := 12) (x := (2 : Int32)) d7_11 rfl rfl ?_
  obtain ⟨cl5, Ar5, hk5, Sz5, hz5, Hb5, Gb5⟩ := id C4
  refine s_caloadC X4 hx hby hZ (n := 13) e4 Ar5 2 (by decide) (by decide) (by rw [Sz5]; decide) (v := .int x2) (Hb5 2 (by rw [Sz5]; decide)) d7_12 rfl ?_
  refine s_istore X4 hx hby (n := 15) (L' := #[.val (.ref ch), .val (.int (2 : Int32)), .val (.ref q), .val (.int (2 : Int32)), .val (.int (3 : Int32)), .val (.int (2 : Int32)), .val (.int x2)]) d7_13 rfl rfl ?_
  refine s_iload X4 hx hby (n := 17) (x := x2) d7_15 rfl rfl ?_
  refine s_sipush X4 hx hby (n := 20) (v := (255 : Int32)) d7_17 rfl rfl ?_
  refine s_icmpY X4 hx hby (n := 26) d7_20 (XT.ii_le_t l2) (by decide) (by decide) ?_
  refine s_aloadN X4 hx hby (n := 27) (x := (.ref q)) d7_26 rfl rfl rfl ?_
  refine s_iloadN X4 hx hby (n := 28) (x := (2 : Int32)) d7_27 rfl rfl ?_
  refine s_iload X4 hx hby (n := 30) (x := x2) d7_28 rfl rfl ?_
  refine s_i2b X4 hx hby (n := 31) d7_30 rfl ?_
  obtain ⟨cl6, Ar6, hk6, Sz6, hz6, Hb6, Gb6⟩ := id V4
  refine s_bastoreC X4 hx hby hZ (n := 32) e4 Ar6 2 (by decide) (by decide) (by rw [Sz6]; decide) d7_31 rfl ?_
  intro T6 h6 X6 e6 W6
  have V6 := Arv.set (j := (2 : Int32)) Ar6 hk6 Sz6 hz6 Hb6 Gb6 (fits_nar_byte _) W6 2 rfl (by simp)
  have M6 := Fr.snoc X6 M4 n_q
  have K6 := Keep.wr K4 W6 (Or.inl (List.mem_of_getElem? (i := 0) rfl))
  have OO6 := OO4.wr W6 n_q
  have C6 := C4.other W6 nec
  refine s_iincC X6 hx hby (n := 35) (v := (1 : Int32)) (x := (2 : Int32)) (z := (3 : Int32)) (L' := #[.val (.ref ch), .val (.int (3 : Int32)), .val (.ref q), .val (.int (2 : Int32)), .val (.int (3 : Int32)), .val (.int (2 : Int32)), .val (.int x2)]) d7_32 rfl rfl (by decide) rfl rfl ?_
  refine s_iincC X6 hx hby (n := 38) (v := (1 : Int32)) (x := (2 : Int32)) (z := (3 : Int32)) (L' := #[.val (.ref ch), .val (.int (3 : Int32)), .val (.ref q), .val (.int (3 : Int32)), .val (.int (3 : Int32)), .val (.int (2 : Int32)), .val (.int x2)]) d7_35 rfl rfl (by decide) rfl rfl ?_
  refine s_iincC X6 hx hby (n := 41) (v := (1 : Int32)) (x := (2 : Int32)) (z := (3 : Int32)) (L' := #[.val (.ref ch), .val (.int (3 : Int32)), .val (.ref q), .val (.int (3 : Int32)), .val (.int (3 : Int32)), .val (.int (3 : Int32)), .val (.int x2)]) d7_38 rfl rfl (by decide) rfl rfl ?_
  refine s_goto X6 hx hby (n := 3) d7_41 (by decide) (by decide) ?_
  refine s_iload X6 hx hby (n := 5) (x := (3 : Int32)) d7_3 rfl rfl ?_
  refine s_iload X6 hx hby (n := 7) (x := (3 : Int32)) d7_5 rfl rfl ?_
  refine s_icmpY X6 hx hby (n := 44) d7_7 (by decide) (by decide) (by decide) ?_
  refine s_iload X6 hx hby (n := 46) (x := (3 : Int32)) d7_44 rfl rfl ?_
  exact s_retI X6 hx hby hlk hret d7_46 (by decide) (by decide) (by rw [e6]; exact ⟨rfl, M6, K6, [bt x0, bt x1, bt x2], rfl, ⟨by simp, _, V6⟩⟩)
set_option maxRecDepth 65536 in
set_option maxHeartbeats 40000000 in
theorem rmC3_3 (l : Launch) (Z : State) (a0 : Array Value) (hw : ∀ d ∈ tables_1, d.before a0 Z = true) (z0 : Int32) (hz0 : ¬ z0 = (0 : Int32)) (Sz0 : Sta Z Z.heap "java/lang/String" "COMPACT_STRINGS" "Z" (.int z0)) (fm : Value) (hfm : fm.isRef = true) (Sfm : Sta Z Z.heap "jdk/internal/util/Preconditions" "SIOOBE_FORMATTER" "Ljava/util/function/BiFunction;" fm) (ch : Addr) (kc : ClassId) (x0 x1 x2 : Int32) (l0 : ¬ (255 : Int32) < x0) (l1 : ¬ (255 : Int32) < x1) (l2 : ¬ (255 : Int32) < x2) (h0 : Heap) (n0 : Nat) (O0 : Oln Z n0 h0) (cA : Arv Z h0 ch kc .char (3 : Int32) [.int x0, .int x1, .int x2] (.int 0)) :
    OCon l Z (⟨"java/lang/StringUTF16", "compress", "([CII)[B"⟩ : MethodName) jdk_52_method_16_code 6 (some ((.array (.byte)))) [] ({ frames := 1, cells := 1, slots := 3, locals := 18 } : Room) #[(.ref ch), (.int (0 : Int32)), (.int (3 : Int32))] h0 (fun v h L => ∃ q bs, v = some (.ref q) ∧ bs = [bt x0, bt x1, bt x2] ∧ Fr n0 L ∧ Keep h0 h [] ∧ Bys Z h q bs) := by
  refine con (plainFor_of_name pq0) ?_
  intro p e s m below meth c s₁ hx hby hml hZ hown hnm hret hlk X0 e0
  refine entry (eq2f m ch (0 : Int32) (3 : Int32)) ?_
  have M0 := Fr.nil n0
  have K0 := Keep.refl h0 []
  refine s_iloadN X0 hx hby (n := 1) (x := (3 : Int32)) d6_0 rfl rfl ?_
  refine s_newP X0 hx hby hZ (n := 3) (hw _ (List.mem_of_getElem? (i := 26) rfl)) (ty := .byte) rfl e0 (num := (3 : Int32)) (by decide) 3 (by decide) (by decide) (by decide) (by decide) d6_1 rfl ?_
  intro T1 h1 cq q gq X1 e1 Q1 A1
  have n_q : n0 ≤ q := by rw [gq]; exact Oln.le O0
  have V1_q := Arv.new A1 (by decide)
  have K1 := K0.ext Q1
  have OO1 := O0.ext Q1
  have V1 : Arv Z h1 q cq .byte (3 : Int32) (List.replicate 3 (.int 0)) (.int 0) := Arv.pad V1_q (pad_rep [] _ 3)
  have nec : ch ≠ q := by rw [gq]; exact Nat.ne_of_lt cA.lt
  have cA2 := cA.ext Q1
  refine s_astoreN X1 hx hby (n := 4) (L' := #[.val (.ref ch), .val (.int (0 : Int32)), .val (.int (3 : Int32)), .val (.ref q), .unset, .unset]) d6_3 rfl rfl rfl ?_
  refine s_aloadN X1 hx hby (n := 5) (x := (.ref ch)) d6_4 rfl rfl rfl ?_
  refine s_iloadN X1 hx hby (n := 6) (x := (0 : Int32)) d6_5 rfl rfl ?_
  refine s_aloadN X1 hx hby (n := 7) (x := (.ref q)) d6_6 rfl rfl rfl ?_
  refine s_iconst X1 hx hby (n := 8) (v := (0 : Int32)) d6_7 rfl rfl ?_
  refine s_iloadN X1 hx hby (n := 9) (x := (3 : Int32)) d6_8 rfl rfl ?_
  refine s_callS X1 hx hby hml hZ (n := 12) hown (hw _ (List.mem_of_getElem? (i := 38) rfl)) (hw _ (List.mem_of_getElem? (i := 39) rfl)) (hw _ (List.mem_of_getElem? (i := 36) rfl)) (hw _ (List.mem_of_getElem? (i := 40) rfl)) (by decide) (rmC5_3 l Z a0 hw z0 hz0 Sz0 fm hfm Sfm ch q kc cq x0 x1 x2 l0 l1 l2 h1 n0 OO1 cA2 V1 nec n_q) e1 (by decide) 0 (by decide) (by decide) (by decide) pd_0 [(.ref ch), (.int (0 : Int32)), (.ref q), (.int (0 : Int32)), (.int (3 : Int32))] [] rfl rfl rfl (Nat.le_of_eq rfl) rfl d6_9 rfl ?_
  intro T2 L2 v2 X2 q2c
  obtain ⟨rfl, N2, K2, bs, hbs, B2⟩ := q2c
  show OE p e below _ T2 (mkF m 12 #[.val (.ref ch), .val (.int (0 : Int32)), .val (.int (3 : Int32)), .val (.ref q), .unset, .unset] [(.int (3 : Int32))])
  have KK2 := K1.trans K2 (allS (Or.inr (by rw [gq]; exact Nat.le_refl _)) all0)
  have M2 := Fr.app M0 N2
  refine s_istore X2 hx hby (n := 14) (L' := #[.val (.ref ch), .val (.int (0 : Int32)), .val (.int (3 : Int32)), .val (.ref q), .val (.int (3 : Int32)), .unset]) d6_12 rfl rfl ?_
  refine s_iload X2 hx hby (n := 16) (x := (3 : Int32)) d6_14 rfl rfl ?_
  refine s_iloadN X2 hx hby (n := 17) (x := (3 : Int32)) d6_16 rfl rfl ?_
  refine s_icmpY X2 hx hby (n := 57) d6_17 (by decide) (by decide) (by decide) ?_
  refine s_aloadN X2 hx hby (n := 58) (x := (.ref q)) d6_57 rfl rfl rfl ?_
  exact s_retA X2 hx hby hlk hret rfl rfl d6_58 (by decide) (by decide) ⟨q, bs, rfl, hbs, M2, KK2, B2⟩
set_option maxRecDepth 65536 in
set_option maxHeartbeats 40000000 in
theorem rmSV_3 (l : Launch) (Z : State) (a0 : Array Value) (hw : ∀ d ∈ tables_1, d.before a0 Z = true) (z0 : Int32) (hz0 : ¬ z0 = (0 : Int32)) (Sz0 : Sta Z Z.heap "java/lang/String" "COMPACT_STRINGS" "Z" (.int z0)) (fm : Value) (hfm : fm.isRef = true) (Sfm : Sta Z Z.heap "jdk/internal/util/Preconditions" "SIOOBE_FORMATTER" "Ljava/util/function/BiFunction;" fm) (r ch : Addr) (kc : ClassId) (x0 x1 x2 : Int32) (l0 : ¬ (255 : Int32) < x0) (l1 : ¬ (255 : Int32) < x1) (l2 : ¬ (255 : Int32) < x2) (h0 : Heap) (n0 : Nat) (O0 : Oln Z n0 h0) (cA : Arv Z h0 ch kc .char (3 : Int32) [.int x0, .int x1, .int x2] (.int 0)) (n_r : n0 ≤ r) (E0 : Exa Z h0 r "java/lang/String") (F0v : Fld Z h0 r "java/lang/String" "value" "[B" .null) (F0c : Fld Z h0 r "java/lang/String" "coder" "B" (.int (0 : Int32))) :
    OCon l Z (⟨"java/lang/String", "<init>", "([CIILjava/lang/Void;)V"⟩ : MethodName) jdk_42_method_149_code 6 (none) [] ({ frames := 2, cells := 1, slots := 3, locals := 35 } : Room) #[(.ref r), (.ref ch), (.int (0 : Int32)), (.int (3 : Int32)), .null] h0 (fun v h L => v = none ∧ Fr n0 L ∧ Keep h0 h [r] ∧ ∃ bs, bs = [bt x0, bt x1, bt x2] ∧ Str Z h r bs) := by
  refine con (plainFor_of_name pq1) ?_
  intro p e s m below meth c s₁ hx hby hml hZ hown hnm hret hlk X0 e0
  refine entry (eq3f m r ch (0 : Int32) (3 : Int32)) ?_
  have M0 := Fr.nil n0
  have K0 := Keep.refl h0 [r]
  refine s_aloadN X0 hx hby (n := 1) (x := (.ref r)) d4_0 rfl rfl rfl ?_
  refine s_initO X0 hx hby hml hZ (n := 4) hown (hw _ (List.mem_of_getElem? (i := 22) rfl)) (hw _ (List.mem_of_getElem? (i := 23) rfl)) (hw _ (List.mem_of_getElem? (i := 24) rfl)) e0 (by decide) 0 (Nat.le_of_eq rfl) (by decide) rfl d4_1 rfl ?_
  intro T1 X1 e1
  refine s_iloadN X1 hx hby (n := 5) (x := (3 : Int32)) d4_4 rfl rfl ?_
  refine s_ifY X1 hx hby (n := 27) d4_5 (by decide) (by decide) (by decide) ?_
  refine s_getS X1 hx hby hZ (n := 30) hown (hw _ (List.mem_of_getElem? (i := 33) rfl)) e1 (Sz0.ext O0.2) d4_27 rfl ?_
  intro T2 X2 e2
  refine s_ifN X2 hx hby (n := 33) d4_30 (XT.i0_eq_f hz0) rfl ?_
  refine s_aloadN X2 hx hby (n := 34) (x := (.ref ch)) d4_33 rfl rfl rfl ?_
  refine s_iloadN X2 hx hby (n := 35) (x := (0 : Int32)) d4_34 rfl rfl ?_
  refine s_iloadN X2 hx hby (n := 36) (x := (3 : Int32)) d4_35 rfl rfl ?_
  refine s_callS X2 hx hby hml hZ (n := 39) hown (hw _ (List.mem_of_getElem? (i := 34) rfl)) (hw _ (List.mem_of_getElem? (i := 35) rfl)) (hw _ (List.mem_of_getElem? (i := 36) rfl)) (hw _ (List.mem_of_getElem? (i := 37) rfl)) (by decide) (rmC3_3 l Z a0 hw z0 hz0 Sz0 fm hfm Sfm ch kc x0 x1 x2 l0 l1 l2 h0 n0 O0 cA) e2 (by decide) 0 (by decide) (by decide) (by decide) pd_1 [(.ref ch), (.int (0 : Int32)), (.int (3 : Int32))] [] rfl rfl rfl (Nat.le_of_eq rfl) rfl d4_36 rfl ?_
  intro T3 L3 v3 X3 q3c
  obtain ⟨q, bs, rfl, hbs, N3, K3, B3⟩ := q3c
  show OE p e below _ T3 (mkF m 39 #[.val (.ref r), .val (.ref ch), .val (.int (0 : Int32)), .val (.int (3 : Int32)), .val .null, .unset] [(.ref q)])
  have E3 := E0.keep K3
  have F3_value := F0v.keep K3 nin0
  have F3_coder := F0c.keep K3 nin0
  have KK3 := K0.trans K3 all0
  have OO3 := O0.keep K3 all0
  have M3 := Fr.app M0 N3
  obtain ⟨qlt, kq, qA⟩ := id B3
  have ne3 : q ≠ r := (arv_exa E3 (hw _ (List.mem_of_getElem? (i := 12) rfl)) qA).symm
  have qA0 := qA
  rw [hbs] at qA0
  refine s_astore X3 hx hby (n := 41) (L' := #[.val (.ref r), .val (.ref ch), .val (.int (0 : Int32)), .val (.int (3 : Int32)), .val .null, .val (.ref q)]) d4_39 rfl rfl rfl ?_
  refine s_aloadN X3 hx hby (n := 42) (x := (.ref r)) d4_41 rfl rfl rfl ?_
  refine s_aload X3 hx hby (n := 44) (x := (.ref q)) d4_42 rfl rfl rfl ?_
  refine s_iloadN X3 hx hby (n := 45) (x := (3 : Int32)) d4_44 rfl rfl ?_
  refine s_callS X3 hx hby hml hZ (n := 48) hown (hw _ (List.mem_of_getElem? (i := 41) rfl)) (hw _ (List.mem_of_getElem? (i := 42) rfl)) (hw _ (List.mem_of_getElem? (i := 36) rfl)) (hw _ (List.mem_of_getElem? (i := 43) rfl)) (by decide) (rmCAL l Z a0 hw z0 hz0 Sz0 fm hfm Sfm q (3 : Int32) kq _ T3.heap n0 OO3 qA0) rfl (by decide) 1 (by decide) (by decide) (by decide) pd_2 [(.ref q), (.int (3 : Int32))] [(.ref r)] rfl rfl rfl (Nat.le_of_eq rfl) rfl d4_45 rfl ?_
  intro T4 L4 v4 X4 q4c
  obtain ⟨rfl, e4, N4⟩ := q4c
  show OE p e below _ T4 (mkF m 48 #[.val (.ref r), .val (.ref ch), .val (.int (0 : Int32)), .val (.int (3 : Int32)), .val .null, .val (.ref q)] [(.int (0 : Int32)), (.ref r)])
  have M4 := Fr.app M3 N4
  refine s_putF X4 hx hby hZ (n := 51) hown (hw _ (List.mem_of_getElem? (i := 32) rfl)) e4 F3_coder E3 (Or.inr ⟨(hw _ (List.mem_of_getElem? (i := 28) rfl)), rfl, hnm⟩) (hw _ (List.mem_of_getElem? (i := 12) rfl)) (ty := .byte) (by decide) rfl rfl d4_48 rfl ?_
  intro T5 h5 X5 e5 W5
  have E5_r := E3.wr W5
  have F5_r_value := Fld.other W5 F3_value (Or.inr (slot_ne (Or.inr (hw _ (List.mem_of_getElem? (i := 27) rfl))) (Or.inr (hw _ (List.mem_of_getElem? (i := 28) rfl))) (by decide) (t := (.array (.byte))) (t' := .byte) (by decide) (by decide)))
  have F5_r_coder := Fld.same W5 F3_coder
  have M5 := Fr.snoc X5 M4 n_r
  have K5 := Keep.wr KK3 W5 (Or.inl (List.mem_of_getElem? (i := 0) rfl))
  have qA5 := qA.other W5 ne3
  refine s_aloadN X5 hx hby (n := 52) (x := (.ref r)) d4_51 rfl rfl rfl ?_
  refine s_aload X5 hx hby (n := 54) (x := (.ref q)) d4_52 rfl rfl rfl ?_
  refine s_putF X5 hx hby hZ (n := 57) hown (hw _ (List.mem_of_getElem? (i := 31) rfl)) e5 F5_r_value E5_r (Or.inr ⟨(hw _ (List.mem_of_getElem? (i := 27) rfl)), rfl, hnm⟩) (hw _ (List.mem_of_getElem? (i := 12) rfl)) (ty := (.array (.byte))) (by decide) rfl rfl d4_54 rfl ?_
  intro T6 h6 X6 e6 W6
  have E6_r := E5_r.wr W6
  have F6_r_value := Fld.same W6 F5_r_value
  have F6_r_coder := Fld.other W6 F5_r_coder (Or.inr (slot_ne (Or.inr (hw _ (List.mem_of_getElem? (i := 28) rfl))) (Or.inr (hw _ (List.mem_of_getElem? (i := 27) rfl))) (by decide) (t := .byte) (t' := (.array (.byte))) (by decide) (by decide)))
  have M6 := Fr.snoc X6 M5 n_r
  have K6 := Keep.wr K5 W6 (Or.inl (List.mem_of_getElem? (i := 0) rfl))
  have qA6 := qA5.other W6 ne3
  exact s_ret X6 hx hby hlk hret d4_57 (by decide) (by decide) (by rw [e6]; exact ⟨rfl, M6, K6, bs, hbs, E6_r, F6_r_coder, q, F6_r_value, qlt, _, qA6⟩)
set_option maxRecDepth 65536 in
set_option maxHeartbeats 40000000 in
theorem rmSC_3 (l : Launch) (Z : State) (a0 : Array Value) (hw : ∀ d ∈ tables_1, d.before a0 Z = true) (z0 : Int32) (hz0 : ¬ z0 = (0 : Int32)) (Sz0 : Sta Z Z.heap "java/lang/String" "COMPACT_STRINGS" "Z" (.int z0)) (fm : Value) (hfm : fm.isRef = true) (Sfm : Sta Z Z.heap "jdk/internal/util/Preconditions" "SIOOBE_FORMATTER" "Ljava/util/function/BiFunction;" fm) (r ch : Addr) (kc : ClassId) (x0 x1 x2 : Int32) (l0 : ¬ (255 : Int32) < x0) (l1 : ¬ (255 : Int32) < x1) (l2 : ¬ (255 : Int32) < x2) (h0 : Heap) (n0 : Nat) (O0 : Oln Z n0 h0) (cA : Arv Z h0 ch kc .char (3 : Int32) [.int x0, .int x1, .int x2] (.int 0)) (n_r : n0 ≤ r) (E0 : Exa Z h0 r "java/lang/String") (F0v : Fld Z h0 r "java/lang/String" "value" "[B" .null) (F0c : Fld Z h0 r "java/lang/String" "coder" "B" (.int (0 : Int32))) :
    OCon l Z (⟨"java/lang/String", "<init>", "([C)V"⟩ : MethodName) jdk_42_method_3_code 2 (none) [] ({ frames := 3, cells := 1, slots := 3, locals := 52 } : Room) #[(.ref r), (.ref ch)] h0 (fun v h L => v = none ∧ Fr n0 L ∧ Keep h0 h [r] ∧ ∃ bs, bs = [bt x0, bt x1, bt x2] ∧ Str Z h r bs) := by
  refine con (plainFor_of_name pq1) ?_
  intro p e s m below meth c s₁ hx hby hml hZ hown hnm hret hlk X0 e0
  refine entry (eq4f m r ch) ?_
  have M0 := Fr.nil n0
  obtain ⟨scb, sAb, shk, sSz, shz, sHb, sGb⟩ := id cA
  refine s_aloadN X0 hx hby (n := 1) (x := (.ref r)) d3_0 rfl rfl rfl ?_
  refine s_aloadN X0 hx hby (n := 2) (x := (.ref ch)) d3_1 rfl rfl rfl ?_
  refine s_iconst X0 hx hby (n := 3) (v := (0 : Int32)) d3_2 rfl rfl ?_
  refine s_aloadN X0 hx hby (n := 4) (x := (.ref ch)) d3_3 rfl rfl rfl ?_
  refine s_arraylength X0 hx hby hZ (n := 5) e0 sAb (z := (3 : Int32)) sSz shz d3_4 rfl ?_
  refine s_aconstNull X0 hx hby (n := 6) d3_5 rfl ?_
  refine s_callI X0 hx hby hml hZ (n := 9) rfl hown (hw _ (List.mem_of_getElem? (i := 18) rfl)) (hw _ (List.mem_of_getElem? (i := 19) rfl)) (hw _ (List.mem_of_getElem? (i := 13) rfl)) (hw _ (List.mem_of_getElem? (i := 21) rfl)) (by decide) (rmSV_3 l Z a0 hw z0 hz0 Sz0 fm hfm Sfm r ch kc x0 x1 x2 l0 l1 l2 h0 n0 O0 cA n_r E0 F0v F0c) e0 (by decide) 0 (by decide) (by decide) (by decide) pd_3 r [(.ref ch), (.int (0 : Int32)), (.int (3 : Int32)), .null] [] rfl rfl rfl (Nat.le_of_eq rfl) rfl d3_6 rfl ?_
  intro T1 L1 v1 X1 q1c
  obtain ⟨rfl, N1, K1, S1⟩ := q1c
  show OE p e below _ T1 (mkF m 9 #[.val (.ref r), .val (.ref ch)] [])
  have M1 := Fr.app M0 N1
  exact s_ret X1 hx hby hlk hret d3_9 (by decide) (by decide) ⟨rfl, M1, K1, S1⟩
def cc (x k : Int32) : Int32 := (XT.ushr x k) &&& (255 : Int32)
theorem pq2 : plainName "com/example/ucoord/ucoord/model/StreamPartitionEqualsPinLaw" = true := by first | (simp [plainName, overriddenIn]; done) | decide +kernel
theorem eq5f (m : MethodId) (x0 : Int32) (x1 : Int32) : entryFrame m #[(.int x0), (.int x1)] 2 = mkF m 0 #[.val (.int x0), .val (.int x1)] [] := by first | (simp [entryFrame, mkF, argsToLocals, Value.category, maxLocals]; done) | rfl
set_option maxRecDepth 65536 in
set_option maxHeartbeats 40000000 in
theorem rmCc0 (l : Launch) (Z : State) (a0 : Array Value) (hw : ∀ d ∈ tables_1, d.before a0 Z = true) (x : Int32) (h0 : Heap) (n0 : Nat)  :
    OCon l Z (⟨"com/example/ucoord/ucoord/model/StreamPartitionEqualsPinLaw", "ch", "(II)C"⟩ : MethodName) method_2_code 2 (some (.char)) [] ({ frames := 0, cells := 0, slots := 0, locals := 0 } : Room) #[(.int x), (.int (0 : Int32))] h0 (fun v h L => v = some (.int (cc x (2 : Int32))) ∧ h = h0 ∧ Fr n0 L) := by
  refine con (plainFor_of_name pq2) ?_
  intro p e s m below meth c s₁ hx hby hml hZ hown hnm hret hlk X0 e0
  refine entry (eq5f m x (0 : Int32)) ?_
  have M0 := Fr.nil n0
  refine s_iloadN X0 hx hby (n := 1) (x := x) d2_0 rfl rfl ?_
  refine s_iconst X0 hx hby (n := 2) (v := (2 : Int32)) d2_1 rfl rfl ?_
  refine s_bipush X0 hx hby (n := 4) (v := (8 : Int32)) d2_2 rfl rfl ?_
  refine s_iloadN X0 hx hby (n := 5) (x := (0 : Int32)) d2_4 rfl rfl ?_
  refine s_imul X0 hx hby (n := 6) d2_5 rfl ?_
  refine s_fold (z := (0 : Int32)) (by decide) ?_
  refine s_iadd X0 hx hby (n := 7) d2_6 rfl ?_
  refine s_fold (z := (2 : Int32)) (by decide) ?_
  refine s_iushr X0 hx hby (n := 8) d2_7 rfl ?_
  refine s_sipush X0 hx hby (n := 11) (v := (255 : Int32)) d2_8 rfl rfl ?_
  refine s_iand X0 hx hby (n := 12) d2_11 rfl ?_
  refine s_i2c X0 hx hby (n := 13) d2_12 rfl ?_
  refine s_fold (z := (cc x (2 : Int32))) (i2c_mask _) ?_
  exact s_retN X0 hx hby hlk hret (t := .char) (by simp) (z' := cc x (2 : Int32)) (i2c_mask _) d2_13 (by decide) (by decide) ⟨rfl, e0, M0⟩
set_option maxRecDepth 65536 in
set_option maxHeartbeats 40000000 in
theorem rmCc1 (l : Launch) (Z : State) (a0 : Array Value) (hw : ∀ d ∈ tables_1, d.before a0 Z = true) (x : Int32) (h0 : Heap) (n0 : Nat)  :
    OCon l Z (⟨"com/example/ucoord/ucoord/model/StreamPartitionEqualsPinLaw", "ch", "(II)C"⟩ : MethodName) method_2_code 2 (some (.char)) [] ({ frames := 0, cells := 0, slots := 0, locals := 0 } : Room) #[(.int x), (.int (1 : Int32))] h0 (fun v h L => v = some (.int (cc x (10 : Int32))) ∧ h = h0 ∧ Fr n0 L) := by
  refine con (plainFor_of_name pq2) ?_
  intro p e s m below meth c s₁ hx hby hml hZ hown hnm hret hlk X0 e0
  refine entry (eq5f m x (1 : Int32)) ?_
  have M0 := Fr.nil n0
  refine s_iloadN X0 hx hby (n := 1) (x := x) d2_0 rfl rfl ?_
  refine s_iconst X0 hx hby (n := 2) (v := (2 : Int32)) d2_1 rfl rfl ?_
  refine s_bipush X0 hx hby (n := 4) (v := (8 : Int32)) d2_2 rfl rfl ?_
  refine s_iloadN X0 hx hby (n := 5) (x := (1 : Int32)) d2_4 rfl rfl ?_
  refine s_imul X0 hx hby (n := 6) d2_5 rfl ?_
  refine s_fold (z := (8 : Int32)) (by decide) ?_
  refine s_iadd X0 hx hby (n := 7) d2_6 rfl ?_
  refine s_fold (z := (10 : Int32)) (by decide) ?_
  refine s_iushr X0 hx hby (n := 8) d2_7 rfl ?_
  refine s_sipush X0 hx hby (n := 11) (v := (255 : Int32)) d2_8 rfl rfl ?_
  refine s_iand X0 hx hby (n := 12) d2_11 rfl ?_
  refine s_i2c X0 hx hby (n := 13) d2_12 rfl ?_
  refine s_fold (z := (cc x (10 : Int32))) (i2c_mask _) ?_
  exact s_retN X0 hx hby hlk hret (t := .char) (by simp) (z' := cc x (10 : Int32)) (i2c_mask _) d2_13 (by decide) (by decide) ⟨rfl, e0, M0⟩
set_option maxRecDepth 65536 in
set_option maxHeartbeats 40000000 in
theorem rmCc2 (l : Launch) (Z : State) (a0 : Array Value) (hw : ∀ d ∈ tables_1, d.before a0 Z = true) (x : Int32) (h0 : Heap) (n0 : Nat)  :
    OCon l Z (⟨"com/example/ucoord/ucoord/model/StreamPartitionEqualsPinLaw", "ch", "(II)C"⟩ : MethodName) method_2_code 2 (some (.char)) [] ({ frames := 0, cells := 0, slots := 0, locals := 0 } : Room) #[(.int x), (.int (2 : Int32))] h0 (fun v h L => v = some (.int (cc x (18 : Int32))) ∧ h = h0 ∧ Fr n0 L) := by
  refine con (plainFor_of_name pq2) ?_
  intro p e s m below meth c s₁ hx hby hml hZ hown hnm hret hlk X0 e0
  refine entry (eq5f m x (2 : Int32)) ?_
  have M0 := Fr.nil n0
  refine s_iloadN X0 hx hby (n := 1) (x := x) d2_0 rfl rfl ?_
  refine s_iconst X0 hx hby (n := 2) (v := (2 : Int32)) d2_1 rfl rfl ?_
  refine s_bipush X0 hx hby (n := 4) (v := (8 : Int32)) d2_2 rfl rfl ?_
  refine s_iloadN X0 hx hby (n := 5) (x := (2 : Int32)) d2_4 rfl rfl ?_
  refine s_imul X0 hx hby (n := 6) d2_5 rfl ?_
  refine s_fold (z := (16 : Int32)) (by decide) ?_
  refine s_iadd X0 hx hby (n := 7) d2_6 rfl ?_
  refine s_fold (z := (18 : Int32)) (by decide) ?_
  refine s_iushr X0 hx hby (n := 8) d2_7 rfl ?_
  refine s_sipush X0 hx hby (n := 11) (v := (255 : Int32)) d2_8 rfl rfl ?_
  refine s_iand X0 hx hby (n := 12) d2_11 rfl ?_
  refine s_i2c X0 hx hby (n := 13) d2_12 rfl ?_
  refine s_fold (z := (cc x (18 : Int32))) (i2c_mask _) ?_
  exact s_retN X0 hx hby hlk hret (t := .char) (by simp) (z' := cc x (18 : Int32)) (i2c_mask _) d2_13 (by decide) (by decide) ⟨rfl, e0, M0⟩
def own_same (x y : Int32) : Bool := if (x &&& (3 : Int32)) = (y &&& (3 : Int32)) then (decide ((x &&& (3 : Int32)) < (1 : Int32)) || decide (cc x 2 = cc y 2)) && ((decide ((x &&& (3 : Int32)) < (2 : Int32)) || decide (cc x 10 = cc y 10)) && (decide ((x &&& (3 : Int32)) < (3 : Int32)) || decide (cc x 18 = cc y 18))) else false
theorem eq6f (m : MethodId) (x0 : Int32) (x1 : Int32) : entryFrame m #[(.int x0), (.int x1)] 3 = mkF m 0 #[.val (.int x0), .val (.int x1), .unset] [] := by first | (simp [entryFrame, mkF, argsToLocals, Value.category, maxLocals]; done) | rfl
set_option maxRecDepth 65536 in
set_option maxHeartbeats 40000000 in
theorem rmSame (l : Launch) (Z : State) (a0 : Array Value) (hw : ∀ d ∈ tables_1, d.before a0 Z = true) (x y : Int32) (h0 : Heap) (n0 : Nat)  :
    OCon l Z (⟨"com/example/ucoord/ucoord/model/StreamPartitionEqualsPinLaw", "same", "(II)Z"⟩ : MethodName) method_4_code 3 (some (.boolean)) [] ({ frames := 1, cells := 0, slots := 0, locals := 14 } : Room) #[(.int x), (.int y)] h0 (fun v h L => v = some (.int (b2i (own_same x y))) ∧ h = h0 ∧ Fr n0 L) := by
  refine con (plainFor_of_name pq2) ?_
  intro p e s m below meth c s₁ hx hby hml hZ hown hnm hret hlk X0 e0
  refine entry (eq6f m x y) ?_
  have M0 := Fr.nil n0
  refine s_iloadN X0 hx hby (n := 1) (x := x) d11_0 rfl rfl ?_
  refine s_iconst X0 hx hby (n := 2) (v := (3 : Int32)) d11_1 rfl rfl ?_
  refine s_iand X0 hx hby (n := 3) d11_2 rfl ?_
  refine s_istoreN X0 hx hby (n := 4) (L' := #[.val (.int x), .val (.int y), .val (.int (x &&& (3 : Int32)))]) d11_3 rfl rfl ?_
  refine s_iloadN X0 hx hby (n := 5) (x := (x &&& (3 : Int32))) d11_4 rfl rfl ?_
  refine s_iloadN X0 hx hby (n := 6) (x := y) d11_5 rfl rfl ?_
  refine s_iconst X0 hx hby (n := 7) (v := (3 : Int32)) d11_6 rfl rfl ?_
  refine s_iand X0 hx hby (n := 8) d11_7 rfl ?_
  by_cases c8 : (x &&& (3 : Int32)) = (y &&& (3 : Int32))
  · refine s_icmpY X0 hx hby (n := 13) d11_8 (XT.ii_eq_t c8) (by decide) (by decide) ?_
    refine s_iloadN X0 hx hby (n := 14) (x := (x &&& (3 : Int32))) d11_13 rfl rfl ?_
    refine s_iconst X0 hx hby (n := 15) (v := (1 : Int32)) d11_14 rfl rfl ?_
    by_cases c15 : (x &&& (3 : Int32)) < (1 : Int32)
    · refine s_icmpY X0 hx hby (n := 33) d11_15 (XT.ii_lt_t c15) (by decide) (by decide) ?_
      refine s_iloadN X0 hx hby (n := 34) (x := (x &&& (3 : Int32))) d11_33 rfl rfl ?_
      refine s_iconst X0 hx hby (n := 35) (v := (2 : Int32)) d11_34 rfl rfl ?_
      by_cases c35 : (x &&& (3 : Int32)) < (2 : Int32)
      · refine s_icmpY X0 hx hby (n := 53) d11_35 (XT.ii_lt_t c35) (by decide) (by decide) ?_
        refine s_iloadN X0 hx hby (n := 54) (x := (x &&& (3 : Int32))) d11_53 rfl rfl ?_
        refine s_iconst X0 hx hby (n := 55) (v := (3 : Int32)) d11_54 rfl rfl ?_
        by_cases c55 : (x &&& (3 : Int32)) < (3 : Int32)
        · refine s_icmpY X0 hx hby (n := 73) d11_55 (XT.ii_lt_t c55) (by decide) (by decide) ?_
          refine s_iconst X0 hx hby (n := 74) (v := (1 : Int32)) d11_73 rfl rfl ?_
          exact s_retN X0 hx hby hlk hret (t := .boolean) (by simp) (z' := (1 : Int32)) (by decide) d11_74 (by decide) (by decide) ⟨by unfold own_same; rw [if_pos c8]; simp [b2i, c15, c35, c55], e0, M0⟩
        · refine s_icmpN X0 hx hby (n := 58) d11_55 (XT.ii_lt_f c55) rfl ?_
          refine s_iloadN X0 hx hby (n := 59) (x := x) d11_58 rfl rfl ?_
          refine s_iconst X0 hx hby (n := 60) (v := (2 : Int32)) d11_59 rfl rfl ?_
          refine s_callS X0 hx hby hml hZ (n := 63) hown (hw _ (List.mem_of_getElem? (i := 8) rfl)) (hw _ (List.mem_of_getElem? (i := 9) rfl)) (hw _ (List.mem_of_getElem? (i := 6) rfl)) (hw _ (List.mem_of_getElem? (i := 10) rfl)) (by decide) (rmCc2 l Z a0 hw x h0 n0) e0 (by decide) 0 (by decide) (by decide) (by decide) pd_4 [(.int x), (.int (2 : Int32))] [] rfl rfl rfl (Nat.le_of_eq rfl) rfl d11_60 rfl ?_
          intro T1 L1 v1 X1 q1c
          obtain ⟨rfl, e1, N1⟩ := q1c
          show OE p e below _ T1 (mkF m 63 #[.val (.int x), .val (.int y), .val (.int (x &&& (3 : Int32)))] [(.int (cc x (18 : Int32)))])
          have M1 := Fr.app M0 N1
          refine s_iloadN X1 hx hby (n := 64) (x := y) d11_63 rfl rfl ?_
          refine s_iconst X1 hx hby (n := 65) (v := (2 : Int32)) d11_64 rfl rfl ?_
          refine s_callS X1 hx hby hml hZ (n := 68) hown (hw _ (List.mem_of_getElem? (i := 8) rfl)) (hw _ (List.mem_of_getElem? (i := 9) rfl)) (hw _ (List.mem_of_getElem? (i := 6) rfl)) (hw _ (List.mem_of_getElem? (i := 10) rfl)) (by decide) (rmCc2 l Z a0 hw y h0 n0) e1 (by decide) 1 (by decide) (by decide) (by decide) pd_4 [(.int y), (.int (2 : Int32))] [(.int (cc x (18 : Int32)))] rfl rfl rfl (Nat.le_of_eq rfl) rfl d11_65 rfl ?_
          intro T2 L2 v2 X2 q2c
          obtain ⟨rfl, e2, N2⟩ := q2c
          show OE p e below _ T2 (mkF m 68 #[.val (.int x), .val (.int y), .val (.int (x &&& (3 : Int32)))] [(.int (cc y (18 : Int32))), (.int (cc x (18 : Int32)))])
          have M2 := Fr.app M1 N2
          by_cases c68 : (cc x (18 : Int32)) = (cc y (18 : Int32))
          · refine s_icmpY X2 hx hby (n := 73) d11_68 (XT.ii_eq_t c68) (by decide) (by decide) ?_
            refine s_iconst X2 hx hby (n := 74) (v := (1 : Int32)) d11_73 rfl rfl ?_
            exact s_retN X2 hx hby hlk hret (t := .boolean) (by simp) (z' := (1 : Int32)) (by decide) d11_74 (by decide) (by decide) ⟨by unfold own_same; rw [if_pos c8]; simp [b2i, c15, c35, c55, c68], e2, M2⟩
          · refine s_icmpN X2 hx hby (n := 71) d11_68 (XT.ii_eq_f c68) rfl ?_
            refine s_iconst X2 hx hby (n := 72) (v := (0 : Int32)) d11_71 rfl rfl ?_
            exact s_retN X2 hx hby hlk hret (t := .boolean) (by simp) (z' := (0 : Int32)) (by decide) d11_72 (by decide) (by decide) ⟨by unfold own_same; rw [if_pos c8]; simp [b2i, c15, c35, c55, c68], e2, M2⟩
      · refine s_icmpN X0 hx hby (n := 38) d11_35 (XT.ii_lt_f c35) rfl ?_
        refine s_iloadN X0 hx hby (n := 39) (x := x) d11_38 rfl rfl ?_
        refine s_iconst X0 hx hby (n := 40) (v := (1 : Int32)) d11_39 rfl rfl ?_
        refine s_callS X0 hx hby hml hZ (n := 43) hown (hw _ (List.mem_of_getElem? (i := 8) rfl)) (hw _ (List.mem_of_getElem? (i := 9) rfl)) (hw _ (List.mem_of_getElem? (i := 6) rfl)) (hw _ (List.mem_of_getElem? (i := 10) rfl)) (by decide) (rmCc1 l Z a0 hw x h0 n0) e0 (by decide) 0 (by decide) (by decide) (by decide) pd_4 [(.int x), (.int (1 : Int32))] [] rfl rfl rfl (Nat.le_of_eq rfl) rfl d11_40 rfl ?_
        intro T3 L3 v3 X3 q3c
        obtain ⟨rfl, e3, N3⟩ := q3c
        show OE p e below _ T3 (mkF m 43 #[.val (.int x), .val (.int y), .val (.int (x &&& (3 : Int32)))] [(.int (cc x (10 : Int32)))])
        have M3 := Fr.app M0 N3
        refine s_iloadN X3 hx hby (n := 44) (x := y) d11_43 rfl rfl ?_
        refine s_iconst X3 hx hby (n := 45) (v := (1 : Int32)) d11_44 rfl rfl ?_
        refine s_callS X3 hx hby hml hZ (n := 48) hown (hw _ (List.mem_of_getElem? (i := 8) rfl)) (hw _ (List.mem_of_getElem? (i := 9) rfl)) (hw _ (List.mem_of_getElem? (i := 6) rfl)) (hw _ (List.mem_of_getElem? (i := 10) rfl)) (by decide) (rmCc1 l Z a0 hw y h0 n0) e3 (by decide) 1 (by decide) (by decide) (by decide) pd_4 [(.int y), (.int (1 : Int32))] [(.int (cc x (10 : Int32)))] rfl rfl rfl (Nat.le_of_eq rfl) rfl d11_45 rfl ?_
        intro T4 L4 v4 X4 q4c
        obtain ⟨rfl, e4, N4⟩ := q4c
        show OE p e below _ T4 (mkF m 48 #[.val (.int x), .val (.int y), .val (.int (x &&& (3 : Int32)))] [(.int (cc y (10 : Int32))), (.int (cc x (10 : Int32)))])
        have M4 := Fr.app M3 N4
        by_cases c48 : (cc x (10 : Int32)) = (cc y (10 : Int32))
        · refine s_icmpY X4 hx hby (n := 53) d11_48 (XT.ii_eq_t c48) (by decide) (by decide) ?_
          refine s_iloadN X4 hx hby (n := 54) (x := (x &&& (3 : Int32))) d11_53 rfl rfl ?_
          refine s_iconst X4 hx hby (n := 55) (v := (3 : Int32)) d11_54 rfl rfl ?_
          by_cases c55 : (x &&& (3 : Int32)) < (3 : Int32)
          · refine s_icmpY X4 hx hby (n := 73) d11_55 (XT.ii_lt_t c55) (by decide) (by decide) ?_
            refine s_iconst X4 hx hby (n := 74) (v := (1 : Int32)) d11_73 rfl rfl ?_
            exact s_retN X4 hx hby hlk hret (t := .boolean) (by simp) (z' := (1 : Int32)) (by decide) d11_74 (by decide) (by decide) ⟨by unfold own_same; rw [if_pos c8]; simp [b2i, c15, c35, c48, c55], e4, M4⟩
          · refine s_icmpN X4 hx hby (n := 58) d11_55 (XT.ii_lt_f c55) rfl ?_
            refine s_iloadN X4 hx hby (n := 59) (x := x) d11_58 rfl rfl ?_
            refine s_iconst X4 hx hby (n := 60) (v := (2 : Int32)) d11_59 rfl rfl ?_
            refine s_callS X4 hx hby hml hZ (n := 63) hown (hw _ (List.mem_of_getElem? (i := 8) rfl)) (hw _ (List.mem_of_getElem? (i := 9) rfl)) (hw _ (List.mem_of_getElem? (i := 6) rfl)) (hw _ (List.mem_of_getElem? (i := 10) rfl)) (by decide) (rmCc2 l Z a0 hw x h0 n0) e4 (by decide) 0 (by decide) (by decide) (by decide) pd_4 [(.int x), (.int (2 : Int32))] [] rfl rfl rfl (Nat.le_of_eq rfl) rfl d11_60 rfl ?_
            intro T5 L5 v5 X5 q5c
            obtain ⟨rfl, e5, N5⟩ := q5c
            show OE p e below _ T5 (mkF m 63 #[.val (.int x), .val (.int y), .val (.int (x &&& (3 : Int32)))] [(.int (cc x (18 : Int32)))])
            have M5 := Fr.app M4 N5
            refine s_iloadN X5 hx hby (n := 64) (x := y) d11_63 rfl rfl ?_
            refine s_iconst X5 hx hby (n := 65) (v := (2 : Int32)) d11_64 rfl rfl ?_
            refine s_callS X5 hx hby hml hZ (n := 68) hown (hw _ (List.mem_of_getElem? (i := 8) rfl)) (hw _ (List.mem_of_getElem? (i := 9) rfl)) (hw _ (List.mem_of_getElem? (i := 6) rfl)) (hw _ (List.mem_of_getElem? (i := 10) rfl)) (by decide) (rmCc2 l Z a0 hw y h0 n0) e5 (by decide) 1 (by decide) (by decide) (by decide) pd_4 [(.int y), (.int (2 : Int32))] [(.int (cc x (18 : Int32)))] rfl rfl rfl (Nat.le_of_eq rfl) rfl d11_65 rfl ?_
            intro T6 L6 v6 X6 q6c
            obtain ⟨rfl, e6, N6⟩ := q6c
            show OE p e below _ T6 (mkF m 68 #[.val (.int x), .val (.int y), .val (.int (x &&& (3 : Int32)))] [(.int (cc y (18 : Int32))), (.int (cc x (18 : Int32)))])
            have M6 := Fr.app M5 N6
            by_cases c68 : (cc x (18 : Int32)) = (cc y (18 : Int32))
            · refine s_icmpY X6 hx hby (n := 73) d11_68 (XT.ii_eq_t c68) (by decide) (by decide) ?_
              refine s_iconst X6 hx hby (n := 74) (v := (1 : Int32)) d11_73 rfl rfl ?_
              exact s_retN X6 hx hby hlk hret (t := .boolean) (by simp) (z' := (1 : Int32)) (by decide) d11_74 (by decide) (by decide) ⟨by unfold own_same; rw [if_pos c8]; simp [b2i, c15, c35, c48, c55, c68], e6, M6⟩
            · refine s_icmpN X6 hx hby (n := 71) d11_68 (XT.ii_eq_f c68) rfl ?_
              refine s_iconst X6 hx hby (n := 72) (v := (0 : Int32)) d11_71 rfl rfl ?_
              exact s_retN X6 hx hby hlk hret (t := .boolean) (by simp) (z' := (0 : Int32)) (by decide) d11_72 (by decide) (by decide) ⟨by unfold own_same; rw [if_pos c8]; simp [b2i, c15, c35, c48, c55, c68], e6, M6⟩
        · refine s_icmpN X4 hx hby (n := 51) d11_48 (XT.ii_eq_f c48) rfl ?_
          refine s_iconst X4 hx hby (n := 52) (v := (0 : Int32)) d11_51 rfl rfl ?_
          exact s_retN X4 hx hby hlk hret (t := .boolean) (by simp) (z' := (0 : Int32)) (by decide) d11_52 (by decide) (by decide) ⟨by unfold own_same; rw [if_pos c8]; simp [b2i, c15, c35, c48], e4, M4⟩
    · refine s_icmpN X0 hx hby (n := 18) d11_15 (XT.ii_lt_f c15) rfl ?_
      refine s_iloadN X0 hx hby (n := 19) (x := x) d11_18 rfl rfl ?_
      refine s_iconst X0 hx hby (n := 20) (v := (0 : Int32)) d11_19 rfl rfl ?_
      refine s_callS X0 hx hby hml hZ (n := 23) hown (hw _ (List.mem_of_getElem? (i := 8) rfl)) (hw _ (List.mem_of_getElem? (i := 9) rfl)) (hw _ (List.mem_of_getElem? (i := 6) rfl)) (hw _ (List.mem_of_getElem? (i := 10) rfl)) (by decide) (rmCc0 l Z a0 hw x h0 n0) e0 (by decide) 0 (by decide) (by decide) (by decide) pd_4 [(.int x), (.int (0 : Int32))] [] rfl rfl rfl (Nat.le_of_eq rfl) rfl d11_20 rfl ?_
      intro T7 L7 v7 X7 q7c
      obtain ⟨rfl, e7, N7⟩ := q7c
      show OE p e below _ T7 (mkF m 23 #[.val (.int x), .val (.int y), .val (.int (x &&& (3 : Int32)))] [(.int (cc x (2 : Int32)))])
      have M7 := Fr.app M0 N7
      refine s_iloadN X7 hx hby (n := 24) (x := y) d11_23 rfl rfl ?_
      refine s_iconst X7 hx hby (n := 25) (v := (0 : Int32)) d11_24 rfl rfl ?_
      refine s_callS X7 hx hby hml hZ (n := 28) hown (hw _ (List.mem_of_getElem? (i := 8) rfl)) (hw _ (List.mem_of_getElem? (i := 9) rfl)) (hw _ (List.mem_of_getElem? (i := 6) rfl)) (hw _ (List.mem_of_getElem? (i := 10) rfl)) (by decide) (rmCc0 l Z a0 hw y h0 n0) e7 (by decide) 1 (by decide) (by decide) (by decide) pd_4 [(.int y), (.int (0 : Int32))] [(.int (cc x (2 : Int32)))] rfl rfl rfl (Nat.le_of_eq rfl) rfl d11_25 rfl ?_
      intro T8 L8 v8 X8 q8c
      obtain ⟨rfl, e8, N8⟩ := q8c
      show OE p e below _ T8 (mkF m 28 #[.val (.int x), .val (.int y), .val (.int (x &&& (3 : Int32)))] [(.int (cc y (2 : Int32))), (.int (cc x (2 : Int32)))])
      have M8 := Fr.app M7 N8
      by_cases c28 : (cc x (2 : Int32)) = (cc y (2 : Int32))
      · refine s_icmpY X8 hx hby (n := 33) d11_28 (XT.ii_eq_t c28) (by decide) (by decide) ?_
        refine s_iloadN X8 hx hby (n := 34) (x := (x &&& (3 : Int32))) d11_33 rfl rfl ?_
        refine s_iconst X8 hx hby (n := 35) (v := (2 : Int32)) d11_34 rfl rfl ?_
        by_cases c35 : (x &&& (3 : Int32)) < (2 : Int32)
        · refine s_icmpY X8 hx hby (n := 53) d11_35 (XT.ii_lt_t c35) (by decide) (by decide) ?_
          refine s_iloadN X8 hx hby (n := 54) (x := (x &&& (3 : Int32))) d11_53 rfl rfl ?_
          refine s_iconst X8 hx hby (n := 55) (v := (3 : Int32)) d11_54 rfl rfl ?_
          by_cases c55 : (x &&& (3 : Int32)) < (3 : Int32)
          · refine s_icmpY X8 hx hby (n := 73) d11_55 (XT.ii_lt_t c55) (by decide) (by decide) ?_
            refine s_iconst X8 hx hby (n := 74) (v := (1 : Int32)) d11_73 rfl rfl ?_
            exact s_retN X8 hx hby hlk hret (t := .boolean) (by simp) (z' := (1 : Int32)) (by decide) d11_74 (by decide) (by decide) ⟨by unfold own_same; rw [if_pos c8]; simp [b2i, c15, c28, c35, c55], e8, M8⟩
          · refine s_icmpN X8 hx hby (n := 58) d11_55 (XT.ii_lt_f c55) rfl ?_
            refine s_iloadN X8 hx hby (n := 59) (x := x) d11_58 rfl rfl ?_
            refine s_iconst X8 hx hby (n := 60) (v := (2 : Int32)) d11_59 rfl rfl ?_
            refine s_callS X8 hx hby hml hZ (n := 63) hown (hw _ (List.mem_of_getElem? (i := 8) rfl)) (hw _ (List.mem_of_getElem? (i := 9) rfl)) (hw _ (List.mem_of_getElem? (i := 6) rfl)) (hw _ (List.mem_of_getElem? (i := 10) rfl)) (by decide) (rmCc2 l Z a0 hw x h0 n0) e8 (by decide) 0 (by decide) (by decide) (by decide) pd_4 [(.int x), (.int (2 : Int32))] [] rfl rfl rfl (Nat.le_of_eq rfl) rfl d11_60 rfl ?_
            intro T9 L9 v9 X9 q9c
            obtain ⟨rfl, e9, N9⟩ := q9c
            show OE p e below _ T9 (mkF m 63 #[.val (.int x), .val (.int y), .val (.int (x &&& (3 : Int32)))] [(.int (cc x (18 : Int32)))])
            have M9 := Fr.app M8 N9
            refine s_iloadN X9 hx hby (n := 64) (x := y) d11_63 rfl rfl ?_
            refine s_iconst X9 hx hby (n := 65) (v := (2 : Int32)) d11_64 rfl rfl ?_
            refine s_callS X9 hx hby hml hZ (n := 68) hown (hw _ (List.mem_of_getElem? (i := 8) rfl)) (hw _ (List.mem_of_getElem? (i := 9) rfl)) (hw _ (List.mem_of_getElem? (i := 6) rfl)) (hw _ (List.mem_of_getElem? (i := 10) rfl)) (by decide) (rmCc2 l Z a0 hw y h0 n0) e9 (by decide) 1 (by decide) (by decide) (by decide) pd_4 [(.int y), (.int (2 : Int32))] [(.int (cc x (18 : Int32)))] rfl rfl rfl (Nat.le_of_eq rfl) rfl d11_65 rfl ?_
            intro T10 L10 v10 X10 q10c
            obtain ⟨rfl, e10, N10⟩ := q10c
            show OE p e below _ T10 (mkF m 68 #[.val (.int x), .val (.int y), .val (.int (x &&& (3 : Int32)))] [(.int (cc y (18 : Int32))), (.int (cc x (18 : Int32)))])
            have M10 := Fr.app M9 N10
            by_cases c68 : (cc x (18 : Int32)) = (cc y (18 : Int32))
            · refine s_icmpY X10 hx hby (n := 73) d11_68 (XT.ii_eq_t c68) (by decide) (by decide) ?_
              refine s_iconst X10 hx hby (n := 74) (v := (1 : Int32)) d11_73 rfl rfl ?_
              exact s_retN X10 hx hby hlk hret (t := .boolean) (by simp) (z' := (1 : Int32)) (by decide) d11_74 (by decide) (by decide) ⟨by unfold own_same; rw [if_pos c8]; simp [b2i, c15, c28, c35, c55, c68], e10, M10⟩
            · refine s_icmpN X10 hx hby (n := 71) d11_68 (XT.ii_eq_f c68) rfl ?_
              refine s_iconst X10 hx hby (n := 72) (v := (0 : Int32)) d11_71 rfl rfl ?_
              exact s_retN X10 hx hby hlk hret (t := .boolean) (by simp) (z' := (0 : Int32)) (by decide) d11_72 (by decide) (by decide) ⟨by unfold own_same; rw [if_pos c8]; simp [b2i, c15, c28, c35, c55, c68], e10, M10⟩
        · refine s_icmpN X8 hx hby (n := 38) d11_35 (XT.ii_lt_f c35) rfl ?_
          refine s_iloadN X8 hx hby (n := 39) (x := x) d11_38 rfl rfl ?_
          refine s_iconst X8 hx hby (n := 40) (v := (1 : Int32)) d11_39 rfl rfl ?_
          refine s_callS X8 hx hby hml hZ (n := 43) hown (hw _ (List.mem_of_getElem? (i := 8) rfl)) (hw _ (List.mem_of_getElem? (i := 9) rfl)) (hw _ (List.mem_of_getElem? (i := 6) rfl)) (hw _ (List.mem_of_getElem? (i := 10) rfl)) (by decide) (rmCc1 l Z a0 hw x h0 n0) e8 (by decide) 0 (by decide) (by decide) (by decide) pd_4 [(.int x), (.int (1 : Int32))] [] rfl rfl rfl (Nat.le_of_eq rfl) rfl d11_40 rfl ?_
          intro T11 L11 v11 X11 q11c
          obtain ⟨rfl, e11, N11⟩ := q11c
          show OE p e below _ T11 (mkF m 43 #[.val (.int x), .val (.int y), .val (.int (x &&& (3 : Int32)))] [(.int (cc x (10 : Int32)))])
          have M11 := Fr.app M8 N11
          refine s_iloadN X11 hx hby (n := 44) (x := y) d11_43 rfl rfl ?_
          refine s_iconst X11 hx hby (n := 45) (v := (1 : Int32)) d11_44 rfl rfl ?_
          refine s_callS X11 hx hby hml hZ (n := 48) hown (hw _ (List.mem_of_getElem? (i := 8) rfl)) (hw _ (List.mem_of_getElem? (i := 9) rfl)) (hw _ (List.mem_of_getElem? (i := 6) rfl)) (hw _ (List.mem_of_getElem? (i := 10) rfl)) (by decide) (rmCc1 l Z a0 hw y h0 n0) e11 (by decide) 1 (by decide) (by decide) (by decide) pd_4 [(.int y), (.int (1 : Int32))] [(.int (cc x (10 : Int32)))] rfl rfl rfl (Nat.le_of_eq rfl) rfl d11_45 rfl ?_
          intro T12 L12 v12 X12 q12c
          obtain ⟨rfl, e12, N12⟩ := q12c
          show OE p e below _ T12 (mkF m 48 #[.val (.int x), .val (.int y), .val (.int (x &&& (3 : Int32)))] [(.int (cc y (10 : Int32))), (.int (cc x (10 : Int32)))])
          have M12 := Fr.app M11 N12
          by_cases c48 : (cc x (10 : Int32)) = (cc y (10 : Int32))
          · refine s_icmpY X12 hx hby (n := 53) d11_48 (XT.ii_eq_t c48) (by decide) (by decide) ?_
            refine s_iloadN X12 hx hby (n := 54) (x := (x &&& (3 : Int32))) d11_53 rfl rfl ?_
            refine s_iconst X12 hx hby (n := 55) (v := (3 : Int32)) d11_54 rfl rfl ?_
            by_cases c55 : (x &&& (3 : Int32)) < (3 : Int32)
            · refine s_icmpY X12 hx hby (n := 73) d11_55 (XT.ii_lt_t c55) (by decide) (by decide) ?_
              refine s_iconst X12 hx hby (n := 74) (v := (1 : Int32)) d11_73 rfl rfl ?_
              exact s_retN X12 hx hby hlk hret (t := .boolean) (by simp) (z' := (1 : Int32)) (by decide) d11_74 (by decide) (by decide) ⟨by unfold own_same; rw [if_pos c8]; simp [b2i, c15, c28, c35, c48, c55], e12, M12⟩
            · refine s_icmpN X12 hx hby (n := 58) d11_55 (XT.ii_lt_f c55) rfl ?_
              refine s_iloadN X12 hx hby (n := 59) (x := x) d11_58 rfl rfl ?_
              refine s_iconst X12 hx hby (n := 60) (v := (2 : Int32)) d11_59 rfl rfl ?_
              refine s_callS X12 hx hby hml hZ (n := 63) hown (hw _ (List.mem_of_getElem? (i := 8) rfl)) (hw _ (List.mem_of_getElem? (i := 9) rfl)) (hw _ (List.mem_of_getElem? (i := 6) rfl)) (hw _ (List.mem_of_getElem? (i := 10) rfl)) (by decide) (rmCc2 l Z a0 hw x h0 n0) e12 (by decide) 0 (by decide) (by decide) (by decide) pd_4 [(.int x), (.int (2 : Int32))] [] rfl rfl rfl (Nat.le_of_eq rfl) rfl d11_60 rfl ?_
              intro T13 L13 v13 X13 q13c
              obtain ⟨rfl, e13, N13⟩ := q13c
              show OE p e below _ T13 (mkF m 63 #[.val (.int x), .val (.int y), .val (.int (x &&& (3 : Int32)))] [(.int (cc x (18 : Int32)))])
              have M13 := Fr.app M12 N13
              refine s_iloadN X13 hx hby (n := 64) (x := y) d11_63 rfl rfl ?_
              refine s_iconst X13 hx hby (n := 65) (v := (2 : Int32)) d11_64 rfl rfl ?_
              refine s_callS X13 hx hby hml hZ (n := 68) hown (hw _ (List.mem_of_getElem? (i := 8) rfl)) (hw _ (List.mem_of_getElem? (i := 9) rfl)) (hw _ (List.mem_of_getElem? (i := 6) rfl)) (hw _ (List.mem_of_getElem? (i := 10) rfl)) (by decide) (rmCc2 l Z a0 hw y h0 n0) e13 (by decide) 1 (by decide) (by decide) (by decide) pd_4 [(.int y), (.int (2 : Int32))] [(.int (cc x (18 : Int32)))] rfl rfl rfl (Nat.le_of_eq rfl) rfl d11_65 rfl ?_
              intro T14 L14 v14 X14 q14c
              obtain ⟨rfl, e14, N14⟩ := q14c
              show OE p e below _ T14 (mkF m 68 #[.val (.int x), .val (.int y), .val (.int (x &&& (3 : Int32)))] [(.int (cc y (18 : Int32))), (.int (cc x (18 : Int32)))])
              have M14 := Fr.app M13 N14
              by_cases c68 : (cc x (18 : Int32)) = (cc y (18 : Int32))
              · refine s_icmpY X14 hx hby (n := 73) d11_68 (XT.ii_eq_t c68) (by decide) (by decide) ?_
                refine s_iconst X14 hx hby (n := 74) (v := (1 : Int32)) d11_73 rfl rfl ?_
                exact s_retN X14 hx hby hlk hret (t := .boolean) (by simp) (z' := (1 : Int32)) (by decide) d11_74 (by decide) (by decide) ⟨by unfold own_same; rw [if_pos c8]; simp [b2i, c15, c28, c35, c48, c55, c68], e14, M14⟩
              · refine s_icmpN X14 hx hby (n := 71) d11_68 (XT.ii_eq_f c68) rfl ?_
                refine s_iconst X14 hx hby (n := 72) (v := (0 : Int32)) d11_71 rfl rfl ?_
                exact s_retN X14 hx hby hlk hret (t := .boolean) (by simp) (z' := (0 : Int32)) (by decide) d11_72 (by decide) (by decide) ⟨by unfold own_same; rw [if_pos c8]; simp [b2i, c15, c28, c35, c48, c55, c68], e14, M14⟩
          · refine s_icmpN X12 hx hby (n := 51) d11_48 (XT.ii_eq_f c48) rfl ?_
            refine s_iconst X12 hx hby (n := 52) (v := (0 : Int32)) d11_51 rfl rfl ?_
            exact s_retN X12 hx hby hlk hret (t := .boolean) (by simp) (z' := (0 : Int32)) (by decide) d11_52 (by decide) (by decide) ⟨by unfold own_same; rw [if_pos c8]; simp [b2i, c15, c28, c35, c48], e12, M12⟩
      · refine s_icmpN X8 hx hby (n := 31) d11_28 (XT.ii_eq_f c28) rfl ?_
        refine s_iconst X8 hx hby (n := 32) (v := (0 : Int32)) d11_31 rfl rfl ?_
        exact s_retN X8 hx hby hlk hret (t := .boolean) (by simp) (z' := (0 : Int32)) (by decide) d11_32 (by decide) (by decide) ⟨by unfold own_same; rw [if_pos c8]; simp [b2i, c15, c28], e8, M8⟩
  · refine s_icmpN X0 hx hby (n := 11) d11_8 (XT.ii_eq_f c8) rfl ?_
    refine s_iconst X0 hx hby (n := 12) (v := (0 : Int32)) d11_11 rfl rfl ?_
    exact s_retN X0 hx hby hlk hret (t := .boolean) (by simp) (z' := (0 : Int32)) (by decide) d11_12 (by decide) (by decide) ⟨by simp [own_same, b2i, c8], e0, M0⟩
theorem list_eq {bs cs : List Int32} (hl : bs.length = cs.length) (h : ∀ j, j < bs.length → bs.getD j 0 = cs.getD j 0) : bs = cs := by
  refine List.ext_getElem hl fun i h1 h2 => ?_
  have q := h i h1
  simpa [List.getD_eq_getElem?_getD, List.getElem?_eq_getElem h1, List.getElem?_eq_getElem h2] using q
theorem pq3 : plainName "java/lang/StringLatin1" = true := by first | (simp [plainName, overriddenIn]; done) | decide +kernel
theorem eq7f (m : MethodId) (x0 : Addr) (x1 : Addr) : entryFrame m #[(.ref x0), (.ref x1)] 3 = mkF m 0 #[.val (.ref x0), .val (.ref x1), .unset] [] := by first | (simp [entryFrame, mkF, argsToLocals, Value.category, maxLocals]; done) | rfl
set_option maxRecDepth 65536 in
set_option maxHeartbeats 40000000 in
theorem rmLEq (l : Launch) (Z : State) (a0 : Array Value) (hw : ∀ d ∈ tables_1, d.before a0 Z = true) (a b : Addr) (bs cs : List Int32) (h0 : Heap) (n0 : Nat) (Ba : Bys Z h0 a bs) (Bb : Bys Z h0 b cs) :
    OCon l Z (⟨"java/lang/StringLatin1", "equals", "([B[B)Z"⟩ : MethodName) jdk_43_method_13_code 3 (some (.boolean)) [] ({ frames := 0, cells := 0, slots := 0, locals := 0 } : Room) #[(.ref a), (.ref b)] h0 (fun v h L => v = some (.int (b2i (decide (bs = cs)))) ∧ h = h0 ∧ Fr n0 L) := by
  refine con (plainFor_of_name pq3) ?_
  intro p e s m below meth c s₁ hx hby hml hZ hown hnm hret hlk X0 e0
  refine entry (eq7f m a b) ?_
  have M0 := Fr.nil n0
  obtain ⟨alt, ak, acl, aAr, ahk, aSz, ahz, aHb, aGb⟩ := Ba
  obtain ⟨blt, bk, bcl, bAr, bhk, bSz, bhz, bHb, bGb⟩ := Bb
  have loop : bs.length = cs.length → ∀ f i, i + f = bs.length → (∀ j, j < i → bs.getD j 0 = cs.getD j 0) → OE p e below (FN s 0 0 (fun v h L => v = some (.int (b2i (decide (bs = cs)))) ∧ h = h0 ∧ Fr n0 L)) s₁ (mkF m 9 #[.val (.ref a), .val (.ref b), .val (.int (Int32.ofNat i))] []) := by
    intro hl f
    induction f with
    | zero =>
        intro i hi hp
        refine s_iloadN X0 hx hby (n := 10) (x := (Int32.ofNat i)) d14_9 rfl rfl ?_
        refine s_aloadN X0 hx hby (n := 11) (x := (.ref a)) d14_10 rfl rfl rfl ?_
        refine s_arraylength X0 hx hby hZ (n := 12) e0 aAr (z := (Int32.ofNat bs.length)) aSz ahz d14_11 rfl ?_
        refine s_icmpY X0 hx hby (n := 32) d14_12 (XT.ii_ge_t (fun q => absurd ((lt32 (by omega) alt).mp q) (by omega))) (by decide) (by decide) ?_
        refine s_iconst X0 hx hby (n := 33) (v := (1 : Int32)) d14_32 rfl rfl ?_
        exact s_retN X0 hx hby hlk hret (t := .boolean) (by simp) (z' := (1 : Int32)) (by decide) d14_33 (by decide) (by decide) ⟨by rw [list_eq hl (fun j q => hp j (by omega))]; simp [b2i], e0, M0⟩
    | succ f ih =>
        intro i hi hp
        refine s_iloadN X0 hx hby (n := 10) (x := (Int32.ofNat i)) d14_9 rfl rfl ?_
        refine s_aloadN X0 hx hby (n := 11) (x := (.ref a)) d14_10 rfl rfl rfl ?_
        refine s_arraylength X0 hx hby hZ (n := 12) e0 aAr (z := (Int32.ofNat bs.length)) aSz ahz d14_11 rfl ?_
        refine s_icmpN X0 hx hby (n := 15) d14_12 (XT.ii_ge_f ((lt32 (by omega) alt).mpr (by omega))) rfl ?_
        refine s_aloadN X0 hx hby (n := 16) (x := (.ref a)) d14_15 rfl rfl rfl ?_
        refine s_iloadN X0 hx hby (n := 17) (x := (Int32.ofNat i)) d14_16 rfl rfl ?_
        refine s_baload X0 hx hby hZ (n := 18) e0 aAr (inb_of aSz ⟨p32 (by omega), (lt32 (by omega) alt).mpr (by omega)⟩) (v := .int (bs.getD i 0)) (by rw [c32 (by omega), aHb i (by rw [aSz, c32 alt]; omega), getDm]) d14_17 rfl ?_
        refine s_aloadN X0 hx hby (n := 19) (x := (.ref b)) d14_18 rfl rfl rfl ?_
        refine s_iloadN X0 hx hby (n := 20) (x := (Int32.ofNat i)) d14_19 rfl rfl ?_
        refine s_baload X0 hx hby hZ (n := 21) e0 bAr (inb_of bSz ⟨p32 (by omega), (lt32 (by omega) blt).mpr (by omega)⟩) (v := .int (cs.getD i 0)) (by rw [c32 (by omega), bHb i (by rw [bSz, c32 blt]; omega), getDm]) d14_20 rfl ?_
        by_cases c21 : (bs.getD i 0) = (cs.getD i 0)
        · refine s_icmpY X0 hx hby (n := 26) d14_21 (XT.ii_eq_t c21) (by decide) (by decide) ?_
          refine s_iinc X0 hx hby (n := 29) (v := (1 : Int32)) (x := (Int32.ofNat i)) (L' := #[.val (.ref a), .val (.ref b), .val (.int ((Int32.ofNat i) + (1 : Int32)))]) d14_26 rfl rfl rfl rfl ?_
          refine s_goto X0 hx hby (n := 9) d14_29 (by decide) (by decide) ?_
          rw [show Int32.ofNat i + (1 : Int32) = Int32.ofNat (i + 1) from add32 i 1]
          exact ih (i + 1) (by omega) (fun j hj => by rcases Nat.lt_succ_iff_lt_or_eq.mp hj with z | z; exact hp j z; subst z; exact c21)
        · refine s_icmpN X0 hx hby (n := 24) d14_21 (XT.ii_eq_f c21) rfl ?_
          refine s_iconst X0 hx hby (n := 25) (v := (0 : Int32)) d14_24 rfl rfl ?_
          exact s_retN X0 hx hby hlk hret (t := .boolean) (by simp) (z' := (0 : Int32)) (by decide) d14_25 (by decide) (by decide) ⟨by have hne : ¬ bs = cs := fun z => c21 (by rw [z]); simp [hne, b2i], e0, M0⟩
  refine s_aloadN X0 hx hby (n := 1) (x := (.ref a)) d14_0 rfl rfl rfl ?_
  refine s_arraylength X0 hx hby hZ (n := 2) e0 aAr (z := (Int32.ofNat bs.length)) aSz ahz d14_1 rfl ?_
  refine s_aloadN X0 hx hby (n := 3) (x := (.ref b)) d14_2 rfl rfl rfl ?_
  refine s_arraylength X0 hx hby hZ (n := 4) e0 bAr (z := (Int32.ofNat cs.length)) bSz bhz d14_3 rfl ?_
  by_cases c4 : (Int32.ofNat bs.length) = (Int32.ofNat cs.length)
  · refine s_icmpN X0 hx hby (n := 7) d14_4 (XT.ii_ne_f c4) rfl ?_
    have hl := (eq32 alt blt).mp c4
    refine s_iconst X0 hx hby (n := 8) (v := (0 : Int32)) d14_7 rfl rfl ?_
    refine s_istoreN X0 hx hby (n := 9) (L' := #[.val (.ref a), .val (.ref b), .val (.int (0 : Int32))]) d14_8 rfl rfl ?_
    exact loop hl bs.length 0 (by omega) (fun j hj => by omega)
  · refine s_icmpY X0 hx hby (n := 34) d14_4 (XT.ii_ne_t c4) (by decide) (by decide) ?_
    refine s_iconst X0 hx hby (n := 35) (v := (0 : Int32)) d14_34 rfl rfl ?_
    exact s_retN X0 hx hby hlk hret (t := .boolean) (by simp) (z' := (0 : Int32)) (by decide) d14_35 (by decide) (by decide) ⟨by have hne : ¬ bs = cs := fun z => c4 (by rw [z]); simp [hne, b2i], e0, M0⟩
theorem eq8f (m : MethodId) (x0 : Addr) (x1 : Addr) : entryFrame m #[(.ref x0), (.ref x1)] 3 = mkF m 0 #[.val (.ref x0), .val (.ref x1), .unset] [] := by first | (simp [entryFrame, mkF, argsToLocals, Value.category, maxLocals]; done) | rfl
set_option maxRecDepth 65536 in
set_option maxHeartbeats 40000000 in
theorem rmEq (l : Launch) (Z : State) (a0 : Array Value) (hw : ∀ d ∈ tables_1, d.before a0 Z = true) (z0 : Int32) (hz0 : ¬ z0 = (0 : Int32)) (Sz0 : Sta Z Z.heap "java/lang/String" "COMPACT_STRINGS" "Z" (.int z0)) (fm : Value) (hfm : fm.isRef = true) (Sfm : Sta Z Z.heap "jdk/internal/util/Preconditions" "SIOOBE_FORMATTER" "Ljava/util/function/BiFunction;" fm) (o q : Addr) (bs cs : List Int32) (h0 : Heap) (n0 : Nat) (O0 : Oln Z n0 h0) (S1 : Str Z h0 o bs) (S2 : Str Z h0 q cs) :
    OCon l Z (⟨"java/lang/String", "equals", "(Ljava/lang/Object;)Z"⟩ : MethodName) jdk_42_method_66_code 3 (some (.boolean)) [] ({ frames := 1, cells := 0, slots := 0, locals := 14 } : Room) #[(.ref o), (.ref q)] h0 (fun v h L => v = some (.int (b2i (decide (bs = cs)))) ∧ h = h0 ∧ Fr n0 L) := by
  refine con (plainFor_of_name pq1) ?_
  intro p e s m below meth c s₁ hx hby hml hZ hown hnm hret hlk X0 e0
  refine entry (eq8f m o q) ?_
  have M0 := Fr.nil n0
  obtain ⟨sE, sFc, sb, sFv, sB⟩ := id S1
  obtain ⟨qE, qFc, qb, qFv, qB⟩ := id S2
  refine s_aloadN X0 hx hby (n := 1) (x := (.ref o)) d13_0 rfl rfl rfl ?_
  refine s_aloadN X0 hx hby (n := 2) (x := (.ref q)) d13_1 rfl rfl rfl ?_
  by_cases c2 : ((.ref o) : Value) = (.ref q)
  · refine s_acmpN X0 hx hby (n := 5) d13_2 rfl rfl (XT.aa_ne_f c2) rfl ?_
    have oe : o = q := by cases c2; rfl
    subst oe
    have be := Str.inj S1 S2
    refine s_iconst X0 hx hby (n := 6) (v := (1 : Int32)) d13_5 rfl rfl ?_
    exact s_retN X0 hx hby hlk hret (t := .boolean) (by simp) (z' := (1 : Int32)) (by decide) d13_6 (by decide) (by decide) ⟨by simp [be, b2i], e0, M0⟩
  · refine s_acmpY X0 hx hby (n := 7) d13_2 rfl rfl (XT.aa_ne_t c2) (by decide) (by decide) ?_
    refine s_aloadN X0 hx hby (n := 8) (x := (.ref q)) d13_7 rfl rfl rfl ?_
    refine s_instY X0 hx hby hZ (n := 11) hown (hw _ (List.mem_of_getElem? (i := 76) rfl)) e0 (Ins.self qE) d13_8 rfl ?_
    intro T1 X1 e1
    refine s_ifN X1 hx hby (n := 14) d13_11 (by decide) rfl ?_
    refine s_aloadN X1 hx hby (n := 15) (x := (.ref q)) d13_14 rfl rfl rfl ?_
    refine s_castY X1 hx hby hZ (n := 18) hown (hw _ (List.mem_of_getElem? (i := 76) rfl)) e1 (Ins.self qE) d13_15 rfl ?_
    intro T2 X2 e2
    refine s_astoreN X2 hx hby (n := 19) (L' := #[.val (.ref o), .val (.ref q), .val (.ref q)]) d13_18 rfl rfl rfl ?_
    refine s_getS X2 hx hby hZ (n := 22) hown (hw _ (List.mem_of_getElem? (i := 33) rfl)) e2 (Sz0.ext O0.2) d13_19 rfl ?_
    intro T3 X3 e3
    refine s_ifN X3 hx hby (n := 25) d13_22 (XT.i0_eq_f hz0) rfl ?_
    refine s_aloadN X3 hx hby (n := 26) (x := (.ref o)) d13_25 rfl rfl rfl ?_
    refine s_getF X3 hx hby hZ (n := 29) hown (hw _ (List.mem_of_getElem? (i := 32) rfl)) e3 sFc d13_26 rfl ?_
    intro T4 X4 e4
    refine s_aloadN X4 hx hby (n := 30) (x := (.ref q)) d13_29 rfl rfl rfl ?_
    refine s_getF X4 hx hby hZ (n := 33) hown (hw _ (List.mem_of_getElem? (i := 32) rfl)) e4 qFc d13_30 rfl ?_
    intro T5 X5 e5
    refine s_icmpN X5 hx hby (n := 36) d13_33 (by decide) rfl ?_
    refine s_aloadN X5 hx hby (n := 37) (x := (.ref o)) d13_36 rfl rfl rfl ?_
    refine s_getF X5 hx hby hZ (n := 40) hown (hw _ (List.mem_of_getElem? (i := 31) rfl)) e5 sFv d13_37 rfl ?_
    intro T6 X6 e6
    refine s_aloadN X6 hx hby (n := 41) (x := (.ref q)) d13_40 rfl rfl rfl ?_
    refine s_getF X6 hx hby hZ (n := 44) hown (hw _ (List.mem_of_getElem? (i := 31) rfl)) e6 qFv d13_41 rfl ?_
    intro T7 X7 e7
    refine s_callS X7 hx hby hml hZ (n := 47) hown (hw _ (List.mem_of_getElem? (i := 77) rfl)) (hw _ (List.mem_of_getElem? (i := 78) rfl)) (hw _ (List.mem_of_getElem? (i := 79) rfl)) (hw _ (List.mem_of_getElem? (i := 80) rfl)) (by decide) (rmLEq l Z a0 hw sb qb bs cs h0 n0 sB qB) e7 (by decide) 0 (by decide) (by decide) (by decide) pd_5 [(.ref sb), (.ref qb)] [] rfl rfl rfl (Nat.le_of_eq rfl) rfl d13_44 rfl ?_
    intro T8 L8 v8 X8 q8c
    obtain ⟨rfl, e8, N8⟩ := q8c
    show OE p e below _ T8 (mkF m 47 #[.val (.ref o), .val (.ref q), .val (.ref q)] [(.int (b2i (decide (bs = cs))))])
    have M8 := Fr.app M0 N8
    rcases Bool.eq_false_or_eq_true ((decide (bs = cs))) with c47 | c47
    · refine s_ifN X8 hx hby (n := 50) d13_47 (ifb_eq_f c47) rfl ?_
      refine s_iconst X8 hx hby (n := 51) (v := (1 : Int32)) d13_50 rfl rfl ?_
      refine s_goto X8 hx hby (n := 55) d13_51 (by decide) (by decide) ?_
      exact s_retN X8 hx hby hlk hret (t := .boolean) (by simp) (z' := (1 : Int32)) (by decide) d13_55 (by decide) (by decide) ⟨by simp only [c47]; rfl, e8, M8⟩
    · refine s_ifY X8 hx hby (n := 54) d13_47 (ifb_eq_t c47) (by decide) (by decide) ?_
      refine s_iconst X8 hx hby (n := 55) (v := (0 : Int32)) d13_54 rfl rfl ?_
      exact s_retN X8 hx hby hlk hret (t := .boolean) (by simp) (z' := (0 : Int32)) (by decide) d13_55 (by decide) (by decide) ⟨by simp only [c47]; rfl, e8, M8⟩
theorem pq4 : plainName "java/util/Objects" = true := by first | (simp [plainName, overriddenIn]; done) | decide +kernel
theorem eq9f (m : MethodId) (x0 : Addr) (x1 : Addr) : entryFrame m #[(.ref x0), (.ref x1)] 2 = mkF m 0 #[.val (.ref x0), .val (.ref x1)] [] := by first | (simp [entryFrame, mkF, argsToLocals, Value.category, maxLocals]; done) | rfl
set_option maxRecDepth 65536 in
set_option maxHeartbeats 40000000 in
theorem rmNN (l : Launch) (Z : State) (a0 : Array Value) (hw : ∀ d ∈ tables_1, d.before a0 Z = true) (o q : Addr) (h0 : Heap) (n0 : Nat)  :
    OCon l Z (⟨"java/util/Objects", "requireNonNull", "(Ljava/lang/Object;Ljava/lang/String;)Ljava/lang/Object;"⟩ : MethodName) jdk_31_method_11_code 2 (some (.object "java/lang/Object")) [] ({ frames := 0, cells := 0, slots := 0, locals := 0 } : Room) #[(.ref o), (.ref q)] h0 (fun v h L => v = some (.ref o) ∧ h = h0 ∧ Fr n0 L) := by
  refine con (plainFor_of_name pq4) ?_
  intro p e s m below meth c s₁ hx hby hml hZ hown hnm hret hlk X0 e0
  refine entry (eq9f m o q) ?_
  have M0 := Fr.nil n0
  refine s_aloadN X0 hx hby (n := 1) (x := (.ref o)) d10_0 rfl rfl rfl ?_
  refine s_nonnullY X0 hx hby (n := 13) d10_1 rfl (by simp) (by decide) (by decide) ?_
  refine s_aloadN X0 hx hby (n := 14) (x := (.ref o)) d10_13 rfl rfl rfl ?_
  exact s_retA X0 hx hby hlk hret rfl rfl d10_14 (by decide) (by decide) ⟨rfl, e0, M0⟩
set_option maxRecDepth 65536 in
set_option maxHeartbeats 40000000 in
theorem rmSV_0 (l : Launch) (Z : State) (a0 : Array Value) (hw : ∀ d ∈ tables_1, d.before a0 Z = true) (z0 : Int32) (hz0 : ¬ z0 = (0 : Int32)) (Sz0 : Sta Z Z.heap "java/lang/String" "COMPACT_STRINGS" "Z" (.int z0)) (fm : Value) (hfm : fm.isRef = true) (Sfm : Sta Z Z.heap "jdk/internal/util/Preconditions" "SIOOBE_FORMATTER" "Ljava/util/function/BiFunction;" fm) (r ch : Addr) (h0 : Heap) (n0 : Nat) (O0 : Oln Z n0 h0) (n_r : n0 ≤ r) (E0 : Exa Z h0 r "java/lang/String") (F0v : Fld Z h0 r "java/lang/String" "value" "[B" .null) (F0c : Fld Z h0 r "java/lang/String" "coder" "B" (.int (0 : Int32))) (hh0 : Jvm.Lit.constHeld Z "java/lang/String" 7) (hcw : Jvm.Lit.compactW.before a0 Z = true) :
    OConV l Z (⟨"java/lang/String", "<init>", "([CIILjava/lang/Void;)V"⟩ : MethodName) jdk_42_method_149_code 6 (none) [] ({ frames := 1, cells := 2, slots := 4, locals := 12 } : Room) #[(.ref r), (.ref ch), (.int (0 : Int32)), (.int (0 : Int32)), .null] h0 (fun vm => IS Z "java/lang/String" "com/example/ucoord/ucoord/model/StreamPartition" vm h0) (fun v h L vm => v = none ∧ Fr n0 L ∧ Keep h0 h [r] ∧ Str Z h r [] ∧ IS Z "java/lang/String" "com/example/ucoord/ucoord/model/StreamPartition" vm h) := by
  refine conV (plainFor_of_name pq1) ?_
  intro p e s m below meth c s₁ hx hby hml hZ hown hnm hret hlk X0 e0 e00 hV hS0
  refine entry (eq3f m r ch (0 : Int32) (0 : Int32)) ?_
  have M0 := Fr.nil n0
  have K0 := Keep.refl h0 [r]
  refine s_aloadN X0 hx hby (n := 1) (x := (.ref r)) d4_0 rfl rfl rfl ?_
  refine s_initO X0 hx hby hml hZ (n := 4) hown (hw _ (List.mem_of_getElem? (i := 22) rfl)) (hw _ (List.mem_of_getElem? (i := 23) rfl)) (hw _ (List.mem_of_getElem? (i := 24) rfl)) e0 (by decide) 0 (Nat.le_of_eq rfl) (by decide) rfl d4_1 rfl ?_
  intro T1 X1 e1
  refine s_iloadN X1 hx hby (n := 5) (x := (0 : Int32)) d4_4 rfl rfl ?_
  refine s_ifN X1 hx hby (n := 8) d4_5 (by decide) rfl ?_
  refine s_aloadN X1 hx hby (n := 9) (x := (.ref r)) d4_8 rfl rfl rfl ?_
  obtain ⟨Ts, I0, q1, q2, q3⟩ := hV
  rcases q1 with q1 | ⟨al, Ll, Sl⟩
  · skip
    refine v_ldcR X1 hx hby hZ (n := 11) hown (hw _ (List.mem_of_getElem? (i := 25) rfl)) (XT.wks hw Bundle.stringAtoms) e1 hS0 (by rw [e00]; exact Nat.le_refl _) O0.2 I0 q1 hh0 hcw (vs := []) (z := (0 : Int32)) ⟨by decide +kernel, by rfl⟩ (by decide) (by decide) 0 (by decide +kernel) (by decide) (by decide) (by decide) d4_9 rfl ?_
    intro T2 h2 a2 b2 kb2 k1_2 X2 e2 Q2 hS2 hk2 hZ hown Es2 Fc2 Fv2 Ab2 I2 Lt2 Wq2
    show OE p e below _ T2 (mkF m 11 #[.val (.ref r), .val (.ref ch), .val (.int (0 : Int32)), .val (.int (0 : Int32)), .val .null, .unset] [(.ref a2), (.ref r)])
    have E2_r := E0.ext Q2
    have F2_r_value := F0v.ext Q2
    have F2_r_coder := F0c.ext Q2
    have OO2 := O0.ext Q2
    have K2 := K0.ext Q2
    have S2 : Str Z h2 a2 [] := ⟨Es2, Fc2, b2, Fv2, by decide, kb2, Ab2⟩
    have hkF : ∀ x : Heap, h2.size ≤ x.size → k1_2 ≤ x.size := fun x q => Nat.le_trans hk2 q
    obtain ⟨aE, aFc, ab, aFv, alt, ak, aA⟩ := id S2
    have ner : a2 ≠ r := Fld.ne aFv F2_r_value (by simp)
    have neb : ab ≠ r := (arv_exa E2_r (hw _ (List.mem_of_getElem? (i := 12) rfl)) aA).symm
    refine s_getF X2 hx hby hZ (n := 14) hown (hw _ (List.mem_of_getElem? (i := 31) rfl)) e2 aFv d4_11 rfl ?_
    intro T3 X3 e3
    refine s_putF X3 hx hby hZ (n := 17) hown (hw _ (List.mem_of_getElem? (i := 31) rfl)) e3 F2_r_value E2_r (Or.inr ⟨(hw _ (List.mem_of_getElem? (i := 27) rfl)), rfl, hnm⟩) (hw _ (List.mem_of_getElem? (i := 12) rfl)) (ty := (.array (.byte))) (by decide) rfl rfl d4_14 rfl ?_
    intro T4 h4 X4 e4 W4
    have E4_r := E2_r.wr W4
    have F4_r_value := Fld.same W4 F2_r_value
    have F4_r_coder := Fld.other W4 F2_r_coder (Or.inr (slot_ne (Or.inr (hw _ (List.mem_of_getElem? (i := 28) rfl))) (Or.inr (hw _ (List.mem_of_getElem? (i := 27) rfl))) (by decide) (t := .byte) (t' := (.array (.byte))) (by decide) (by decide)))
    have M4 := Fr.snoc X4 M0 n_r
    have K4 := Keep.wr K2 W4 (Or.inl (List.mem_of_getElem? (i := 0) rfl))
    have aE4 := aE.wr W4
    have aFc4 := aFc.other W4 (Or.inl ner)
    have aFv4 := aFv.other W4 (Or.inl ner)
    have aA4 := aA.other W4 neb
    have OO4 := OO2.wr W4 n_r
    refine s_aloadN X4 hx hby (n := 18) (x := (.ref r)) d4_17 rfl rfl rfl ?_
    refine v_ldcAgain X4 hx hby hZ (n := 20) hown (hw _ (List.mem_of_getElem? (i := 25) rfl)) (a := a2) Lt2 d4_18 rfl ?_
    show OE p e below _ T4 (mkF m 20 #[.val (.ref r), .val (.ref ch), .val (.int (0 : Int32)), .val (.int (0 : Int32)), .val .null, .unset] [(.ref a2), (.ref r)])
    refine s_getF X4 hx hby hZ (n := 23) hown (hw _ (List.mem_of_getElem? (i := 32) rfl)) e4 aFc4 d4_20 rfl ?_
    intro T5 X5 e5
    refine s_putF X5 hx hby hZ (n := 26) hown (hw _ (List.mem_of_getElem? (i := 32) rfl)) e5 F4_r_coder E4_r (Or.inr ⟨(hw _ (List.mem_of_getElem? (i := 28) rfl)), rfl, hnm⟩) (hw _ (List.mem_of_getElem? (i := 12) rfl)) (ty := .byte) (by decide) rfl rfl d4_23 rfl ?_
    intro T6 h6 X6 e6 W6
    have E6_r := E4_r.wr W6
    have F6_r_value := Fld.other W6 F4_r_value (Or.inr (slot_ne (Or.inr (hw _ (List.mem_of_getElem? (i := 27) rfl))) (Or.inr (hw _ (List.mem_of_getElem? (i := 28) rfl))) (by decide) (t := (.array (.byte))) (t' := .byte) (by decide) (by decide)))
    have F6_r_coder := Fld.same W6 F4_r_coder
    have M6 := Fr.snoc X6 M4 n_r
    have K6 := Keep.wr K4 W6 (Or.inl (List.mem_of_getElem? (i := 0) rfl))
    have aE6 := aE4.wr W6
    have aFc6 := aFc4.other W6 (Or.inl ner)
    have aFv6 := aFv4.other W6 (Or.inl ner)
    have aA6 := aA4.other W6 neb
    have OO6 := OO4.wr W6 n_r
    have Sr : Str Z h6 r [] := ⟨E6_r, F6_r_coder, ab, F6_r_value, alt, ak, aA6⟩
    have Sa : Str Z h6 a2 [] := ⟨aE6, aFc6, ab, aFv6, alt, ak, aA6⟩
    exact v_ret X6 hx hby hlk hret d4_26 hS2 (by rw [e6]; exact hkF h6 (by simp only [Wr.size W6, Wr.size W4]; exact Nat.le_refl _)) (by decide) (by decide) (by rw [e6]; exact ⟨rfl, M6, K6, Sr, IS.warm (⟨_, I2, Or.inr ⟨a2, Lt2, Sa⟩, Qe2.more (Z := Z) (O1 := "com/example/ucoord/ucoord/model/StreamPartition") (i := 7) (text := "system") q2 (by decide) Wq2, Qe2.more (Z := Z) (O1 := "com/example/ucoord/ucoord/model/StreamPartition") (i := 22) (text := "stream") q3 (by decide) Wq2⟩) X6.warmed⟩)
  · skip
    have hkF : ∀ x : Heap, h0.size ≤ x.size → s.heap.size ≤ x.size := fun x q => by rw [e00]; exact q
    refine v_ldcAgain X1 hx hby hZ (n := 11) hown (hw _ (List.mem_of_getElem? (i := 25) rfl)) (a := al) Ll d4_9 rfl ?_
    show OE p e below _ T1 (mkF m 11 #[.val (.ref r), .val (.ref ch), .val (.int (0 : Int32)), .val (.int (0 : Int32)), .val .null, .unset] [(.ref al), (.ref r)])
    obtain ⟨aE, aFc, ab, aFv, alt, ak, aA⟩ := id Sl
    have ner : al ≠ r := Fld.ne aFv F0v (by simp)
    have neb : ab ≠ r := (arv_exa E0 (hw _ (List.mem_of_getElem? (i := 12) rfl)) aA).symm
    refine s_getF X1 hx hby hZ (n := 14) hown (hw _ (List.mem_of_getElem? (i := 31) rfl)) e1 aFv d4_11 rfl ?_
    intro T7 X7 e7
    refine s_putF X7 hx hby hZ (n := 17) hown (hw _ (List.mem_of_getElem? (i := 31) rfl)) e7 F0v E0 (Or.inr ⟨(hw _ (List.mem_of_getElem? (i := 27) rfl)), rfl, hnm⟩) (hw _ (List.mem_of_getElem? (i := 12) rfl)) (ty := (.array (.byte))) (by decide) rfl rfl d4_14 rfl ?_
    intro T8 h8 X8 e8 W8
    have E8_r := E0.wr W8
    have F8_r_value := Fld.same W8 F0v
    have F8_r_coder := Fld.other W8 F0c (Or.inr (slot_ne (Or.inr (hw _ (List.mem_of_getElem? (i := 28) rfl))) (Or.inr (hw _ (List.mem_of_getElem? (i := 27) rfl))) (by decide) (t := .byte) (t' := (.array (.byte))) (by decide) (by decide)))
    have M8 := Fr.snoc X8 M0 n_r
    have K8 := Keep.wr K0 W8 (Or.inl (List.mem_of_getElem? (i := 0) rfl))
    have aE8 := aE.wr W8
    have aFc8 := aFc.other W8 (Or.inl ner)
    have aFv8 := aFv.other W8 (Or.inl ner)
    have aA8 := aA.other W8 neb
    have OO8 := O0.wr W8 n_r
    refine s_aloadN X8 hx hby (n := 18) (x := (.ref r)) d4_17 rfl rfl rfl ?_
    refine v_ldcAgain X8 hx hby hZ (n := 20) hown (hw _ (List.mem_of_getElem? (i := 25) rfl)) (a := al) Ll d4_18 rfl ?_
    show OE p e below _ T8 (mkF m 20 #[.val (.ref r), .val (.ref ch), .val (.int (0 : Int32)), .val (.int (0 : Int32)), .val .null, .unset] [(.ref al), (.ref r)])
    refine s_getF X8 hx hby hZ (n := 23) hown (hw _ (List.mem_of_getElem? (i := 32) rfl)) e8 aFc8 d4_20 rfl ?_
    intro T9 X9 e9
    refine s_putF X9 hx hby hZ (n := 26) hown (hw _ (List.mem_of_getElem? (i := 32) rfl)) e9 F8_r_coder E8_r (Or.inr ⟨(hw _ (List.mem_of_getElem? (i := 28) rfl)), rfl, hnm⟩) (hw _ (List.mem_of_getElem? (i := 12) rfl)) (ty := .byte) (by decide) rfl rfl d4_23 rfl ?_
    intro T10 h10 X10 e10 W10
    have E10_r := E8_r.wr W10
    have F10_r_value := Fld.other W10 F8_r_value (Or.inr (slot_ne (Or.inr (hw _ (List.mem_of_getElem? (i := 27) rfl))) (Or.inr (hw _ (List.mem_of_getElem? (i := 28) rfl))) (by decide) (t := (.array (.byte))) (t' := .byte) (by decide) (by decide)))
    have F10_r_coder := Fld.same W10 F8_r_coder
    have M10 := Fr.snoc X10 M8 n_r
    have K10 := Keep.wr K8 W10 (Or.inl (List.mem_of_getElem? (i := 0) rfl))
    have aE10 := aE8.wr W10
    have aFc10 := aFc8.other W10 (Or.inl ner)
    have aFv10 := aFv8.other W10 (Or.inl ner)
    have aA10 := aA8.other W10 neb
    have OO10 := OO8.wr W10 n_r
    have Sr : Str Z h10 r [] := ⟨E10_r, F10_r_coder, ab, F10_r_value, alt, ak, aA10⟩
    have Sa : Str Z h10 al [] := ⟨aE10, aFc10, ab, aFv10, alt, ak, aA10⟩
    exact v_ret X10 hx hby hlk hret d4_26 hS0 (by rw [e10]; exact hkF h10 (by simp only [Wr.size W10, Wr.size W8]; exact Nat.le_refl _)) (by decide) (by decide) (by rw [e10]; exact ⟨rfl, M10, K10, Sr, IS.warm (⟨Ts, I0, Or.inr ⟨al, Ll, Sa⟩, q2, q3⟩) X10.warmed⟩)
set_option maxRecDepth 65536 in
set_option maxHeartbeats 40000000 in
theorem rmSC_0 (l : Launch) (Z : State) (a0 : Array Value) (hw : ∀ d ∈ tables_1, d.before a0 Z = true) (z0 : Int32) (hz0 : ¬ z0 = (0 : Int32)) (Sz0 : Sta Z Z.heap "java/lang/String" "COMPACT_STRINGS" "Z" (.int z0)) (fm : Value) (hfm : fm.isRef = true) (Sfm : Sta Z Z.heap "jdk/internal/util/Preconditions" "SIOOBE_FORMATTER" "Ljava/util/function/BiFunction;" fm) (r ch : Addr) (kc : ClassId) (h0 : Heap) (n0 : Nat) (O0 : Oln Z n0 h0) (cA : Arv Z h0 ch kc .char (0 : Int32) [] (.int 0)) (n_r : n0 ≤ r) (E0 : Exa Z h0 r "java/lang/String") (F0v : Fld Z h0 r "java/lang/String" "value" "[B" .null) (F0c : Fld Z h0 r "java/lang/String" "coder" "B" (.int (0 : Int32))) (hh0 : Jvm.Lit.constHeld Z "java/lang/String" 7) (hcw : Jvm.Lit.compactW.before a0 Z = true) :
    OConV l Z (⟨"java/lang/String", "<init>", "([C)V"⟩ : MethodName) jdk_42_method_3_code 2 (none) [] ({ frames := 2, cells := 2, slots := 4, locals := 29 } : Room) #[(.ref r), (.ref ch)] h0 (fun vm => IS Z "java/lang/String" "com/example/ucoord/ucoord/model/StreamPartition" vm h0) (fun v h L vm => v = none ∧ Fr n0 L ∧ Keep h0 h [r] ∧ Str Z h r [] ∧ IS Z "java/lang/String" "com/example/ucoord/ucoord/model/StreamPartition" vm h) := by
  refine conV (plainFor_of_name pq1) ?_
  intro p e s m below meth c s₁ hx hby hml hZ hown hnm hret hlk X0 e0 e00 hV hS0
  refine entry (eq4f m r ch) ?_
  have M0 := Fr.nil n0
  obtain ⟨scb, sAb, shk, sSz, shz, sHb, sGb⟩ := id cA
  refine s_aloadN X0 hx hby (n := 1) (x := (.ref r)) d3_0 rfl rfl rfl ?_
  refine s_aloadN X0 hx hby (n := 2) (x := (.ref ch)) d3_1 rfl rfl rfl ?_
  refine s_iconst X0 hx hby (n := 3) (v := (0 : Int32)) d3_2 rfl rfl ?_
  refine s_aloadN X0 hx hby (n := 4) (x := (.ref ch)) d3_3 rfl rfl rfl ?_
  refine s_arraylength X0 hx hby hZ (n := 5) e0 sAb (z := (0 : Int32)) sSz shz d3_4 rfl ?_
  refine s_aconstNull X0 hx hby (n := 6) d3_5 rfl ?_
  refine v_callI X0 hx hby hml hZ (n := 9) hown (hw _ (List.mem_of_getElem? (i := 18) rfl)) rfl (hw _ (List.mem_of_getElem? (i := 19) rfl)) (hw _ (List.mem_of_getElem? (i := 13) rfl)) (hw _ (List.mem_of_getElem? (i := 21) rfl)) (by decide) (rmSV_0 l Z a0 hw z0 hz0 Sz0 fm hfm Sfm r ch h0 n0 O0 n_r E0 F0v F0c hh0 hcw) (fun vm₁ hW => IS.warm hV hW) hS0 (by rw [e00]; exact Nat.le_refl _) e0 (by decide) 0 (by decide) (by decide) (by decide) pd_3 r [(.ref ch), (.int (0 : Int32)), (.int (0 : Int32)), .null] [] rfl rfl rfl (Nat.le_of_eq rfl) rfl d3_6 rfl ?_
  intro T1 L1 v1 X1 hS1 hZ hown q1c
  obtain ⟨rfl, N1, K1, S1, I1⟩ := q1c
  show OE p e below _ T1 (mkF m 9 #[.val (.ref r), .val (.ref ch)] [])
  have M1 := Fr.app M0 N1
  exact v_ret X1 hx hby hlk hret d3_9 hS1 (Nat.le_refl _) (by decide) (by decide) ⟨rfl, M1, K1, S1, I1⟩
def bl (x : Int32) : List Int32 := if (x &&& (3 : Int32)) = (0 : Int32) then [] else if (x &&& (3 : Int32)) = (1 : Int32) then [bt (nar .char (cc x (2 : Int32)))] else if (x &&& (3 : Int32)) = (2 : Int32) then [bt (nar .char (cc x (2 : Int32))), bt (nar .char (cc x (10 : Int32)))] else [bt (nar .char (cc x (2 : Int32))), bt (nar .char (cc x (10 : Int32))), bt (nar .char (cc x (18 : Int32)))]
theorem bt_back : ∀ i : Fin 256, (bt (nar .char (Int32.ofNat i.1))) &&& (255 : Int32) = Int32.ofNat i.1 := by decide +kernel
theorem bt_cc (x k : Int32) : (bt (nar .char (cc x k))) &&& (255 : Int32) = cc x k := by
  have q := c_and (XT.ushr x k) 255 (by decide)
  have k255 : (255 : Int32).toInt = 255 := by decide
  rw [k255] at q
  have e : cc x k = Int32.ofNat (⟨(cc x k).toInt.toNat, by show (XT.ushr x k &&& 255).toInt.toNat < 256; omega⟩ : Fin 256).1 := by
    apply Int32.toInt_inj.mp
    rw [n32 (by show (XT.ushr x k &&& 255).toInt.toNat < _; omega)]
    show (XT.ushr x k &&& 255).toInt = ((XT.ushr x k &&& 255).toInt.toNat : Int)
    omega
  rw [e]; exact bt_back _
theorem bt_eq (x y k : Int32) : (bt (nar .char (cc x k)) = bt (nar .char (cc y k))) ↔ cc x k = cc y k :=
  ⟨fun h => by rw [← bt_cc x k, ← bt_cc y k, h], fun h => by rw [h]⟩
theorem same_bl (x y : Int32) : own_same x y = decide (bl y = bl x) := by
  have ex : ∀ k, (cc y k = cc x k) ↔ (cc x k = cc y k) := fun k => ⟨fun h => h.symm, fun h => h.symm⟩
  rcases and3 x with hx | hx | hx | hx <;> rcases and3 y with hy | hy | hy | hy <;> simp [own_same, bl, hx, hy, bt_eq, ex, Bool.and_assoc, Bool.decide_and]
theorem nn31 (x : Int32) : ¬ (x &&& (2147483647 : Int32)) < (0 : Int32) := by
  have q := c_and x 2147483647 (by decide)
  have k0 : (0 : Int32).toInt = 0 := by decide
  rw [Int32.lt_iff_toInt_lt, k0]; omega
theorem eq10f (m : MethodId) (x0 : Int32) : entryFrame m #[(.int x0)] 5 = mkF m 0 #[.val (.int x0), .unset, .unset, .unset, .unset] [] := by first | (simp [entryFrame, mkF, argsToLocals, Value.category, maxLocals]; done) | rfl
set_option maxRecDepth 65536 in
set_option maxHeartbeats 40000000 in
theorem rmStr (l : Launch) (Z : State) (a0 : Array Value) (hw : ∀ d ∈ tables_1, d.before a0 Z = true) (z0 : Int32) (hz0 : ¬ z0 = (0 : Int32)) (Sz0 : Sta Z Z.heap "java/lang/String" "COMPACT_STRINGS" "Z" (.int z0)) (fm : Value) (hfm : fm.isRef = true) (Sfm : Sta Z Z.heap "jdk/internal/util/Preconditions" "SIOOBE_FORMATTER" "Ljava/util/function/BiFunction;" fm) (x : Int32) (h0 : Heap) (n0 : Nat) (O0 : Oln Z n0 h0) (hh0 : Jvm.Lit.constHeld Z "java/lang/String" 7) (hcw : Jvm.Lit.compactW.before a0 Z = true) :
    OConV l Z (⟨"com/example/ucoord/ucoord/model/StreamPartitionEqualsPinLaw", "str", "(I)Ljava/lang/String;"⟩ : MethodName) method_3_code 5 (some (.object "java/lang/String")) [] ({ frames := 4, cells := 4, slots := 10, locals := 66 } : Room) #[(.int x)] h0 (fun vm => IS Z "java/lang/String" "com/example/ucoord/ucoord/model/StreamPartition" vm h0) (fun v h L vm => ∃ r, v = some (.ref r) ∧ Fr n0 L ∧ Keep h0 h [] ∧ Str Z h r (bl x) ∧ IS Z "java/lang/String" "com/example/ucoord/ucoord/model/StreamPartition" vm h) := by
  refine conV (plainFor_of_name pq2) ?_
  intro p e s m below meth c s₁ hx hby hml hZ hown hnm hret hlk X0 e0 e00 hV hS0
  refine entry (eq10f m x) ?_
  have M0 := Fr.nil n0
  have K0 := Keep.refl h0 []
  refine s_iloadN X0 hx hby (n := 1) (x := x) d1_0 rfl rfl ?_
  refine s_iconst X0 hx hby (n := 2) (v := (3 : Int32)) d1_1 rfl rfl ?_
  refine s_iand X0 hx hby (n := 3) d1_2 rfl ?_
  refine s_istoreN X0 hx hby (n := 4) (L' := #[.val (.int x), .val (.int (x &&& (3 : Int32))), .unset, .unset, .unset]) d1_3 rfl rfl ?_
  refine s_iloadN X0 hx hby (n := 5) (x := x) d1_4 rfl rfl ?_
  refine s_iconst X0 hx hby (n := 6) (v := (0 : Int32)) d1_5 rfl rfl ?_
  refine s_callS X0 hx hby hml hZ (n := 9) hown (hw _ (List.mem_of_getElem? (i := 8) rfl)) (hw _ (List.mem_of_getElem? (i := 9) rfl)) (hw _ (List.mem_of_getElem? (i := 6) rfl)) (hw _ (List.mem_of_getElem? (i := 10) rfl)) (by decide) (rmCc0 l Z a0 hw x h0 n0) e0 (by decide) 0 (by decide) (by decide) (by decide) pd_4 [(.int x), (.int (0 : Int32))] [] rfl rfl rfl (Nat.le_of_eq rfl) rfl d1_6 rfl ?_
  intro T1 L1 v1 X1 q1c
  obtain ⟨rfl, e1, N1⟩ := q1c
  show OE p e below _ T1 (mkF m 9 #[.val (.int x), .val (.int (x &&& (3 : Int32))), .unset, .unset, .unset] [(.int (cc x (2 : Int32)))])
  have M1 := Fr.app M0 N1
  refine s_istoreN X1 hx hby (n := 10) (L' := #[.val (.int x), .val (.int (x &&& (3 : Int32))), .val (.int (cc x (2 : Int32))), .unset, .unset]) d1_9 rfl rfl ?_
  refine s_iloadN X1 hx hby (n := 11) (x := x) d1_10 rfl rfl ?_
  refine s_iconst X1 hx hby (n := 12) (v := (1 : Int32)) d1_11 rfl rfl ?_
  refine s_callS X1 hx hby hml hZ (n := 15) hown (hw _ (List.mem_of_getElem? (i := 8) rfl)) (hw _ (List.mem_of_getElem? (i := 9) rfl)) (hw _ (List.mem_of_getElem? (i := 6) rfl)) (hw _ (List.mem_of_getElem? (i := 10) rfl)) (by decide) (rmCc1 l Z a0 hw x h0 n0) e1 (by decide) 0 (by decide) (by decide) (by decide) pd_4 [(.int x), (.int (1 : Int32))] [] rfl rfl rfl (Nat.le_of_eq rfl) rfl d1_12 rfl ?_
  intro T2 L2 v2 X2 q2c
  obtain ⟨rfl, e2, N2⟩ := q2c
  show OE p e below _ T2 (mkF m 15 #[.val (.int x), .val (.int (x &&& (3 : Int32))), .val (.int (cc x (2 : Int32))), .unset, .unset] [(.int (cc x (10 : Int32)))])
  have M2 := Fr.app M1 N2
  refine s_istoreN X2 hx hby (n := 16) (L' := #[.val (.int x), .val (.int (x &&& (3 : Int32))), .val (.int (cc x (2 : Int32))), .val (.int (cc x (10 : Int32))), .unset]) d1_15 rfl rfl ?_
  refine s_iloadN X2 hx hby (n := 17) (x := x) d1_16 rfl rfl ?_
  refine s_iconst X2 hx hby (n := 18) (v := (2 : Int32)) d1_17 rfl rfl ?_
  refine s_callS X2 hx hby hml hZ (n := 21) hown (hw _ (List.mem_of_getElem? (i := 8) rfl)) (hw _ (List.mem_of_getElem? (i := 9) rfl)) (hw _ (List.mem_of_getElem? (i := 6) rfl)) (hw _ (List.mem_of_getElem? (i := 10) rfl)) (by decide) (rmCc2 l Z a0 hw x h0 n0) e2 (by decide) 0 (by decide) (by decide) (by decide) pd_4 [(.int x), (.int (2 : Int32))] [] rfl rfl rfl (Nat.le_of_eq rfl) rfl d1_18 rfl ?_
  intro T3 L3 v3 X3 q3c
  obtain ⟨rfl, e3, N3⟩ := q3c
  show OE p e below _ T3 (mkF m 21 #[.val (.int x), .val (.int (x &&& (3 : Int32))), .val (.int (cc x (2 : Int32))), .val (.int (cc x (10 : Int32))), .unset] [(.int (cc x (18 : Int32)))])
  have M3 := Fr.app M2 N3
  refine s_istore X3 hx hby (n := 23) (L' := #[.val (.int x), .val (.int (x &&& (3 : Int32))), .val (.int (cc x (2 : Int32))), .val (.int (cc x (10 : Int32))), .val (.int (cc x (18 : Int32)))]) d1_21 rfl rfl ?_
  refine s_iloadN X3 hx hby (n := 24) (x := (x &&& (3 : Int32))) d1_23 rfl rfl ?_
  by_cases c24 : (x &&& (3 : Int32)) = (0 : Int32)
  · refine s_ifN X3 hx hby (n := 27) d1_24 (XT.i0_ne_f c24) rfl ?_
    have ZL4 := Oln.le O0
    refine s_newO X3 hx hby hZ (n := 30) hown (hw _ (List.mem_of_getElem? (i := 11) rfl)) (hw _ (List.mem_of_getElem? (i := 12) rfl)) (hw _ (List.mem_of_getElem? (i := 13) rfl)) e3 (by decide) (by decide) d1_27 rfl ?_
    intro T4 h4 r gr X4 e4 Q4 E4_r D4
    have K4 := K0.ext Q4
    have F4_r_value : Fld Z h4 r "java/lang/String" "value" "[B" .null := D4 (Or.inr (hw _ (List.mem_of_getElem? (i := 27) rfl))) (ty := (.array (.byte))) (by decide)
    have F4_r_coder : Fld Z h4 r "java/lang/String" "coder" "B" (.int (0 : Int32)) := D4 (Or.inr (hw _ (List.mem_of_getElem? (i := 28) rfl))) (ty := .byte) (by decide)
    have n_r : n0 ≤ r := by rw [gr]; exact ZL4
    have Z4 : n0 ≤ h4.size := Nat.le_trans ZL4 Q4.1
    have OO4 := O0.ext Q4
    refine s_dup X4 hx hby (n := 31) d1_30 rfl rfl ?_
    refine s_iconst X4 hx hby (n := 32) (v := (0 : Int32)) d1_31 rfl rfl ?_
    refine s_newP X4 hx hby hZ (n := 34) (hw _ (List.mem_of_getElem? (i := 14) rfl)) (ty := .char) rfl e4 (num := (0 : Int32)) (by decide) 0 (by decide) (by decide) (by decide) (by decide) d1_32 rfl ?_
    intro T5 h5 cch ch gch X5 e5 Q5 A5
    have n_ch : n0 ≤ ch := by rw [gch]; exact Oln.le OO4
    have V5_ch := Arv.new A5 (by decide)
    have E5_r := E4_r.ext Q5
    have F5_r_value := F4_r_value.ext Q5
    have F5_r_coder := F4_r_coder.ext Q5
    have K5 := K4.ext Q5
    have OO5 := OO4.ext Q5
    have V5 : Arv Z h5 ch cch .char (0 : Int32) (List.replicate 0 (.int 0)) (.int 0) := Arv.pad V5_ch (pad_rep [] _ 0)
    have ner : r ≠ ch := arv_exa E5_r (hw _ (List.mem_of_getElem? (i := 12) rfl)) V5
    have gch0 : h0.size ≤ ch := by rw [gch]; exact K4.1
    refine v_callI X5 hx hby hml hZ (n := 37) hown (hw _ (List.mem_of_getElem? (i := 15) rfl)) rfl (hw _ (List.mem_of_getElem? (i := 16) rfl)) (hw _ (List.mem_of_getElem? (i := 13) rfl)) (hw _ (List.mem_of_getElem? (i := 17) rfl)) (by decide) (rmSC_0 l Z a0 hw z0 hz0 Sz0 fm hfm Sfm r ch cch h5 n0 OO5 V5 n_r E5_r F5_r_value F5_r_coder hh0 hcw) (fun vm₁ hW => (IS.warm hV hW).keep K5) hS0 (by rw [e00]; exact K5.1) e5 (by decide) 1 (by decide) (by decide) (by decide) pd_6 r [(.ref ch)] [(.ref r)] rfl rfl rfl (Nat.le_of_eq rfl) rfl d1_34 rfl ?_
    intro T6 L6 v6 X6 hS6 hZ hown q6c
    obtain ⟨rfl, N6, K6, S6, I6⟩ := q6c
    show OE p e below _ T6 (mkF m 37 #[.val (.int x), .val (.int (x &&& (3 : Int32))), .val (.int (cc x (2 : Int32))), .val (.int (cc x (10 : Int32))), .val (.int (cc x (18 : Int32)))] [(.ref r)])
    have KK6 := K5.trans K6 (allS (Or.inr (by rw [gr]; exact Nat.le_refl _)) all0)
    have M6 := Fr.app M3 N6
    have eb := (by simp [bl, c24] : bl x = [])
    exact v_retA X6 hx hby hlk hret rfl rfl d1_37 hS6 (Nat.le_refl _) (by decide) (by decide) ⟨r, rfl, M6, KK6, by rw [eb]; exact S6, I6⟩
  · refine s_ifY X3 hx hby (n := 38) d1_24 (XT.i0_ne_t c24) (by decide) (by decide) ?_
    refine s_iloadN X3 hx hby (n := 39) (x := (x &&& (3 : Int32))) d1_38 rfl rfl ?_
    refine s_iconst X3 hx hby (n := 40) (v := (1 : Int32)) d1_39 rfl rfl ?_
    by_cases c40 : (x &&& (3 : Int32)) = (1 : Int32)
    · refine s_icmpN X3 hx hby (n := 43) d1_40 (XT.ii_ne_f c40) rfl ?_
      have ZL7 := Oln.le O0
      refine s_newO X3 hx hby hZ (n := 46) hown (hw _ (List.mem_of_getElem? (i := 11) rfl)) (hw _ (List.mem_of_getElem? (i := 12) rfl)) (hw _ (List.mem_of_getElem? (i := 13) rfl)) e3 (by decide) (by decide) d1_43 rfl ?_
      intro T7 h7 r gr X7 e7 Q7 E7_r D7
      have K7 := K0.ext Q7
      have F7_r_value : Fld Z h7 r "java/lang/String" "value" "[B" .null := D7 (Or.inr (hw _ (List.mem_of_getElem? (i := 27) rfl))) (ty := (.array (.byte))) (by decide)
      have F7_r_coder : Fld Z h7 r "java/lang/String" "coder" "B" (.int (0 : Int32)) := D7 (Or.inr (hw _ (List.mem_of_getElem? (i := 28) rfl))) (ty := .byte) (by decide)
      have n_r : n0 ≤ r := by rw [gr]; exact ZL7
      have Z7 : n0 ≤ h7.size := Nat.le_trans ZL7 Q7.1
      have OO7 := O0.ext Q7
      refine s_dup X7 hx hby (n := 47) d1_46 rfl rfl ?_
      refine s_iconst X7 hx hby (n := 48) (v := (1 : Int32)) d1_47 rfl rfl ?_
      refine s_newP X7 hx hby hZ (n := 50) (hw _ (List.mem_of_getElem? (i := 14) rfl)) (ty := .char) rfl e7 (num := (1 : Int32)) (by decide) 1 (by decide) (by decide) (by decide) (by decide) d1_48 rfl ?_
      intro T8 h8 cch ch gch X8 e8 Q8 A8
      have n_ch : n0 ≤ ch := by rw [gch]; exact Oln.le OO7
      have V8_ch := Arv.new A8 (by decide)
      have E8_r := E7_r.ext Q8
      have F8_r_value := F7_r_value.ext Q8
      have F8_r_coder := F7_r_coder.ext Q8
      have K8 := K7.ext Q8
      have OO8 := OO7.ext Q8
      have V8 : Arv Z h8 ch cch .char (1 : Int32) (List.replicate 1 (.int 0)) (.int 0) := Arv.pad V8_ch (pad_rep [] _ 1)
      have ner : r ≠ ch := arv_exa E8_r (hw _ (List.mem_of_getElem? (i := 12) rfl)) V8
      have gch0 : h0.size ≤ ch := by rw [gch]; exact K7.1
      refine s_dup X8 hx hby (n := 51) d1_50 rfl rfl ?_
      refine s_iconst X8 hx hby (n := 52) (v := (0 : Int32)) d1_51 rfl rfl ?_
      refine s_iloadN X8 hx hby (n := 53) (x := (cc x (2 : Int32))) d1_52 rfl rfl ?_
      obtain ⟨cl9, Ar9, hk9, Sz9, hz9, Hb9, Gb9⟩ := id V8
      refine s_castoreC X8 hx hby hZ (n := 54) e8 Ar9 0 (by decide) (by decide) (by rw [Sz9]; decide) d1_53 rfl ?_
      intro T9 h9 X9 e9 W9
      have V9 := Arv.set (j := (0 : Int32)) Ar9 hk9 Sz9 hz9 Hb9 Gb9 (fits_nar_char _) W9 0 rfl (by simp)
      have M9 := Fr.snoc X9 M3 n_ch
      have K9 := Keep.wr K8 W9 (Or.inr gch0)
      have OO9 := OO8.wr W9 n_ch
      have E9_r := E8_r.wr W9
      have F9_value := F8_r_value.other W9 (Or.inl ner)
      have F9_coder := F8_r_coder.other W9 (Or.inl ner)
      refine s_callI X9 hx hby hml hZ (n := 57) rfl hown (hw _ (List.mem_of_getElem? (i := 15) rfl)) (hw _ (List.mem_of_getElem? (i := 16) rfl)) (hw _ (List.mem_of_getElem? (i := 13) rfl)) (hw _ (List.mem_of_getElem? (i := 17) rfl)) (by decide) (rmSC_1 l Z a0 hw z0 hz0 Sz0 fm hfm Sfm r ch cch (nar .char (cc x (2 : Int32))) (le255n _) h9 n0 OO9 V9 n_r E9_r F9_value F9_coder) e9 (by decide) 1 (by decide) (by decide) (by decide) pd_6 r [(.ref ch)] [(.ref r)] rfl rfl rfl (Nat.le_of_eq rfl) rfl d1_54 rfl ?_
      intro T10 L10 v10 X10 q10c
      obtain ⟨rfl, N10, K10, bs, hbs, S10⟩ := q10c
      show OE p e below _ T10 (mkF m 57 #[.val (.int x), .val (.int (x &&& (3 : Int32))), .val (.int (cc x (2 : Int32))), .val (.int (cc x (10 : Int32))), .val (.int (cc x (18 : Int32)))] [(.ref r)])
      have KK10 := K9.trans K10 (allS (Or.inr (by rw [gr]; exact Nat.le_refl _)) all0)
      have M10 := Fr.app M9 N10
      have eb := (by simp [bl, c24, c40] : bl x = [bt (nar .char (cc x (2 : Int32)))])
      exact v_retA X10 hx hby hlk hret rfl rfl d1_57 hS0 (by rw [e00]; exact KK10.1) (by decide) (by decide) ⟨r, rfl, M10, KK10, by rw [eb, ← hbs]; exact S10, (IS.warm hV X10.warmed).keep KK10⟩
    · refine s_icmpY X3 hx hby (n := 58) d1_40 (XT.ii_ne_t c40) (by decide) (by decide) ?_
      refine s_iloadN X3 hx hby (n := 59) (x := (x &&& (3 : Int32))) d1_58 rfl rfl ?_
      refine s_iconst X3 hx hby (n := 60) (v := (2 : Int32)) d1_59 rfl rfl ?_
      by_cases c60 : (x &&& (3 : Int32)) = (2 : Int32)
      · refine s_icmpN X3 hx hby (n := 63) d1_60 (XT.ii_ne_f c60) rfl ?_
        have ZL11 := Oln.le O0
        refine s_newO X3 hx hby hZ (n := 66) hown (hw _ (List.mem_of_getElem? (i := 11) rfl)) (hw _ (List.mem_of_getElem? (i := 12) rfl)) (hw _ (List.mem_of_getElem? (i := 13) rfl)) e3 (by decide) (by decide) d1_63 rfl ?_
        intro T11 h11 r gr X11 e11 Q11 E11_r D11
        have K11 := K0.ext Q11
        have F11_r_value : Fld Z h11 r "java/lang/String" "value" "[B" .null := D11 (Or.inr (hw _ (List.mem_of_getElem? (i := 27) rfl))) (ty := (.array (.byte))) (by decide)
        have F11_r_coder : Fld Z h11 r "java/lang/String" "coder" "B" (.int (0 : Int32)) := D11 (Or.inr (hw _ (List.mem_of_getElem? (i := 28) rfl))) (ty := .byte) (by decide)
        have n_r : n0 ≤ r := by rw [gr]; exact ZL11
        have Z11 : n0 ≤ h11.size := Nat.le_trans ZL11 Q11.1
        have OO11 := O0.ext Q11
        refine s_dup X11 hx hby (n := 67) d1_66 rfl rfl ?_
        refine s_iconst X11 hx hby (n := 68) (v := (2 : Int32)) d1_67 rfl rfl ?_
        refine s_newP X11 hx hby hZ (n := 70) (hw _ (List.mem_of_getElem? (i := 14) rfl)) (ty := .char) rfl e11 (num := (2 : Int32)) (by decide) 2 (by decide) (by decide) (by decide) (by decide) d1_68 rfl ?_
        intro T12 h12 cch ch gch X12 e12 Q12 A12
        have n_ch : n0 ≤ ch := by rw [gch]; exact Oln.le OO11
        have V12_ch := Arv.new A12 (by decide)
        have E12_r := E11_r.ext Q12
        have F12_r_value := F11_r_value.ext Q12
        have F12_r_coder := F11_r_coder.ext Q12
        have K12 := K11.ext Q12
        have OO12 := OO11.ext Q12
        have V12 : Arv Z h12 ch cch .char (2 : Int32) (List.replicate 2 (.int 0)) (.int 0) := Arv.pad V12_ch (pad_rep [] _ 2)
        have ner : r ≠ ch := arv_exa E12_r (hw _ (List.mem_of_getElem? (i := 12) rfl)) V12
        have gch0 : h0.size ≤ ch := by rw [gch]; exact K11.1
        refine s_dup X12 hx hby (n := 71) d1_70 rfl rfl ?_
        refine s_iconst X12 hx hby (n := 72) (v := (0 : Int32)) d1_71 rfl rfl ?_
        refine s_iloadN X12 hx hby (n := 73) (x := (cc x (2 : Int32))) d1_72 rfl rfl ?_
        obtain ⟨cl13, Ar13, hk13, Sz13, hz13, Hb13, Gb13⟩ := id V12
        refine s_castoreC X12 hx hby hZ (n := 74) e12 Ar13 0 (by decide) (by decide) (by rw [Sz13]; decide) d1_73 rfl ?_
        intro T13 h13 X13 e13 W13
        have V13 := Arv.set (j := (0 : Int32)) Ar13 hk13 Sz13 hz13 Hb13 Gb13 (fits_nar_char _) W13 0 rfl (by simp)
        have M13 := Fr.snoc X13 M3 n_ch
        have K13 := Keep.wr K12 W13 (Or.inr gch0)
        have OO13 := OO12.wr W13 n_ch
        have E13_r := E12_r.wr W13
        have F13_value := F12_r_value.other W13 (Or.inl ner)
        have F13_coder := F12_r_coder.other W13 (Or.inl ner)
        refine s_dup X13 hx hby (n := 75) d1_74 rfl rfl ?_
        refine s_iconst X13 hx hby (n := 76) (v := (1 : Int32)) d1_75 rfl rfl ?_
        refine s_iloadN X13 hx hby (n := 77) (x := (cc x (10 : Int32))) d1_76 rfl rfl ?_
        obtain ⟨cl14, Ar14, hk14, Sz14, hz14, Hb14, Gb14⟩ := id V13
        refine s_castoreC X13 hx hby hZ (n := 78) e13 Ar14 1 (by decide) (by decide) (by rw [Sz14]; decide) d1_77 rfl ?_
        intro T14 h14 X14 e14 W14
        have V14 := Arv.set (j := (1 : Int32)) Ar14 hk14 Sz14 hz14 Hb14 Gb14 (fits_nar_char _) W14 1 rfl (by simp)
        have M14 := Fr.snoc X14 M13 n_ch
        have K14 := Keep.wr K13 W14 (Or.inr gch0)
        have OO14 := OO13.wr W14 n_ch
        have E14_r := E13_r.wr W14
        have F14_value := F13_value.other W14 (Or.inl ner)
        have F14_coder := F13_coder.other W14 (Or.inl ner)
        refine s_callI X14 hx hby hml hZ (n := 81) rfl hown (hw _ (List.mem_of_getElem? (i := 15) rfl)) (hw _ (List.mem_of_getElem? (i := 16) rfl)) (hw _ (List.mem_of_getElem? (i := 13) rfl)) (hw _ (List.mem_of_getElem? (i := 17) rfl)) (by decide) (rmSC_2 l Z a0 hw z0 hz0 Sz0 fm hfm Sfm r ch cch (nar .char (cc x (2 : Int32))) (nar .char (cc x (10 : Int32))) (le255n _) (le255n _) h14 n0 OO14 V14 n_r E14_r F14_value F14_coder) e14 (by decide) 1 (by decide) (by decide) (by decide) pd_6 r [(.ref ch)] [(.ref r)] rfl rfl rfl (Nat.le_of_eq rfl) rfl d1_78 rfl ?_
        intro T15 L15 v15 X15 q15c
        obtain ⟨rfl, N15, K15, bs, hbs, S15⟩ := q15c
        show OE p e below _ T15 (mkF m 81 #[.val (.int x), .val (.int (x &&& (3 : Int32))), .val (.int (cc x (2 : Int32))), .val (.int (cc x (10 : Int32))), .val (.int (cc x (18 : Int32)))] [(.ref r)])
        have KK15 := K14.trans K15 (allS (Or.inr (by rw [gr]; exact Nat.le_refl _)) all0)
        have M15 := Fr.app M14 N15
        have eb := (by simp [bl, c24, c40, c60] : bl x = [bt (nar .char (cc x (2 : Int32))), bt (nar .char (cc x (10 : Int32)))])
        exact v_retA X15 hx hby hlk hret rfl rfl d1_81 hS0 (by rw [e00]; exact KK15.1) (by decide) (by decide) ⟨r, rfl, M15, KK15, by rw [eb, ← hbs]; exact S15, (IS.warm hV X15.warmed).keep KK15⟩
      · refine s_icmpY X3 hx hby (n := 82) d1_60 (XT.ii_ne_t c60) (by decide) (by decide) ?_
        have ZL16 := Oln.le O0
        refine s_newO X3 hx hby hZ (n := 85) hown (hw _ (List.mem_of_getElem? (i := 11) rfl)) (hw _ (List.mem_of_getElem? (i := 12) rfl)) (hw _ (List.mem_of_getElem? (i := 13) rfl)) e3 (by decide) (by decide) d1_82 rfl ?_
        intro T16 h16 r gr X16 e16 Q16 E16_r D16
        have K16 := K0.ext Q16
        have F16_r_value : Fld Z h16 r "java/lang/String" "value" "[B" .null := D16 (Or.inr (hw _ (List.mem_of_getElem? (i := 27) rfl))) (ty := (.array (.byte))) (by decide)
        have F16_r_coder : Fld Z h16 r "java/lang/String" "coder" "B" (.int (0 : Int32)) := D16 (Or.inr (hw _ (List.mem_of_getElem? (i := 28) rfl))) (ty := .byte) (by decide)
        have n_r : n0 ≤ r := by rw [gr]; exact ZL16
        have Z16 : n0 ≤ h16.size := Nat.le_trans ZL16 Q16.1
        have OO16 := O0.ext Q16
        refine s_dup X16 hx hby (n := 86) d1_85 rfl rfl ?_
        refine s_iconst X16 hx hby (n := 87) (v := (3 : Int32)) d1_86 rfl rfl ?_
        refine s_newP X16 hx hby hZ (n := 89) (hw _ (List.mem_of_getElem? (i := 14) rfl)) (ty := .char) rfl e16 (num := (3 : Int32)) (by decide) 3 (by decide) (by decide) (by decide) (by decide) d1_87 rfl ?_
        intro T17 h17 cch ch gch X17 e17 Q17 A17
        have n_ch : n0 ≤ ch := by rw [gch]; exact Oln.le OO16
        have V17_ch := Arv.new A17 (by decide)
        have E17_r := E16_r.ext Q17
        have F17_r_value := F16_r_value.ext Q17
        have F17_r_coder := F16_r_coder.ext Q17
        have K17 := K16.ext Q17
        have OO17 := OO16.ext Q17
        have V17 : Arv Z h17 ch cch .char (3 : Int32) (List.replicate 3 (.int 0)) (.int 0) := Arv.pad V17_ch (pad_rep [] _ 3)
        have ner : r ≠ ch := arv_exa E17_r (hw _ (List.mem_of_getElem? (i := 12) rfl)) V17
        have gch0 : h0.size ≤ ch := by rw [gch]; exact K16.1
        refine s_dup X17 hx hby (n := 90) d1_89 rfl rfl ?_
        refine s_iconst X17 hx hby (n := 91) (v := (0 : Int32)) d1_90 rfl rfl ?_
        refine s_iloadN X17 hx hby (n := 92) (x := (cc x (2 : Int32))) d1_91 rfl rfl ?_
        obtain ⟨cl18, Ar18, hk18, Sz18, hz18, Hb18, Gb18⟩ := id V17
        refine s_castoreC X17 hx hby hZ (n := 93) e17 Ar18 0 (by decide) (by decide) (by rw [Sz18]; decide) d1_92 rfl ?_
        intro T18 h18 X18 e18 W18
        have V18 := Arv.set (j := (0 : Int32)) Ar18 hk18 Sz18 hz18 Hb18 Gb18 (fits_nar_char _) W18 0 rfl (by simp)
        have M18 := Fr.snoc X18 M3 n_ch
        have K18 := Keep.wr K17 W18 (Or.inr gch0)
        have OO18 := OO17.wr W18 n_ch
        have E18_r := E17_r.wr W18
        have F18_value := F17_r_value.other W18 (Or.inl ner)
        have F18_coder := F17_r_coder.other W18 (Or.inl ner)
        refine s_dup X18 hx hby (n := 94) d1_93 rfl rfl ?_
        refine s_iconst X18 hx hby (n := 95) (v := (1 : Int32)) d1_94 rfl rfl ?_
        refine s_iloadN X18 hx hby (n := 96) (x := (cc x (10 : Int32))) d1_95 rfl rfl ?_
        obtain ⟨cl19, Ar19, hk19, Sz19, hz19, Hb19, Gb19⟩ := id V18
        refine s_castoreC X18 hx hby hZ (n := 97) e18 Ar19 1 (by decide) (by decide) (by rw [Sz19]; decide) d1_96 rfl ?_
        intro T19 h19 X19 e19 W19
        have V19 := Arv.set (j := (1 : Int32)) Ar19 hk19 Sz19 hz19 Hb19 Gb19 (fits_nar_char _) W19 1 rfl (by simp)
        have M19 := Fr.snoc X19 M18 n_ch
        have K19 := Keep.wr K18 W19 (Or.inr gch0)
        have OO19 := OO18.wr W19 n_ch
        have E19_r := E18_r.wr W19
        have F19_value := F18_value.other W19 (Or.inl ner)
        have F19_coder := F18_coder.other W19 (Or.inl ner)
        refine s_dup X19 hx hby (n := 98) d1_97 rfl rfl ?_
        refine s_iconst X19 hx hby (n := 99) (v := (2 : Int32)) d1_98 rfl rfl ?_
        refine s_iload X19 hx hby (n := 101) (x := (cc x (18 : Int32))) d1_99 rfl rfl ?_
        obtain ⟨cl20, Ar20, hk20, Sz20, hz20, Hb20, Gb20⟩ := id V19
        refine s_castoreC X19 hx hby hZ (n := 102) e19 Ar20 2 (by decide) (by decide) (by rw [Sz20]; decide) d1_101 rfl ?_
        intro T20 h20 X20 e20 W20
        have V20 := Arv.set (j := (2 : Int32)) Ar20 hk20 Sz20 hz20 Hb20 Gb20 (fits_nar_char _) W20 2 rfl (by simp)
        have M20 := Fr.snoc X20 M19 n_ch
        have K20 := Keep.wr K19 W20 (Or.inr gch0)
        have OO20 := OO19.wr W20 n_ch
        have E20_r := E19_r.wr W20
        have F20_value := F19_value.other W20 (Or.inl ner)
        have F20_coder := F19_coder.other W20 (Or.inl ner)
        refine s_callI X20 hx hby hml hZ (n := 105) rfl hown (hw _ (List.mem_of_getElem? (i := 15) rfl)) (hw _ (List.mem_of_getElem? (i := 16) rfl)) (hw _ (List.mem_of_getElem? (i := 13) rfl)) (hw _ (List.mem_of_getElem? (i := 17) rfl)) (by decide) (rmSC_3 l Z a0 hw z0 hz0 Sz0 fm hfm Sfm r ch cch (nar .char (cc x (2 : Int32))) (nar .char (cc x (10 : Int32))) (nar .char (cc x (18 : Int32))) (le255n _) (le255n _) (le255n _) h20 n0 OO20 V20 n_r E20_r F20_value F20_coder) e20 (by decide) 1 (by decide) (by decide) (by decide) pd_6 r [(.ref ch)] [(.ref r)] rfl rfl rfl (Nat.le_of_eq rfl) rfl d1_102 rfl ?_
        intro T21 L21 v21 X21 q21c
        obtain ⟨rfl, N21, K21, bs, hbs, S21⟩ := q21c
        show OE p e below _ T21 (mkF m 105 #[.val (.int x), .val (.int (x &&& (3 : Int32))), .val (.int (cc x (2 : Int32))), .val (.int (cc x (10 : Int32))), .val (.int (cc x (18 : Int32)))] [(.ref r)])
        have KK21 := K20.trans K21 (allS (Or.inr (by rw [gr]; exact Nat.le_refl _)) all0)
        have M21 := Fr.app M20 N21
        have eb := (by simp [bl, c24, c40, c60] : bl x = [bt (nar .char (cc x (2 : Int32))), bt (nar .char (cc x (10 : Int32))), bt (nar .char (cc x (18 : Int32)))])
        exact v_retA X21 hx hby hlk hret rfl rfl d1_105 hS0 (by rw [e00]; exact KK21.1) (by decide) (by decide) ⟨r, rfl, M21, KK21, by rw [eb, ← hbs]; exact S21, (IS.warm hV X21.warmed).keep KK21⟩
theorem pq5 : plainName "com/example/ucoord/ucoord/model/StreamPartition" = true := by first | (simp [plainName, overriddenIn]; done) | decide +kernel
theorem eq11f (m : MethodId) (x0 : Addr) (x1 : Addr) (x2 : Addr) (x3 : Int32) : entryFrame m #[(.ref x0), (.ref x1), (.ref x2), (.int x3)] 4 = mkF m 0 #[.val (.ref x0), .val (.ref x1), .val (.ref x2), .val (.int x3)] [] := by first | (simp [entryFrame, mkF, argsToLocals, Value.category, maxLocals]; done) | rfl
set_option maxRecDepth 65536 in
set_option maxHeartbeats 40000000 in
theorem rmSPi (l : Launch) (Z : State) (a0 : Array Value) (hw : ∀ d ∈ tables_1, d.before a0 Z = true) (z0 : Int32) (hz0 : ¬ z0 = (0 : Int32)) (Sz0 : Sta Z Z.heap "java/lang/String" "COMPACT_STRINGS" "Z" (.int z0)) (fm : Value) (hfm : fm.isRef = true) (Sfm : Sta Z Z.heap "jdk/internal/util/Preconditions" "SIOOBE_FORMATTER" "Ljava/util/function/BiFunction;" fm) (o s1 s2 : Addr) (pp : Int32) (b1 b2 : List Int32) (h0 : Heap) (n0 : Nat) (O0 : Oln Z n0 h0) (hp : ¬ pp < (0 : Int32)) (n_o : n0 ≤ o) (E0 : Exa Z h0 o "com/example/ucoord/ucoord/model/StreamPartition") (F0a : Fld Z h0 o "com/example/ucoord/ucoord/model/StreamPartition" "system" "Ljava/lang/String;" .null) (F0b : Fld Z h0 o "com/example/ucoord/ucoord/model/StreamPartition" "stream" "Ljava/lang/String;" .null) (F0p : Fld Z h0 o "com/example/ucoord/ucoord/model/StreamPartition" "partition" "I" (.int (0 : Int32))) (S1 : Str Z h0 s1 b1) (S2 : Str Z h0 s2 b2) (hh7 : Jvm.Lit.constHeld Z "com/example/ucoord/ucoord/model/StreamPartition" 7) (hh22 : Jvm.Lit.constHeld Z "com/example/ucoord/ucoord/model/StreamPartition" 22) (hcw : Jvm.Lit.compactW.before a0 Z = true) :
    OConV l Z (⟨"com/example/ucoord/ucoord/model/StreamPartition", "<init>", "(Ljava/lang/String;Ljava/lang/String;I)V"⟩ : MethodName) prog_39_method_1_code 4 (none) [] ({ frames := 1, cells := 4, slots := 56, locals := 14 } : Room) #[(.ref o), (.ref s1), (.ref s2), (.int pp)] h0 (fun vm => IS Z "java/lang/String" "com/example/ucoord/ucoord/model/StreamPartition" vm h0) (fun v h L vm => v = none ∧ Fr n0 L ∧ Keep h0 h [o] ∧ Exa Z h o "com/example/ucoord/ucoord/model/StreamPartition" ∧ Fld Z h o "com/example/ucoord/ucoord/model/StreamPartition" "system" "Ljava/lang/String;" (.ref s1) ∧ Fld Z h o "com/example/ucoord/ucoord/model/StreamPartition" "stream" "Ljava/lang/String;" (.ref s2) ∧ Fld Z h o "com/example/ucoord/ucoord/model/StreamPartition" "partition" "I" (.int pp) ∧ IS Z "java/lang/String" "com/example/ucoord/ucoord/model/StreamPartition" vm h) := by
  refine conV (plainFor_of_name pq5) ?_
  intro p e s m below meth c s₁ hx hby hml hZ hown hnm hret hlk X0 e0 e00 hV hS0
  refine entry (eq11f m o s1 s2 pp) ?_
  have M0 := Fr.nil n0
  have hk0 : s.heap.size ≤ h0.size := by rw [e00]; exact Nat.le_refl _
  have K0 := Keep.refl h0 [o]
  obtain ⟨Ts, I0, q10, q20, q30⟩ := hV
  have q1a : Qe1 Z "java/lang/String" s.vm h0 Ts := q10
  have q2a : Qe2 Z "com/example/ucoord/ucoord/model/StreamPartition" 7 "system" s.vm Ts := q20
  have q3a : Qe2 Z "com/example/ucoord/ucoord/model/StreamPartition" 22 "stream" s.vm Ts := q30
  refine s_aloadN X0 hx hby (n := 1) (x := (.ref o)) d9_0 rfl rfl rfl ?_
  refine s_initO X0 hx hby hml hZ (n := 4) hown (hw _ (List.mem_of_getElem? (i := 47) rfl)) (hw _ (List.mem_of_getElem? (i := 23) rfl)) (hw _ (List.mem_of_getElem? (i := 24) rfl)) e0 (by decide) 0 (Nat.le_of_eq rfl) (by decide) rfl d9_1 rfl ?_
  intro T1 X1 e1
  refine s_aloadN X1 hx hby (n := 5) (x := (.ref o)) d9_4 rfl rfl rfl ?_
  refine s_aloadN X1 hx hby (n := 6) (x := (.ref s1)) d9_5 rfl rfl rfl ?_
  rcases (show _ ∨ _ from q2a) with qn2 | ⟨al2, Ll2⟩
  · skip
    refine v_ldcR X1 hx hby hZ (n := 8) hown (hw _ (List.mem_of_getElem? (i := 48) rfl)) (XT.wks hw Bundle.stringAtoms) e1 hS0 hk0 O0.2 I0 qn2 hh7 hcw (vs := [.int (115 : Int32), .int (121 : Int32), .int (115 : Int32), .int (116 : Int32), .int (101 : Int32), .int (109 : Int32)]) (z := (6 : Int32)) ⟨by decide +kernel, by rfl⟩ (by decide) (by decide) 24 (by decide +kernel) (by decide) (by decide) (by decide) d9_6 rfl ?_
    intro T3 h3 a3 b3 kb3 k1_3 X3 e3 Q3 hS3 hk3 hZ hown Es3 Fc3 Fv3 Ab3 I3 Lt3 Wq3
    show OE p e below _ T3 (mkF m 8 #[.val (.ref o), .val (.ref s1), .val (.ref s2), .val (.int pp)] [(.ref a3), (.ref s1), (.ref o)])
    have E3_o := E0.ext Q3
    have F3_o_system := F0a.ext Q3
    have F3_o_stream := F0b.ext Q3
    have F3_o_partition := F0p.ext Q3
    have OO3 := O0.ext Q3
    have K3 := K0.ext Q3
    have q13 := Qe1.more (t2 := "system") q1a (by decide) Wq3
    have q13' := q13.ext Q3
    have q33 := Qe2.more (t2 := "system") q3a (by decide) Wq3
    have q23 : Qe2 Z "com/example/ucoord/ucoord/model/StreamPartition" 7 "system" T3.vm ("system" :: Ts) := Or.inr ⟨a3, Lt3⟩
    have sE0_3 := (S1.1).ext Q3
    have sE1_3 := (S2.1).ext Q3
    refine s_callS X3 hx hby hml hZ (n := 11) hown (hw _ (List.mem_of_getElem? (i := 49) rfl)) (hw _ (List.mem_of_getElem? (i := 50) rfl)) (hw _ (List.mem_of_getElem? (i := 51) rfl)) (hw _ (List.mem_of_getElem? (i := 52) rfl)) (by decide) (rmNN l Z a0 hw s1 a3 h3 n0) e3 (by decide) 1 (by decide) (by decide) (by decide) pd_7 [(.ref s1), (.ref a3)] [(.ref o)] rfl rfl rfl (Nat.le_of_eq rfl) rfl d9_8 rfl ?_
    intro T4 L4 v4 X4 q4c
    obtain ⟨rfl, e4, N4⟩ := q4c
    show OE p e below _ T4 (mkF m 11 #[.val (.ref o), .val (.ref s1), .val (.ref s2), .val (.int pp)] [(.ref s1), (.ref o)])
    have M4 := Fr.app M0 N4
    refine s_castY X4 hx hby hZ (n := 14) hown (hw _ (List.mem_of_getElem? (i := 53) rfl)) e4 (Ins.self sE0_3) d9_11 rfl ?_
    intro T5 X5 e5
    refine s_putF X5 hx hby hZ (n := 17) hown (hw _ (List.mem_of_getElem? (i := 54) rfl)) e5 F3_o_system E3_o (Or.inr ⟨(hw _ (List.mem_of_getElem? (i := 55) rfl)), rfl, hnm⟩) (hw _ (List.mem_of_getElem? (i := 2) rfl)) (ty := (.object "java/lang/String")) (by decide) rfl rfl d9_14 rfl ?_
    intro T6 h6 X6 e6 W6
    have E6_o := E3_o.wr W6
    have F6_o_system := Fld.same W6 F3_o_system
    have F6_o_stream := Fld.other W6 F3_o_stream (Or.inr (slot_ne (Or.inr (hw _ (List.mem_of_getElem? (i := 58) rfl))) (Or.inr (hw _ (List.mem_of_getElem? (i := 55) rfl))) (by decide) (t := (.object "java/lang/String")) (t' := (.object "java/lang/String")) (by decide) (by decide)))
    have F6_o_partition := Fld.other W6 F3_o_partition (Or.inr (slot_ne (Or.inr (hw _ (List.mem_of_getElem? (i := 60) rfl))) (Or.inr (hw _ (List.mem_of_getElem? (i := 55) rfl))) (by decide) (t := .int) (t' := (.object "java/lang/String")) (by decide) (by decide)))
    have M6 := Fr.snoc X6 M4 n_o
    have K6 := Keep.wr K3 W6 (Or.inl (List.mem_of_getElem? (i := 0) rfl))
    have q16 := q13'.wrO E3_o (by decide) (hw _ (List.mem_of_getElem? (i := 2) rfl)) W6
    have sE0_6 := (sE0_3).wr W6
    have sE1_6 := (sE1_3).wr W6
    have OO6 := OO3.wr W6 n_o
    have hkk6 := Nat.le_trans hk3 (Nat.le_of_eq W6.size.symm)
    refine s_aloadN X6 hx hby (n := 18) (x := (.ref o)) d9_17 rfl rfl rfl ?_
    refine s_aloadN X6 hx hby (n := 19) (x := (.ref s2)) d9_18 rfl rfl rfl ?_
    rcases (show _ ∨ _ from q33) with qn7 | ⟨al7, Ll7⟩
    · skip
      refine v_ldcR X6 hx hby hZ (n := 21) hown (hw _ (List.mem_of_getElem? (i := 56) rfl)) (XT.wks hw Bundle.stringAtoms) e6 hS3 hkk6 OO6.2 I3 qn7 hh22 hcw (vs := [.int (115 : Int32), .int (116 : Int32), .int (114 : Int32), .int (101 : Int32), .int (97 : Int32), .int (109 : Int32)]) (z := (6 : Int32)) ⟨by decide +kernel, by rfl⟩ (by decide) (by decide) 24 (by decide +kernel) (by decide) (by decide) (by decide) d9_19 rfl ?_
      intro T8 h8 a8 b8 kb8 k1_8 X8 e8 Q8 hS8 hk8 hZ hown Es8 Fc8 Fv8 Ab8 I8 Lt8 Wq8
      show OE p e below _ T8 (mkF m 21 #[.val (.ref o), .val (.ref s1), .val (.ref s2), .val (.int pp)] [(.ref a8), (.ref s2), (.ref o)])
      have E8_o := E6_o.ext Q8
      have F8_o_system := F6_o_system.ext Q8
      have F8_o_stream := F6_o_stream.ext Q8
      have F8_o_partition := F6_o_partition.ext Q8
      have OO8 := OO6.ext Q8
      have K8 := K6.ext Q8
      have q18 := Qe1.more (t2 := "stream") q16 (by decide) Wq8
      have q18' := q18.ext Q8
      have q28 := Qe2.more (t2 := "stream") q23 (by decide) Wq8
      have q38 : Qe2 Z "com/example/ucoord/ucoord/model/StreamPartition" 22 "stream" T8.vm ("stream" :: ("system" :: Ts)) := Or.inr ⟨a8, Lt8⟩
      have sE0_8 := (sE0_6).ext Q8
      have sE1_8 := (sE1_6).ext Q8
      refine s_callS X8 hx hby hml hZ (n := 24) hown (hw _ (List.mem_of_getElem? (i := 49) rfl)) (hw _ (List.mem_of_getElem? (i := 50) rfl)) (hw _ (List.mem_of_getElem? (i := 51) rfl)) (hw _ (List.mem_of_getElem? (i := 52) rfl)) (by decide) (rmNN l Z a0 hw s2 a8 h8 n0) e8 (by decide) 1 (by decide) (by decide) (by decide) pd_7 [(.ref s2), (.ref a8)] [(.ref o)] rfl rfl rfl (Nat.le_of_eq rfl) rfl d9_21 rfl ?_
      intro T9 L9 v9 X9 q9c
      obtain ⟨rfl, e9, N9⟩ := q9c
      show OE p e below _ T9 (mkF m 24 #[.val (.ref o), .val (.ref s1), .val (.ref s2), .val (.int pp)] [(.ref s2), (.ref o)])
      have M9 := Fr.app M6 N9
      refine s_castY X9 hx hby hZ (n := 27) hown (hw _ (List.mem_of_getElem? (i := 53) rfl)) e9 (Ins.self sE1_8) d9_24 rfl ?_
      intro T10 X10 e10
      refine s_putF X10 hx hby hZ (n := 30) hown (hw _ (List.mem_of_getElem? (i := 57) rfl)) e10 F8_o_stream E8_o (Or.inr ⟨(hw _ (List.mem_of_getElem? (i := 58) rfl)), rfl, hnm⟩) (hw _ (List.mem_of_getElem? (i := 2) rfl)) (ty := (.object "java/lang/String")) (by decide) rfl rfl d9_27 rfl ?_
      intro T11 h11 X11 e11 W11
      have E11_o := E8_o.wr W11
      have F11_o_system := Fld.other W11 F8_o_system (Or.inr (slot_ne (Or.inr (hw _ (List.mem_of_getElem? (i := 55) rfl))) (Or.inr (hw _ (List.mem_of_getElem? (i := 58) rfl))) (by decide) (t := (.object "java/lang/String")) (t' := (.object "java/lang/String")) (by decide) (by decide)))
      have F11_o_stream := Fld.same W11 F8_o_stream
      have F11_o_partition := Fld.other W11 F8_o_partition (Or.inr (slot_ne (Or.inr (hw _ (List.mem_of_getElem? (i := 60) rfl))) (Or.inr (hw _ (List.mem_of_getElem? (i := 58) rfl))) (by decide) (t := .int) (t' := (.object "java/lang/String")) (by decide) (by decide)))
      have M11 := Fr.snoc X11 M9 n_o
      have K11 := Keep.wr K8 W11 (Or.inl (List.mem_of_getElem? (i := 0) rfl))
      have q111 := q18'.wrO E8_o (by decide) (hw _ (List.mem_of_getElem? (i := 2) rfl)) W11
      have sE0_11 := (sE0_8).wr W11
      have sE1_11 := (sE1_8).wr W11
      have OO11 := OO8.wr W11 n_o
      have hkk11 := Nat.le_trans hk8 (Nat.le_of_eq W11.size.symm)
      refine s_iloadN X11 hx hby (n := 31) (x := pp) d9_30 rfl rfl ?_
      refine s_ifY X11 hx hby (n := 48) d9_31 (XT.i0_ge_t hp) (by decide) (by decide) ?_
      refine s_aloadN X11 hx hby (n := 49) (x := (.ref o)) d9_48 rfl rfl rfl ?_
      refine s_iloadN X11 hx hby (n := 50) (x := pp) d9_49 rfl rfl ?_
      refine s_putF X11 hx hby hZ (n := 53) hown (hw _ (List.mem_of_getElem? (i := 59) rfl)) e11 F11_o_partition E11_o (Or.inr ⟨(hw _ (List.mem_of_getElem? (i := 60) rfl)), rfl, hnm⟩) (hw _ (List.mem_of_getElem? (i := 2) rfl)) (ty := .int) (by decide) rfl rfl d9_50 rfl ?_
      intro T12 h12 X12 e12 W12
      have E12_o := E11_o.wr W12
      have F12_o_system := Fld.other W12 F11_o_system (Or.inr (slot_ne (Or.inr (hw _ (List.mem_of_getElem? (i := 55) rfl))) (Or.inr (hw _ (List.mem_of_getElem? (i := 60) rfl))) (by decide) (t := (.object "java/lang/String")) (t' := .int) (by decide) (by decide)))
      have F12_o_stream := Fld.other W12 F11_o_stream (Or.inr (slot_ne (Or.inr (hw _ (List.mem_of_getElem? (i := 58) rfl))) (Or.inr (hw _ (List.mem_of_getElem? (i := 60) rfl))) (by decide) (t := (.object "java/lang/String")) (t' := .int) (by decide) (by decide)))
      have F12_o_partition := Fld.same W12 F11_o_partition
      have M12 := Fr.snoc X12 M11 n_o
      have K12 := Keep.wr K11 W12 (Or.inl (List.mem_of_getElem? (i := 0) rfl))
      have q112 := q111.wrO E11_o (by decide) (hw _ (List.mem_of_getElem? (i := 2) rfl)) W12
      have sE0_12 := (sE0_11).wr W12
      have sE1_12 := (sE1_11).wr W12
      have OO12 := OO11.wr W12 n_o
      have hkk12 := Nat.le_trans hkk11 (Nat.le_of_eq W12.size.symm)
      exact v_ret X12 hx hby hlk hret d9_53 hS8 (by rw [e12]; exact hkk12) (by decide) (by decide) (by rw [e12]; exact ⟨rfl, M12, K12, E12_o, F12_o_system, F12_o_stream, F12_o_partition, IS.warm ⟨_, I8, q112, q28, q38⟩ X12.warmed⟩)
    · skip
      refine v_ldcAgain X6 hx hby hZ (n := 21) hown (hw _ (List.mem_of_getElem? (i := 56) rfl)) (a := al7) Ll7 d9_19 rfl ?_
      show OE p e below _ T6 (mkF m 21 #[.val (.ref o), .val (.ref s1), .val (.ref s2), .val (.int pp)] [(.ref al7), (.ref s2), (.ref o)])
      refine s_callS X6 hx hby hml hZ (n := 24) hown (hw _ (List.mem_of_getElem? (i := 49) rfl)) (hw _ (List.mem_of_getElem? (i := 50) rfl)) (hw _ (List.mem_of_getElem? (i := 51) rfl)) (hw _ (List.mem_of_getElem? (i := 52) rfl)) (by decide) (rmNN l Z a0 hw s2 al7 h6 n0) e6 (by decide) 1 (by decide) (by decide) (by decide) pd_7 [(.ref s2), (.ref al7)] [(.ref o)] rfl rfl rfl (Nat.le_of_eq rfl) rfl d9_21 rfl ?_
      intro T13 L13 v13 X13 q13c
      obtain ⟨rfl, e13, N13⟩ := q13c
      show OE p e below _ T13 (mkF m 24 #[.val (.ref o), .val (.ref s1), .val (.ref s2), .val (.int pp)] [(.ref s2), (.ref o)])
      have M13 := Fr.app M6 N13
      refine s_castY X13 hx hby hZ (n := 27) hown (hw _ (List.mem_of_getElem? (i := 53) rfl)) e13 (Ins.self sE1_6) d9_24 rfl ?_
      intro T14 X14 e14
      refine s_putF X14 hx hby hZ (n := 30) hown (hw _ (List.mem_of_getElem? (i := 57) rfl)) e14 F6_o_stream E6_o (Or.inr ⟨(hw _ (List.mem_of_getElem? (i := 58) rfl)), rfl, hnm⟩) (hw _ (List.mem_of_getElem? (i := 2) rfl)) (ty := (.object "java/lang/String")) (by decide) rfl rfl d9_27 rfl ?_
      intro T15 h15 X15 e15 W15
      have E15_o := E6_o.wr W15
      have F15_o_system := Fld.other W15 F6_o_system (Or.inr (slot_ne (Or.inr (hw _ (List.mem_of_getElem? (i := 55) rfl))) (Or.inr (hw _ (List.mem_of_getElem? (i := 58) rfl))) (by decide) (t := (.object "java/lang/String")) (t' := (.object "java/lang/String")) (by decide) (by decide)))
      have F15_o_stream := Fld.same W15 F6_o_stream
      have F15_o_partition := Fld.other W15 F6_o_partition (Or.inr (slot_ne (Or.inr (hw _ (List.mem_of_getElem? (i := 60) rfl))) (Or.inr (hw _ (List.mem_of_getElem? (i := 58) rfl))) (by decide) (t := .int) (t' := (.object "java/lang/String")) (by decide) (by decide)))
      have M15 := Fr.snoc X15 M13 n_o
      have K15 := Keep.wr K6 W15 (Or.inl (List.mem_of_getElem? (i := 0) rfl))
      have q115 := q16.wrO E6_o (by decide) (hw _ (List.mem_of_getElem? (i := 2) rfl)) W15
      have sE0_15 := (sE0_6).wr W15
      have sE1_15 := (sE1_6).wr W15
      have OO15 := OO6.wr W15 n_o
      have hkk15 := Nat.le_trans hkk6 (Nat.le_of_eq W15.size.symm)
      refine s_iloadN X15 hx hby (n := 31) (x := pp) d9_30 rfl rfl ?_
      refine s_ifY X15 hx hby (n := 48) d9_31 (XT.i0_ge_t hp) (by decide) (by decide) ?_
      refine s_aloadN X15 hx hby (n := 49) (x := (.ref o)) d9_48 rfl rfl rfl ?_
      refine s_iloadN X15 hx hby (n := 50) (x := pp) d9_49 rfl rfl ?_
      refine s_putF X15 hx hby hZ (n := 53) hown (hw _ (List.mem_of_getElem? (i := 59) rfl)) e15 F15_o_partition E15_o (Or.inr ⟨(hw _ (List.mem_of_getElem? (i := 60) rfl)), rfl, hnm⟩) (hw _ (List.mem_of_getElem? (i := 2) rfl)) (ty := .int) (by decide) rfl rfl d9_50 rfl ?_
      intro T16 h16 X16 e16 W16
      have E16_o := E15_o.wr W16
      have F16_o_system := Fld.other W16 F15_o_system (Or.inr (slot_ne (Or.inr (hw _ (List.mem_of_getElem? (i := 55) rfl))) (Or.inr (hw _ (List.mem_of_getElem? (i := 60) rfl))) (by decide) (t := (.object "java/lang/String")) (t' := .int) (by decide) (by decide)))
      have F16_o_stream := Fld.other W16 F15_o_stream (Or.inr (slot_ne (Or.inr (hw _ (List.mem_of_getElem? (i := 58) rfl))) (Or.inr (hw _ (List.mem_of_getElem? (i := 60) rfl))) (by decide) (t := (.object "java/lang/String")) (t' := .int) (by decide) (by decide)))
      have F16_o_partition := Fld.same W16 F15_o_partition
      have M16 := Fr.snoc X16 M15 n_o
      have K16 := Keep.wr K15 W16 (Or.inl (List.mem_of_getElem? (i := 0) rfl))
      have q116 := q115.wrO E15_o (by decide) (hw _ (List.mem_of_getElem? (i := 2) rfl)) W16
      have sE0_16 := (sE0_15).wr W16
      have sE1_16 := (sE1_15).wr W16
      have OO16 := OO15.wr W16 n_o
      have hkk16 := Nat.le_trans hkk15 (Nat.le_of_eq W16.size.symm)
      exact v_ret X16 hx hby hlk hret d9_53 hS3 (by rw [e16]; exact hkk16) (by decide) (by decide) (by rw [e16]; exact ⟨rfl, M16, K16, E16_o, F16_o_system, F16_o_stream, F16_o_partition, IS.warm ⟨_, I3, q116, q23, q33⟩ X16.warmed⟩)
  · skip
    refine v_ldcAgain X1 hx hby hZ (n := 8) hown (hw _ (List.mem_of_getElem? (i := 48) rfl)) (a := al2) Ll2 d9_6 rfl ?_
    show OE p e below _ T1 (mkF m 8 #[.val (.ref o), .val (.ref s1), .val (.ref s2), .val (.int pp)] [(.ref al2), (.ref s1), (.ref o)])
    refine s_callS X1 hx hby hml hZ (n := 11) hown (hw _ (List.mem_of_getElem? (i := 49) rfl)) (hw _ (List.mem_of_getElem? (i := 50) rfl)) (hw _ (List.mem_of_getElem? (i := 51) rfl)) (hw _ (List.mem_of_getElem? (i := 52) rfl)) (by decide) (rmNN l Z a0 hw s1 al2 h0 n0) e1 (by decide) 1 (by decide) (by decide) (by decide) pd_7 [(.ref s1), (.ref al2)] [(.ref o)] rfl rfl rfl (Nat.le_of_eq rfl) rfl d9_8 rfl ?_
    intro T17 L17 v17 X17 q17c
    obtain ⟨rfl, e17, N17⟩ := q17c
    show OE p e below _ T17 (mkF m 11 #[.val (.ref o), .val (.ref s1), .val (.ref s2), .val (.int pp)] [(.ref s1), (.ref o)])
    have M17 := Fr.app M0 N17
    refine s_castY X17 hx hby hZ (n := 14) hown (hw _ (List.mem_of_getElem? (i := 53) rfl)) e17 (Ins.self S1.1) d9_11 rfl ?_
    intro T18 X18 e18
    refine s_putF X18 hx hby hZ (n := 17) hown (hw _ (List.mem_of_getElem? (i := 54) rfl)) e18 F0a E0 (Or.inr ⟨(hw _ (List.mem_of_getElem? (i := 55) rfl)), rfl, hnm⟩) (hw _ (List.mem_of_getElem? (i := 2) rfl)) (ty := (.object "java/lang/String")) (by decide) rfl rfl d9_14 rfl ?_
    intro T19 h19 X19 e19 W19
    have E19_o := E0.wr W19
    have F19_o_system := Fld.same W19 F0a
    have F19_o_stream := Fld.other W19 F0b (Or.inr (slot_ne (Or.inr (hw _ (List.mem_of_getElem? (i := 58) rfl))) (Or.inr (hw _ (List.mem_of_getElem? (i := 55) rfl))) (by decide) (t := (.object "java/lang/String")) (t' := (.object "java/lang/String")) (by decide) (by decide)))
    have F19_o_partition := Fld.other W19 F0p (Or.inr (slot_ne (Or.inr (hw _ (List.mem_of_getElem? (i := 60) rfl))) (Or.inr (hw _ (List.mem_of_getElem? (i := 55) rfl))) (by decide) (t := .int) (t' := (.object "java/lang/String")) (by decide) (by decide)))
    have M19 := Fr.snoc X19 M17 n_o
    have K19 := Keep.wr K0 W19 (Or.inl (List.mem_of_getElem? (i := 0) rfl))
    have q119 := q1a.wrO E0 (by decide) (hw _ (List.mem_of_getElem? (i := 2) rfl)) W19
    have sE0_19 := (S1.1).wr W19
    have sE1_19 := (S2.1).wr W19
    have OO19 := O0.wr W19 n_o
    have hkk19 := Nat.le_trans hk0 (Nat.le_of_eq W19.size.symm)
    refine s_aloadN X19 hx hby (n := 18) (x := (.ref o)) d9_17 rfl rfl rfl ?_
    refine s_aloadN X19 hx hby (n := 19) (x := (.ref s2)) d9_18 rfl rfl rfl ?_
    rcases (show _ ∨ _ from q3a) with qn20 | ⟨al20, Ll20⟩
    · skip
      refine v_ldcR X19 hx hby hZ (n := 21) hown (hw _ (List.mem_of_getElem? (i := 56) rfl)) (XT.wks hw Bundle.stringAtoms) e19 hS0 hkk19 OO19.2 I0 qn20 hh22 hcw (vs := [.int (115 : Int32), .int (116 : Int32), .int (114 : Int32), .int (101 : Int32), .int (97 : Int32), .int (109 : Int32)]) (z := (6 : Int32)) ⟨by decide +kernel, by rfl⟩ (by decide) (by decide) 24 (by decide +kernel) (by decide) (by decide) (by decide) d9_19 rfl ?_
      intro T21 h21 a21 b21 kb21 k1_21 X21 e21 Q21 hS21 hk21 hZ hown Es21 Fc21 Fv21 Ab21 I21 Lt21 Wq21
      show OE p e below _ T21 (mkF m 21 #[.val (.ref o), .val (.ref s1), .val (.ref s2), .val (.int pp)] [(.ref a21), (.ref s2), (.ref o)])
      have E21_o := E19_o.ext Q21
      have F21_o_system := F19_o_system.ext Q21
      have F21_o_stream := F19_o_stream.ext Q21
      have F21_o_partition := F19_o_partition.ext Q21
      have OO21 := OO19.ext Q21
      have K21 := K19.ext Q21
      have q121 := Qe1.more (t2 := "stream") q119 (by decide) Wq21
      have q121' := q121.ext Q21
      have q221 := Qe2.more (t2 := "stream") q2a (by decide) Wq21
      have q321 : Qe2 Z "com/example/ucoord/ucoord/model/StreamPartition" 22 "stream" T21.vm ("stream" :: Ts) := Or.inr ⟨a21, Lt21⟩
      have sE0_21 := (sE0_19).ext Q21
      have sE1_21 := (sE1_19).ext Q21
      refine s_callS X21 hx hby hml hZ (n := 24) hown (hw _ (List.mem_of_getElem? (i := 49) rfl)) (hw _ (List.mem_of_getElem? (i := 50) rfl)) (hw _ (List.mem_of_getElem? (i := 51) rfl)) (hw _ (List.mem_of_getElem? (i := 52) rfl)) (by decide) (rmNN l Z a0 hw s2 a21 h21 n0) e21 (by decide) 1 (by decide) (by decide) (by decide) pd_7 [(.ref s2), (.ref a21)] [(.ref o)] rfl rfl rfl (Nat.le_of_eq rfl) rfl d9_21 rfl ?_
      intro T22 L22 v22 X22 q22c
      obtain ⟨rfl, e22, N22⟩ := q22c
      show OE p e below _ T22 (mkF m 24 #[.val (.ref o), .val (.ref s1), .val (.ref s2), .val (.int pp)] [(.ref s2), (.ref o)])
      have M22 := Fr.app M19 N22
      refine s_castY X22 hx hby hZ (n := 27) hown (hw _ (List.mem_of_getElem? (i := 53) rfl)) e22 (Ins.self sE1_21) d9_24 rfl ?_
      intro T23 X23 e23
      refine s_putF X23 hx hby hZ (n := 30) hown (hw _ (List.mem_of_getElem? (i := 57) rfl)) e23 F21_o_stream E21_o (Or.inr ⟨(hw _ (List.mem_of_getElem? (i := 58) rfl)), rfl, hnm⟩) (hw _ (List.mem_of_getElem? (i := 2) rfl)) (ty := (.object "java/lang/String")) (by decide) rfl rfl d9_27 rfl ?_
      intro T24 h24 X24 e24 W24
      have E24_o := E21_o.wr W24
      have F24_o_system := Fld.other W24 F21_o_system (Or.inr (slot_ne (Or.inr (hw _ (List.mem_of_getElem? (i := 55) rfl))) (Or.inr (hw _ (List.mem_of_getElem? (i := 58) rfl))) (by decide) (t := (.object "java/lang/String")) (t' := (.object "java/lang/String")) (by decide) (by decide)))
      have F24_o_stream := Fld.same W24 F21_o_stream
      have F24_o_partition := Fld.other W24 F21_o_partition (Or.inr (slot_ne (Or.inr (hw _ (List.mem_of_getElem? (i := 60) rfl))) (Or.inr (hw _ (List.mem_of_getElem? (i := 58) rfl))) (by decide) (t := .int) (t' := (.object "java/lang/String")) (by decide) (by decide)))
      have M24 := Fr.snoc X24 M22 n_o
      have K24 := Keep.wr K21 W24 (Or.inl (List.mem_of_getElem? (i := 0) rfl))
      have q124 := q121'.wrO E21_o (by decide) (hw _ (List.mem_of_getElem? (i := 2) rfl)) W24
      have sE0_24 := (sE0_21).wr W24
      have sE1_24 := (sE1_21).wr W24
      have OO24 := OO21.wr W24 n_o
      have hkk24 := Nat.le_trans hk21 (Nat.le_of_eq W24.size.symm)
      refine s_iloadN X24 hx hby (n := 31) (x := pp) d9_30 rfl rfl ?_
      refine s_ifY X24 hx hby (n := 48) d9_31 (XT.i0_ge_t hp) (by decide) (by decide) ?_
      refine s_aloadN X24 hx hby (n := 49) (x := (.ref o)) d9_48 rfl rfl rfl ?_
      refine s_iloadN X24 hx hby (n := 50) (x := pp) d9_49 rfl rfl ?_
      refine s_putF X24 hx hby hZ (n := 53) hown (hw _ (List.mem_of_getElem? (i := 59) rfl)) e24 F24_o_partition E24_o (Or.inr ⟨(hw _ (List.mem_of_getElem? (i := 60) rfl)), rfl, hnm⟩) (hw _ (List.mem_of_getElem? (i := 2) rfl)) (ty := .int) (by decide) rfl rfl d9_50 rfl ?_
      intro T25 h25 X25 e25 W25
      have E25_o := E24_o.wr W25
      have F25_o_system := Fld.other W25 F24_o_system (Or.inr (slot_ne (Or.inr (hw _ (List.mem_of_getElem? (i := 55) rfl))) (Or.inr (hw _ (List.mem_of_getElem? (i := 60) rfl))) (by decide) (t := (.object "java/lang/String")) (t' := .int) (by decide) (by decide)))
      have F25_o_stream := Fld.other W25 F24_o_stream (Or.inr (slot_ne (Or.inr (hw _ (List.mem_of_getElem? (i := 58) rfl))) (Or.inr (hw _ (List.mem_of_getElem? (i := 60) rfl))) (by decide) (t := (.object "java/lang/String")) (t' := .int) (by decide) (by decide)))
      have F25_o_partition := Fld.same W25 F24_o_partition
      have M25 := Fr.snoc X25 M24 n_o
      have K25 := Keep.wr K24 W25 (Or.inl (List.mem_of_getElem? (i := 0) rfl))
      have q125 := q124.wrO E24_o (by decide) (hw _ (List.mem_of_getElem? (i := 2) rfl)) W25
      have sE0_25 := (sE0_24).wr W25
      have sE1_25 := (sE1_24).wr W25
      have OO25 := OO24.wr W25 n_o
      have hkk25 := Nat.le_trans hkk24 (Nat.le_of_eq W25.size.symm)
      exact v_ret X25 hx hby hlk hret d9_53 hS21 (by rw [e25]; exact hkk25) (by decide) (by decide) (by rw [e25]; exact ⟨rfl, M25, K25, E25_o, F25_o_system, F25_o_stream, F25_o_partition, IS.warm ⟨_, I21, q125, q221, q321⟩ X25.warmed⟩)
    · skip
      refine v_ldcAgain X19 hx hby hZ (n := 21) hown (hw _ (List.mem_of_getElem? (i := 56) rfl)) (a := al20) Ll20 d9_19 rfl ?_
      show OE p e below _ T19 (mkF m 21 #[.val (.ref o), .val (.ref s1), .val (.ref s2), .val (.int pp)] [(.ref al20), (.ref s2), (.ref o)])
      refine s_callS X19 hx hby hml hZ (n := 24) hown (hw _ (List.mem_of_getElem? (i := 49) rfl)) (hw _ (List.mem_of_getElem? (i := 50) rfl)) (hw _ (List.mem_of_getElem? (i := 51) rfl)) (hw _ (List.mem_of_getElem? (i := 52) rfl)) (by decide) (rmNN l Z a0 hw s2 al20 h19 n0) e19 (by decide) 1 (by decide) (by decide) (by decide) pd_7 [(.ref s2), (.ref al20)] [(.ref o)] rfl rfl rfl (Nat.le_of_eq rfl) rfl d9_21 rfl ?_
      intro T26 L26 v26 X26 q26c
      obtain ⟨rfl, e26, N26⟩ := q26c
      show OE p e below _ T26 (mkF m 24 #[.val (.ref o), .val (.ref s1), .val (.ref s2), .val (.int pp)] [(.ref s2), (.ref o)])
      have M26 := Fr.app M19 N26
      refine s_castY X26 hx hby hZ (n := 27) hown (hw _ (List.mem_of_getElem? (i := 53) rfl)) e26 (Ins.self sE1_19) d9_24 rfl ?_
      intro T27 X27 e27
      refine s_putF X27 hx hby hZ (n := 30) hown (hw _ (List.mem_of_getElem? (i := 57) rfl)) e27 F19_o_stream E19_o (Or.inr ⟨(hw _ (List.mem_of_getElem? (i := 58) rfl)), rfl, hnm⟩) (hw _ (List.mem_of_getElem? (i := 2) rfl)) (ty := (.object "java/lang/String")) (by decide) rfl rfl d9_27 rfl ?_
      intro T28 h28 X28 e28 W28
      have E28_o := E19_o.wr W28
      have F28_o_system := Fld.other W28 F19_o_system (Or.inr (slot_ne (Or.inr (hw _ (List.mem_of_getElem? (i := 55) rfl))) (Or.inr (hw _ (List.mem_of_getElem? (i := 58) rfl))) (by decide) (t := (.object "java/lang/String")) (t' := (.object "java/lang/String")) (by decide) (by decide)))
      have F28_o_stream := Fld.same W28 F19_o_stream
      have F28_o_partition := Fld.other W28 F19_o_partition (Or.inr (slot_ne (Or.inr (hw _ (List.mem_of_getElem? (i := 60) rfl))) (Or.inr (hw _ (List.mem_of_getElem? (i := 58) rfl))) (by decide) (t := .int) (t' := (.object "java/lang/String")) (by decide) (by decide)))
      have M28 := Fr.snoc X28 M26 n_o
      have K28 := Keep.wr K19 W28 (Or.inl (List.mem_of_getElem? (i := 0) rfl))
      have q128 := q119.wrO E19_o (by decide) (hw _ (List.mem_of_getElem? (i := 2) rfl)) W28
      have sE0_28 := (sE0_19).wr W28
      have sE1_28 := (sE1_19).wr W28
      have OO28 := OO19.wr W28 n_o
      have hkk28 := Nat.le_trans hkk19 (Nat.le_of_eq W28.size.symm)
      refine s_iloadN X28 hx hby (n := 31) (x := pp) d9_30 rfl rfl ?_
      refine s_ifY X28 hx hby (n := 48) d9_31 (XT.i0_ge_t hp) (by decide) (by decide) ?_
      refine s_aloadN X28 hx hby (n := 49) (x := (.ref o)) d9_48 rfl rfl rfl ?_
      refine s_iloadN X28 hx hby (n := 50) (x := pp) d9_49 rfl rfl ?_
      refine s_putF X28 hx hby hZ (n := 53) hown (hw _ (List.mem_of_getElem? (i := 59) rfl)) e28 F28_o_partition E28_o (Or.inr ⟨(hw _ (List.mem_of_getElem? (i := 60) rfl)), rfl, hnm⟩) (hw _ (List.mem_of_getElem? (i := 2) rfl)) (ty := .int) (by decide) rfl rfl d9_50 rfl ?_
      intro T29 h29 X29 e29 W29
      have E29_o := E28_o.wr W29
      have F29_o_system := Fld.other W29 F28_o_system (Or.inr (slot_ne (Or.inr (hw _ (List.mem_of_getElem? (i := 55) rfl))) (Or.inr (hw _ (List.mem_of_getElem? (i := 60) rfl))) (by decide) (t := (.object "java/lang/String")) (t' := .int) (by decide) (by decide)))
      have F29_o_stream := Fld.other W29 F28_o_stream (Or.inr (slot_ne (Or.inr (hw _ (List.mem_of_getElem? (i := 58) rfl))) (Or.inr (hw _ (List.mem_of_getElem? (i := 60) rfl))) (by decide) (t := (.object "java/lang/String")) (t' := .int) (by decide) (by decide)))
      have F29_o_partition := Fld.same W29 F28_o_partition
      have M29 := Fr.snoc X29 M28 n_o
      have K29 := Keep.wr K28 W29 (Or.inl (List.mem_of_getElem? (i := 0) rfl))
      have q129 := q128.wrO E28_o (by decide) (hw _ (List.mem_of_getElem? (i := 2) rfl)) W29
      have sE0_29 := (sE0_28).wr W29
      have sE1_29 := (sE1_28).wr W29
      have OO29 := OO28.wr W29 n_o
      have hkk29 := Nat.le_trans hkk28 (Nat.le_of_eq W29.size.symm)
      exact v_ret X29 hx hby hlk hret d9_53 hS0 (by rw [e29]; exact hkk29) (by decide) (by decide) (by rw [e29]; exact ⟨rfl, M29, K29, E29_o, F29_o_system, F29_o_stream, F29_o_partition, IS.warm ⟨_, I0, q129, q2a, q3a⟩ X29.warmed⟩)
set_option maxRecDepth 65536 in
set_option maxHeartbeats 40000000 in
theorem rmSEq (l : Launch) (Z : State) (a0 : Array Value) (hw : ∀ d ∈ tables_1, d.before a0 Z = true) (z0 : Int32) (hz0 : ¬ z0 = (0 : Int32)) (Sz0 : Sta Z Z.heap "java/lang/String" "COMPACT_STRINGS" "Z" (.int z0)) (fm : Value) (hfm : fm.isRef = true) (Sfm : Sta Z Z.heap "jdk/internal/util/Preconditions" "SIOOBE_FORMATTER" "Ljava/util/function/BiFunction;" fm) (o q s1 s2 t1 t2 : Addr) (po pq : Int32) (b1 b2 d1 d2 : List Int32) (h0 : Heap) (n0 : Nat) (O0 : Oln Z n0 h0) (PO : Exa Z h0 o "com/example/ucoord/ucoord/model/StreamPartition" ∧ Fld Z h0 o "com/example/ucoord/ucoord/model/StreamPartition" "system" "Ljava/lang/String;" (.ref s1) ∧ Fld Z h0 o "com/example/ucoord/ucoord/model/StreamPartition" "stream" "Ljava/lang/String;" (.ref s2) ∧ Fld Z h0 o "com/example/ucoord/ucoord/model/StreamPartition" "partition" "I" (.int po)) (PQ : Exa Z h0 q "com/example/ucoord/ucoord/model/StreamPartition" ∧ Fld Z h0 q "com/example/ucoord/ucoord/model/StreamPartition" "system" "Ljava/lang/String;" (.ref t1) ∧ Fld Z h0 q "com/example/ucoord/ucoord/model/StreamPartition" "stream" "Ljava/lang/String;" (.ref t2) ∧ Fld Z h0 q "com/example/ucoord/ucoord/model/StreamPartition" "partition" "I" (.int pq)) (S1 : Str Z h0 s1 b1) (S2 : Str Z h0 s2 b2) (U1 : Str Z h0 t1 d1) (U2 : Str Z h0 t2 d2) :
    OCon l Z (⟨"com/example/ucoord/ucoord/model/StreamPartition", "equals", "(Ljava/lang/Object;)Z"⟩ : MethodName) prog_39_method_6_code 3 (some (.boolean)) [] ({ frames := 2, cells := 0, slots := 0, locals := 28 } : Room) #[(.ref o), (.ref q)] h0 (fun v h L => v = some (.int (b2i (decide (d1 = b1) && (decide (d2 = b2) && decide (pq = po))))) ∧ h = h0 ∧ Fr n0 L) := by
  refine con (plainFor_of_name pq5) ?_
  intro p e s m below meth c s₁ hx hby hml hZ hown hnm hret hlk X0 e0
  refine entry (eq8f m o q) ?_
  have M0 := Fr.nil n0
  obtain ⟨oE, oA, oB, oP⟩ := PO
  obtain ⟨qE, qA, qB, qP⟩ := PQ
  refine s_aloadN X0 hx hby (n := 1) (x := (.ref q)) d12_0 rfl rfl rfl ?_
  refine s_instY X0 hx hby hZ (n := 4) hown (hw _ (List.mem_of_getElem? (i := 69) rfl)) e0 (Ins.self qE) d12_1 rfl ?_
  intro T1 X1 e1
  refine s_ifN X1 hx hby (n := 7) d12_4 (by decide) rfl ?_
  refine s_aloadN X1 hx hby (n := 8) (x := (.ref q)) d12_7 rfl rfl rfl ?_
  refine s_castY X1 hx hby hZ (n := 11) hown (hw _ (List.mem_of_getElem? (i := 69) rfl)) e1 (Ins.self qE) d12_8 rfl ?_
  intro T2 X2 e2
  refine s_astoreN X2 hx hby (n := 12) (L' := #[.val (.ref o), .val (.ref q), .val (.ref q)]) d12_11 rfl rfl rfl ?_
  refine s_aloadN X2 hx hby (n := 13) (x := (.ref q)) d12_12 rfl rfl rfl ?_
  refine s_getF X2 hx hby hZ (n := 16) hown (hw _ (List.mem_of_getElem? (i := 54) rfl)) e2 qA d12_13 rfl ?_
  intro T3 X3 e3
  refine s_aloadN X3 hx hby (n := 17) (x := (.ref o)) d12_16 rfl rfl rfl ?_
  refine s_getF X3 hx hby hZ (n := 20) hown (hw _ (List.mem_of_getElem? (i := 54) rfl)) e3 oA d12_17 rfl ?_
  intro T4 X4 e4
  refine s_callV X4 hx hby hml hZ (n := 23) hown (hw _ (List.mem_of_getElem? (i := 71) rfl)) (hw _ (List.mem_of_getElem? (i := 72) rfl)) (notFace_of_selects (args := #[]) (mvT hZ (hw _ (List.mem_of_getElem? (i := 74) rfl)))) (hw _ (List.mem_of_getElem? (i := 74) rfl)) (hw _ (List.mem_of_getElem? (i := 73) rfl)) (hw _ (List.mem_of_getElem? (i := 13) rfl)) (hw _ (List.mem_of_getElem? (i := 75) rfl)) (by decide) (rmEq l Z a0 hw z0 hz0 Sz0 fm hfm Sfm t1 s1 d1 b1 h0 n0 O0 U1 S1) e4 (by decide) 0 (by decide) (by decide) (by decide) pd_8 U1.1 [(.ref s1)] [] rfl rfl rfl (Nat.le_of_eq rfl) rfl d12_20 rfl ?_
  intro T5 L5 v5 X5 q5c
  obtain ⟨rfl, e5, N5⟩ := q5c
  show OE p e below _ T5 (mkF m 23 #[.val (.ref o), .val (.ref q), .val (.ref q)] [(.int (b2i (decide (d1 = b1))))])
  have M5 := Fr.app M0 N5
  rcases Bool.eq_false_or_eq_true ((decide (d1 = b1))) with c23 | c23
  · refine s_ifN X5 hx hby (n := 26) d12_23 (ifb_eq_f c23) rfl ?_
    refine s_aloadN X5 hx hby (n := 27) (x := (.ref q)) d12_26 rfl rfl rfl ?_
    refine s_getF X5 hx hby hZ (n := 30) hown (hw _ (List.mem_of_getElem? (i := 57) rfl)) e5 qB d12_27 rfl ?_
    intro T6 X6 e6
    refine s_aloadN X6 hx hby (n := 31) (x := (.ref o)) d12_30 rfl rfl rfl ?_
    refine s_getF X6 hx hby hZ (n := 34) hown (hw _ (List.mem_of_getElem? (i := 57) rfl)) e6 oB d12_31 rfl ?_
    intro T7 X7 e7
    refine s_callV X7 hx hby hml hZ (n := 37) hown (hw _ (List.mem_of_getElem? (i := 71) rfl)) (hw _ (List.mem_of_getElem? (i := 72) rfl)) (notFace_of_selects (args := #[]) (mvT hZ (hw _ (List.mem_of_getElem? (i := 74) rfl)))) (hw _ (List.mem_of_getElem? (i := 74) rfl)) (hw _ (List.mem_of_getElem? (i := 73) rfl)) (hw _ (List.mem_of_getElem? (i := 13) rfl)) (hw _ (List.mem_of_getElem? (i := 75) rfl)) (by decide) (rmEq l Z a0 hw z0 hz0 Sz0 fm hfm Sfm t2 s2 d2 b2 h0 n0 O0 U2 S2) e7 (by decide) 0 (by decide) (by decide) (by decide) pd_8 U2.1 [(.ref s2)] [] rfl rfl rfl (Nat.le_of_eq rfl) rfl d12_34 rfl ?_
    intro T8 L8 v8 X8 q8c
    obtain ⟨rfl, e8, N8⟩ := q8c
    show OE p e below _ T8 (mkF m 37 #[.val (.ref o), .val (.ref q), .val (.ref q)] [(.int (b2i (decide (d2 = b2))))])
    have M8 := Fr.app M5 N8
    rcases Bool.eq_false_or_eq_true ((decide (d2 = b2))) with c37 | c37
    · refine s_ifN X8 hx hby (n := 40) d12_37 (ifb_eq_f c37) rfl ?_
      refine s_aloadN X8 hx hby (n := 41) (x := (.ref q)) d12_40 rfl rfl rfl ?_
      refine s_getF X8 hx hby hZ (n := 44) hown (hw _ (List.mem_of_getElem? (i := 59) rfl)) e8 qP d12_41 rfl ?_
      intro T9 X9 e9
      refine s_aloadN X9 hx hby (n := 45) (x := (.ref o)) d12_44 rfl rfl rfl ?_
      refine s_getF X9 hx hby hZ (n := 48) hown (hw _ (List.mem_of_getElem? (i := 59) rfl)) e9 oP d12_45 rfl ?_
      intro T10 X10 e10
      by_cases c48 : pq = po
      · refine s_icmpN X10 hx hby (n := 51) d12_48 (XT.ii_ne_f c48) rfl ?_
        refine s_iconst X10 hx hby (n := 52) (v := (1 : Int32)) d12_51 rfl rfl ?_
        refine s_goto X10 hx hby (n := 56) d12_52 (by decide) (by decide) ?_
        exact s_retN X10 hx hby hlk hret (t := .boolean) (by simp) (z' := (1 : Int32)) (by decide) d12_56 (by decide) (by decide) ⟨by simp only [c23, c37]; simp [b2i, c48], e10, M8⟩
      · refine s_icmpY X10 hx hby (n := 55) d12_48 (XT.ii_ne_t c48) (by decide) (by decide) ?_
        refine s_iconst X10 hx hby (n := 56) (v := (0 : Int32)) d12_55 rfl rfl ?_
        exact s_retN X10 hx hby hlk hret (t := .boolean) (by simp) (z' := (0 : Int32)) (by decide) d12_56 (by decide) (by decide) ⟨by simp only [c23, c37]; simp [b2i, c48], e10, M8⟩
    · refine s_ifY X8 hx hby (n := 55) d12_37 (ifb_eq_t c37) (by decide) (by decide) ?_
      refine s_iconst X8 hx hby (n := 56) (v := (0 : Int32)) d12_55 rfl rfl ?_
      exact s_retN X8 hx hby hlk hret (t := .boolean) (by simp) (z' := (0 : Int32)) (by decide) d12_56 (by decide) (by decide) ⟨by simp only [c23, c37]; simp [b2i], e8, M8⟩
  · refine s_ifY X5 hx hby (n := 55) d12_23 (ifb_eq_t c23) (by decide) (by decide) ?_
    refine s_iconst X5 hx hby (n := 56) (v := (0 : Int32)) d12_55 rfl rfl ?_
    exact s_retN X5 hx hby hlk hret (t := .boolean) (by simp) (z' := (0 : Int32)) (by decide) d12_56 (by decide) (by decide) ⟨by simp only [c23]; simp [b2i], e5, M5⟩
theorem eq12f (m : MethodId) (x0 : Addr) : entryFrame m #[(.ref x0), .null] 3 = mkF m 0 #[.val (.ref x0), .val .null, .unset] [] := by first | (simp [entryFrame, mkF, argsToLocals, Value.category, maxLocals]; done) | rfl
set_option maxRecDepth 65536 in
set_option maxHeartbeats 40000000 in
theorem rmSEqN (l : Launch) (Z : State) (a0 : Array Value) (hw : ∀ d ∈ tables_1, d.before a0 Z = true) (o : Addr) (h0 : Heap) (n0 : Nat)  :
    OCon l Z (⟨"com/example/ucoord/ucoord/model/StreamPartition", "equals", "(Ljava/lang/Object;)Z"⟩ : MethodName) prog_39_method_6_code 3 (some (.boolean)) [] ({ frames := 0, cells := 0, slots := 0, locals := 0 } : Room) #[(.ref o), .null] h0 (fun v h L => v = some (.int (0 : Int32)) ∧ h = h0 ∧ Fr n0 L) := by
  refine con (plainFor_of_name pq5) ?_
  intro p e s m below meth c s₁ hx hby hml hZ hown hnm hret hlk X0 e0
  refine entry (eq12f m o) ?_
  have M0 := Fr.nil n0
  refine s_aloadN X0 hx hby (n := 1) (x := .null) d12_0 rfl rfl rfl ?_
  refine s_instNull X0 hx hby (n := 4) d12_1 rfl ?_
  refine s_ifY X0 hx hby (n := 55) d12_4 (by decide) (by decide) (by decide) ?_
  refine s_iconst X0 hx hby (n := 56) (v := (0 : Int32)) d12_55 rfl rfl ?_
  exact s_retN X0 hx hby hlk hret (t := .boolean) (by simp) (z' := (0 : Int32)) (by decide) d12_56 (by decide) (by decide) ⟨rfl, e0, M0⟩
set_option maxRecDepth 65536 in
set_option maxHeartbeats 40000000 in
theorem rmSEqO (l : Launch) (Z : State) (a0 : Array Value) (hw : ∀ d ∈ tables_1, d.before a0 Z = true) (o q : Addr) (C0 : String) (h0 : Heap) (n0 : Nat) (Eq : Exa Z h0 q C0) (Nn : ∃ c t, Z.vm.findClass C0 = some c ∧ Z.vm.findClass "com/example/ucoord/ucoord/model/StreamPartition" = some t ∧ Z.vm.assignable c t = false) :
    OCon l Z (⟨"com/example/ucoord/ucoord/model/StreamPartition", "equals", "(Ljava/lang/Object;)Z"⟩ : MethodName) prog_39_method_6_code 3 (some (.boolean)) [] ({ frames := 0, cells := 0, slots := 0, locals := 0 } : Room) #[(.ref o), (.ref q)] h0 (fun v h L => v = some (.int (0 : Int32)) ∧ h = h0 ∧ Fr n0 L) := by
  refine con (plainFor_of_name pq5) ?_
  intro p e s m below meth c s₁ hx hby hml hZ hown hnm hret hlk X0 e0
  refine entry (eq8f m o q) ?_
  have M0 := Fr.nil n0
  refine s_aloadN X0 hx hby (n := 1) (x := (.ref q)) d12_0 rfl rfl rfl ?_
  refine s_instNo X0 hx hby hZ (n := 4) hown (hw _ (List.mem_of_getElem? (i := 69) rfl)) e0 Eq Nn d12_1 rfl ?_
  intro T1 X1 e1
  refine s_ifY X1 hx hby (n := 55) d12_4 (by decide) (by decide) (by decide) ?_
  refine s_iconst X1 hx hby (n := 56) (v := (0 : Int32)) d12_55 rfl rfl ?_
  exact s_retN X1 hx hby hlk hret (t := .boolean) (by simp) (z' := (0 : Int32)) (by decide) d12_56 (by decide) (by decide) ⟨rfl, e1, M0⟩
theorem pq6 : plainName "java/lang/Number" = true := by first | (simp [plainName, overriddenIn]; done) | decide +kernel
theorem eq13f (m : MethodId) (x0 : Addr) : entryFrame m #[(.ref x0)] 1 = mkF m 0 #[.val (.ref x0)] [] := by first | (simp [entryFrame, mkF, argsToLocals, Value.category, maxLocals]; done) | rfl
set_option maxRecDepth 65536 in
set_option maxHeartbeats 40000000 in
theorem rmNum (l : Launch) (Z : State) (a0 : Array Value) (hw : ∀ d ∈ tables_1, d.before a0 Z = true) (o : Addr) (h0 : Heap) (n0 : Nat)  :
    OCon l Z (⟨"java/lang/Number", "<init>", "()V"⟩ : MethodName) jdk_18_method_1_code 1 (none) [] ({ frames := 1, cells := 0, slots := 0, locals := 12 } : Room) #[(.ref o)] h0 (fun v h L => v = none ∧ h = h0 ∧ Fr n0 L) := by
  refine con (plainFor_of_name pq6) ?_
  intro p e s m below meth c s₁ hx hby hml hZ hown hnm hret hlk X0 e0
  refine entry (eq13f m o) ?_
  have M0 := Fr.nil n0
  refine s_aloadN X0 hx hby (n := 1) (x := (.ref o)) d17_0 rfl rfl rfl ?_
  refine s_initO X0 hx hby hml hZ (n := 4) hown (hw _ (List.mem_of_getElem? (i := 103) rfl)) (hw _ (List.mem_of_getElem? (i := 23) rfl)) (hw _ (List.mem_of_getElem? (i := 24) rfl)) e0 (by decide) 0 (Nat.le_of_eq rfl) (by decide) rfl d17_1 rfl ?_
  intro T1 X1 e1
  exact s_ret X1 hx hby hlk hret d17_4 (by decide) (by decide) ⟨rfl, e1, M0⟩
theorem pq7 : plainName "java/lang/Integer" = true := by first | (simp [plainName, overriddenIn]; done) | decide +kernel
theorem eq14f (m : MethodId) (x0 : Addr) (x1 : Int32) : entryFrame m #[(.ref x0), (.int x1)] 2 = mkF m 0 #[.val (.ref x0), .val (.int x1)] [] := by first | (simp [entryFrame, mkF, argsToLocals, Value.category, maxLocals]; done) | rfl
set_option maxRecDepth 65536 in
set_option maxHeartbeats 40000000 in
theorem rmII (l : Launch) (Z : State) (a0 : Array Value) (hw : ∀ d ∈ tables_1, d.before a0 Z = true) (o : Addr) (p1 : Int32) (h0 : Heap) (n0 : Nat) (n_o : n0 ≤ o) (E0 : Exa Z h0 o "java/lang/Integer") (F0 : Fld Z h0 o "java/lang/Integer" "value" "I" (.int (0 : Int32))) :
    OCon l Z (⟨"java/lang/Integer", "<init>", "(I)V"⟩ : MethodName) jdk_33_method_23_code 2 (none) [] ({ frames := 2, cells := 0, slots := 0, locals := 24 } : Room) #[(.ref o), (.int p1)] h0 (fun v h L => v = none ∧ Fr n0 L ∧ Keep h0 h [o] ∧ Exa Z h o "java/lang/Integer") := by
  refine con (plainFor_of_name pq7) ?_
  intro p e s m below meth c s₁ hx hby hml hZ hown hnm hret hlk X0 e0
  refine entry (eq14f m o p1) ?_
  have M0 := Fr.nil n0
  have K0 := Keep.refl h0 [o]
  refine s_aloadN X0 hx hby (n := 1) (x := (.ref o)) d16_0 rfl rfl rfl ?_
  refine s_callI X0 hx hby hml hZ (n := 4) rfl hown (hw _ (List.mem_of_getElem? (i := 97) rfl)) (hw _ (List.mem_of_getElem? (i := 98) rfl)) (hw _ (List.mem_of_getElem? (i := 101) rfl)) (hw _ (List.mem_of_getElem? (i := 102) rfl)) (by decide) (rmNum l Z a0 hw o h0 n0) e0 (by decide) 0 (by decide) (by decide) (by decide) pd_9 o [] [] rfl rfl rfl (Nat.le_of_eq rfl) rfl d16_1 rfl ?_
  intro T1 L1 v1 X1 q1c
  obtain ⟨rfl, e1, N1⟩ := q1c
  show OE p e below _ T1 (mkF m 4 #[.val (.ref o), .val (.int p1)] [])
  have M1 := Fr.app M0 N1
  refine s_aloadN X1 hx hby (n := 5) (x := (.ref o)) d16_4 rfl rfl rfl ?_
  refine s_iloadN X1 hx hby (n := 6) (x := p1) d16_5 rfl rfl ?_
  refine s_putF X1 hx hby hZ (n := 9) hown (hw _ (List.mem_of_getElem? (i := 104) rfl)) e1 F0 E0 (Or.inr ⟨(hw _ (List.mem_of_getElem? (i := 105) rfl)), rfl, hnm⟩) (hw _ (List.mem_of_getElem? (i := 92) rfl)) (ty := .int) (by decide) rfl rfl d16_6 rfl ?_
  intro T2 h2 X2 e2 W2
  have E2_o := E0.wr W2
  have F2_o_value := Fld.same W2 F0
  have M2 := Fr.snoc X2 M1 n_o
  have K2 := Keep.wr K0 W2 (Or.inl (List.mem_of_getElem? (i := 0) rfl))
  exact s_ret X2 hx hby hlk hret d16_9 (by decide) (by decide) (by rw [e2]; exact ⟨rfl, M2, K2, E2_o⟩)
theorem own_place (w : Int32) (h1 : ¬ w < (-128 : Int32)) (h2 : ¬ (127 : Int32) < w) : ¬ ((w + (128 : Int32)) < 0 ∨ 256 ≤ (w + (128 : Int32)).toNatClampNeg) := by
  have a2 := c_iadd w 128
  have a3 := rng32 (w + (128 : Int32))
  have k1 : (128 : Int32).toInt = 128 := by decide
  have k2 : (-128 : Int32).toInt = -128 := by decide
  have k3 : (127 : Int32).toInt = 127 := by decide
  have k4 : (0 : Int32).toInt = 0 := by decide
  rw [Int32.lt_iff_toInt_lt, k2] at h1
  rw [Int32.lt_iff_toInt_lt, k3] at h2
  rw [k1] at a2
  rw [Int32.lt_iff_toInt_lt, k4, show (w + (128 : Int32)).toNatClampNeg = (w + (128 : Int32)).toInt.toNat from rfl]
  omega
theorem eq15f (m : MethodId) (x0 : Int32) : entryFrame m #[(.int x0)] 1 = mkF m 0 #[.val (.int x0)] [] := by first | (simp [entryFrame, mkF, argsToLocals, Value.category, maxLocals]; done) | rfl
set_option maxRecDepth 65536 in
set_option maxHeartbeats 40000000 in
theorem rmIV (l : Launch) (Z : State) (a0 : Array Value) (hw : ∀ d ∈ tables_1, d.before a0 Z = true) (z0 : Int32) (hz0 : ¬ z0 = (0 : Int32)) (Sz0 : Sta Z Z.heap "java/lang/String" "COMPACT_STRINGS" "Z" (.int z0)) (fm : Value) (hfm : fm.isRef = true) (Sfm : Sta Z Z.heap "jdk/internal/util/Preconditions" "SIOOBE_FORMATTER" "Ljava/util/function/BiFunction;" fm) (Sh : Sta Z Z.heap "java/lang/Integer$IntegerCache" "high" "I" (.int (127 : Int32))) (ca : Addr) (ck : Cell) (Sc : Sta Z Z.heap "java/lang/Integer$IntegerCache" "cache" "[Ljava/lang/Integer;" (.ref ca)) (Ac : Arr Z Z.heap ca ck (.object "java/lang/Integer")) (Zc : ck.slots.size = 256) (Bc : ∀ j, j < 256 → ∃ r, ck.slots[j]? = some (.ref r) ∧ Exa Z Z.heap r "java/lang/Integer") (p1 : Int32) (h0 : Heap) (n0 : Nat) (O0 : Oln Z n0 h0)  :
    OCon l Z (⟨"java/lang/Integer", "valueOf", "(I)Ljava/lang/Integer;"⟩ : MethodName) jdk_33_method_22_code 1 (some (.object "java/lang/Integer")) [] ({ frames := 3, cells := 1, slots := 1, locals := 38 } : Room) #[(.int p1)] h0 (fun v h L => ∃ r, v = some (.ref r) ∧ Fr n0 L ∧ Keep h0 h [] ∧ Exa Z h r "java/lang/Integer") := by
  refine con (plainFor_of_name pq7) ?_
  intro p e s m below meth c s₁ hx hby hml hZ hown hnm hret hlk X0 e0
  refine entry (eq15f m p1) ?_
  have M0 := Fr.nil n0
  have K0 := Keep.refl h0 []
  refine s_iloadN X0 hx hby (n := 1) (x := p1) d15_0 rfl rfl ?_
  refine s_bipush X0 hx hby (n := 3) (v := (-128 : Int32)) d15_1 rfl rfl ?_
  by_cases c3 : p1 < (-128 : Int32)
  · refine s_icmpY X0 hx hby (n := 23) d15_3 (XT.ii_lt_t c3) (by decide) (by decide) ?_
    have ZL1 := Oln.le O0
    refine s_newO X0 hx hby hZ (n := 26) hown (hw _ (List.mem_of_getElem? (i := 91) rfl)) (hw _ (List.mem_of_getElem? (i := 92) rfl)) (hw _ (List.mem_of_getElem? (i := 83) rfl)) e0 (by decide) (by decide) d15_23 rfl ?_
    intro T1 h1 r gr X1 e1 Q1 E1_r D1
    have K1 := K0.ext Q1
    have F1_r_value : Fld Z h1 r "java/lang/Integer" "value" "I" (.int (0 : Int32)) := D1 (Or.inr (hw _ (List.mem_of_getElem? (i := 105) rfl))) (ty := .int) (by decide)
    have n_r : n0 ≤ r := by rw [gr]; exact ZL1
    have Z1 : n0 ≤ h1.size := Nat.le_trans ZL1 Q1.1
    have OO1 := O0.ext Q1
    refine s_dup X1 hx hby (n := 27) d15_26 rfl rfl ?_
    refine s_iloadN X1 hx hby (n := 28) (x := p1) d15_27 rfl rfl ?_
    refine s_callI X1 hx hby hml hZ (n := 31) rfl hown (hw _ (List.mem_of_getElem? (i := 93) rfl)) (hw _ (List.mem_of_getElem? (i := 94) rfl)) (hw _ (List.mem_of_getElem? (i := 83) rfl)) (hw _ (List.mem_of_getElem? (i := 96) rfl)) (by decide) (rmII l Z a0 hw r p1 h1 n0 n_r E1_r F1_r_value) e1 (by decide) 1 (by decide) (by decide) (by decide) pd_10 r [(.int p1)] [(.ref r)] rfl rfl rfl (Nat.le_of_eq rfl) rfl d15_28 rfl ?_
    intro T2 L2 v2 X2 q2c
    obtain ⟨rfl, N2, K2, E2⟩ := q2c
    show OE p e below _ T2 (mkF m 31 #[.val (.int p1)] [(.ref r)])
    have K9 : Keep h0 T2.heap [] := K1.trans K2 (allS (Or.inr (Nat.le_of_eq gr.symm)) all0)
    have M2 := Fr.app M0 N2
    exact s_retA X2 hx hby hlk hret rfl rfl d15_31 (by decide) (by decide) ⟨r, rfl, M2, K9, E2⟩
  · refine s_icmpN X0 hx hby (n := 6) d15_3 (XT.ii_lt_f c3) rfl ?_
    refine s_iloadN X0 hx hby (n := 7) (x := p1) d15_6 rfl rfl ?_
    refine s_getS X0 hx hby hZ (n := 10) hown (hw _ (List.mem_of_getElem? (i := 85) rfl)) e0 (Sh.ext O0.2) d15_7 rfl ?_
    intro T3 X3 e3
    by_cases c10 : (127 : Int32) < p1
    · refine s_icmpY X3 hx hby (n := 23) d15_10 (XT.ii_gt_t c10) (by decide) (by decide) ?_
      have ZL4 := Oln.le O0
      refine s_newO X3 hx hby hZ (n := 26) hown (hw _ (List.mem_of_getElem? (i := 91) rfl)) (hw _ (List.mem_of_getElem? (i := 92) rfl)) (hw _ (List.mem_of_getElem? (i := 83) rfl)) e3 (by decide) (by decide) d15_23 rfl ?_
      intro T4 h4 r gr X4 e4 Q4 E4_r D4
      have K4 := K0.ext Q4
      have F4_r_value : Fld Z h4 r "java/lang/Integer" "value" "I" (.int (0 : Int32)) := D4 (Or.inr (hw _ (List.mem_of_getElem? (i := 105) rfl))) (ty := .int) (by decide)
      have n_r : n0 ≤ r := by rw [gr]; exact ZL4
      have Z4 : n0 ≤ h4.size := Nat.le_trans ZL4 Q4.1
      have OO4 := O0.ext Q4
      refine s_dup X4 hx hby (n := 27) d15_26 rfl rfl ?_
      refine s_iloadN X4 hx hby (n := 28) (x := p1) d15_27 rfl rfl ?_
      refine s_callI X4 hx hby hml hZ (n := 31) rfl hown (hw _ (List.mem_of_getElem? (i := 93) rfl)) (hw _ (List.mem_of_getElem? (i := 94) rfl)) (hw _ (List.mem_of_getElem? (i := 83) rfl)) (hw _ (List.mem_of_getElem? (i := 96) rfl)) (by decide) (rmII l Z a0 hw r p1 h4 n0 n_r E4_r F4_r_value) e4 (by decide) 1 (by decide) (by decide) (by decide) pd_10 r [(.int p1)] [(.ref r)] rfl rfl rfl (Nat.le_of_eq rfl) rfl d15_28 rfl ?_
      intro T5 L5 v5 X5 q5c
      obtain ⟨rfl, N5, K5, E5⟩ := q5c
      show OE p e below _ T5 (mkF m 31 #[.val (.int p1)] [(.ref r)])
      have K9 : Keep h0 T5.heap [] := K4.trans K5 (allS (Or.inr (Nat.le_of_eq gr.symm)) all0)
      have M5 := Fr.app M0 N5
      exact s_retA X5 hx hby hlk hret rfl rfl d15_31 (by decide) (by decide) ⟨r, rfl, M5, K9, E5⟩
    · refine s_icmpN X3 hx hby (n := 13) d15_10 (XT.ii_gt_f c10) rfl ?_
      refine s_getS X3 hx hby hZ (n := 16) hown (hw _ (List.mem_of_getElem? (i := 87) rfl)) e3 (Sc.ext O0.2) d15_13 rfl ?_
      intro T6 X6 e6
      refine s_iloadN X6 hx hby (n := 17) (x := p1) d15_16 rfl rfl ?_
      refine s_sipush X6 hx hby (n := 20) (v := (128 : Int32)) d15_17 rfl rfl ?_
      refine s_iadd X6 hx hby (n := 21) d15_20 rfl ?_
      have qp := own_place p1 c3 c10
      obtain ⟨r, Br, Er⟩ := Bc (p1 + (128 : Int32)).toNatClampNeg (Nat.lt_of_not_le fun q => qp (Or.inr q))
      refine s_aaload X6 hx hby hZ (n := 22) e6 (Ac.ext O0.2) rfl (by rw [Zc]; exact qp) Br d15_21 rfl ?_
      exact s_retA X6 hx hby hlk hret rfl rfl d15_22 (by decide) (by decide) ⟨r, rfl, M0, by rw [e6]; exact K0, by rw [e6]; exact Er.ext O0.2⟩
theorem ef0 (m : MethodId) (x0 : Int32) (x1 : Int32) (x2 : Int32) (x3 : Int32) (x4 : Int64) (x5 : Int32) : entryFrame m #[(.int x0), (.int x1), (.int x2), (.int x3), (.long x4), (.int x5)] maxLocals = mkF m 0 #[.val (.int x0), .val (.int x1), .val (.int x2), .val (.int x3), .val (.long x4), .second, .val (.int x5), .unset, .unset, .unset, .unset, .unset, .unset, .unset, .unset] [] := by first | (simp [entryFrame, mkF, argsToLocals, Value.category, maxLocals]; done) | rfl
theorem pn0 : plainName "com/example/ucoord/ucoord/model/StreamPartitionEqualsPinLaw" = true := by first | (simp [plainName, overriddenIn]; done) | decide +kernel
set_option maxRecDepth 65536 in
set_option maxHeartbeats 40000000 in
theorem rm0 (l : Launch) (Z : State) (a0 : Array Value) (hw : ∀ d ∈ tables_1, d.before a0 Z = true) (z0 : Int32) (hz0 : ¬ z0 = (0 : Int32)) (Sz0 : Sta Z Z.heap "java/lang/String" "COMPACT_STRINGS" "Z" (.int z0)) (fm : Value) (hfm : fm.isRef = true) (Sfm : Sta Z Z.heap "jdk/internal/util/Preconditions" "SIOOBE_FORMATTER" "Ljava/util/function/BiFunction;" fm) (Sh : Sta Z Z.heap "java/lang/Integer$IntegerCache" "high" "I" (.int (127 : Int32))) (ca : Addr) (ck : Cell) (Sc : Sta Z Z.heap "java/lang/Integer$IntegerCache" "cache" "[Ljava/lang/Integer;" (.ref ca)) (Ac : Arr Z Z.heap ca ck (.object "java/lang/Integer")) (Zc : ck.slots.size = 256) (Bc : ∀ j, j < 256 → ∃ r, ck.slots[j]? = some (.ref r) ∧ Exa Z Z.heap r "java/lang/Integer") (p0 p1 p2 p3 : Int32) (p4 : Int64) (p6 : Int32) (h0 : Heap) (n0 : Nat) (O0 : Oln Z n0 h0) (hh0 : Jvm.Lit.constHeld Z "java/lang/String" 7) (hh7 : Jvm.Lit.constHeld Z "com/example/ucoord/ucoord/model/StreamPartition" 7) (hh22 : Jvm.Lit.constHeld Z "com/example/ucoord/ucoord/model/StreamPartition" 22) (hcw : Jvm.Lit.compactW.before a0 Z = true) :
    OConV l Z x code maxLocals ret tables_1 room_1 #[(.int p0), (.int p1), (.int p2), (.int p3), (.long p4), (.int p6)] h0 (fun vm => IS Z "java/lang/String" "com/example/ucoord/ucoord/model/StreamPartition" vm h0) (fun v h L vm => v = some (.int (1 : Int32)) ∧ Fr n0 L) := by
  refine conV (plainFor_of_name pn0) ?_
  intro p e s m below meth c s₁ hx hby hml hZ hown hnm hret hlk X0 e0 e00 hV hS0
  refine entry (ef0 m p0 p1 p2 p3 p4 p6) ?_
  have B57 : ∀ (b2 e2 q : Int32), ¬ q < (0 : Int32) → OE p e below (FW s room_1.cells room_1.slots (fun v h L vm => v = some (.int (1 : Int32)) ∧ Fr n0 L)) s₁ (mkF m 57 #[.val (.int p0), .val (.int p1), .val (.int p2), .val (.int p3), .val (.long p4), .second, .val (.int p6), .val (.int b2), .val (.int e2), .val (.int (((p4).toInt32) &&& (2147483647 : Int32))), .unset, .unset, .unset, .unset, .unset] [(.int q)]) := by
    intro b2 e2 q hq
    have M0 := Fr.nil n0
    have K0 := Keep.refl h0 []
    have hk0 : s.heap.size ≤ h0.size := by rw [e00]; exact Nat.le_refl _
    refine s_istore X0 hx hby (n := 59) (L' := #[.val (.int p0), .val (.int p1), .val (.int p2), .val (.int p3), .val (.long p4), .second, .val (.int p6), .val (.int b2), .val (.int e2), .val (.int (((p4).toInt32) &&& (2147483647 : Int32))), .val (.int q), .unset, .unset, .unset, .unset]) at_57 rfl rfl ?_
    refine s_iload X0 hx hby (n := 61) (x := p6) at_59 rfl rfl ?_
    refine s_iconst X0 hx hby (n := 62) (v := (3 : Int32)) at_61 rfl rfl ?_
    refine s_iushr X0 hx hby (n := 63) at_62 rfl ?_
    refine s_iconst X0 hx hby (n := 64) (v := (3 : Int32)) at_63 rfl rfl ?_
    refine s_iand X0 hx hby (n := 65) at_64 rfl ?_
    refine s_istore X0 hx hby (n := 67) (L' := #[.val (.int p0), .val (.int p1), .val (.int p2), .val (.int p3), .val (.long p4), .second, .val (.int p6), .val (.int b2), .val (.int e2), .val (.int (((p4).toInt32) &&& (2147483647 : Int32))), .val (.int q), .val (.int ((XT.ushr p6 (3 : Int32)) &&& (3 : Int32))), .unset, .unset, .unset]) at_65 rfl rfl ?_
    have KS0 := Keep.refl h0 []
    have ZL1 := Oln.le O0
    refine s_newO X0 hx hby hZ (n := 70) hown (hw _ (List.mem_of_getElem? (i := 1) rfl)) (hw _ (List.mem_of_getElem? (i := 2) rfl)) (hw _ (List.mem_of_getElem? (i := 3) rfl)) e0 (by decide) (by decide) at_67 rfl ?_
    intro T1 h1 o1 go1 X1 e1 Q1 E1_o1 D1
    have K1 := KS0.ext Q1
    have F1_o1_system : Fld Z h1 o1 "com/example/ucoord/ucoord/model/StreamPartition" "system" "Ljava/lang/String;" .null := D1 (Or.inr (hw _ (List.mem_of_getElem? (i := 55) rfl))) (ty := (.object "java/lang/String")) (by decide)
    have F1_o1_stream : Fld Z h1 o1 "com/example/ucoord/ucoord/model/StreamPartition" "stream" "Ljava/lang/String;" .null := D1 (Or.inr (hw _ (List.mem_of_getElem? (i := 58) rfl))) (ty := (.object "java/lang/String")) (by decide)
    have F1_o1_partition : Fld Z h1 o1 "com/example/ucoord/ucoord/model/StreamPartition" "partition" "I" (.int (0 : Int32)) := D1 (Or.inr (hw _ (List.mem_of_getElem? (i := 60) rfl))) (ty := .int) (by decide)
    have n_o1 : n0 ≤ o1 := by rw [go1]; exact ZL1
    have Z1 : n0 ≤ h1.size := Nat.le_trans ZL1 Q1.1
    have OO1 := O0.ext Q1
    refine s_dup X1 hx hby (n := 71) at_70 rfl rfl ?_
    refine s_iloadN X1 hx hby (n := 72) (x := p0) at_71 rfl rfl ?_
    refine v_callS X1 hx hby hml hZ (n := 75) hown (hw _ (List.mem_of_getElem? (i := 4) rfl)) (hw _ (List.mem_of_getElem? (i := 5) rfl)) (hw _ (List.mem_of_getElem? (i := 6) rfl)) (hw _ (List.mem_of_getElem? (i := 7) rfl)) (by decide) (rmStr l Z a0 hw z0 hz0 Sz0 fm hfm Sfm p0 h1 n0 OO1 hh0 hcw) (fun vm₁ hW => (IS.warm hV hW).keep K1) hS0 (Nat.le_trans hk0 K1.1) e1 (by decide) 2 (by decide) (by decide) (by decide) pd_11  [(.int p0)] [(.ref o1), (.ref o1)] rfl rfl rfl (Nat.le_of_eq rfl) rfl at_72 rfl ?_
    intro T2 L2 v2 X2 hS2 hZ hown q2c
    obtain ⟨r1, rfl, N2, K2, S2_r1, I2⟩ := q2c
    show OE p e below _ T2 (mkF m 75 #[.val (.int p0), .val (.int p1), .val (.int p2), .val (.int p3), .val (.long p4), .second, .val (.int p6), .val (.int b2), .val (.int e2), .val (.int (((p4).toInt32) &&& (2147483647 : Int32))), .val (.int q), .val (.int ((XT.ushr p6 (3 : Int32)) &&& (3 : Int32))), .unset, .unset, .unset] [(.ref r1), (.ref o1), (.ref o1)])
    have E2_o1 := E1_o1.keep K2
    have F2_o1_system := F1_o1_system.keep K2 nin0
    have F2_o1_stream := F1_o1_stream.keep K2 nin0
    have F2_o1_partition := F1_o1_partition.keep K2 nin0
    have M2 := Fr.app M0 N2
    have OO2 := OO1.keep K2 all0
    refine s_iloadN X2 hx hby (n := 76) (x := p2) at_75 rfl rfl ?_
    refine v_callS X2 hx hby hml hZ (n := 79) hown (hw _ (List.mem_of_getElem? (i := 4) rfl)) (hw _ (List.mem_of_getElem? (i := 5) rfl)) (hw _ (List.mem_of_getElem? (i := 6) rfl)) (hw _ (List.mem_of_getElem? (i := 7) rfl)) (by decide) (rmStr l Z a0 hw z0 hz0 Sz0 fm hfm Sfm p2 T2.heap n0 OO2 hh0 hcw) (fun vm₁ hW => IS.warm I2 hW) hS2 (Nat.le_refl _) rfl (by decide) 3 (by decide) (by decide) (by decide) pd_11  [(.int p2)] [(.ref r1), (.ref o1), (.ref o1)] rfl rfl rfl (Nat.le_of_eq rfl) rfl at_76 rfl ?_
    intro T3 L3 v3 X3 hS3 hZ hown q3c
    obtain ⟨r2, rfl, N3, K3, S3_r2, I3⟩ := q3c
    show OE p e below _ T3 (mkF m 79 #[.val (.int p0), .val (.int p1), .val (.int p2), .val (.int p3), .val (.long p4), .second, .val (.int p6), .val (.int b2), .val (.int e2), .val (.int (((p4).toInt32) &&& (2147483647 : Int32))), .val (.int q), .val (.int ((XT.ushr p6 (3 : Int32)) &&& (3 : Int32))), .unset, .unset, .unset] [(.ref r2), (.ref r1), (.ref o1), (.ref o1)])
    have E3_o1 := E2_o1.keep K3
    have F3_o1_system := F2_o1_system.keep K3 nin0
    have F3_o1_stream := F2_o1_stream.keep K3 nin0
    have F3_o1_partition := F2_o1_partition.keep K3 nin0
    have S3_r1 := S2_r1.keep K3
    have M3 := Fr.app M2 N3
    have OO3 := OO2.keep K3 all0
    refine s_iload X3 hx hby (n := 81) (x := (((p4).toInt32) &&& (2147483647 : Int32))) at_79 rfl rfl ?_
    refine v_callI X3 hx hby hml hZ (n := 84) hown (hw _ (List.mem_of_getElem? (i := 44) rfl)) rfl (hw _ (List.mem_of_getElem? (i := 45) rfl)) (hw _ (List.mem_of_getElem? (i := 3) rfl)) (hw _ (List.mem_of_getElem? (i := 46) rfl)) (by decide) (rmSPi l Z a0 hw z0 hz0 Sz0 fm hfm Sfm o1 r1 r2 (((p4).toInt32) &&& (2147483647 : Int32)) _ _ T3.heap n0 OO3 (nn31 _) n_o1 E3_o1 F3_o1_system F3_o1_stream F3_o1_partition S3_r1 S3_r2 hh7 hh22 hcw) (fun vm₁ hW => IS.warm I3 hW) hS3 (Nat.le_refl _) rfl (by decide) 1 (by decide) (by decide) (by decide) pd_12 o1 [(.ref r1), (.ref r2), (.int (((p4).toInt32) &&& (2147483647 : Int32)))] [(.ref o1)] rfl rfl rfl (Nat.le_of_eq rfl) rfl at_81 rfl ?_
    intro T4 L4 v4 X4 hS4 hZ hown q4c
    obtain ⟨rfl, N4, K4, E4_o1, F4_o1_system, F4_o1_stream, F4_o1_partition, I4⟩ := q4c
    show OE p e below _ T4 (mkF m 84 #[.val (.int p0), .val (.int p1), .val (.int p2), .val (.int p3), .val (.long p4), .second, .val (.int p6), .val (.int b2), .val (.int e2), .val (.int (((p4).toInt32) &&& (2147483647 : Int32))), .val (.int q), .val (.int ((XT.ushr p6 (3 : Int32)) &&& (3 : Int32))), .unset, .unset, .unset] [(.ref o1)])
    have S4_r1 := S3_r1.asideO E3_o1 (by decide) (hw _ (List.mem_of_getElem? (i := 2) rfl)) K4
    have S4_r2 := S3_r2.asideO E3_o1 (by decide) (hw _ (List.mem_of_getElem? (i := 2) rfl)) K4
    have M4 := Fr.app M3 N4
    have OO4 := OO3.keep K4 (allS n_o1 all0)
    refine s_astore X4 hx hby (n := 86) (L' := #[.val (.int p0), .val (.int p1), .val (.int p2), .val (.int p3), .val (.long p4), .second, .val (.int p6), .val (.int b2), .val (.int e2), .val (.int (((p4).toInt32) &&& (2147483647 : Int32))), .val (.int q), .val (.int ((XT.ushr p6 (3 : Int32)) &&& (3 : Int32))), .val (.ref o1), .unset, .unset]) at_84 rfl rfl rfl ?_
    refine s_iload X4 hx hby (n := 88) (x := ((XT.ushr p6 (3 : Int32)) &&& (3 : Int32))) at_86 rfl rfl ?_
    by_cases c88 : ((XT.ushr p6 (3 : Int32)) &&& (3 : Int32)) = (0 : Int32)
    · refine s_ifN X4 hx hby (n := 91) at_88 (XT.i0_ne_f c88) rfl ?_
      have KS4 := Keep.refl T4.heap []
      have ZL5 := Oln.le OO4
      refine s_newO X4 hx hby hZ (n := 94) hown (hw _ (List.mem_of_getElem? (i := 1) rfl)) (hw _ (List.mem_of_getElem? (i := 2) rfl)) (hw _ (List.mem_of_getElem? (i := 3) rfl)) rfl (by decide) (by decide) at_91 rfl ?_
      intro T5 h5 o2 go2 X5 e5 Q5 E5_o2 D5
      have ne_o1_o2 : o1 ≠ o2 := by rw [go2]; exact Nat.ne_of_lt E4_o1.lt
      have E5_o1 := E4_o1.ext Q5
      have F5_o1_system := F4_o1_system.ext Q5
      have F5_o1_stream := F4_o1_stream.ext Q5
      have F5_o1_partition := F4_o1_partition.ext Q5
      have K5 := KS4.ext Q5
      have F5_o2_system : Fld Z h5 o2 "com/example/ucoord/ucoord/model/StreamPartition" "system" "Ljava/lang/String;" .null := D5 (Or.inr (hw _ (List.mem_of_getElem? (i := 55) rfl))) (ty := (.object "java/lang/String")) (by decide)
      have F5_o2_stream : Fld Z h5 o2 "com/example/ucoord/ucoord/model/StreamPartition" "stream" "Ljava/lang/String;" .null := D5 (Or.inr (hw _ (List.mem_of_getElem? (i := 58) rfl))) (ty := (.object "java/lang/String")) (by decide)
      have F5_o2_partition : Fld Z h5 o2 "com/example/ucoord/ucoord/model/StreamPartition" "partition" "I" (.int (0 : Int32)) := D5 (Or.inr (hw _ (List.mem_of_getElem? (i := 60) rfl))) (ty := .int) (by decide)
      have n_o2 : n0 ≤ o2 := by rw [go2]; exact ZL5
      have Z5 : n0 ≤ h5.size := Nat.le_trans ZL5 Q5.1
      have OO5 := OO4.ext Q5
      have S5_r1 := S4_r1.ext Q5
      have S5_r2 := S4_r2.ext Q5
      refine s_dup X5 hx hby (n := 95) at_94 rfl rfl ?_
      refine s_iload X5 hx hby (n := 97) (x := b2) at_95 rfl rfl ?_
      refine v_callS X5 hx hby hml hZ (n := 100) hown (hw _ (List.mem_of_getElem? (i := 4) rfl)) (hw _ (List.mem_of_getElem? (i := 5) rfl)) (hw _ (List.mem_of_getElem? (i := 6) rfl)) (hw _ (List.mem_of_getElem? (i := 7) rfl)) (by decide) (rmStr l Z a0 hw z0 hz0 Sz0 fm hfm Sfm b2 h5 n0 OO5 hh0 hcw) (fun vm₁ hW => (IS.warm I4 hW).keep K5) hS4 (Nat.le_trans (Nat.le_refl _) K5.1) e5 (by decide) 2 (by decide) (by decide) (by decide) pd_11  [(.int b2)] [(.ref o2), (.ref o2)] rfl rfl rfl (Nat.le_of_eq rfl) rfl at_97 rfl ?_
      intro T6 L6 v6 X6 hS6 hZ hown q6c
      obtain ⟨r3, rfl, N6, K6, S6_r3, I6⟩ := q6c
      show OE p e below _ T6 (mkF m 100 #[.val (.int p0), .val (.int p1), .val (.int p2), .val (.int p3), .val (.long p4), .second, .val (.int p6), .val (.int b2), .val (.int e2), .val (.int (((p4).toInt32) &&& (2147483647 : Int32))), .val (.int q), .val (.int ((XT.ushr p6 (3 : Int32)) &&& (3 : Int32))), .val (.ref o1), .unset, .unset] [(.ref r3), (.ref o2), (.ref o2)])
      have E6_o1 := E5_o1.keep K6
      have F6_o1_system := F5_o1_system.keep K6 nin0
      have F6_o1_stream := F5_o1_stream.keep K6 nin0
      have F6_o1_partition := F5_o1_partition.keep K6 nin0
      have E6_o2 := E5_o2.keep K6
      have F6_o2_system := F5_o2_system.keep K6 nin0
      have F6_o2_stream := F5_o2_stream.keep K6 nin0
      have F6_o2_partition := F5_o2_partition.keep K6 nin0
      have S6_r1 := S5_r1.keep K6
      have S6_r2 := S5_r2.keep K6
      have M6 := Fr.app M4 N6
      have OO6 := OO5.keep K6 all0
      refine s_iload X6 hx hby (n := 102) (x := e2) at_100 rfl rfl ?_
      refine v_callS X6 hx hby hml hZ (n := 105) hown (hw _ (List.mem_of_getElem? (i := 4) rfl)) (hw _ (List.mem_of_getElem? (i := 5) rfl)) (hw _ (List.mem_of_getElem? (i := 6) rfl)) (hw _ (List.mem_of_getElem? (i := 7) rfl)) (by decide) (rmStr l Z a0 hw z0 hz0 Sz0 fm hfm Sfm e2 T6.heap n0 OO6 hh0 hcw) (fun vm₁ hW => IS.warm I6 hW) hS6 (Nat.le_refl _) rfl (by decide) 3 (by decide) (by decide) (by decide) pd_11  [(.int e2)] [(.ref r3), (.ref o2), (.ref o2)] rfl rfl rfl (Nat.le_of_eq rfl) rfl at_102 rfl ?_
      intro T7 L7 v7 X7 hS7 hZ hown q7c
      obtain ⟨r4, rfl, N7, K7, S7_r4, I7⟩ := q7c
      show OE p e below _ T7 (mkF m 105 #[.val (.int p0), .val (.int p1), .val (.int p2), .val (.int p3), .val (.long p4), .second, .val (.int p6), .val (.int b2), .val (.int e2), .val (.int (((p4).toInt32) &&& (2147483647 : Int32))), .val (.int q), .val (.int ((XT.ushr p6 (3 : Int32)) &&& (3 : Int32))), .val (.ref o1), .unset, .unset] [(.ref r4), (.ref r3), (.ref o2), (.ref o2)])
      have E7_o1 := E6_o1.keep K7
      have F7_o1_system := F6_o1_system.keep K7 nin0
      have F7_o1_stream := F6_o1_stream.keep K7 nin0
      have F7_o1_partition := F6_o1_partition.keep K7 nin0
      have E7_o2 := E6_o2.keep K7
      have F7_o2_system := F6_o2_system.keep K7 nin0
      have F7_o2_stream := F6_o2_stream.keep K7 nin0
      have F7_o2_partition := F6_o2_partition.keep K7 nin0
      have S7_r1 := S6_r1.keep K7
      have S7_r2 := S6_r2.keep K7
      have S7_r3 := S6_r3.keep K7
      have M7 := Fr.app M6 N7
      have OO7 := OO6.keep K7 all0
      refine s_iload X7 hx hby (n := 107) (x := q) at_105 rfl rfl ?_
      refine v_callI X7 hx hby hml hZ (n := 110) hown (hw _ (List.mem_of_getElem? (i := 44) rfl)) rfl (hw _ (List.mem_of_getElem? (i := 45) rfl)) (hw _ (List.mem_of_getElem? (i := 3) rfl)) (hw _ (List.mem_of_getElem? (i := 46) rfl)) (by decide) (rmSPi l Z a0 hw z0 hz0 Sz0 fm hfm Sfm o2 r3 r4 q _ _ T7.heap n0 OO7 hq n_o2 E7_o2 F7_o2_system F7_o2_stream F7_o2_partition S7_r3 S7_r4 hh7 hh22 hcw) (fun vm₁ hW => IS.warm I7 hW) hS7 (Nat.le_refl _) rfl (by decide) 1 (by decide) (by decide) (by decide) pd_12 o2 [(.ref r3), (.ref r4), (.int q)] [(.ref o2)] rfl rfl rfl (Nat.le_of_eq rfl) rfl at_107 rfl ?_
      intro T8 L8 v8 X8 hS8 hZ hown q8c
      obtain ⟨rfl, N8, K8, E8_o2, F8_o2_system, F8_o2_stream, F8_o2_partition, I8⟩ := q8c
      show OE p e below _ T8 (mkF m 110 #[.val (.int p0), .val (.int p1), .val (.int p2), .val (.int p3), .val (.long p4), .second, .val (.int p6), .val (.int b2), .val (.int e2), .val (.int (((p4).toInt32) &&& (2147483647 : Int32))), .val (.int q), .val (.int ((XT.ushr p6 (3 : Int32)) &&& (3 : Int32))), .val (.ref o1), .unset, .unset] [(.ref o2)])
      have E8_o1 := E7_o1.keep K8
      have F8_o1_system := F7_o1_system.keep K8 (ninS ne_o1_o2 nin0)
      have F8_o1_stream := F7_o1_stream.keep K8 (ninS ne_o1_o2 nin0)
      have F8_o1_partition := F7_o1_partition.keep K8 (ninS ne_o1_o2 nin0)
      have S8_r1 := S7_r1.asideO E7_o2 (by decide) (hw _ (List.mem_of_getElem? (i := 2) rfl)) K8
      have S8_r2 := S7_r2.asideO E7_o2 (by decide) (hw _ (List.mem_of_getElem? (i := 2) rfl)) K8
      have S8_r3 := S7_r3.asideO E7_o2 (by decide) (hw _ (List.mem_of_getElem? (i := 2) rfl)) K8
      have S8_r4 := S7_r4.asideO E7_o2 (by decide) (hw _ (List.mem_of_getElem? (i := 2) rfl)) K8
      have M8 := Fr.app M7 N8
      have OO8 := OO7.keep K8 (allS n_o2 all0)
      refine s_astore X8 hx hby (n := 112) (L' := #[.val (.int p0), .val (.int p1), .val (.int p2), .val (.int p3), .val (.long p4), .second, .val (.int p6), .val (.int b2), .val (.int e2), .val (.int (((p4).toInt32) &&& (2147483647 : Int32))), .val (.int q), .val (.int ((XT.ushr p6 (3 : Int32)) &&& (3 : Int32))), .val (.ref o1), .val (.ref o2), .unset]) at_110 rfl rfl rfl ?_
      refine s_goto X8 hx hby (n := 149) at_112 (by decide) (by decide) ?_
      refine s_iload X8 hx hby (n := 151) (x := ((XT.ushr p6 (3 : Int32)) &&& (3 : Int32))) at_149 rfl rfl ?_
      refine s_ifN X8 hx hby (n := 154) at_151 (XT.i0_ne_f c88) rfl ?_
      refine s_iloadN X8 hx hby (n := 155) (x := p0) at_154 rfl rfl ?_
      refine s_iload X8 hx hby (n := 157) (x := b2) at_155 rfl rfl ?_
      refine s_callS X8 hx hby hml hZ (n := 160) hown (hw _ (List.mem_of_getElem? (i := 61) rfl)) (hw _ (List.mem_of_getElem? (i := 62) rfl)) (hw _ (List.mem_of_getElem? (i := 6) rfl)) (hw _ (List.mem_of_getElem? (i := 63) rfl)) (by decide) (rmSame l Z a0 hw p0 b2 T8.heap n0) rfl (by decide) 0 (by decide) (by decide) (by decide) pd_13 [(.int p0), (.int b2)] [] rfl rfl rfl (Nat.le_of_eq rfl) rfl at_157 rfl ?_
      intro T9 L9 v9 X9 q9c
      obtain ⟨rfl, e9, N9⟩ := q9c
      show OE p e below _ T9 (mkF m 160 #[.val (.int p0), .val (.int p1), .val (.int p2), .val (.int p3), .val (.long p4), .second, .val (.int p6), .val (.int b2), .val (.int e2), .val (.int (((p4).toInt32) &&& (2147483647 : Int32))), .val (.int q), .val (.int ((XT.ushr p6 (3 : Int32)) &&& (3 : Int32))), .val (.ref o1), .val (.ref o2), .unset] [(.int (b2i (own_same p0 b2)))])
      have M9 := Fr.app M8 N9
      rcases Bool.eq_false_or_eq_true ((own_same p0 b2)) with c160 | c160
      · refine s_ifN X9 hx hby (n := 163) at_160 (ifb_eq_f c160) rfl ?_
        refine s_iloadN X9 hx hby (n := 164) (x := p2) at_163 rfl rfl ?_
        refine s_iload X9 hx hby (n := 166) (x := e2) at_164 rfl rfl ?_
        refine s_callS X9 hx hby hml hZ (n := 169) hown (hw _ (List.mem_of_getElem? (i := 61) rfl)) (hw _ (List.mem_of_getElem? (i := 62) rfl)) (hw _ (List.mem_of_getElem? (i := 6) rfl)) (hw _ (List.mem_of_getElem? (i := 63) rfl)) (by decide) (rmSame l Z a0 hw p2 e2 T8.heap n0) e9 (by decide) 0 (by decide) (by decide) (by decide) pd_13 [(.int p2), (.int e2)] [] rfl rfl rfl (Nat.le_of_eq rfl) rfl at_166 rfl ?_
        intro T10 L10 v10 X10 q10c
        obtain ⟨rfl, e10, N10⟩ := q10c
        show OE p e below _ T10 (mkF m 169 #[.val (.int p0), .val (.int p1), .val (.int p2), .val (.int p3), .val (.long p4), .second, .val (.int p6), .val (.int b2), .val (.int e2), .val (.int (((p4).toInt32) &&& (2147483647 : Int32))), .val (.int q), .val (.int ((XT.ushr p6 (3 : Int32)) &&& (3 : Int32))), .val (.ref o1), .val (.ref o2), .unset] [(.int (b2i (own_same p2 e2)))])
        have M10 := Fr.app M9 N10
        rcases Bool.eq_false_or_eq_true ((own_same p2 e2)) with c169 | c169
        · refine s_ifN X10 hx hby (n := 172) at_169 (ifb_eq_f c169) rfl ?_
          refine s_iload X10 hx hby (n := 174) (x := (((p4).toInt32) &&& (2147483647 : Int32))) at_172 rfl rfl ?_
          refine s_iload X10 hx hby (n := 176) (x := q) at_174 rfl rfl ?_
          by_cases c176 : (((p4).toInt32) &&& (2147483647 : Int32)) = q
          · refine s_icmpN X10 hx hby (n := 179) at_176 (XT.ii_ne_f c176) rfl ?_
            refine s_iconst X10 hx hby (n := 180) (v := (1 : Int32)) at_179 rfl rfl ?_
            refine s_goto X10 hx hby (n := 184) at_180 (by decide) (by decide) ?_
            refine s_istore X10 hx hby (n := 186) (L' := #[.val (.int p0), .val (.int p1), .val (.int p2), .val (.int p3), .val (.long p4), .second, .val (.int p6), .val (.int b2), .val (.int e2), .val (.int (((p4).toInt32) &&& (2147483647 : Int32))), .val (.int q), .val (.int ((XT.ushr p6 (3 : Int32)) &&& (3 : Int32))), .val (.ref o1), .val (.ref o2), .val (.int (1 : Int32))]) at_184 rfl rfl ?_
            refine s_aload X10 hx hby (n := 188) (x := (.ref o1)) at_186 rfl rfl rfl ?_
            refine s_aload X10 hx hby (n := 190) (x := (.ref o2)) at_188 rfl rfl rfl ?_
            refine s_callV X10 hx hby hml hZ (n := 193) hown (hw _ (List.mem_of_getElem? (i := 64) rfl)) (hw _ (List.mem_of_getElem? (i := 65) rfl)) (notFace_of_selects (args := #[]) (mvT hZ (hw _ (List.mem_of_getElem? (i := 67) rfl)))) (hw _ (List.mem_of_getElem? (i := 67) rfl)) (hw _ (List.mem_of_getElem? (i := 66) rfl)) (hw _ (List.mem_of_getElem? (i := 3) rfl)) (hw _ (List.mem_of_getElem? (i := 68) rfl)) (by decide) (rmSEq l Z a0 hw z0 hz0 Sz0 fm hfm Sfm o1 o2 r1 r2 r3 r4 (((p4).toInt32) &&& (2147483647 : Int32)) q _ _ _ _ T8.heap n0 OO8 ⟨E8_o1, F8_o1_system, F8_o1_stream, F8_o1_partition⟩ ⟨E8_o2, F8_o2_system, F8_o2_stream, F8_o2_partition⟩ S8_r1 S8_r2 S8_r3 S8_r4) e10 (by decide) 0 (by decide) (by decide) (by decide) pd_8 E8_o1 [(.ref o2)] [] rfl rfl rfl (Nat.le_of_eq rfl) rfl at_190 rfl ?_
            intro T11 L11 v11 X11 q11c
            obtain ⟨rfl, e11, N11⟩ := q11c
            show OE p e below _ T11 (mkF m 193 #[.val (.int p0), .val (.int p1), .val (.int p2), .val (.int p3), .val (.long p4), .second, .val (.int p6), .val (.int b2), .val (.int e2), .val (.int (((p4).toInt32) &&& (2147483647 : Int32))), .val (.int q), .val (.int ((XT.ushr p6 (3 : Int32)) &&& (3 : Int32))), .val (.ref o1), .val (.ref o2), .val (.int (1 : Int32))] [(.int (b2i (decide (bl b2 = bl p0) && (decide (bl e2 = bl p2) && decide (q = (((p4).toInt32) &&& (2147483647 : Int32)))))))])
            have M11 := Fr.app M10 N11
            refine s_iload X11 hx hby (n := 195) (x := (1 : Int32)) at_193 rfl rfl ?_
            refine s_icmpN X11 hx hby (n := 198) at_195 (icb_ne_f (b := true) (by simp only [same_bl] at c160 c169; first | (simp_all; done) | (have cq : ¬ q = (((p4).toInt32) &&& (2147483647 : Int32)) := fun z => c176 z.symm; simp_all))) rfl ?_
            refine s_aload X11 hx hby (n := 200) (x := (.ref o1)) at_198 rfl rfl rfl ?_
            refine s_aload X11 hx hby (n := 202) (x := (.ref o1)) at_200 rfl rfl rfl ?_
            refine s_callV X11 hx hby hml hZ (n := 205) hown (hw _ (List.mem_of_getElem? (i := 64) rfl)) (hw _ (List.mem_of_getElem? (i := 65) rfl)) (notFace_of_selects (args := #[]) (mvT hZ (hw _ (List.mem_of_getElem? (i := 67) rfl)))) (hw _ (List.mem_of_getElem? (i := 67) rfl)) (hw _ (List.mem_of_getElem? (i := 66) rfl)) (hw _ (List.mem_of_getElem? (i := 3) rfl)) (hw _ (List.mem_of_getElem? (i := 68) rfl)) (by decide) (rmSEq l Z a0 hw z0 hz0 Sz0 fm hfm Sfm o1 o1 r1 r2 r1 r2 (((p4).toInt32) &&& (2147483647 : Int32)) (((p4).toInt32) &&& (2147483647 : Int32)) _ _ _ _ T8.heap n0 OO8 ⟨E8_o1, F8_o1_system, F8_o1_stream, F8_o1_partition⟩ ⟨E8_o1, F8_o1_system, F8_o1_stream, F8_o1_partition⟩ S8_r1 S8_r2 S8_r1 S8_r2) e11 (by decide) 0 (by decide) (by decide) (by decide) pd_8 E8_o1 [(.ref o1)] [] rfl rfl rfl (Nat.le_of_eq rfl) rfl at_202 rfl ?_
            intro T12 L12 v12 X12 q12c
            obtain ⟨rfl, e12, N12⟩ := q12c
            show OE p e below _ T12 (mkF m 205 #[.val (.int p0), .val (.int p1), .val (.int p2), .val (.int p3), .val (.long p4), .second, .val (.int p6), .val (.int b2), .val (.int e2), .val (.int (((p4).toInt32) &&& (2147483647 : Int32))), .val (.int q), .val (.int ((XT.ushr p6 (3 : Int32)) &&& (3 : Int32))), .val (.ref o1), .val (.ref o2), .val (.int (1 : Int32))] [(.int (b2i (decide (bl p0 = bl p0) && (decide (bl p2 = bl p2) && decide ((((p4).toInt32) &&& (2147483647 : Int32)) = (((p4).toInt32) &&& (2147483647 : Int32)))))))])
            have M12 := Fr.app M11 N12
            refine s_ifN X12 hx hby (n := 208) at_205 (ifb_eq_f (by simp)) rfl ?_
            refine s_iconst X12 hx hby (n := 209) (v := (1 : Int32)) at_208 rfl rfl ?_
            refine s_goto X12 hx hby (n := 213) at_209 (by decide) (by decide) ?_
            exact v_retN X12 hx hby hlk hret (t := .boolean) (by simp) (z' := (1 : Int32)) (by decide) at_213 hS8 (by rw [e12]; exact (Nat.le_refl _)) (by decide) (by decide) ⟨rfl, M12⟩
          · refine s_icmpY X10 hx hby (n := 183) at_176 (XT.ii_ne_t c176) (by decide) (by decide) ?_
            refine s_iconst X10 hx hby (n := 184) (v := (0 : Int32)) at_183 rfl rfl ?_
            refine s_istore X10 hx hby (n := 186) (L' := #[.val (.int p0), .val (.int p1), .val (.int p2), .val (.int p3), .val (.long p4), .second, .val (.int p6), .val (.int b2), .val (.int e2), .val (.int (((p4).toInt32) &&& (2147483647 : Int32))), .val (.int q), .val (.int ((XT.ushr p6 (3 : Int32)) &&& (3 : Int32))), .val (.ref o1), .val (.ref o2), .val (.int (0 : Int32))]) at_184 rfl rfl ?_
            refine s_aload X10 hx hby (n := 188) (x := (.ref o1)) at_186 rfl rfl rfl ?_
            refine s_aload X10 hx hby (n := 190) (x := (.ref o2)) at_188 rfl rfl rfl ?_
            refine s_callV X10 hx hby hml hZ (n := 193) hown (hw _ (List.mem_of_getElem? (i := 64) rfl)) (hw _ (List.mem_of_getElem? (i := 65) rfl)) (notFace_of_selects (args := #[]) (mvT hZ (hw _ (List.mem_of_getElem? (i := 67) rfl)))) (hw _ (List.mem_of_getElem? (i := 67) rfl)) (hw _ (List.mem_of_getElem? (i := 66) rfl)) (hw _ (List.mem_of_getElem? (i := 3) rfl)) (hw _ (List.mem_of_getElem? (i := 68) rfl)) (by decide) (rmSEq l Z a0 hw z0 hz0 Sz0 fm hfm Sfm o1 o2 r1 r2 r3 r4 (((p4).toInt32) &&& (2147483647 : Int32)) q _ _ _ _ T8.heap n0 OO8 ⟨E8_o1, F8_o1_system, F8_o1_stream, F8_o1_partition⟩ ⟨E8_o2, F8_o2_system, F8_o2_stream, F8_o2_partition⟩ S8_r1 S8_r2 S8_r3 S8_r4) e10 (by decide) 0 (by decide) (by decide) (by decide) pd_8 E8_o1 [(.ref o2)] [] rfl rfl rfl (Nat.le_of_eq rfl) rfl at_190 rfl ?_
            intro T13 L13 v13 X13 q13c
            obtain ⟨rfl, e13, N13⟩ := q13c
            show OE p e below _ T13 (mkF m 193 #[.val (.int p0), .val (.int p1), .val (.int p2), .val (.int p3), .val (.long p4), .second, .val (.int p6), .val (.int b2), .val (.int e2), .val (.int (((p4).toInt32) &&& (2147483647 : Int32))), .val (.int q), .val (.int ((XT.ushr p6 (3 : Int32)) &&& (3 : Int32))), .val (.ref o1), .val (.ref o2), .val (.int (0 : Int32))] [(.int (b2i (decide (bl b2 = bl p0) && (decide (bl e2 = bl p2) && decide (q = (((p4).toInt32) &&& (2147483647 : Int32)))))))])
            have M13 := Fr.app M10 N13
            refine s_iload X13 hx hby (n := 195) (x := (0 : Int32)) at_193 rfl rfl ?_
            refine s_icmpN X13 hx hby (n := 198) at_195 (icb_ne_f (b := false) (by simp only [same_bl] at c160 c169; first | (simp_all; done) | (have cq : ¬ q = (((p4).toInt32) &&& (2147483647 : Int32)) := fun z => c176 z.symm; simp_all))) rfl ?_
            refine s_aload X13 hx hby (n := 200) (x := (.ref o1)) at_198 rfl rfl rfl ?_
            refine s_aload X13 hx hby (n := 202) (x := (.ref o1)) at_200 rfl rfl rfl ?_
            refine s_callV X13 hx hby hml hZ (n := 205) hown (hw _ (List.mem_of_getElem? (i := 64) rfl)) (hw _ (List.mem_of_getElem? (i := 65) rfl)) (notFace_of_selects (args := #[]) (mvT hZ (hw _ (List.mem_of_getElem? (i := 67) rfl)))) (hw _ (List.mem_of_getElem? (i := 67) rfl)) (hw _ (List.mem_of_getElem? (i := 66) rfl)) (hw _ (List.mem_of_getElem? (i := 3) rfl)) (hw _ (List.mem_of_getElem? (i := 68) rfl)) (by decide) (rmSEq l Z a0 hw z0 hz0 Sz0 fm hfm Sfm o1 o1 r1 r2 r1 r2 (((p4).toInt32) &&& (2147483647 : Int32)) (((p4).toInt32) &&& (2147483647 : Int32)) _ _ _ _ T8.heap n0 OO8 ⟨E8_o1, F8_o1_system, F8_o1_stream, F8_o1_partition⟩ ⟨E8_o1, F8_o1_system, F8_o1_stream, F8_o1_partition⟩ S8_r1 S8_r2 S8_r1 S8_r2) e13 (by decide) 0 (by decide) (by decide) (by decide) pd_8 E8_o1 [(.ref o1)] [] rfl rfl rfl (Nat.le_of_eq rfl) rfl at_202 rfl ?_
            intro T14 L14 v14 X14 q14c
            obtain ⟨rfl, e14, N14⟩ := q14c
            show OE p e below _ T14 (mkF m 205 #[.val (.int p0), .val (.int p1), .val (.int p2), .val (.int p3), .val (.long p4), .second, .val (.int p6), .val (.int b2), .val (.int e2), .val (.int (((p4).toInt32) &&& (2147483647 : Int32))), .val (.int q), .val (.int ((XT.ushr p6 (3 : Int32)) &&& (3 : Int32))), .val (.ref o1), .val (.ref o2), .val (.int (0 : Int32))] [(.int (b2i (decide (bl p0 = bl p0) && (decide (bl p2 = bl p2) && decide ((((p4).toInt32) &&& (2147483647 : Int32)) = (((p4).toInt32) &&& (2147483647 : Int32)))))))])
            have M14 := Fr.app M13 N14
            refine s_ifN X14 hx hby (n := 208) at_205 (ifb_eq_f (by simp)) rfl ?_
            refine s_iconst X14 hx hby (n := 209) (v := (1 : Int32)) at_208 rfl rfl ?_
            refine s_goto X14 hx hby (n := 213) at_209 (by decide) (by decide) ?_
            exact v_retN X14 hx hby hlk hret (t := .boolean) (by simp) (z' := (1 : Int32)) (by decide) at_213 hS8 (by rw [e14]; exact (Nat.le_refl _)) (by decide) (by decide) ⟨rfl, M14⟩
        · refine s_ifY X10 hx hby (n := 183) at_169 (ifb_eq_t c169) (by decide) (by decide) ?_
          refine s_iconst X10 hx hby (n := 184) (v := (0 : Int32)) at_183 rfl rfl ?_
          refine s_istore X10 hx hby (n := 186) (L' := #[.val (.int p0), .val (.int p1), .val (.int p2), .val (.int p3), .val (.long p4), .second, .val (.int p6), .val (.int b2), .val (.int e2), .val (.int (((p4).toInt32) &&& (2147483647 : Int32))), .val (.int q), .val (.int ((XT.ushr p6 (3 : Int32)) &&& (3 : Int32))), .val (.ref o1), .val (.ref o2), .val (.int (0 : Int32))]) at_184 rfl rfl ?_
          refine s_aload X10 hx hby (n := 188) (x := (.ref o1)) at_186 rfl rfl rfl ?_
          refine s_aload X10 hx hby (n := 190) (x := (.ref o2)) at_188 rfl rfl rfl ?_
          refine s_callV X10 hx hby hml hZ (n := 193) hown (hw _ (List.mem_of_getElem? (i := 64) rfl)) (hw _ (List.mem_of_getElem? (i := 65) rfl)) (notFace_of_selects (args := #[]) (mvT hZ (hw _ (List.mem_of_getElem? (i := 67) rfl)))) (hw _ (List.mem_of_getElem? (i := 67) rfl)) (hw _ (List.mem_of_getElem? (i := 66) rfl)) (hw _ (List.mem_of_getElem? (i := 3) rfl)) (hw _ (List.mem_of_getElem? (i := 68) rfl)) (by decide) (rmSEq l Z a0 hw z0 hz0 Sz0 fm hfm Sfm o1 o2 r1 r2 r3 r4 (((p4).toInt32) &&& (2147483647 : Int32)) q _ _ _ _ T8.heap n0 OO8 ⟨E8_o1, F8_o1_system, F8_o1_stream, F8_o1_partition⟩ ⟨E8_o2, F8_o2_system, F8_o2_stream, F8_o2_partition⟩ S8_r1 S8_r2 S8_r3 S8_r4) e10 (by decide) 0 (by decide) (by decide) (by decide) pd_8 E8_o1 [(.ref o2)] [] rfl rfl rfl (Nat.le_of_eq rfl) rfl at_190 rfl ?_
          intro T15 L15 v15 X15 q15c
          obtain ⟨rfl, e15, N15⟩ := q15c
          show OE p e below _ T15 (mkF m 193 #[.val (.int p0), .val (.int p1), .val (.int p2), .val (.int p3), .val (.long p4), .second, .val (.int p6), .val (.int b2), .val (.int e2), .val (.int (((p4).toInt32) &&& (2147483647 : Int32))), .val (.int q), .val (.int ((XT.ushr p6 (3 : Int32)) &&& (3 : Int32))), .val (.ref o1), .val (.ref o2), .val (.int (0 : Int32))] [(.int (b2i (decide (bl b2 = bl p0) && (decide (bl e2 = bl p2) && decide (q = (((p4).toInt32) &&& (2147483647 : Int32)))))))])
          have M15 := Fr.app M10 N15
          refine s_iload X15 hx hby (n := 195) (x := (0 : Int32)) at_193 rfl rfl ?_
          refine s_icmpN X15 hx hby (n := 198) at_195 (icb_ne_f (b := false) (by simp only [same_bl] at c160 c169; simp_all)) rfl ?_
          refine s_aload X15 hx hby (n := 200) (x := (.ref o1)) at_198 rfl rfl rfl ?_
          refine s_aload X15 hx hby (n := 202) (x := (.ref o1)) at_200 rfl rfl rfl ?_
          refine s_callV X15 hx hby hml hZ (n := 205) hown (hw _ (List.mem_of_getElem? (i := 64) rfl)) (hw _ (List.mem_of_getElem? (i := 65) rfl)) (notFace_of_selects (args := #[]) (mvT hZ (hw _ (List.mem_of_getElem? (i := 67) rfl)))) (hw _ (List.mem_of_getElem? (i := 67) rfl)) (hw _ (List.mem_of_getElem? (i := 66) rfl)) (hw _ (List.mem_of_getElem? (i := 3) rfl)) (hw _ (List.mem_of_getElem? (i := 68) rfl)) (by decide) (rmSEq l Z a0 hw z0 hz0 Sz0 fm hfm Sfm o1 o1 r1 r2 r1 r2 (((p4).toInt32) &&& (2147483647 : Int32)) (((p4).toInt32) &&& (2147483647 : Int32)) _ _ _ _ T8.heap n0 OO8 ⟨E8_o1, F8_o1_system, F8_o1_stream, F8_o1_partition⟩ ⟨E8_o1, F8_o1_system, F8_o1_stream, F8_o1_partition⟩ S8_r1 S8_r2 S8_r1 S8_r2) e15 (by decide) 0 (by decide) (by decide) (by decide) pd_8 E8_o1 [(.ref o1)] [] rfl rfl rfl (Nat.le_of_eq rfl) rfl at_202 rfl ?_
          intro T16 L16 v16 X16 q16c
          obtain ⟨rfl, e16, N16⟩ := q16c
          show OE p e below _ T16 (mkF m 205 #[.val (.int p0), .val (.int p1), .val (.int p2), .val (.int p3), .val (.long p4), .second, .val (.int p6), .val (.int b2), .val (.int e2), .val (.int (((p4).toInt32) &&& (2147483647 : Int32))), .val (.int q), .val (.int ((XT.ushr p6 (3 : Int32)) &&& (3 : Int32))), .val (.ref o1), .val (.ref o2), .val (.int (0 : Int32))] [(.int (b2i (decide (bl p0 = bl p0) && (decide (bl p2 = bl p2) && decide ((((p4).toInt32) &&& (2147483647 : Int32)) = (((p4).toInt32) &&& (2147483647 : Int32)))))))])
          have M16 := Fr.app M15 N16
          refine s_ifN X16 hx hby (n := 208) at_205 (ifb_eq_f (by simp)) rfl ?_
          refine s_iconst X16 hx hby (n := 209) (v := (1 : Int32)) at_208 rfl rfl ?_
          refine s_goto X16 hx hby (n := 213) at_209 (by decide) (by decide) ?_
          exact v_retN X16 hx hby hlk hret (t := .boolean) (by simp) (z' := (1 : Int32)) (by decide) at_213 hS8 (by rw [e16]; exact (Nat.le_refl _)) (by decide) (by decide) ⟨rfl, M16⟩
      · refine s_ifY X9 hx hby (n := 183) at_160 (ifb_eq_t c160) (by decide) (by decide) ?_
        refine s_iconst X9 hx hby (n := 184) (v := (0 : Int32)) at_183 rfl rfl ?_
        refine s_istore X9 hx hby (n := 186) (L' := #[.val (.int p0), .val (.int p1), .val (.int p2), .val (.int p3), .val (.long p4), .second, .val (.int p6), .val (.int b2), .val (.int e2), .val (.int (((p4).toInt32) &&& (2147483647 : Int32))), .val (.int q), .val (.int ((XT.ushr p6 (3 : Int32)) &&& (3 : Int32))), .val (.ref o1), .val (.ref o2), .val (.int (0 : Int32))]) at_184 rfl rfl ?_
        refine s_aload X9 hx hby (n := 188) (x := (.ref o1)) at_186 rfl rfl rfl ?_
        refine s_aload X9 hx hby (n := 190) (x := (.ref o2)) at_188 rfl rfl rfl ?_
        refine s_callV X9 hx hby hml hZ (n := 193) hown (hw _ (List.mem_of_getElem? (i := 64) rfl)) (hw _ (List.mem_of_getElem? (i := 65) rfl)) (notFace_of_selects (args := #[]) (mvT hZ (hw _ (List.mem_of_getElem? (i := 67) rfl)))) (hw _ (List.mem_of_getElem? (i := 67) rfl)) (hw _ (List.mem_of_getElem? (i := 66) rfl)) (hw _ (List.mem_of_getElem? (i := 3) rfl)) (hw _ (List.mem_of_getElem? (i := 68) rfl)) (by decide) (rmSEq l Z a0 hw z0 hz0 Sz0 fm hfm Sfm o1 o2 r1 r2 r3 r4 (((p4).toInt32) &&& (2147483647 : Int32)) q _ _ _ _ T8.heap n0 OO8 ⟨E8_o1, F8_o1_system, F8_o1_stream, F8_o1_partition⟩ ⟨E8_o2, F8_o2_system, F8_o2_stream, F8_o2_partition⟩ S8_r1 S8_r2 S8_r3 S8_r4) e9 (by decide) 0 (by decide) (by decide) (by decide) pd_8 E8_o1 [(.ref o2)] [] rfl rfl rfl (Nat.le_of_eq rfl) rfl at_190 rfl ?_
        intro T17 L17 v17 X17 q17c
        obtain ⟨rfl, e17, N17⟩ := q17c
        show OE p e below _ T17 (mkF m 193 #[.val (.int p0), .val (.int p1), .val (.int p2), .val (.int p3), .val (.long p4), .second, .val (.int p6), .val (.int b2), .val (.int e2), .val (.int (((p4).toInt32) &&& (2147483647 : Int32))), .val (.int q), .val (.int ((XT.ushr p6 (3 : Int32)) &&& (3 : Int32))), .val (.ref o1), .val (.ref o2), .val (.int (0 : Int32))] [(.int (b2i (decide (bl b2 = bl p0) && (decide (bl e2 = bl p2) && decide (q = (((p4).toInt32) &&& (2147483647 : Int32)))))))])
        have M17 := Fr.app M9 N17
        refine s_iload X17 hx hby (n := 195) (x := (0 : Int32)) at_193 rfl rfl ?_
        refine s_icmpN X17 hx hby (n := 198) at_195 (icb_ne_f (b := false) (by simp only [same_bl] at c160; simp_all)) rfl ?_
        refine s_aload X17 hx hby (n := 200) (x := (.ref o1)) at_198 rfl rfl rfl ?_
        refine s_aload X17 hx hby (n := 202) (x := (.ref o1)) at_200 rfl rfl rfl ?_
        refine s_callV X17 hx hby hml hZ (n := 205) hown (hw _ (List.mem_of_getElem? (i := 64) rfl)) (hw _ (List.mem_of_getElem? (i := 65) rfl)) (notFace_of_selects (args := #[]) (mvT hZ (hw _ (List.mem_of_getElem? (i := 67) rfl)))) (hw _ (List.mem_of_getElem? (i := 67) rfl)) (hw _ (List.mem_of_getElem? (i := 66) rfl)) (hw _ (List.mem_of_getElem? (i := 3) rfl)) (hw _ (List.mem_of_getElem? (i := 68) rfl)) (by decide) (rmSEq l Z a0 hw z0 hz0 Sz0 fm hfm Sfm o1 o1 r1 r2 r1 r2 (((p4).toInt32) &&& (2147483647 : Int32)) (((p4).toInt32) &&& (2147483647 : Int32)) _ _ _ _ T8.heap n0 OO8 ⟨E8_o1, F8_o1_system, F8_o1_stream, F8_o1_partition⟩ ⟨E8_o1, F8_o1_system, F8_o1_stream, F8_o1_partition⟩ S8_r1 S8_r2 S8_r1 S8_r2) e17 (by decide) 0 (by decide) (by decide) (by decide) pd_8 E8_o1 [(.ref o1)] [] rfl rfl rfl (Nat.le_of_eq rfl) rfl at_202 rfl ?_
        intro T18 L18 v18 X18 q18c
        obtain ⟨rfl, e18, N18⟩ := q18c
        show OE p e below _ T18 (mkF m 205 #[.val (.int p0), .val (.int p1), .val (.int p2), .val (.int p3), .val (.long p4), .second, .val (.int p6), .val (.int b2), .val (.int e2), .val (.int (((p4).toInt32) &&& (2147483647 : Int32))), .val (.int q), .val (.int ((XT.ushr p6 (3 : Int32)) &&& (3 : Int32))), .val (.ref o1), .val (.ref o2), .val (.int (0 : Int32))] [(.int (b2i (decide (bl p0 = bl p0) && (decide (bl p2 = bl p2) && decide ((((p4).toInt32) &&& (2147483647 : Int32)) = (((p4).toInt32) &&& (2147483647 : Int32)))))))])
        have M18 := Fr.app M17 N18
        refine s_ifN X18 hx hby (n := 208) at_205 (ifb_eq_f (by simp)) rfl ?_
        refine s_iconst X18 hx hby (n := 209) (v := (1 : Int32)) at_208 rfl rfl ?_
        refine s_goto X18 hx hby (n := 213) at_209 (by decide) (by decide) ?_
        exact v_retN X18 hx hby hlk hret (t := .boolean) (by simp) (z' := (1 : Int32)) (by decide) at_213 hS8 (by rw [e18]; exact (Nat.le_refl _)) (by decide) (by decide) ⟨rfl, M18⟩
    · refine s_ifY X4 hx hby (n := 115) at_88 (XT.i0_ne_t c88) (by decide) (by decide) ?_
      refine s_iload X4 hx hby (n := 117) (x := ((XT.ushr p6 (3 : Int32)) &&& (3 : Int32))) at_115 rfl rfl ?_
      refine s_iconst X4 hx hby (n := 118) (v := (1 : Int32)) at_117 rfl rfl ?_
      by_cases c118 : ((XT.ushr p6 (3 : Int32)) &&& (3 : Int32)) = (1 : Int32)
      · refine s_icmpN X4 hx hby (n := 121) at_118 (XT.ii_ne_f c118) rfl ?_
        refine s_aconstNull X4 hx hby (n := 122) at_121 rfl ?_
        refine s_astore X4 hx hby (n := 124) (L' := #[.val (.int p0), .val (.int p1), .val (.int p2), .val (.int p3), .val (.long p4), .second, .val (.int p6), .val (.int b2), .val (.int e2), .val (.int (((p4).toInt32) &&& (2147483647 : Int32))), .val (.int q), .val (.int ((XT.ushr p6 (3 : Int32)) &&& (3 : Int32))), .val (.ref o1), .val .null, .unset]) at_122 rfl rfl rfl ?_
        refine s_goto X4 hx hby (n := 149) at_124 (by decide) (by decide) ?_
        refine s_iload X4 hx hby (n := 151) (x := ((XT.ushr p6 (3 : Int32)) &&& (3 : Int32))) at_149 rfl rfl ?_
        refine s_ifY X4 hx hby (n := 183) at_151 (XT.i0_ne_t c88) (by decide) (by decide) ?_
        refine s_iconst X4 hx hby (n := 184) (v := (0 : Int32)) at_183 rfl rfl ?_
        refine s_istore X4 hx hby (n := 186) (L' := #[.val (.int p0), .val (.int p1), .val (.int p2), .val (.int p3), .val (.long p4), .second, .val (.int p6), .val (.int b2), .val (.int e2), .val (.int (((p4).toInt32) &&& (2147483647 : Int32))), .val (.int q), .val (.int ((XT.ushr p6 (3 : Int32)) &&& (3 : Int32))), .val (.ref o1), .val .null, .val (.int (0 : Int32))]) at_184 rfl rfl ?_
        refine s_aload X4 hx hby (n := 188) (x := (.ref o1)) at_186 rfl rfl rfl ?_
        refine s_aload X4 hx hby (n := 190) (x := .null) at_188 rfl rfl rfl ?_
        refine s_callV X4 hx hby hml hZ (n := 193) hown (hw _ (List.mem_of_getElem? (i := 64) rfl)) (hw _ (List.mem_of_getElem? (i := 65) rfl)) (notFace_of_selects (args := #[]) (mvT hZ (hw _ (List.mem_of_getElem? (i := 67) rfl)))) (hw _ (List.mem_of_getElem? (i := 67) rfl)) (hw _ (List.mem_of_getElem? (i := 66) rfl)) (hw _ (List.mem_of_getElem? (i := 3) rfl)) (hw _ (List.mem_of_getElem? (i := 68) rfl)) (by decide) (rmSEqN l Z a0 hw o1 T4.heap n0) rfl (by decide) 0 (by decide) (by decide) (by decide) pd_8 E4_o1 [.null] [] rfl rfl rfl (Nat.le_of_eq rfl) rfl at_190 rfl ?_
        intro T19 L19 v19 X19 q19c
        obtain ⟨rfl, e19, N19⟩ := q19c
        show OE p e below _ T19 (mkF m 193 #[.val (.int p0), .val (.int p1), .val (.int p2), .val (.int p3), .val (.long p4), .second, .val (.int p6), .val (.int b2), .val (.int e2), .val (.int (((p4).toInt32) &&& (2147483647 : Int32))), .val (.int q), .val (.int ((XT.ushr p6 (3 : Int32)) &&& (3 : Int32))), .val (.ref o1), .val .null, .val (.int (0 : Int32))] [(.int (0 : Int32))])
        have M19 := Fr.app M4 N19
        refine s_iload X19 hx hby (n := 195) (x := (0 : Int32)) at_193 rfl rfl ?_
        refine s_icmpN X19 hx hby (n := 198) at_195 (by decide) rfl ?_
        refine s_aload X19 hx hby (n := 200) (x := (.ref o1)) at_198 rfl rfl rfl ?_
        refine s_aload X19 hx hby (n := 202) (x := (.ref o1)) at_200 rfl rfl rfl ?_
        refine s_callV X19 hx hby hml hZ (n := 205) hown (hw _ (List.mem_of_getElem? (i := 64) rfl)) (hw _ (List.mem_of_getElem? (i := 65) rfl)) (notFace_of_selects (args := #[]) (mvT hZ (hw _ (List.mem_of_getElem? (i := 67) rfl)))) (hw _ (List.mem_of_getElem? (i := 67) rfl)) (hw _ (List.mem_of_getElem? (i := 66) rfl)) (hw _ (List.mem_of_getElem? (i := 3) rfl)) (hw _ (List.mem_of_getElem? (i := 68) rfl)) (by decide) (rmSEq l Z a0 hw z0 hz0 Sz0 fm hfm Sfm o1 o1 r1 r2 r1 r2 (((p4).toInt32) &&& (2147483647 : Int32)) (((p4).toInt32) &&& (2147483647 : Int32)) _ _ _ _ T4.heap n0 OO4 ⟨E4_o1, F4_o1_system, F4_o1_stream, F4_o1_partition⟩ ⟨E4_o1, F4_o1_system, F4_o1_stream, F4_o1_partition⟩ S4_r1 S4_r2 S4_r1 S4_r2) e19 (by decide) 0 (by decide) (by decide) (by decide) pd_8 E4_o1 [(.ref o1)] [] rfl rfl rfl (Nat.le_of_eq rfl) rfl at_202 rfl ?_
        intro T20 L20 v20 X20 q20c
        obtain ⟨rfl, e20, N20⟩ := q20c
        show OE p e below _ T20 (mkF m 205 #[.val (.int p0), .val (.int p1), .val (.int p2), .val (.int p3), .val (.long p4), .second, .val (.int p6), .val (.int b2), .val (.int e2), .val (.int (((p4).toInt32) &&& (2147483647 : Int32))), .val (.int q), .val (.int ((XT.ushr p6 (3 : Int32)) &&& (3 : Int32))), .val (.ref o1), .val .null, .val (.int (0 : Int32))] [(.int (b2i (decide (bl p0 = bl p0) && (decide (bl p2 = bl p2) && decide ((((p4).toInt32) &&& (2147483647 : Int32)) = (((p4).toInt32) &&& (2147483647 : Int32)))))))])
        have M20 := Fr.app M19 N20
        refine s_ifN X20 hx hby (n := 208) at_205 (ifb_eq_f (by simp)) rfl ?_
        refine s_iconst X20 hx hby (n := 209) (v := (1 : Int32)) at_208 rfl rfl ?_
        refine s_goto X20 hx hby (n := 213) at_209 (by decide) (by decide) ?_
        exact v_retN X20 hx hby hlk hret (t := .boolean) (by simp) (z' := (1 : Int32)) (by decide) at_213 hS4 (by rw [e20]; exact (Nat.le_refl _)) (by decide) (by decide) ⟨rfl, M20⟩
      · refine s_icmpY X4 hx hby (n := 127) at_118 (XT.ii_ne_t c118) (by decide) (by decide) ?_
        refine s_iload X4 hx hby (n := 129) (x := ((XT.ushr p6 (3 : Int32)) &&& (3 : Int32))) at_127 rfl rfl ?_
        refine s_iconst X4 hx hby (n := 130) (v := (2 : Int32)) at_129 rfl rfl ?_
        by_cases c130 : ((XT.ushr p6 (3 : Int32)) &&& (3 : Int32)) = (2 : Int32)
        · refine s_icmpN X4 hx hby (n := 133) at_130 (XT.ii_ne_f c130) rfl ?_
          refine s_iloadN X4 hx hby (n := 134) (x := p0) at_133 rfl rfl ?_
          refine v_callS X4 hx hby hml hZ (n := 137) hown (hw _ (List.mem_of_getElem? (i := 4) rfl)) (hw _ (List.mem_of_getElem? (i := 5) rfl)) (hw _ (List.mem_of_getElem? (i := 6) rfl)) (hw _ (List.mem_of_getElem? (i := 7) rfl)) (by decide) (rmStr l Z a0 hw z0 hz0 Sz0 fm hfm Sfm p0 T4.heap n0 OO4 hh0 hcw) (fun vm₁ hW => IS.warm I4 hW) hS4 (Nat.le_refl _) rfl (by decide) 0 (by decide) (by decide) (by decide) pd_11  [(.int p0)] [] rfl rfl rfl (Nat.le_of_eq rfl) rfl at_134 rfl ?_
          intro T21 L21 v21 X21 hS21 hZ hown q21c
          obtain ⟨r3, rfl, N21, K21, S21_r3, I21⟩ := q21c
          show OE p e below _ T21 (mkF m 137 #[.val (.int p0), .val (.int p1), .val (.int p2), .val (.int p3), .val (.long p4), .second, .val (.int p6), .val (.int b2), .val (.int e2), .val (.int (((p4).toInt32) &&& (2147483647 : Int32))), .val (.int q), .val (.int ((XT.ushr p6 (3 : Int32)) &&& (3 : Int32))), .val (.ref o1), .unset, .unset] [(.ref r3)])
          have E21_o1 := E4_o1.keep K21
          have F21_o1_system := F4_o1_system.keep K21 nin0
          have F21_o1_stream := F4_o1_stream.keep K21 nin0
          have F21_o1_partition := F4_o1_partition.keep K21 nin0
          have S21_r1 := S4_r1.keep K21
          have S21_r2 := S4_r2.keep K21
          have M21 := Fr.app M4 N21
          have OO21 := OO4.keep K21 all0
          refine s_astore X21 hx hby (n := 139) (L' := #[.val (.int p0), .val (.int p1), .val (.int p2), .val (.int p3), .val (.long p4), .second, .val (.int p6), .val (.int b2), .val (.int e2), .val (.int (((p4).toInt32) &&& (2147483647 : Int32))), .val (.int q), .val (.int ((XT.ushr p6 (3 : Int32)) &&& (3 : Int32))), .val (.ref o1), .val (.ref r3), .unset]) at_137 rfl rfl rfl ?_
          refine s_goto X21 hx hby (n := 149) at_139 (by decide) (by decide) ?_
          refine s_iload X21 hx hby (n := 151) (x := ((XT.ushr p6 (3 : Int32)) &&& (3 : Int32))) at_149 rfl rfl ?_
          refine s_ifY X21 hx hby (n := 183) at_151 (XT.i0_ne_t c88) (by decide) (by decide) ?_
          refine s_iconst X21 hx hby (n := 184) (v := (0 : Int32)) at_183 rfl rfl ?_
          refine s_istore X21 hx hby (n := 186) (L' := #[.val (.int p0), .val (.int p1), .val (.int p2), .val (.int p3), .val (.long p4), .second, .val (.int p6), .val (.int b2), .val (.int e2), .val (.int (((p4).toInt32) &&& (2147483647 : Int32))), .val (.int q), .val (.int ((XT.ushr p6 (3 : Int32)) &&& (3 : Int32))), .val (.ref o1), .val (.ref r3), .val (.int (0 : Int32))]) at_184 rfl rfl ?_
          refine s_aload X21 hx hby (n := 188) (x := (.ref o1)) at_186 rfl rfl rfl ?_
          refine s_aload X21 hx hby (n := 190) (x := (.ref r3)) at_188 rfl rfl rfl ?_
          refine s_callV X21 hx hby hml hZ (n := 193) hown (hw _ (List.mem_of_getElem? (i := 64) rfl)) (hw _ (List.mem_of_getElem? (i := 65) rfl)) (notFace_of_selects (args := #[]) (mvT hZ (hw _ (List.mem_of_getElem? (i := 67) rfl)))) (hw _ (List.mem_of_getElem? (i := 67) rfl)) (hw _ (List.mem_of_getElem? (i := 66) rfl)) (hw _ (List.mem_of_getElem? (i := 3) rfl)) (hw _ (List.mem_of_getElem? (i := 68) rfl)) (by decide) (rmSEqO l Z a0 hw o1 r3 "java/lang/String" T21.heap n0 S21_r3.1 (ns_no (hw _ (List.mem_of_getElem? (i := 106) rfl)) (hw _ (List.mem_of_getElem? (i := 2) rfl)) (NS.step (hw _ (List.mem_of_getElem? (i := 106) rfl)) (ns_root (hw _ (List.mem_of_getElem? (i := 90) rfl)) (hw _ (List.mem_of_getElem? (i := 2) rfl)) (by decide)) (by decide)) (by decide))) rfl (by decide) 0 (by decide) (by decide) (by decide) pd_8 E21_o1 [(.ref r3)] [] rfl rfl rfl (Nat.le_of_eq rfl) rfl at_190 rfl ?_
          intro T22 L22 v22 X22 q22c
          obtain ⟨rfl, e22, N22⟩ := q22c
          show OE p e below _ T22 (mkF m 193 #[.val (.int p0), .val (.int p1), .val (.int p2), .val (.int p3), .val (.long p4), .second, .val (.int p6), .val (.int b2), .val (.int e2), .val (.int (((p4).toInt32) &&& (2147483647 : Int32))), .val (.int q), .val (.int ((XT.ushr p6 (3 : Int32)) &&& (3 : Int32))), .val (.ref o1), .val (.ref r3), .val (.int (0 : Int32))] [(.int (0 : Int32))])
          have M22 := Fr.app M21 N22
          refine s_iload X22 hx hby (n := 195) (x := (0 : Int32)) at_193 rfl rfl ?_
          refine s_icmpN X22 hx hby (n := 198) at_195 (by decide) rfl ?_
          refine s_aload X22 hx hby (n := 200) (x := (.ref o1)) at_198 rfl rfl rfl ?_
          refine s_aload X22 hx hby (n := 202) (x := (.ref o1)) at_200 rfl rfl rfl ?_
          refine s_callV X22 hx hby hml hZ (n := 205) hown (hw _ (List.mem_of_getElem? (i := 64) rfl)) (hw _ (List.mem_of_getElem? (i := 65) rfl)) (notFace_of_selects (args := #[]) (mvT hZ (hw _ (List.mem_of_getElem? (i := 67) rfl)))) (hw _ (List.mem_of_getElem? (i := 67) rfl)) (hw _ (List.mem_of_getElem? (i := 66) rfl)) (hw _ (List.mem_of_getElem? (i := 3) rfl)) (hw _ (List.mem_of_getElem? (i := 68) rfl)) (by decide) (rmSEq l Z a0 hw z0 hz0 Sz0 fm hfm Sfm o1 o1 r1 r2 r1 r2 (((p4).toInt32) &&& (2147483647 : Int32)) (((p4).toInt32) &&& (2147483647 : Int32)) _ _ _ _ T21.heap n0 OO21 ⟨E21_o1, F21_o1_system, F21_o1_stream, F21_o1_partition⟩ ⟨E21_o1, F21_o1_system, F21_o1_stream, F21_o1_partition⟩ S21_r1 S21_r2 S21_r1 S21_r2) e22 (by decide) 0 (by decide) (by decide) (by decide) pd_8 E21_o1 [(.ref o1)] [] rfl rfl rfl (Nat.le_of_eq rfl) rfl at_202 rfl ?_
          intro T23 L23 v23 X23 q23c
          obtain ⟨rfl, e23, N23⟩ := q23c
          show OE p e below _ T23 (mkF m 205 #[.val (.int p0), .val (.int p1), .val (.int p2), .val (.int p3), .val (.long p4), .second, .val (.int p6), .val (.int b2), .val (.int e2), .val (.int (((p4).toInt32) &&& (2147483647 : Int32))), .val (.int q), .val (.int ((XT.ushr p6 (3 : Int32)) &&& (3 : Int32))), .val (.ref o1), .val (.ref r3), .val (.int (0 : Int32))] [(.int (b2i (decide (bl p0 = bl p0) && (decide (bl p2 = bl p2) && decide ((((p4).toInt32) &&& (2147483647 : Int32)) = (((p4).toInt32) &&& (2147483647 : Int32)))))))])
          have M23 := Fr.app M22 N23
          refine s_ifN X23 hx hby (n := 208) at_205 (ifb_eq_f (by simp)) rfl ?_
          refine s_iconst X23 hx hby (n := 209) (v := (1 : Int32)) at_208 rfl rfl ?_
          refine s_goto X23 hx hby (n := 213) at_209 (by decide) (by decide) ?_
          exact v_retN X23 hx hby hlk hret (t := .boolean) (by simp) (z' := (1 : Int32)) (by decide) at_213 hS21 (by rw [e23]; exact (Nat.le_refl _)) (by decide) (by decide) ⟨rfl, M23⟩
        · refine s_icmpY X4 hx hby (n := 142) at_130 (XT.ii_ne_t c130) (by decide) (by decide) ?_
          refine s_iload X4 hx hby (n := 144) (x := (((p4).toInt32) &&& (2147483647 : Int32))) at_142 rfl rfl ?_
          refine s_callS X4 hx hby hml hZ (n := 147) hown (hw _ (List.mem_of_getElem? (i := 81) rfl)) (hw _ (List.mem_of_getElem? (i := 82) rfl)) (hw _ (List.mem_of_getElem? (i := 83) rfl)) (hw _ (List.mem_of_getElem? (i := 84) rfl)) (by decide) (rmIV l Z a0 hw z0 hz0 Sz0 fm hfm Sfm Sh ca ck Sc Ac Zc Bc (((p4).toInt32) &&& (2147483647 : Int32)) T4.heap n0 OO4) rfl (by decide) 0 (by decide) (by decide) (by decide) pd_14 [(.int (((p4).toInt32) &&& (2147483647 : Int32)))] [] rfl rfl rfl (Nat.le_of_eq rfl) rfl at_144 rfl ?_
          intro T24 L24 v24 X24 q24c
          obtain ⟨iq, rfl, N24, K24, E24⟩ := q24c
          show OE p e below _ T24 (mkF m 147 #[.val (.int p0), .val (.int p1), .val (.int p2), .val (.int p3), .val (.long p4), .second, .val (.int p6), .val (.int b2), .val (.int e2), .val (.int (((p4).toInt32) &&& (2147483647 : Int32))), .val (.int q), .val (.int ((XT.ushr p6 (3 : Int32)) &&& (3 : Int32))), .val (.ref o1), .unset, .unset] [(.ref iq)])
          have E24_o1 := E4_o1.keep K24
          have F24_o1_system := F4_o1_system.keep K24 nin0
          have F24_o1_stream := F4_o1_stream.keep K24 nin0
          have F24_o1_partition := F4_o1_partition.keep K24 nin0
          have S24_r1 := S4_r1.keep K24
          have S24_r2 := S4_r2.keep K24
          have OO24 := OO4.keep K24 all0
          have M24 := Fr.app M4 N24
          refine s_astore X24 hx hby (n := 149) (L' := #[.val (.int p0), .val (.int p1), .val (.int p2), .val (.int p3), .val (.long p4), .second, .val (.int p6), .val (.int b2), .val (.int e2), .val (.int (((p4).toInt32) &&& (2147483647 : Int32))), .val (.int q), .val (.int ((XT.ushr p6 (3 : Int32)) &&& (3 : Int32))), .val (.ref o1), .val (.ref iq), .unset]) at_147 rfl rfl rfl ?_
          refine s_iload X24 hx hby (n := 151) (x := ((XT.ushr p6 (3 : Int32)) &&& (3 : Int32))) at_149 rfl rfl ?_
          refine s_ifY X24 hx hby (n := 183) at_151 (XT.i0_ne_t c88) (by decide) (by decide) ?_
          refine s_iconst X24 hx hby (n := 184) (v := (0 : Int32)) at_183 rfl rfl ?_
          refine s_istore X24 hx hby (n := 186) (L' := #[.val (.int p0), .val (.int p1), .val (.int p2), .val (.int p3), .val (.long p4), .second, .val (.int p6), .val (.int b2), .val (.int e2), .val (.int (((p4).toInt32) &&& (2147483647 : Int32))), .val (.int q), .val (.int ((XT.ushr p6 (3 : Int32)) &&& (3 : Int32))), .val (.ref o1), .val (.ref iq), .val (.int (0 : Int32))]) at_184 rfl rfl ?_
          refine s_aload X24 hx hby (n := 188) (x := (.ref o1)) at_186 rfl rfl rfl ?_
          refine s_aload X24 hx hby (n := 190) (x := (.ref iq)) at_188 rfl rfl rfl ?_
          refine s_callV X24 hx hby hml hZ (n := 193) hown (hw _ (List.mem_of_getElem? (i := 64) rfl)) (hw _ (List.mem_of_getElem? (i := 65) rfl)) (notFace_of_selects (args := #[]) (mvT hZ (hw _ (List.mem_of_getElem? (i := 67) rfl)))) (hw _ (List.mem_of_getElem? (i := 67) rfl)) (hw _ (List.mem_of_getElem? (i := 66) rfl)) (hw _ (List.mem_of_getElem? (i := 3) rfl)) (hw _ (List.mem_of_getElem? (i := 68) rfl)) (by decide) (rmSEqO l Z a0 hw o1 iq "java/lang/Integer" T24.heap n0 E24 (ns_no (hw _ (List.mem_of_getElem? (i := 88) rfl)) (hw _ (List.mem_of_getElem? (i := 2) rfl)) (NS.step (hw _ (List.mem_of_getElem? (i := 88) rfl)) (NS.step (hw _ (List.mem_of_getElem? (i := 89) rfl)) (ns_root (hw _ (List.mem_of_getElem? (i := 90) rfl)) (hw _ (List.mem_of_getElem? (i := 2) rfl)) (by decide)) (by decide)) (by decide)) (by decide))) rfl (by decide) 0 (by decide) (by decide) (by decide) pd_8 E24_o1 [(.ref iq)] [] rfl rfl rfl (Nat.le_of_eq rfl) rfl at_190 rfl ?_
          intro T25 L25 v25 X25 q25c
          obtain ⟨rfl, e25, N25⟩ := q25c
          show OE p e below _ T25 (mkF m 193 #[.val (.int p0), .val (.int p1), .val (.int p2), .val (.int p3), .val (.long p4), .second, .val (.int p6), .val (.int b2), .val (.int e2), .val (.int (((p4).toInt32) &&& (2147483647 : Int32))), .val (.int q), .val (.int ((XT.ushr p6 (3 : Int32)) &&& (3 : Int32))), .val (.ref o1), .val (.ref iq), .val (.int (0 : Int32))] [(.int (0 : Int32))])
          have M25 := Fr.app M24 N25
          refine s_iload X25 hx hby (n := 195) (x := (0 : Int32)) at_193 rfl rfl ?_
          refine s_icmpN X25 hx hby (n := 198) at_195 (by decide) rfl ?_
          refine s_aload X25 hx hby (n := 200) (x := (.ref o1)) at_198 rfl rfl rfl ?_
          refine s_aload X25 hx hby (n := 202) (x := (.ref o1)) at_200 rfl rfl rfl ?_
          refine s_callV X25 hx hby hml hZ (n := 205) hown (hw _ (List.mem_of_getElem? (i := 64) rfl)) (hw _ (List.mem_of_getElem? (i := 65) rfl)) (notFace_of_selects (args := #[]) (mvT hZ (hw _ (List.mem_of_getElem? (i := 67) rfl)))) (hw _ (List.mem_of_getElem? (i := 67) rfl)) (hw _ (List.mem_of_getElem? (i := 66) rfl)) (hw _ (List.mem_of_getElem? (i := 3) rfl)) (hw _ (List.mem_of_getElem? (i := 68) rfl)) (by decide) (rmSEq l Z a0 hw z0 hz0 Sz0 fm hfm Sfm o1 o1 r1 r2 r1 r2 (((p4).toInt32) &&& (2147483647 : Int32)) (((p4).toInt32) &&& (2147483647 : Int32)) _ _ _ _ T24.heap n0 OO24 ⟨E24_o1, F24_o1_system, F24_o1_stream, F24_o1_partition⟩ ⟨E24_o1, F24_o1_system, F24_o1_stream, F24_o1_partition⟩ S24_r1 S24_r2 S24_r1 S24_r2) e25 (by decide) 0 (by decide) (by decide) (by decide) pd_8 E24_o1 [(.ref o1)] [] rfl rfl rfl (Nat.le_of_eq rfl) rfl at_202 rfl ?_
          intro T26 L26 v26 X26 q26c
          obtain ⟨rfl, e26, N26⟩ := q26c
          show OE p e below _ T26 (mkF m 205 #[.val (.int p0), .val (.int p1), .val (.int p2), .val (.int p3), .val (.long p4), .second, .val (.int p6), .val (.int b2), .val (.int e2), .val (.int (((p4).toInt32) &&& (2147483647 : Int32))), .val (.int q), .val (.int ((XT.ushr p6 (3 : Int32)) &&& (3 : Int32))), .val (.ref o1), .val (.ref iq), .val (.int (0 : Int32))] [(.int (b2i (decide (bl p0 = bl p0) && (decide (bl p2 = bl p2) && decide ((((p4).toInt32) &&& (2147483647 : Int32)) = (((p4).toInt32) &&& (2147483647 : Int32)))))))])
          have M26 := Fr.app M25 N26
          refine s_ifN X26 hx hby (n := 208) at_205 (ifb_eq_f (by simp)) rfl ?_
          refine s_iconst X26 hx hby (n := 209) (v := (1 : Int32)) at_208 rfl rfl ?_
          refine s_goto X26 hx hby (n := 213) at_209 (by decide) (by decide) ?_
          exact v_retN X26 hx hby hlk hret (t := .boolean) (by simp) (z' := (1 : Int32)) (by decide) at_213 hS4 (by rw [e26]; exact (Nat.le_trans (Nat.le_refl _) K24.1)) (by decide) (by decide) ⟨rfl, M26⟩
  have B26 : ∀ (b2 e2 : Int32), OE p e below (FW s room_1.cells room_1.slots (fun v h L vm => v = some (.int (1 : Int32)) ∧ Fr n0 L)) s₁ (mkF m 26 #[.val (.int p0), .val (.int p1), .val (.int p2), .val (.int p3), .val (.long p4), .second, .val (.int p6), .val (.int b2), .unset, .unset, .unset, .unset, .unset, .unset, .unset] [(.int e2)]) := by
    intro b2 e2
    refine s_istore X0 hx hby (n := 28) (L' := #[.val (.int p0), .val (.int p1), .val (.int p2), .val (.int p3), .val (.long p4), .second, .val (.int p6), .val (.int b2), .val (.int e2), .unset, .unset, .unset, .unset, .unset, .unset]) at_26 rfl rfl ?_
    refine s_lload X0 hx hby (n := 30) (x := p4) at_28 rfl rfl ?_
    refine s_l2i X0 hx hby (n := 31) at_30 rfl ?_
    refine s_ldcI X0 hx hby hZ (n := 33) hown (hw _ (List.mem_of_getElem? (i := 0) rfl)) at_31 rfl ?_
    refine s_iand X0 hx hby (n := 34) at_33 rfl ?_
    refine s_istore X0 hx hby (n := 36) (L' := #[.val (.int p0), .val (.int p1), .val (.int p2), .val (.int p3), .val (.long p4), .second, .val (.int p6), .val (.int b2), .val (.int e2), .val (.int (((p4).toInt32) &&& (2147483647 : Int32))), .unset, .unset, .unset, .unset, .unset]) at_34 rfl rfl ?_
    refine s_iload X0 hx hby (n := 38) (x := p6) at_36 rfl rfl ?_
    refine s_iconst X0 hx hby (n := 39) (v := (4 : Int32)) at_38 rfl rfl ?_
    refine s_iand X0 hx hby (n := 40) at_39 rfl ?_
    by_cases c40 : (p6 &&& (4 : Int32)) = (0 : Int32)
    · refine s_ifY X0 hx hby (n := 48) at_40 (XT.i0_eq_t c40) (by decide) (by decide) ?_
      refine s_lload X0 hx hby (n := 50) (x := p4) at_48 rfl rfl ?_
      refine s_bipush X0 hx hby (n := 52) (v := (32 : Int32)) at_50 rfl rfl ?_
      refine s_lushr X0 hx hby (n := 53) at_52 rfl ?_
      refine s_l2i X0 hx hby (n := 54) at_53 rfl ?_
      refine s_ldcI X0 hx hby hZ (n := 56) hown (hw _ (List.mem_of_getElem? (i := 0) rfl)) at_54 rfl ?_
      refine s_iand X0 hx hby (n := 57) at_56 rfl ?_
      exact B57 b2 e2 _ (nn31 _)
    · refine s_ifN X0 hx hby (n := 43) at_40 (XT.i0_eq_f c40) rfl ?_
      refine s_iload X0 hx hby (n := 45) (x := (((p4).toInt32) &&& (2147483647 : Int32))) at_43 rfl rfl ?_
      refine s_goto X0 hx hby (n := 57) at_45 (by decide) (by decide) ?_
      exact B57 b2 e2 _ (nn31 _)
  have B12 : ∀ (b2 : Int32), OE p e below (FW s room_1.cells room_1.slots (fun v h L vm => v = some (.int (1 : Int32)) ∧ Fr n0 L)) s₁ (mkF m 12 #[.val (.int p0), .val (.int p1), .val (.int p2), .val (.int p3), .val (.long p4), .second, .val (.int p6), .unset, .unset, .unset, .unset, .unset, .unset, .unset, .unset] [(.int b2)]) := by
    intro b2
    refine s_istore X0 hx hby (n := 14) (L' := #[.val (.int p0), .val (.int p1), .val (.int p2), .val (.int p3), .val (.long p4), .second, .val (.int p6), .val (.int b2), .unset, .unset, .unset, .unset, .unset, .unset, .unset]) at_12 rfl rfl ?_
    refine s_iload X0 hx hby (n := 16) (x := p6) at_14 rfl rfl ?_
    refine s_iconst X0 hx hby (n := 17) (v := (2 : Int32)) at_16 rfl rfl ?_
    refine s_iand X0 hx hby (n := 18) at_17 rfl ?_
    by_cases c18 : (p6 &&& (2 : Int32)) = (0 : Int32)
    · refine s_ifY X0 hx hby (n := 25) at_18 (XT.i0_eq_t c18) (by decide) (by decide) ?_
      refine s_iloadN X0 hx hby (n := 26) (x := p3) at_25 rfl rfl ?_
      exact B26 b2 _
    · refine s_ifN X0 hx hby (n := 21) at_18 (XT.i0_eq_f c18) rfl ?_
      refine s_iloadN X0 hx hby (n := 22) (x := p2) at_21 rfl rfl ?_
      refine s_goto X0 hx hby (n := 26) at_22 (by decide) (by decide) ?_
      exact B26 b2 _
  refine s_iload X0 hx hby (n := 2) (x := p6) at_0 rfl rfl ?_
  refine s_iconst X0 hx hby (n := 3) (v := (1 : Int32)) at_2 rfl rfl ?_
  refine s_iand X0 hx hby (n := 4) at_3 rfl ?_
  by_cases c4 : (p6 &&& (1 : Int32)) = (0 : Int32)
  · refine s_ifY X0 hx hby (n := 11) at_4 (XT.i0_eq_t c4) (by decide) (by decide) ?_
    refine s_iloadN X0 hx hby (n := 12) (x := p1) at_11 rfl rfl ?_
    exact B12 _
  · refine s_ifN X0 hx hby (n := 7) at_4 (XT.i0_eq_f c4) rfl ?_
    refine s_iloadN X0 hx hby (n := 8) (x := p0) at_7 rfl rfl ?_
    refine s_goto X0 hx hby (n := 12) at_8 (by decide) (by decide) ?_
    exact B12 _
theorem own_nz {Z : State} {args : Array Value} {t : Term} {z : Int32} (ev : t.eval args Z none [] Z = some (.int z)) (h : (Jvm.Cond.not (.eq t (.int 0))).value args Z none Z [] = some true) : ¬ z = (0 : Int32) := by
  have q := not_v h
  intro e; subst e
  simp [Cond.value, ev, Term.int_eval] at q
theorem own_is {Z : State} {args : Array Value} {t : Term} {z : Int32} (h : (Jvm.Cond.eq t (.int z)).value args Z none Z [] = some true) : t.eval args Z none [] Z = some (.int z) := by
  cases ht : t.eval args Z none [] Z with
  | none => simp [Cond.value, ht] at h
  | some v => cases v <;> simp [Cond.value, ht, Term.int_eval] at h; subst h; rfl
theorem own_exa {Z : State} {args : Array Value} {t : Term} {C : String} (h : (Jvm.Cond.exactly t C).value args Z none Z [] = some true) : ∃ a, t.eval args Z none [] Z = some (.ref a) ∧ Exa Z Z.heap a C := by
  obtain ⟨a, c, cell, k, e1, -⟩ := Cond.exactly_spec (Cond.before_iff.mpr h)
  exact ⟨a, e1, Exa.start e1 h⟩
theorem own_elem {Z : State} {args : Array Value} {c : Term} {ca : Addr} {ck : Cell} {j : Nat} (evi : c.eval args Z none [j] Z = some (.ref ca)) (hnn : ¬ j.toInt32 < 0) (hback : j.toInt32.toNatClampNeg = j) (hat : Z.arrayAt? ca = some ck) : (Term.elem c (.index 0)).eval args Z none [j] Z = ck.slots[j]? := by
  simp [Term.eval, evi, hnn, hat, hback]
theorem own_cache {Z : State} {args : Array Value} (hs : ∀ w ∈ jdkStatics_1, w.before args Z = true) (hi : (Jvm.Cond.initialized "java/lang/Integer$IntegerCache").before args Z = true) : ∃ (ca : Addr) (ck : Cell), Sta Z Z.heap "java/lang/Integer$IntegerCache" "cache" "[Ljava/lang/Integer;" (.ref ca) ∧ Arr Z Z.heap ca ck (.object "java/lang/Integer") ∧ ck.slots.size = 256 ∧ ∀ j, j < 256 → ∃ r, ck.slots[j]? = some (.ref r) ∧ Exa Z Z.heap r "java/lang/Integer" := by
  obtain ⟨ca, ev, -⟩ := own_exa (Cond.before_iff.mp (hs _ (List.mem_of_getElem? (i := 14) rfl)))
  obtain ⟨ck, Ar⟩ := Arr.start ev (Cond.before_iff.mp (hs _ (List.mem_of_getElem? (i := 13) rfl)))
  have hat : Z.arrayAt? ca = some ck := Ar.fin (Vm.Alike.refl _)
  obtain ⟨hsz, hsize⟩ := IntBox.length_fwd (hs _ (List.mem_of_getElem? (i := 15) rfl)) ev Ar.1 Ar.2.1 Ar.2.2
  have hsz256 : ck.slots.size = 256 := by
    have e : (ck.slots.size.toInt32).toInt = ck.slots.size := by
      have : (ck.slots.size.toInt32).toInt = (ck.slots.size : Int).bmod (2 ^ 32) := by simp [Nat.toInt32, Int32.size]
      rw [this]; simp [Int.bmod]; omega
    rw [hsize] at e
    have : ((256 : Int32)).toInt = 256 := by decide
    omega
  have hall := Cond.all_elim ev hat (Cond.before_iff.mp (hs _ (List.mem_of_getElem? (i := 16) rfl)))
  refine ⟨ca, ck, Sta.start ev (Or.inr ⟨hi, hs _ (List.mem_of_getElem? (i := 11) rfl)⟩), Ar, hsz256, fun j hj => ?_⟩
  obtain ⟨hex, -⟩ := and_e (hall j (by rw [hsz256]; exact hj))
  obtain ⟨r, -, -, -, er, -⟩ := Cond.exactly_spec (args := args) (first := Z) (o := none) (s := Z) (idx := [j]) (t := Term.elem (Term.static "java/lang/Integer$IntegerCache" "cache" "[Ljava/lang/Integer;") (.index 0)) (cls := "java/lang/Integer") (by simp [Cond.holds, hex])
  refine ⟨r, ?_, exa_at er hex⟩
  obtain ⟨hnn, hback⟩ := IntBox.place_nonneg j hj
  have evi : (Term.static "java/lang/Integer$IntegerCache" "cache" "[Ljava/lang/Integer;").eval args Z none [j] Z = some (.ref ca) := ev
  have q : (Term.elem (Term.static "java/lang/Integer$IntegerCache" "cache" "[Ljava/lang/Integer;") (.index 0)).eval args Z none [j] Z = ck.slots[j]? := own_elem evi hnn hback hat
  rw [← q]; exact er
set_option maxRecDepth 65536 in
set_option maxHeartbeats 40000000 in
theorem comes_1 {Post : Tables → Env → Array Value → State → Outcome → State → Prop} (hpost : ∀ tb e args s v u, (limb_1_1.after args s (.returned v) u = true ∧ limb_1_2.after args s (.returned v) u = true ∧ True) → ReturnedEndW s (.returned v) u (Jvm.fieldLocs frame_1_writes args s ++ Jvm.arrayLocs frame_1_arrays args s ++ Jvm.staticLocs frame_1_statics s) room_1.cells room_1.slots → Post tb e args s (.returned v) u) :
    ArmFor flags0 classFile x code maxLocals ret World_1 tables_1 room_1 Calls_1 rest_1 Pre_1 Post := by
  intro l hfl _ _ p e ha hc hk s m args below hf hA hF happ hP
  obtain ⟨hcalls, hrest, hpre⟩ := hP
  obtain ⟨-, -, -, hnamed, -, -, -, hat⟩ := (Spec.applies_iff hf).mp happ
  obtain ⟨hg, hn⟩ := and_e (Cond.before_iff.mp (show (Jvm.Cond.and given_1 narrow_1).before args s = true from hpre))
  obtain ⟨hcount, g0⟩ := and_e hg
  obtain ⟨q0, g1⟩ := and_e g0
  obtain ⟨q1, g2⟩ := and_e g1
  obtain ⟨q2, g3⟩ := and_e g2
  obtain ⟨q3, g4⟩ := and_e g3
  obtain ⟨q4, g5⟩ := and_e g4
  obtain ⟨w0, w1, w2, w3, w4, w5, rfl⟩ : ∃ w0 w1 w2 w3 w4 w5 : Value, args = #[w0, w1, w2, w3, w4, w5] := by
    have hs : args.size = 6 := by simpa [Cond.value, given_1] using hcount
    obtain ⟨L⟩ := args
    match L, hs with
    | [w0, w1, w2, w3, w4, w5], _ => exact ⟨w0, w1, w2, w3, w4, w5, rfl⟩
  have hw := fun d (hd : d ∈ tables_1) => atoms_spec (ws := Jvm.Cond.code x code maxLocals ret :: tables_1) hat d (List.mem_cons_of_mem _ hd)
  have hfit : Fit s := fun {y c} hc i hi => by
    obtain ⟨ha, rfl⟩ := Array.getElem?_eq_some_iff.mp hc
    have q := List.all_eq_true.mp ((Array.all_eq_true_iff_forall_mem.mp hF) _ (Array.getElem_mem ha)) i (List.mem_range.mpr hi)
    simpa [Array.getElem?_eq_getElem hi] using q
  obtain ⟨i0, r0⟩ := is_v q0
  obtain rfl : w0 = (.int i0) := Option.some.inj r0
  obtain ⟨i1, r1⟩ := is_v q1
  obtain rfl : w1 = (.int i1) := Option.some.inj r1
  obtain ⟨i2, r2⟩ := is_v q2
  obtain rfl : w2 = (.int i2) := Option.some.inj r2
  obtain ⟨i3, r3⟩ := is_v q3
  obtain rfl : w3 = (.int i3) := Option.some.inj r3
  obtain ⟨i4, r4⟩ := isL_v q4
  obtain rfl : w4 = (.long i4) := Option.some.inj r4
  obtain ⟨i5, r5⟩ := is_v g5
  obtain rfl : w5 = (.int i5) := Option.some.inj r5
  have hsets := (atoms_of jdkStatics_1 (show (jdkStatics_1.foldr Jvm.Cond.and restOwn_1).before _ s = true from hrest)).1
  obtain ⟨z0, ev0⟩ := is_v (Cond.before_iff.mp (hsets _ (List.mem_of_getElem? (i := 1) rfl)))
  have Sz0 := Sta.start ev0 (Or.inl (hsets _ (List.mem_of_getElem? (i := 0) rfl)))
  have hcw := hsets _ (List.mem_of_getElem? (i := 2) rfl)
  have hz0 : ¬ z0 = (0 : Int32) := own_nz ev0 (Cond.before_iff.mp hcw)
  obtain ⟨fm, evf, hfm⟩ := isR_v (Cond.before_iff.mp (hsets _ (List.mem_of_getElem? (i := 8) rfl)))
  have Sfm := Sta.start evf (Or.inl (hsets _ (List.mem_of_getElem? (i := 7) rfl)))
  have Sh := Sta.start (own_is (Cond.before_iff.mp (hsets _ (List.mem_of_getElem? (i := 12) rfl)))) (Or.inl (hsets _ (List.mem_of_getElem? (i := 10) rfl)))
  obtain ⟨ca, ck, Sc, Ac, Zc, Bc⟩ := own_cache hsets (hw _ (List.mem_of_getElem? (i := 86) rfl))
  have hhA := hcalls.1
  have hh0 : Jvm.Lit.constHeld s "java/lang/String" 7 := hcalls.1 ("java/lang/String", 7) (List.mem_of_getElem? (i := 2) rfl)
  have hh7 : Jvm.Lit.constHeld s "com/example/ucoord/ucoord/model/StreamPartition" 7 := hcalls.1 ("com/example/ucoord/ucoord/model/StreamPartition", 7) (List.mem_of_getElem? (i := 0) rfl)
  have hh22 : Jvm.Lit.constHeld s "com/example/ucoord/ucoord/model/StreamPartition" 22 := hcalls.1 ("com/example/ucoord/ucoord/model/StreamPartition", 22) (List.mem_of_getElem? (i := 1) rfl)
  obtain ⟨n, o, h1, h2, h3, _, L, rfl, ⟨rfl, N⟩, hq⟩ := rm0 l s _ hw z0 hz0 Sz0 fm hfm Sfm Sh ca ck Sc Ac Zc Bc i0 i1 i2 i3 i4 i5 s.heap s.heap.size (Oln.start s) hh0 hh7 hh22 hcw p e ha hc hk s m _ below hf ((Spec.applies_iff_loose hf).mp happ).1 ⟨rfl, State.Warmed39.refl s, rfl, IS.start⟩ trivial
  refine ⟨n, _, h1, h2, h3, hpost _ _ _ _ _ _ ⟨Cond.after_iff.mpr rfl, Cond.after_iff.mpr (eq_i res_at (Term.int_eval (1)) rfl), trivial⟩ ⟨hq.1, hq.2.1, hq.2.2.1, (hq.2.2.2.sift fun y hy => Or.inr (N y hy)).mono (by decide) (by decide)⟩⟩
theorem main_1_1 : Claimed_1_1 := comes_1 fun _ _ _ _ _ _ h hF => ⟨h.1, hF⟩
theorem main_1_2 : Claimed_1_2 := comes_1 fun _ _ _ _ _ _ h hF => ⟨h.2.1, hF⟩
end Jvm.Pilot.@@N@@
namespace Jvm.Pilot.@@N@@
open Jvm Jvm.ClassFile Sem Op Lib Jvm.Free Jvm.Stand Jvm.Pilot.@@N@@.Jvm.D
/-! MADE BY PROGRAM (witnessworld.py) out of the Statement's table words and the real class files: 25 classes; the members and pool entries that the words name. The judged class is class 1, her method 4. -/
namespace start1
open Jvm.ClassFile
def u (s : String) : CpInfo := .utf8 (stringToUtf16 s)
/-- a pool by its gaps: so many unusable entries, then the entry; so many at the end -/
def gap : Nat → List CpInfo → List CpInfo
  | 0, r => r
  | n + 1, r => .unusable :: gap n r
def poolList (es : List (Nat × CpInfo)) (last : Nat) : List CpInfo := es.foldr (fun e r => gap e.1 (e.2 :: r)) (gap last [])
def pool (es : List (Nat × CpInfo)) (last : Nat) : Array CpInfo := ⟨poolList es last⟩
def fileOf (pool : Array CpInfo) (this : Nat) (attrs : Array Attribute := #[]) (ms : Array MethodInfo := #[]) (fl : Nat := 33) (sup : Nat := 0) (ifs : Array Nat := #[]) (fds : Array FieldInfo := #[]) : ClassFile where
  minorVersion := 0
  majorVersion := 65
  constantPool := pool
  accessFlags := fl
  thisClass := this
  superClass := sup
  interfaces := ifs
  fields := fds
  methods := ms
  attributes := attrs
def plain (name : String) (sup : Option ClassId) : Class where
  name := name
  kind := .ordinary
  loader := none
  accessFlags := 33
  super := sup
  interfaces := #[]
  cf := none
  fields := #[]
  methods := #[]
  instanceTypes := #[]
  staticTypes := #[]
  resolved := #[]
  callSites := []
  init := .initialized
  statics := none
  mirror := none

def pool0 : Array CpInfo := pool [(5, u "<init>"), (0, u "()V"), (1, .class_ 10), (1, u "java/lang/Object")] 113

def k0c0 : Code := { maxStack := 0, maxLocals := 1, code := object_method_1_code, exceptionTable := #[], attributes := #[] }
def k0m0 : Method := { name := "<init>", desc := "()V", sig := { parameters := [], returnType := none }, accessFlags := 1, code := some k0c0 }
/-- java/lang/Object -/
def k0 : Class := { plain "java/lang/Object" none with
  accessFlags := 33
  interfaces := #[]
  cf := some (fileOf pool0 8 #[] #[{ accessFlags := 1, nameIndex := 5, descriptorIndex := 6, attributes := #[] }] 33 0 #[] #[])
  fields := #[]
  methods := #[k0m0]
  instanceTypes := #[]
  staticTypes := #[]
  resolved := Array.replicate 124 none
  statics := none }

def pool1 : Array CpInfo := pool [(2, .class_ 4), (1, u "java/lang/Object"), (0, u "<init>"), (0, u "()V"), (0, .methodref 8 9), (0, .class_ 10), (0, .nameAndType 11 12), (0, u "com/example/ucoord/ucoord/model/StreamPartitionEqualsPinLaw"), (0, u "ch"), (0, u "(II)C"), (0, .class_ 14), (0, u "java/lang/String"), (0, .methodref 13 16), (0, .nameAndType 5 17), (0, u "([C)V"), (0, .integer 2147483647), (0, .class_ 20), (0, u "com/example/ucoord/ucoord/model/StreamPartition"), (0, .methodref 8 22), (0, .nameAndType 23 24), (0, u "str"), (0, u "(I)Ljava/lang/String;"), (0, .methodref 19 26), (0, .nameAndType 5 27), (0, u "(Ljava/lang/String;Ljava/lang/String;I)V"), (0, .methodref 29 30), (0, .class_ 31), (0, .nameAndType 32 33), (0, u "java/lang/Integer"), (0, u "valueOf"), (0, u "(I)Ljava/lang/Integer;"), (0, .methodref 8 35), (0, .nameAndType 36 37), (0, u "same"), (0, u "(II)Z"), (0, .methodref 19 39), (0, .nameAndType 40 41), (0, u "equals"), (0, u "(Ljava/lang/Object;)Z"), (3, u "law"), (0, u "(IIIIJI)Z")] 2

def k1m0 : Method := { name := "<init>", desc := "()V", sig := { parameters := [], returnType := none }, accessFlags := 1, code := none }
def k1c1 : Code := { maxStack := 4, maxLocals := 2, code := method_2_code, exceptionTable := #[], attributes := #[] }
def k1m1 : Method := { name := "ch", desc := "(II)C", sig := { parameters := [.int, .int], returnType := some .char }, accessFlags := 10, code := some k1c1 }
def k1c2 : Code := { maxStack := 6, maxLocals := 5, code := method_3_code, exceptionTable := #[], attributes := #[] }
def k1m2 : Method := { name := "str", desc := "(I)Ljava/lang/String;", sig := { parameters := [.int], returnType := some (.object "java/lang/String") }, accessFlags := 10, code := some k1c2 }
def k1c3 : Code := { maxStack := 3, maxLocals := 3, code := method_4_code, exceptionTable := #[], attributes := #[] }
def k1m3 : Method := { name := "same", desc := "(II)Z", sig := { parameters := [.int, .int], returnType := some .boolean }, accessFlags := 10, code := some k1c3 }
def k1c4 : Code := { maxStack := 5, maxLocals := 15, code := code, exceptionTable := #[], attributes := #[] }
def k1m4 : Method := { name := "law", desc := "(IIIIJI)Z", sig := { parameters := [.int, .int, .int, .int, .long, .int], returnType := some .boolean }, accessFlags := 9, code := some k1c4 }
/-- com/example/ucoord/ucoord/model/StreamPartitionEqualsPinLaw -/
def k1 : Class := { plain "com/example/ucoord/ucoord/model/StreamPartitionEqualsPinLaw" (some 0) with
  accessFlags := 49
  interfaces := #[]
  cf := some (fileOf pool1 8 #[] #[{ accessFlags := 1, nameIndex := 5, descriptorIndex := 6, attributes := #[] }, { accessFlags := 10, nameIndex := 11, descriptorIndex := 12, attributes := #[] }, { accessFlags := 10, nameIndex := 23, descriptorIndex := 24, attributes := #[] }, { accessFlags := 10, nameIndex := 36, descriptorIndex := 37, attributes := #[] }, { accessFlags := 9, nameIndex := 45, descriptorIndex := 46, attributes := #[] }] 49 2 #[] #[])
  fields := #[]
  methods := #[k1m0, k1m1, k1m2, k1m3, k1m4]
  instanceTypes := #[]
  staticTypes := #[]
  resolved := Array.replicate 49 none
  statics := none }

def pool2 : Array CpInfo := pool [(1, .methodref 2 3), (0, .class_ 4), (0, .nameAndType 5 6), (0, u "java/lang/Object"), (0, u "<init>"), (0, u "()V"), (0, .string 8), (0, u "system"), (0, .methodref 10 11), (0, .class_ 12), (0, .nameAndType 13 14), (0, u "java/util/Objects"), (0, u "requireNonNull"), (0, u "(Ljava/lang/Object;Ljava/lang/String;)Ljava/lang/Object;"), (0, .class_ 16), (0, u "java/lang/String"), (0, .fieldref 18 19), (0, .class_ 20), (0, .nameAndType 8 21), (0, u "com/example/ucoord/ucoord/model/StreamPartition"), (0, u "Ljava/lang/String;"), (0, .string 23), (0, u "stream"), (0, .fieldref 18 25), (0, .nameAndType 23 21), (9, .fieldref 18 36), (0, .nameAndType 37 38), (0, u "partition"), (0, u "I"), (6, .methodref 15 46), (0, .nameAndType 47 48), (0, u "equals"), (0, u "(Ljava/lang/Object;)Z"), (13, u "(Ljava/lang/String;Ljava/lang/String;I)V")] 27

def k2c0 : Code := { maxStack := 3, maxLocals := 4, code := prog_39_method_1_code, exceptionTable := #[], attributes := #[] }
def k2m0 : Method := { name := "<init>", desc := "(Ljava/lang/String;Ljava/lang/String;I)V", sig := { parameters := [(.object "java/lang/String"), (.object "java/lang/String"), .int], returnType := none }, accessFlags := 1, code := some k2c0 }
def k2c1 : Code := { maxStack := 2, maxLocals := 3, code := prog_39_method_6_code, exceptionTable := #[], attributes := #[] }
def k2m1 : Method := { name := "equals", desc := "(Ljava/lang/Object;)Z", sig := { parameters := [(.object "java/lang/Object")], returnType := some .boolean }, accessFlags := 1, code := some k2c1 }
/-- com/example/ucoord/ucoord/model/StreamPartition -/
def k2 : Class := { plain "com/example/ucoord/ucoord/model/StreamPartition" (some 0) with
  accessFlags := 33
  interfaces := #[]
  cf := some (fileOf pool2 18 #[] #[{ accessFlags := 1, nameIndex := 5, descriptorIndex := 62, attributes := #[] }, { accessFlags := 1, nameIndex := 47, descriptorIndex := 48, attributes := #[] }] 33 2 #[] #[{ accessFlags := 18, nameIndex := 8, descriptorIndex := 21, attributes := #[] }, { accessFlags := 18, nameIndex := 23, descriptorIndex := 21, attributes := #[] }, { accessFlags := 18, nameIndex := 37, descriptorIndex := 38, attributes := #[] }])
  fields := #[{ name := "system", type := (.object "java/lang/String"), accessFlags := 18, slot := 0, constantValue := 0 }, { name := "stream", type := (.object "java/lang/String"), accessFlags := 18, slot := 1, constantValue := 0 }, { name := "partition", type := .int, accessFlags := 18, slot := 2, constantValue := 0 }]
  methods := #[k2m0, k2m1]
  instanceTypes := #[(.object "java/lang/String"), (.object "java/lang/String"), .int]
  staticTypes := #[]
  resolved := Array.replicate 90 none
  statics := none }

def pool3 : Array CpInfo := pool [(1, .class_ 2), (0, u "java/io/Serializable"), (0, .class_ 4), (0, u "java/lang/Object")] 2

/-- java/io/Serializable -/
def k3 : Class := { plain "java/io/Serializable" (some 0) with
  accessFlags := 1537
  interfaces := #[]
  cf := some (fileOf pool3 1 #[] #[] 1537 3 #[] #[])
  fields := #[]
  methods := #[]
  instanceTypes := #[]
  staticTypes := #[]
  resolved := Array.replicate 7 none
  statics := none }

def pool4 : Array CpInfo := pool [(1, .class_ 2), (0, u "java/lang/Comparable"), (0, .class_ 4), (0, u "java/lang/Object")] 7

/-- java/lang/Comparable -/
def k4 : Class := { plain "java/lang/Comparable" (some 0) with
  accessFlags := 1537
  interfaces := #[]
  cf := some (fileOf pool4 1 #[] #[] 1537 3 #[] #[])
  fields := #[]
  methods := #[]
  instanceTypes := #[]
  staticTypes := #[]
  resolved := Array.replicate 12 none
  statics := none }

def pool5 : Array CpInfo := pool [(2, .class_ 4), (1, u "java/lang/CharSequence"), (42, .class_ 48), (0, u "java/lang/CharSequence$1CodePointIterator"), (10, .class_ 60), (0, u "java/lang/CharSequence$1CharIterator"), (5, .class_ 67), (0, u "java/lang/Object")] 63

/-- java/lang/CharSequence -/
def k5 : Class := { plain "java/lang/CharSequence" (some 0) with
  accessFlags := 1537
  interfaces := #[]
  cf := some (fileOf pool5 2 #[.nestMembers #[47, 59]] #[] 1537 66 #[] #[])
  fields := #[]
  methods := #[]
  instanceTypes := #[]
  staticTypes := #[]
  resolved := Array.replicate 131 none
  statics := none }

def pool6 : Array CpInfo := pool [(1, .class_ 2), (0, u "java/lang/constant/Constable"), (0, .class_ 4), (0, u "java/lang/Object")] 6

/-- java/lang/constant/Constable -/
def k6 : Class := { plain "java/lang/constant/Constable" (some 0) with
  accessFlags := 1537
  interfaces := #[]
  cf := some (fileOf pool6 1 #[] #[] 1537 3 #[] #[])
  fields := #[]
  methods := #[]
  instanceTypes := #[]
  staticTypes := #[]
  resolved := Array.replicate 11 none
  statics := none }

def pool7 : Array CpInfo := pool [(1, .class_ 2), (0, u "java/lang/constant/ConstantDesc"), (0, .class_ 4), (0, u "java/lang/Object")] 32

/-- java/lang/constant/ConstantDesc -/
def k7 : Class := { plain "java/lang/constant/ConstantDesc" (some 0) with
  accessFlags := 1537
  interfaces := #[]
  cf := some (fileOf pool7 1 #[] #[] 1537 3 #[] #[])
  fields := #[]
  methods := #[]
  instanceTypes := #[]
  staticTypes := #[]
  resolved := Array.replicate 37 none
  statics := none }

def pool8 : Array CpInfo := pool [(1, .methodref 2 3), (0, .class_ 4), (0, .nameAndType 5 6), (0, u "java/lang/Object"), (0, u "<init>"), (0, u "()V"), (0, .string 8), (0, u ""), (0, .fieldref 10 11), (0, .class_ 12), (0, .nameAndType 13 14), (0, u "java/lang/String"), (0, u "value"), (0, u "[B"), (0, .fieldref 10 16), (0, .nameAndType 17 18), (0, u "coder"), (0, u "B"), (2, u "hash"), (0, u "I"), (2, u "hashIsZero"), (0, u "Z"), (0, .methodref 10 28), (0, .nameAndType 5 29), (0, u "([CIILjava/lang/Void;)V"), (8, .fieldref 10 39), (0, .nameAndType 40 26), (0, u "COMPACT_STRINGS"), (1, .class_ 44), (1, u "java/lang/StringUTF16"), (0, u "compress"), (1, .methodref 42 48), (0, .nameAndType 49 50), (0, u "coderFromArrayLen"), (0, u "([BI)B"), (56, .class_ 109), (1, u "java/lang/StringLatin1"), (67, .methodref 42 178), (0, .nameAndType 45 179), (0, u "([CII)[B"), (361, .methodref 107 542), (0, .nameAndType 543 544), (0, u "equals"), (0, u "([B[B)Z"), (28, u "(Ljava/lang/Object;)Z"), (1, .class_ 576), (0, u "java/lang/CharSequence"), (22, u "CASE_INSENSITIVE_ORDER"), (0, u "Ljava/util/Comparator;"), (409, u "([C)V"), (90, u "serialPersistentFields"), (0, u "[Ljava/io/ObjectStreamField;"), (0, .class_ 1104), (0, u "java/lang/String$CaseInsensitiveComparator"), (1, .class_ 1107), (0, u "java/io/Serializable"), (0, .class_ 1109), (0, u "java/lang/Comparable"), (0, .class_ 1111), (0, u "java/lang/constant/Constable"), (0, .class_ 1113), (0, u "java/lang/constant/ConstantDesc"), (2, u "serialVersionUID"), (0, u "J"), (3, u "REPL"), (0, u "C"), (2, u "LATIN1"), (1, u "UTF16")] 323

def k8m0 : Method := { name := "<init>", desc := "()V", sig := { parameters := [], returnType := none }, accessFlags := 1, code := none }
def k8c1 : Code := { maxStack := 5, maxLocals := 2, code := jdk_42_method_3_code, exceptionTable := #[], attributes := #[] }
def k8m1 : Method := { name := "<init>", desc := "([C)V", sig := { parameters := [(.array .char)], returnType := none }, accessFlags := 1, code := some k8c1 }
def k8c2 : Code := { maxStack := 2, maxLocals := 3, code := jdk_42_method_66_code, exceptionTable := #[], attributes := #[] }
def k8m2 : Method := { name := "equals", desc := "(Ljava/lang/Object;)Z", sig := { parameters := [(.object "java/lang/Object")], returnType := some .boolean }, accessFlags := 1, code := some k8c2 }
def k8c3 : Code := { maxStack := 4, maxLocals := 6, code := jdk_42_method_149_code, exceptionTable := #[], attributes := #[] }
def k8m3 : Method := { name := "<init>", desc := "([CIILjava/lang/Void;)V", sig := { parameters := [(.array .char), .int, .int, (.object "java/lang/Void")], returnType := none }, accessFlags := 2, code := some k8c3 }
/-- java/lang/String -/
def k8 : Class := { plain "java/lang/String" (some 0) with
  accessFlags := 49
  interfaces := #[3, 4, 5, 6, 7]
  cf := some (fileOf pool8 10 #[.nestMembers #[1103]] #[{ accessFlags := 1, nameIndex := 5, descriptorIndex := 6, attributes := #[] }, { accessFlags := 1, nameIndex := 5, descriptorIndex := 1010, attributes := #[] }, { accessFlags := 1, nameIndex := 543, descriptorIndex := 573, attributes := #[] }, { accessFlags := 2, nameIndex := 5, descriptorIndex := 29, attributes := #[] }] 49 2 #[1106, 1108, 575, 1110, 1112] #[{ accessFlags := 18, nameIndex := 13, descriptorIndex := 14, attributes := #[] }, { accessFlags := 18, nameIndex := 17, descriptorIndex := 18, attributes := #[] }, { accessFlags := 2, nameIndex := 21, descriptorIndex := 22, attributes := #[] }, { accessFlags := 2, nameIndex := 25, descriptorIndex := 26, attributes := #[] }, { accessFlags := 26, nameIndex := 1116, descriptorIndex := 1117, attributes := #[] }, { accessFlags := 24, nameIndex := 40, descriptorIndex := 26, attributes := #[] }, { accessFlags := 26, nameIndex := 1101, descriptorIndex := 1102, attributes := #[] }, { accessFlags := 26, nameIndex := 1121, descriptorIndex := 1122, attributes := #[] }, { accessFlags := 25, nameIndex := 599, descriptorIndex := 600, attributes := #[] }, { accessFlags := 24, nameIndex := 1125, descriptorIndex := 18, attributes := #[] }, { accessFlags := 24, nameIndex := 1127, descriptorIndex := 18, attributes := #[] }])
  fields := #[{ name := "value", type := (.array .byte), accessFlags := 18, slot := 0, constantValue := 0 }, { name := "coder", type := .byte, accessFlags := 18, slot := 1, constantValue := 0 }, { name := "hash", type := .int, accessFlags := 2, slot := 2, constantValue := 0 }, { name := "hashIsZero", type := .boolean, accessFlags := 2, slot := 3, constantValue := 0 }, { name := "serialVersionUID", type := .long, accessFlags := 26, slot := 0, constantValue := 0 }, { name := "COMPACT_STRINGS", type := .boolean, accessFlags := 24, slot := 1, constantValue := 0 }, { name := "serialPersistentFields", type := (.array (.object "java/io/ObjectStreamField")), accessFlags := 26, slot := 2, constantValue := 0 }, { name := "REPL", type := .char, accessFlags := 26, slot := 3, constantValue := 0 }, { name := "CASE_INSENSITIVE_ORDER", type := (.object "java/util/Comparator"), accessFlags := 25, slot := 4, constantValue := 0 }, { name := "LATIN1", type := .byte, accessFlags := 24, slot := 5, constantValue := 0 }, { name := "UTF16", type := .byte, accessFlags := 24, slot := 6, constantValue := 0 }]
  methods := #[k8m0, k8m1, k8m2, k8m3]
  instanceTypes := #[(.array .byte), .byte, .int, .boolean]
  staticTypes := #[.long, .boolean, (.array (.object "java/io/ObjectStreamField")), .char, (.object "java/util/Comparator"), .byte, .byte]
  resolved := Array.replicate 1451 none
  statics := some 0 }

def pool9 : Array CpInfo := pool [(6, .class_ 8), (1, u "java/lang/Object"), (0, u "<init>"), (0, u "()V"), (1, .class_ 14), (1, u "java/lang/StringUTF16"), (31, u "$assertionsDisabled"), (0, u "Z"), (13, u "HI_BYTE_SHIFT"), (0, u "I"), (2, u "LO_BYTE_SHIFT"), (49, .methodref 12 116), (0, .nameAndType 117 118), (0, u "compress"), (0, u "([CI[BII)I"), (3, u "([CII)[B"), (138, u "coderFromArrayLen"), (0, u "([BI)B"), (106, .class_ 371), (1, u "java/lang/StringUTF16$LinesSpliterator"), (58, u "MAX_LENGTH"), (196, .class_ 628), (0, u "java/lang/StringUTF16$CodePointsSpliterator"), (0, .class_ 630), (0, u "java/lang/StringUTF16$CharsSpliterator")] 4

def k9m0 : Method := { name := "<init>", desc := "()V", sig := { parameters := [], returnType := none }, accessFlags := 0, code := none }
def k9c1 : Code := { maxStack := 2, maxLocals := 2, code := jdk_52_method_15_code, exceptionTable := #[], attributes := #[] }
def k9m1 : Method := { name := "coderFromArrayLen", desc := "([BI)B", sig := { parameters := [(.array .byte), .int], returnType := some .byte }, accessFlags := 8, code := some k9c1 }
def k9c2 : Code := { maxStack := 5, maxLocals := 6, code := jdk_52_method_16_code, exceptionTable := #[], attributes := #[] }
def k9m2 : Method := { name := "compress", desc := "([CII)[B", sig := { parameters := [(.array .char), .int, .int], returnType := some (.array .byte) }, accessFlags := 9, code := some k9c2 }
def k9c3 : Code := { maxStack := 3, maxLocals := 7, code := jdk_52_method_21_code, exceptionTable := #[], attributes := #[] }
def k9m3 : Method := { name := "compress", desc := "([CI[BII)I", sig := { parameters := [(.array .char), .int, (.array .byte), .int, .int], returnType := some .int }, accessFlags := 9, code := some k9c3 }
/-- java/lang/StringUTF16 -/
def k9 : Class := { plain "java/lang/StringUTF16" (some 0) with
  accessFlags := 48
  interfaces := #[]
  cf := some (fileOf pool9 12 #[.nestMembers #[627, 629, 369]] #[{ accessFlags := 0, nameIndex := 9, descriptorIndex := 10, attributes := #[] }, { accessFlags := 8, nameIndex := 261, descriptorIndex := 262, attributes := #[] }, { accessFlags := 9, nameIndex := 117, descriptorIndex := 122, attributes := #[] }, { accessFlags := 9, nameIndex := 117, descriptorIndex := 118, attributes := #[] }] 48 6 #[] #[{ accessFlags := 26, nameIndex := 61, descriptorIndex := 62, attributes := #[] }, { accessFlags := 26, nameIndex := 65, descriptorIndex := 62, attributes := #[] }, { accessFlags := 24, nameIndex := 430, descriptorIndex := 62, attributes := #[] }, { accessFlags := 4120, nameIndex := 46, descriptorIndex := 47, attributes := #[] }])
  fields := #[{ name := "HI_BYTE_SHIFT", type := .int, accessFlags := 26, slot := 0, constantValue := 0 }, { name := "LO_BYTE_SHIFT", type := .int, accessFlags := 26, slot := 1, constantValue := 0 }, { name := "MAX_LENGTH", type := .int, accessFlags := 24, slot := 2, constantValue := 0 }, { name := "$assertionsDisabled", type := .boolean, accessFlags := 4120, slot := 3, constantValue := 0 }]
  methods := #[k9m0, k9m1, k9m2, k9m3]
  instanceTypes := #[]
  staticTypes := #[.int, .int, .int, .boolean]
  resolved := Array.replicate 635 none
  statics := none }

def pool10 : Array CpInfo := pool [(2, .class_ 4), (1, u "java/lang/Object"), (0, u "<init>"), (0, u "()V"), (35, .class_ 44), (1, u "java/util/Objects"), (0, u "requireNonNull"), (48, u "(Ljava/lang/Object;Ljava/lang/String;)Ljava/lang/Object;")] 89

def k10m0 : Method := { name := "<init>", desc := "()V", sig := { parameters := [], returnType := none }, accessFlags := 2, code := none }
def k10c1 : Code := { maxStack := 3, maxLocals := 2, code := jdk_31_method_11_code, exceptionTable := #[], attributes := #[] }
def k10m1 : Method := { name := "requireNonNull", desc := "(Ljava/lang/Object;Ljava/lang/String;)Ljava/lang/Object;", sig := { parameters := [(.object "java/lang/Object"), (.object "java/lang/String")], returnType := some (.object "java/lang/Object") }, accessFlags := 9, code := some k10c1 }
/-- java/util/Objects -/
def k10 : Class := { plain "java/util/Objects" (some 0) with
  accessFlags := 49
  interfaces := #[]
  cf := some (fileOf pool10 42 #[] #[{ accessFlags := 2, nameIndex := 5, descriptorIndex := 6, attributes := #[] }, { accessFlags := 9, nameIndex := 45, descriptorIndex := 94, attributes := #[] }] 49 2 #[] #[])
  fields := #[]
  methods := #[k10m0, k10m1]
  instanceTypes := #[]
  staticTypes := #[]
  resolved := Array.replicate 184 none
  statics := none }

def pool11 : Array CpInfo := pool [(4, .class_ 6), (1, u "java/lang/Object"), (0, u "<init>"), (0, u "()V"), (5, .class_ 16), (1, u "java/lang/StringLatin1"), (104, u "$assertionsDisabled"), (0, u "Z"), (98, .class_ 223), (1, u "java/lang/StringLatin1$LinesSpliterator"), (57, u "equals"), (0, u "([B[B)Z"), (107, .class_ 391), (0, u "java/lang/StringLatin1$CharsSpliterator")] 3

def k11m0 : Method := { name := "<init>", desc := "()V", sig := { parameters := [], returnType := none }, accessFlags := 0, code := none }
def k11c1 : Code := { maxStack := 3, maxLocals := 3, code := jdk_43_method_13_code, exceptionTable := #[], attributes := #[] }
def k11m1 : Method := { name := "equals", desc := "([B[B)Z", sig := { parameters := [(.array .byte), (.array .byte)], returnType := some .boolean }, accessFlags := 9, code := some k11c1 }
/-- java/lang/StringLatin1 -/
def k11 : Class := { plain "java/lang/StringLatin1" (some 0) with
  accessFlags := 48
  interfaces := #[]
  cf := some (fileOf pool11 14 #[.nestMembers #[390, 221]] #[{ accessFlags := 0, nameIndex := 7, descriptorIndex := 8, attributes := #[] }, { accessFlags := 9, nameIndex := 281, descriptorIndex := 282, attributes := #[] }] 48 4 #[] #[{ accessFlags := 4120, nameIndex := 121, descriptorIndex := 122, attributes := #[] }])
  fields := #[{ name := "$assertionsDisabled", type := .boolean, accessFlags := 4120, slot := 0, constantValue := 0 }]
  methods := #[k11m0, k11m1]
  instanceTypes := #[]
  staticTypes := #[.boolean]
  resolved := Array.replicate 395 none
  statics := none }

def pool12 : Array CpInfo := pool [(1, .methodref 2 3), (0, .class_ 4), (0, .nameAndType 5 6), (0, u "java/lang/Object"), (0, u "<init>"), (0, u "()V"), (1, .class_ 10), (1, u "java/lang/Number"), (2, .class_ 14), (0, u "java/io/Serializable"), (0, u "serialVersionUID"), (0, u "J")] 20

def k12c0 : Code := { maxStack := 1, maxLocals := 1, code := jdk_18_method_1_code, exceptionTable := #[], attributes := #[] }
def k12m0 : Method := { name := "<init>", desc := "()V", sig := { parameters := [], returnType := none }, accessFlags := 1, code := some k12c0 }
/-- java/lang/Number -/
def k12 : Class := { plain "java/lang/Number" (some 0) with
  accessFlags := 1057
  interfaces := #[3]
  cf := some (fileOf pool12 8 #[] #[{ accessFlags := 1, nameIndex := 5, descriptorIndex := 6, attributes := #[] }] 1057 2 #[13] #[{ accessFlags := 26, nameIndex := 15, descriptorIndex := 16, attributes := #[] }])
  fields := #[{ name := "serialVersionUID", type := .long, accessFlags := 26, slot := 0, constantValue := 0 }]
  methods := #[k12m0]
  instanceTypes := #[]
  staticTypes := #[.long]
  resolved := Array.replicate 37 none
  statics := none }

def pool13 : Array CpInfo := pool [(1, .class_ 2), (0, u "java/lang/Integer"), (16, u "digits"), (0, u "[C"), (46, u "<init>"), (17, u "DigitOnes"), (0, u "[B"), (2, u "DigitTens"), (10, .nameAndType 67 101), (0, u "()V"), (85, u "valueOf"), (0, u "(I)Ljava/lang/Integer;"), (0, .class_ 190), (0, u "java/lang/Integer$IntegerCache"), (0, .fieldref 189 192), (0, .nameAndType 193 194), (0, u "high"), (0, u "I"), (0, .fieldref 189 196), (0, .nameAndType 197 198), (0, u "cache"), (0, u "[Ljava/lang/Integer;"), (0, .methodref 1 200), (0, .nameAndType 67 201), (0, u "(I)V"), (0, .methodref 203 100), (0, .class_ 204), (0, u "java/lang/Number"), (0, .fieldref 1 206), (0, .nameAndType 207 194), (0, u "value"), (94, u "TYPE"), (0, u "Ljava/lang/Class;"), (0, .class_ 305), (0, u "java/lang/Comparable"), (0, .class_ 307), (0, u "java/lang/constant/Constable"), (0, .class_ 309), (0, u "java/lang/constant/ConstantDesc"), (0, u "MIN_VALUE"), (1, u "MAX_VALUE"), (3, u "SIZE"), (1, u "BYTES"), (1, u "serialVersionUID"), (0, u "J")] 131

def k13c0 : Code := { maxStack := 3, maxLocals := 1, code := jdk_33_method_22_code, exceptionTable := #[], attributes := #[] }
def k13m0 : Method := { name := "valueOf", desc := "(I)Ljava/lang/Integer;", sig := { parameters := [.int], returnType := some (.object "java/lang/Integer") }, accessFlags := 9, code := some k13c0 }
def k13c1 : Code := { maxStack := 2, maxLocals := 2, code := jdk_33_method_23_code, exceptionTable := #[], attributes := #[] }
def k13m1 : Method := { name := "<init>", desc := "(I)V", sig := { parameters := [.int], returnType := none }, accessFlags := 1, code := some k13c1 }
/-- java/lang/Integer -/
def k13 : Class := { plain "java/lang/Integer" (some 12) with
  accessFlags := 49
  interfaces := #[4, 6, 7]
  cf := some (fileOf pool13 1 #[.nestMembers #[189]] #[{ accessFlags := 9, nameIndex := 187, descriptorIndex := 188, attributes := #[] }, { accessFlags := 1, nameIndex := 67, descriptorIndex := 201, attributes := #[] }] 49 203 #[304, 306, 308] #[{ accessFlags := 25, nameIndex := 310, descriptorIndex := 194, attributes := #[] }, { accessFlags := 25, nameIndex := 312, descriptorIndex := 194, attributes := #[] }, { accessFlags := 25, nameIndex := 302, descriptorIndex := 303, attributes := #[] }, { accessFlags := 24, nameIndex := 19, descriptorIndex := 20, attributes := #[] }, { accessFlags := 24, nameIndex := 89, descriptorIndex := 86, attributes := #[] }, { accessFlags := 24, nameIndex := 85, descriptorIndex := 86, attributes := #[] }, { accessFlags := 18, nameIndex := 207, descriptorIndex := 194, attributes := #[] }, { accessFlags := 25, nameIndex := 316, descriptorIndex := 194, attributes := #[] }, { accessFlags := 25, nameIndex := 318, descriptorIndex := 194, attributes := #[] }, { accessFlags := 26, nameIndex := 320, descriptorIndex := 321, attributes := #[] }])
  fields := #[{ name := "MIN_VALUE", type := .int, accessFlags := 25, slot := 0, constantValue := 0 }, { name := "MAX_VALUE", type := .int, accessFlags := 25, slot := 1, constantValue := 0 }, { name := "TYPE", type := (.object "java/lang/Class"), accessFlags := 25, slot := 2, constantValue := 0 }, { name := "digits", type := (.array .char), accessFlags := 24, slot := 3, constantValue := 0 }, { name := "DigitTens", type := (.array .byte), accessFlags := 24, slot := 4, constantValue := 0 }, { name := "DigitOnes", type := (.array .byte), accessFlags := 24, slot := 5, constantValue := 0 }, { name := "value", type := .int, accessFlags := 18, slot := 0, constantValue := 0 }, { name := "SIZE", type := .int, accessFlags := 25, slot := 6, constantValue := 0 }, { name := "BYTES", type := .int, accessFlags := 25, slot := 7, constantValue := 0 }, { name := "serialVersionUID", type := .long, accessFlags := 26, slot := 8, constantValue := 0 }]
  methods := #[k13m0, k13m1]
  instanceTypes := #[.int]
  staticTypes := #[.int, .int, (.object "java/lang/Class"), (.array .char), (.array .byte), (.array .byte), .int, .int, .long]
  resolved := Array.replicate 453 none
  statics := none }

def pool14 : Array CpInfo := pool [(2, .class_ 4), (1, u "java/lang/Object"), (0, u "<init>"), (0, u "()V"), (0, .class_ 8), (0, u "java/lang/Integer"), (7, .class_ 18), (1, u "java/lang/Integer$IntegerCache"), (0, u "$assertionsDisabled"), (0, u "Z"), (26, u "high"), (0, u "I"), (8, u "archivedCache"), (0, u "[Ljava/lang/Integer;"), (12, u "cache"), (0, u "low")] 27

def k14m0 : Method := { name := "<init>", desc := "()V", sig := { parameters := [], returnType := none }, accessFlags := 2, code := none }
/-- java/lang/Integer$IntegerCache -/
def k14 : Class := { plain "java/lang/Integer$IntegerCache" (some 0) with
  accessFlags := 48
  interfaces := #[]
  cf := some (fileOf pool14 16 #[.nestHost 7] #[{ accessFlags := 2, nameIndex := 5, descriptorIndex := 6, attributes := #[] }] 48 2 #[] #[{ accessFlags := 24, nameIndex := 72, descriptorIndex := 48, attributes := #[] }, { accessFlags := 24, nameIndex := 47, descriptorIndex := 48, attributes := #[] }, { accessFlags := 24, nameIndex := 71, descriptorIndex := 58, attributes := #[] }, { accessFlags := 8, nameIndex := 57, descriptorIndex := 58, attributes := #[] }, { accessFlags := 4120, nameIndex := 19, descriptorIndex := 20, attributes := #[] }])
  fields := #[{ name := "low", type := .int, accessFlags := 24, slot := 0, constantValue := 0 }, { name := "high", type := .int, accessFlags := 24, slot := 1, constantValue := 0 }, { name := "cache", type := (.array (.object "java/lang/Integer")), accessFlags := 24, slot := 2, constantValue := 0 }, { name := "archivedCache", type := (.array (.object "java/lang/Integer")), accessFlags := 8, slot := 3, constantValue := 0 }, { name := "$assertionsDisabled", type := .boolean, accessFlags := 4120, slot := 4, constantValue := 0 }]
  methods := #[k14m0]
  instanceTypes := #[]
  staticTypes := #[.int, .int, (.array (.object "java/lang/Integer")), (.array (.object "java/lang/Integer")), .boolean]
  resolved := Array.replicate 100 none
  statics := some 1 }

def pool15 : Array CpInfo := pool [(2, .class_ 4), (1, u "java/lang/Object"), (0, u "<init>"), (0, u "()V"), (17, .class_ 26), (1, u "jdk/internal/util/Preconditions"), (28, .class_ 56), (0, u "jdk/internal/util/Preconditions$4"), (57, .class_ 115), (0, u "jdk/internal/util/Preconditions$1"), (7, u "SIOOBE_FORMATTER"), (0, u "Ljava/util/function/BiFunction;"), (0, .class_ 126), (0, u "jdk/internal/util/Preconditions$2"), (3, u "AIOOBE_FORMATTER"), (0, .class_ 132), (0, u "jdk/internal/util/Preconditions$3"), (3, u "IOOBE_FORMATTER")] 57

def k15m0 : Method := { name := "<init>", desc := "()V", sig := { parameters := [], returnType := none }, accessFlags := 1, code := none }
/-- jdk/internal/util/Preconditions -/
def k15 : Class := { plain "jdk/internal/util/Preconditions" (some 0) with
  accessFlags := 33
  interfaces := #[]
  cf := some (fileOf pool15 24 #[.nestMembers #[55, 131, 125, 114]] #[{ accessFlags := 1, nameIndex := 5, descriptorIndex := 6, attributes := #[] }] 33 2 #[] #[{ accessFlags := 25, nameIndex := 123, descriptorIndex := 124, attributes := #[] }, { accessFlags := 25, nameIndex := 130, descriptorIndex := 124, attributes := #[] }, { accessFlags := 25, nameIndex := 136, descriptorIndex := 124, attributes := #[] }])
  fields := #[{ name := "SIOOBE_FORMATTER", type := (.object "java/util/function/BiFunction"), accessFlags := 25, slot := 0, constantValue := 0 }, { name := "AIOOBE_FORMATTER", type := (.object "java/util/function/BiFunction"), accessFlags := 25, slot := 1, constantValue := 0 }, { name := "IOOBE_FORMATTER", type := (.object "java/util/function/BiFunction"), accessFlags := 25, slot := 2, constantValue := 0 }]
  methods := #[k15m0]
  instanceTypes := #[]
  staticTypes := #[(.object "java/util/function/BiFunction"), (.object "java/util/function/BiFunction"), (.object "java/util/function/BiFunction")]
  resolved := Array.replicate 194 none
  statics := some 2 }

def pool16 : Array CpInfo := pool [(9, u "<init>"), (6, .class_ 18), (1, u "java/lang/Object"), (0, u "()V"), (1, .class_ 23), (1, u "jdk/internal/util/ArraysSupport"), (0, u "LOG2_ARRAY_LONG_INDEX_SCALE"), (0, u "I"), (2, u "U"), (0, u "Ljdk/internal/misc/Unsafe;"), (8, u "BIG_ENDIAN"), (0, u "Z"), (8, u "LOG2_BYTE_BIT_SIZE"), (4, u "LOG2_ARRAY_INT_INDEX_SCALE"), (54, u "JLA"), (0, u "Ljdk/internal/access/JavaLangAccess;"), (11, u "LOG2_ARRAY_BOOLEAN_INDEX_SCALE"), (9, u "LOG2_ARRAY_BYTE_INDEX_SCALE"), (5, u "LOG2_ARRAY_CHAR_INDEX_SCALE"), (5, u "LOG2_ARRAY_SHORT_INDEX_SCALE"), (18, u "LOG2_ARRAY_FLOAT_INDEX_SCALE"), (24, u "LOG2_ARRAY_DOUBLE_INDEX_SCALE"), (89, u "T_BOOLEAN"), (2, u "T_CHAR"), (1, u "T_FLOAT"), (1, u "T_DOUBLE"), (1, u "T_BYTE"), (1, u "T_SHORT"), (1, u "T_INT"), (1, u "T_LONG"), (1, u "SOFT_MAX_ARRAY_LENGTH")] 83

def k16m0 : Method := { name := "<init>", desc := "()V", sig := { parameters := [], returnType := none }, accessFlags := 2, code := none }
/-- jdk/internal/util/ArraysSupport -/
def k16 : Class := { plain "jdk/internal/util/ArraysSupport" (some 0) with
  accessFlags := 33
  interfaces := #[]
  cf := some (fileOf pool16 21 #[] #[{ accessFlags := 2, nameIndex := 9, descriptorIndex := 19, attributes := #[] }] 33 16 #[] #[{ accessFlags := 24, nameIndex := 28, descriptorIndex := 29, attributes := #[] }, { accessFlags := 26, nameIndex := 38, descriptorIndex := 39, attributes := #[] }, { accessFlags := 25, nameIndex := 121, descriptorIndex := 25, attributes := #[] }, { accessFlags := 25, nameIndex := 131, descriptorIndex := 25, attributes := #[] }, { accessFlags := 25, nameIndex := 137, descriptorIndex := 25, attributes := #[] }, { accessFlags := 25, nameIndex := 143, descriptorIndex := 25, attributes := #[] }, { accessFlags := 25, nameIndex := 53, descriptorIndex := 25, attributes := #[] }, { accessFlags := 25, nameIndex := 24, descriptorIndex := 25, attributes := #[] }, { accessFlags := 25, nameIndex := 162, descriptorIndex := 25, attributes := #[] }, { accessFlags := 25, nameIndex := 187, descriptorIndex := 25, attributes := #[] }, { accessFlags := 26, nameIndex := 48, descriptorIndex := 25, attributes := #[] }, { accessFlags := 25, nameIndex := 277, descriptorIndex := 25, attributes := #[] }, { accessFlags := 25, nameIndex := 280, descriptorIndex := 25, attributes := #[] }, { accessFlags := 25, nameIndex := 282, descriptorIndex := 25, attributes := #[] }, { accessFlags := 25, nameIndex := 284, descriptorIndex := 25, attributes := #[] }, { accessFlags := 25, nameIndex := 286, descriptorIndex := 25, attributes := #[] }, { accessFlags := 25, nameIndex := 288, descriptorIndex := 25, attributes := #[] }, { accessFlags := 25, nameIndex := 290, descriptorIndex := 25, attributes := #[] }, { accessFlags := 25, nameIndex := 292, descriptorIndex := 25, attributes := #[] }, { accessFlags := 26, nameIndex := 108, descriptorIndex := 109, attributes := #[] }, { accessFlags := 25, nameIndex := 294, descriptorIndex := 25, attributes := #[] }])
  fields := #[{ name := "U", type := (.object "jdk/internal/misc/Unsafe"), accessFlags := 24, slot := 0, constantValue := 0 }, { name := "BIG_ENDIAN", type := .boolean, accessFlags := 26, slot := 1, constantValue := 0 }, { name := "LOG2_ARRAY_BOOLEAN_INDEX_SCALE", type := .int, accessFlags := 25, slot := 2, constantValue := 0 }, { name := "LOG2_ARRAY_BYTE_INDEX_SCALE", type := .int, accessFlags := 25, slot := 3, constantValue := 0 }, { name := "LOG2_ARRAY_CHAR_INDEX_SCALE", type := .int, accessFlags := 25, slot := 4, constantValue := 0 }, { name := "LOG2_ARRAY_SHORT_INDEX_SCALE", type := .int, accessFlags := 25, slot := 5, constantValue := 0 }, { name := "LOG2_ARRAY_INT_INDEX_SCALE", type := .int, accessFlags := 25, slot := 6, constantValue := 0 }, { name := "LOG2_ARRAY_LONG_INDEX_SCALE", type := .int, accessFlags := 25, slot := 7, constantValue := 0 }, { name := "LOG2_ARRAY_FLOAT_INDEX_SCALE", type := .int, accessFlags := 25, slot := 8, constantValue := 0 }, { name := "LOG2_ARRAY_DOUBLE_INDEX_SCALE", type := .int, accessFlags := 25, slot := 9, constantValue := 0 }, { name := "LOG2_BYTE_BIT_SIZE", type := .int, accessFlags := 26, slot := 10, constantValue := 0 }, { name := "T_BOOLEAN", type := .int, accessFlags := 25, slot := 11, constantValue := 0 }, { name := "T_CHAR", type := .int, accessFlags := 25, slot := 12, constantValue := 0 }, { name := "T_FLOAT", type := .int, accessFlags := 25, slot := 13, constantValue := 0 }, { name := "T_DOUBLE", type := .int, accessFlags := 25, slot := 14, constantValue := 0 }, { name := "T_BYTE", type := .int, accessFlags := 25, slot := 15, constantValue := 0 }, { name := "T_SHORT", type := .int, accessFlags := 25, slot := 16, constantValue := 0 }, { name := "T_INT", type := .int, accessFlags := 25, slot := 17, constantValue := 0 }, { name := "T_LONG", type := .int, accessFlags := 25, slot := 18, constantValue := 0 }, { name := "JLA", type := (.object "jdk/internal/access/JavaLangAccess"), accessFlags := 26, slot := 19, constantValue := 0 }, { name := "SOFT_MAX_ARRAY_LENGTH", type := .int, accessFlags := 25, slot := 20, constantValue := 0 }]
  methods := #[k16m0]
  instanceTypes := #[]
  staticTypes := #[(.object "jdk/internal/misc/Unsafe"), .boolean, .int, .int, .int, .int, .int, .int, .int, .int, .int, .int, .int, .int, .int, .int, .int, .int, .int, (.object "jdk/internal/access/JavaLangAccess"), .int]
  resolved := Array.replicate 378 none
  statics := none }

def pool17 : Array CpInfo := pool [(1, u "java/lang/Cloneable"), (0, .class_ 1), (0, u "java/lang/Object"), (0, .class_ 3)] 3

/-- java/lang/Cloneable -/
def k17 : Class := { plain "java/lang/Cloneable" (some 0) with
  accessFlags := 1537
  interfaces := #[]
  cf := some (fileOf pool17 2 #[] #[] 1537 4 #[] #[])
  fields := #[]
  methods := #[]
  instanceTypes := #[]
  staticTypes := #[]
  resolved := Array.replicate 8 none
  statics := none }

/-- the primitive byte -/
def k18 : Class := { plain "byte" none with kind := .primitive 'B', accessFlags := 0x411 }
/-- [B -/
def k19 : Class := { plain "[B" (some 0) with kind := .array 18 .byte, interfaces := #[17, 3], accessFlags := 1041 }

/-- the primitive char -/
def k20 : Class := { plain "char" none with kind := .primitive 'C', accessFlags := 0x411 }
/-- [C -/
def k21 : Class := { plain "[C" (some 0) with kind := .array 20 .char, interfaces := #[17, 3], accessFlags := 1041 }

/-- the primitive int -/
def k22 : Class := { plain "int" none with kind := .primitive 'I', accessFlags := 0x411 }
/-- [I -/
def k23 : Class := { plain "[I" (some 0) with kind := .array 22 .int, interfaces := #[17, 3], accessFlags := 1041 }

/-- [Ljava/lang/Integer; -/
def k24 : Class := { plain "[Ljava/lang/Integer;" (some 0) with kind := .array 13 (.object "java/lang/Integer"), interfaces := #[17, 3], accessFlags := 1041 }

def heap : Heap := #[{ cls := 8, slots := #[.long 0, .int 1, .null, .int 0, .null, .int 0, .int 0], vm := .statics 8 },
  { cls := 14, slots := #[.int 0, .int 127, .ref 3, .null, .int 0], vm := .statics 14 },
  { cls := 15, slots := #[.null, .null, .null], vm := .statics 15 },
  { cls := 24, slots := #[.ref 4, .ref 5, .ref 6, .ref 7, .ref 8, .ref 9, .ref 10, .ref 11, .ref 12, .ref 13, .ref 14, .ref 15, .ref 16, .ref 17, .ref 18, .ref 19, .ref 20, .ref 21, .ref 22, .ref 23, .ref 24, .ref 25, .ref 26, .ref 27, .ref 28, .ref 29, .ref 30, .ref 31, .ref 32, .ref 33, .ref 34, .ref 35, .ref 36, .ref 37, .ref 38, .ref 39, .ref 40, .ref 41, .ref 42, .ref 43, .ref 44, .ref 45, .ref 46, .ref 47, .ref 48, .ref 49, .ref 50, .ref 51, .ref 52, .ref 53, .ref 54, .ref 55, .ref 56, .ref 57, .ref 58, .ref 59, .ref 60, .ref 61, .ref 62, .ref 63, .ref 64, .ref 65, .ref 66, .ref 67, .ref 68, .ref 69, .ref 70, .ref 71, .ref 72, .ref 73, .ref 74, .ref 75, .ref 76, .ref 77, .ref 78, .ref 79, .ref 80, .ref 81, .ref 82, .ref 83, .ref 84, .ref 85, .ref 86, .ref 87, .ref 88, .ref 89, .ref 90, .ref 91, .ref 92, .ref 93, .ref 94, .ref 95, .ref 96, .ref 97, .ref 98, .ref 99, .ref 100, .ref 101, .ref 102, .ref 103, .ref 104, .ref 105, .ref 106, .ref 107, .ref 108, .ref 109, .ref 110, .ref 111, .ref 112, .ref 113, .ref 114, .ref 115, .ref 116, .ref 117, .ref 118, .ref 119, .ref 120, .ref 121, .ref 122, .ref 123, .ref 124, .ref 125, .ref 126, .ref 127, .ref 128, .ref 129, .ref 130, .ref 131, .ref 132, .ref 133, .ref 134, .ref 135, .ref 136, .ref 137, .ref 138, .ref 139, .ref 140, .ref 141, .ref 142, .ref 143, .ref 144, .ref 145, .ref 146, .ref 147, .ref 148, .ref 149, .ref 150, .ref 151, .ref 152, .ref 153, .ref 154, .ref 155, .ref 156, .ref 157, .ref 158, .ref 159, .ref 160, .ref 161, .ref 162, .ref 163, .ref 164, .ref 165, .ref 166, .ref 167, .ref 168, .ref 169, .ref 170, .ref 171, .ref 172, .ref 173, .ref 174, .ref 175, .ref 176, .ref 177, .ref 178, .ref 179, .ref 180, .ref 181, .ref 182, .ref 183, .ref 184, .ref 185, .ref 186, .ref 187, .ref 188, .ref 189, .ref 190, .ref 191, .ref 192, .ref 193, .ref 194, .ref 195, .ref 196, .ref 197, .ref 198, .ref 199, .ref 200, .ref 201, .ref 202, .ref 203, .ref 204, .ref 205, .ref 206, .ref 207, .ref 208, .ref 209, .ref 210, .ref 211, .ref 212, .ref 213, .ref 214, .ref 215, .ref 216, .ref 217, .ref 218, .ref 219, .ref 220, .ref 221, .ref 222, .ref 223, .ref 224, .ref 225, .ref 226, .ref 227, .ref 228, .ref 229, .ref 230, .ref 231, .ref 232, .ref 233, .ref 234, .ref 235, .ref 236, .ref 237, .ref 238, .ref 239, .ref 240, .ref 241, .ref 242, .ref 243, .ref 244, .ref 245, .ref 246, .ref 247, .ref 248, .ref 249, .ref 250, .ref 251, .ref 252, .ref 253, .ref 254, .ref 255, .ref 256, .ref 257, .ref 258, .ref 259], vm := .none },
  { cls := 13, slots := #[.int (-128)], vm := .none },
  { cls := 13, slots := #[.int (-127)], vm := .none },
  { cls := 13, slots := #[.int (-126)], vm := .none },
  { cls := 13, slots := #[.int (-125)], vm := .none },
  { cls := 13, slots := #[.int (-124)], vm := .none },
  { cls := 13, slots := #[.int (-123)], vm := .none },
  { cls := 13, slots := #[.int (-122)], vm := .none },
  { cls := 13, slots := #[.int (-121)], vm := .none },
  { cls := 13, slots := #[.int (-120)], vm := .none },
  { cls := 13, slots := #[.int (-119)], vm := .none },
  { cls := 13, slots := #[.int (-118)], vm := .none },
  { cls := 13, slots := #[.int (-117)], vm := .none },
  { cls := 13, slots := #[.int (-116)], vm := .none },
  { cls := 13, slots := #[.int (-115)], vm := .none },
  { cls := 13, slots := #[.int (-114)], vm := .none },
  { cls := 13, slots := #[.int (-113)], vm := .none },
  { cls := 13, slots := #[.int (-112)], vm := .none },
  { cls := 13, slots := #[.int (-111)], vm := .none },
  { cls := 13, slots := #[.int (-110)], vm := .none },
  { cls := 13, slots := #[.int (-109)], vm := .none },
  { cls := 13, slots := #[.int (-108)], vm := .none },
  { cls := 13, slots := #[.int (-107)], vm := .none },
  { cls := 13, slots := #[.int (-106)], vm := .none },
  { cls := 13, slots := #[.int (-105)], vm := .none },
  { cls := 13, slots := #[.int (-104)], vm := .none },
  { cls := 13, slots := #[.int (-103)], vm := .none },
  { cls := 13, slots := #[.int (-102)], vm := .none },
  { cls := 13, slots := #[.int (-101)], vm := .none },
  { cls := 13, slots := #[.int (-100)], vm := .none },
  { cls := 13, slots := #[.int (-99)], vm := .none },
  { cls := 13, slots := #[.int (-98)], vm := .none },
  { cls := 13, slots := #[.int (-97)], vm := .none },
  { cls := 13, slots := #[.int (-96)], vm := .none },
  { cls := 13, slots := #[.int (-95)], vm := .none },
  { cls := 13, slots := #[.int (-94)], vm := .none },
  { cls := 13, slots := #[.int (-93)], vm := .none },
  { cls := 13, slots := #[.int (-92)], vm := .none },
  { cls := 13, slots := #[.int (-91)], vm := .none },
  { cls := 13, slots := #[.int (-90)], vm := .none },
  { cls := 13, slots := #[.int (-89)], vm := .none },
  { cls := 13, slots := #[.int (-88)], vm := .none },
  { cls := 13, slots := #[.int (-87)], vm := .none },
  { cls := 13, slots := #[.int (-86)], vm := .none },
  { cls := 13, slots := #[.int (-85)], vm := .none },
  { cls := 13, slots := #[.int (-84)], vm := .none },
  { cls := 13, slots := #[.int (-83)], vm := .none },
  { cls := 13, slots := #[.int (-82)], vm := .none },
  { cls := 13, slots := #[.int (-81)], vm := .none },
  { cls := 13, slots := #[.int (-80)], vm := .none },
  { cls := 13, slots := #[.int (-79)], vm := .none },
  { cls := 13, slots := #[.int (-78)], vm := .none },
  { cls := 13, slots := #[.int (-77)], vm := .none },
  { cls := 13, slots := #[.int (-76)], vm := .none },
  { cls := 13, slots := #[.int (-75)], vm := .none },
  { cls := 13, slots := #[.int (-74)], vm := .none },
  { cls := 13, slots := #[.int (-73)], vm := .none },
  { cls := 13, slots := #[.int (-72)], vm := .none },
  { cls := 13, slots := #[.int (-71)], vm := .none },
  { cls := 13, slots := #[.int (-70)], vm := .none },
  { cls := 13, slots := #[.int (-69)], vm := .none },
  { cls := 13, slots := #[.int (-68)], vm := .none },
  { cls := 13, slots := #[.int (-67)], vm := .none },
  { cls := 13, slots := #[.int (-66)], vm := .none },
  { cls := 13, slots := #[.int (-65)], vm := .none },
  { cls := 13, slots := #[.int (-64)], vm := .none },
  { cls := 13, slots := #[.int (-63)], vm := .none },
  { cls := 13, slots := #[.int (-62)], vm := .none },
  { cls := 13, slots := #[.int (-61)], vm := .none },
  { cls := 13, slots := #[.int (-60)], vm := .none },
  { cls := 13, slots := #[.int (-59)], vm := .none },
  { cls := 13, slots := #[.int (-58)], vm := .none },
  { cls := 13, slots := #[.int (-57)], vm := .none },
  { cls := 13, slots := #[.int (-56)], vm := .none },
  { cls := 13, slots := #[.int (-55)], vm := .none },
  { cls := 13, slots := #[.int (-54)], vm := .none },
  { cls := 13, slots := #[.int (-53)], vm := .none },
  { cls := 13, slots := #[.int (-52)], vm := .none },
  { cls := 13, slots := #[.int (-51)], vm := .none },
  { cls := 13, slots := #[.int (-50)], vm := .none },
  { cls := 13, slots := #[.int (-49)], vm := .none },
  { cls := 13, slots := #[.int (-48)], vm := .none },
  { cls := 13, slots := #[.int (-47)], vm := .none },
  { cls := 13, slots := #[.int (-46)], vm := .none },
  { cls := 13, slots := #[.int (-45)], vm := .none },
  { cls := 13, slots := #[.int (-44)], vm := .none },
  { cls := 13, slots := #[.int (-43)], vm := .none },
  { cls := 13, slots := #[.int (-42)], vm := .none },
  { cls := 13, slots := #[.int (-41)], vm := .none },
  { cls := 13, slots := #[.int (-40)], vm := .none },
  { cls := 13, slots := #[.int (-39)], vm := .none },
  { cls := 13, slots := #[.int (-38)], vm := .none },
  { cls := 13, slots := #[.int (-37)], vm := .none },
  { cls := 13, slots := #[.int (-36)], vm := .none },
  { cls := 13, slots := #[.int (-35)], vm := .none },
  { cls := 13, slots := #[.int (-34)], vm := .none },
  { cls := 13, slots := #[.int (-33)], vm := .none },
  { cls := 13, slots := #[.int (-32)], vm := .none },
  { cls := 13, slots := #[.int (-31)], vm := .none },
  { cls := 13, slots := #[.int (-30)], vm := .none },
  { cls := 13, slots := #[.int (-29)], vm := .none },
  { cls := 13, slots := #[.int (-28)], vm := .none },
  { cls := 13, slots := #[.int (-27)], vm := .none },
  { cls := 13, slots := #[.int (-26)], vm := .none },
  { cls := 13, slots := #[.int (-25)], vm := .none },
  { cls := 13, slots := #[.int (-24)], vm := .none },
  { cls := 13, slots := #[.int (-23)], vm := .none },
  { cls := 13, slots := #[.int (-22)], vm := .none },
  { cls := 13, slots := #[.int (-21)], vm := .none },
  { cls := 13, slots := #[.int (-20)], vm := .none },
  { cls := 13, slots := #[.int (-19)], vm := .none },
  { cls := 13, slots := #[.int (-18)], vm := .none },
  { cls := 13, slots := #[.int (-17)], vm := .none },
  { cls := 13, slots := #[.int (-16)], vm := .none },
  { cls := 13, slots := #[.int (-15)], vm := .none },
  { cls := 13, slots := #[.int (-14)], vm := .none },
  { cls := 13, slots := #[.int (-13)], vm := .none },
  { cls := 13, slots := #[.int (-12)], vm := .none },
  { cls := 13, slots := #[.int (-11)], vm := .none },
  { cls := 13, slots := #[.int (-10)], vm := .none },
  { cls := 13, slots := #[.int (-9)], vm := .none },
  { cls := 13, slots := #[.int (-8)], vm := .none },
  { cls := 13, slots := #[.int (-7)], vm := .none },
  { cls := 13, slots := #[.int (-6)], vm := .none },
  { cls := 13, slots := #[.int (-5)], vm := .none },
  { cls := 13, slots := #[.int (-4)], vm := .none },
  { cls := 13, slots := #[.int (-3)], vm := .none },
  { cls := 13, slots := #[.int (-2)], vm := .none },
  { cls := 13, slots := #[.int (-1)], vm := .none },
  { cls := 13, slots := #[.int (0)], vm := .none },
  { cls := 13, slots := #[.int (1)], vm := .none },
  { cls := 13, slots := #[.int (2)], vm := .none },
  { cls := 13, slots := #[.int (3)], vm := .none },
  { cls := 13, slots := #[.int (4)], vm := .none },
  { cls := 13, slots := #[.int (5)], vm := .none },
  { cls := 13, slots := #[.int (6)], vm := .none },
  { cls := 13, slots := #[.int (7)], vm := .none },
  { cls := 13, slots := #[.int (8)], vm := .none },
  { cls := 13, slots := #[.int (9)], vm := .none },
  { cls := 13, slots := #[.int (10)], vm := .none },
  { cls := 13, slots := #[.int (11)], vm := .none },
  { cls := 13, slots := #[.int (12)], vm := .none },
  { cls := 13, slots := #[.int (13)], vm := .none },
  { cls := 13, slots := #[.int (14)], vm := .none },
  { cls := 13, slots := #[.int (15)], vm := .none },
  { cls := 13, slots := #[.int (16)], vm := .none },
  { cls := 13, slots := #[.int (17)], vm := .none },
  { cls := 13, slots := #[.int (18)], vm := .none },
  { cls := 13, slots := #[.int (19)], vm := .none },
  { cls := 13, slots := #[.int (20)], vm := .none },
  { cls := 13, slots := #[.int (21)], vm := .none },
  { cls := 13, slots := #[.int (22)], vm := .none },
  { cls := 13, slots := #[.int (23)], vm := .none },
  { cls := 13, slots := #[.int (24)], vm := .none },
  { cls := 13, slots := #[.int (25)], vm := .none },
  { cls := 13, slots := #[.int (26)], vm := .none },
  { cls := 13, slots := #[.int (27)], vm := .none },
  { cls := 13, slots := #[.int (28)], vm := .none },
  { cls := 13, slots := #[.int (29)], vm := .none },
  { cls := 13, slots := #[.int (30)], vm := .none },
  { cls := 13, slots := #[.int (31)], vm := .none },
  { cls := 13, slots := #[.int (32)], vm := .none },
  { cls := 13, slots := #[.int (33)], vm := .none },
  { cls := 13, slots := #[.int (34)], vm := .none },
  { cls := 13, slots := #[.int (35)], vm := .none },
  { cls := 13, slots := #[.int (36)], vm := .none },
  { cls := 13, slots := #[.int (37)], vm := .none },
  { cls := 13, slots := #[.int (38)], vm := .none },
  { cls := 13, slots := #[.int (39)], vm := .none },
  { cls := 13, slots := #[.int (40)], vm := .none },
  { cls := 13, slots := #[.int (41)], vm := .none },
  { cls := 13, slots := #[.int (42)], vm := .none },
  { cls := 13, slots := #[.int (43)], vm := .none },
  { cls := 13, slots := #[.int (44)], vm := .none },
  { cls := 13, slots := #[.int (45)], vm := .none },
  { cls := 13, slots := #[.int (46)], vm := .none },
  { cls := 13, slots := #[.int (47)], vm := .none },
  { cls := 13, slots := #[.int (48)], vm := .none },
  { cls := 13, slots := #[.int (49)], vm := .none },
  { cls := 13, slots := #[.int (50)], vm := .none },
  { cls := 13, slots := #[.int (51)], vm := .none },
  { cls := 13, slots := #[.int (52)], vm := .none },
  { cls := 13, slots := #[.int (53)], vm := .none },
  { cls := 13, slots := #[.int (54)], vm := .none },
  { cls := 13, slots := #[.int (55)], vm := .none },
  { cls := 13, slots := #[.int (56)], vm := .none },
  { cls := 13, slots := #[.int (57)], vm := .none },
  { cls := 13, slots := #[.int (58)], vm := .none },
  { cls := 13, slots := #[.int (59)], vm := .none },
  { cls := 13, slots := #[.int (60)], vm := .none },
  { cls := 13, slots := #[.int (61)], vm := .none },
  { cls := 13, slots := #[.int (62)], vm := .none },
  { cls := 13, slots := #[.int (63)], vm := .none },
  { cls := 13, slots := #[.int (64)], vm := .none },
  { cls := 13, slots := #[.int (65)], vm := .none },
  { cls := 13, slots := #[.int (66)], vm := .none },
  { cls := 13, slots := #[.int (67)], vm := .none },
  { cls := 13, slots := #[.int (68)], vm := .none },
  { cls := 13, slots := #[.int (69)], vm := .none },
  { cls := 13, slots := #[.int (70)], vm := .none },
  { cls := 13, slots := #[.int (71)], vm := .none },
  { cls := 13, slots := #[.int (72)], vm := .none },
  { cls := 13, slots := #[.int (73)], vm := .none },
  { cls := 13, slots := #[.int (74)], vm := .none },
  { cls := 13, slots := #[.int (75)], vm := .none },
  { cls := 13, slots := #[.int (76)], vm := .none },
  { cls := 13, slots := #[.int (77)], vm := .none },
  { cls := 13, slots := #[.int (78)], vm := .none },
  { cls := 13, slots := #[.int (79)], vm := .none },
  { cls := 13, slots := #[.int (80)], vm := .none },
  { cls := 13, slots := #[.int (81)], vm := .none },
  { cls := 13, slots := #[.int (82)], vm := .none },
  { cls := 13, slots := #[.int (83)], vm := .none },
  { cls := 13, slots := #[.int (84)], vm := .none },
  { cls := 13, slots := #[.int (85)], vm := .none },
  { cls := 13, slots := #[.int (86)], vm := .none },
  { cls := 13, slots := #[.int (87)], vm := .none },
  { cls := 13, slots := #[.int (88)], vm := .none },
  { cls := 13, slots := #[.int (89)], vm := .none },
  { cls := 13, slots := #[.int (90)], vm := .none },
  { cls := 13, slots := #[.int (91)], vm := .none },
  { cls := 13, slots := #[.int (92)], vm := .none },
  { cls := 13, slots := #[.int (93)], vm := .none },
  { cls := 13, slots := #[.int (94)], vm := .none },
  { cls := 13, slots := #[.int (95)], vm := .none },
  { cls := 13, slots := #[.int (96)], vm := .none },
  { cls := 13, slots := #[.int (97)], vm := .none },
  { cls := 13, slots := #[.int (98)], vm := .none },
  { cls := 13, slots := #[.int (99)], vm := .none },
  { cls := 13, slots := #[.int (100)], vm := .none },
  { cls := 13, slots := #[.int (101)], vm := .none },
  { cls := 13, slots := #[.int (102)], vm := .none },
  { cls := 13, slots := #[.int (103)], vm := .none },
  { cls := 13, slots := #[.int (104)], vm := .none },
  { cls := 13, slots := #[.int (105)], vm := .none },
  { cls := 13, slots := #[.int (106)], vm := .none },
  { cls := 13, slots := #[.int (107)], vm := .none },
  { cls := 13, slots := #[.int (108)], vm := .none },
  { cls := 13, slots := #[.int (109)], vm := .none },
  { cls := 13, slots := #[.int (110)], vm := .none },
  { cls := 13, slots := #[.int (111)], vm := .none },
  { cls := 13, slots := #[.int (112)], vm := .none },
  { cls := 13, slots := #[.int (113)], vm := .none },
  { cls := 13, slots := #[.int (114)], vm := .none },
  { cls := 13, slots := #[.int (115)], vm := .none },
  { cls := 13, slots := #[.int (116)], vm := .none },
  { cls := 13, slots := #[.int (117)], vm := .none },
  { cls := 13, slots := #[.int (118)], vm := .none },
  { cls := 13, slots := #[.int (119)], vm := .none },
  { cls := 13, slots := #[.int (120)], vm := .none },
  { cls := 13, slots := #[.int (121)], vm := .none },
  { cls := 13, slots := #[.int (122)], vm := .none },
  { cls := 13, slots := #[.int (123)], vm := .none },
  { cls := 13, slots := #[.int (124)], vm := .none },
  { cls := 13, slots := #[.int (125)], vm := .none },
  { cls := 13, slots := #[.int (126)], vm := .none },
  { cls := 13, slots := #[.int (127)], vm := .none }]
def classes : Array Class := #[k0, k1, k2, k3, k4, k5, k6, k7, k8, k9, k10, k11, k12, k13, k14, k15, k16, k17, k18, k19, k20, k21, k22, k23, k24]
def interned : List (Array UInt16 × Addr) := []
def slotsUsed : Nat := 527
def theMethod : MethodId := ⟨1, 4⟩
def args0 : Array Value := #[.int 5, .int 6, .int 7, .int 8, .long 9, .int 1]
def aboutOver (below : List Frame) : State where
  vm := { classes := classes, interned := interned.toArray }
  heap := heap
  slotsUsed := slotsUsed
  threads := #[{ frames := .invoking theMethod args0 :: below }]
def below0 : List Frame := [.native { method := ⟨0, 0⟩, args := #[] }]
def about1 : State := aboutOver below0
def p0 : Program := .bare "" "" ""
def e0 : Env := launch0.env 0 0 0
theorem w_frames : about1.frames = Frame.invoking theMethod args0 :: below0 := rfl
set_option maxRecDepth 65536 in
theorem w_args : argsFit about1.vm theMethod args0 = true := by decide +kernel
set_option maxRecDepth 65536 in
theorem w_heap : heapFits about1 = true := by decide +kernel
set_option maxRecDepth 65536 in
theorem w_runnable : about1.curStatus? = some .runnable := by decide +kernel
set_option maxRecDepth 65536 in
theorem w_alone : about1.alone = true := by decide +kernel
set_option maxRecDepth 65536 in
theorem w_named : about1.methodNamed? x = some theMethod := by decide +kernel
set_option maxRecDepth 65536 in
theorem w_hears : about1.hears theMethod below0 = true := by decide +kernel
set_option maxRecDepth 65536 in
theorem w_ripe : about1.ripe theMethod args0 below0 = true := by decide +kernel
theorem w_running : about1.status = .running := rfl
set_option maxRecDepth 65536 in
theorem w_room : about1.hasRoom e0.platform room_1 = true :=
  launch0.hasRoom_least _ room_1 (by decide +kernel) (by decide +kernel) (by decide +kernel) (by decide +kernel) (by decide +kernel) (by decide +kernel)
theorem allAtoms_all (ts : List Jvm.Cond) (a : Array Jvm.Value) (st : Jvm.State) : (allAtoms ts).before a st = ts.all (fun c => c.before a st) := by
  induction ts with
  | nil => rfl
  | cons c t ih =>
    show (Jvm.Cond.and c (allAtoms t)).before a st = _
    rw [Jvm.Cond.before_and, ih, List.all_cons]
def words1 : List Jvm.Cond := Jvm.Cond.code x code maxLocals ret :: tables_1
/-- a 'code' word, met by the world's own term for the bytes: nothing is compared byte by byte -/
theorem code_word {y : MethodName} {bytes : ByteArray} {mx : Nat} {rt : Option FieldType} {a : Array Value} {s : State} {m : MethodId} {meth : Method} {c : Code} (h1 : s.methodNamed? y = some m) (h2 : s.vm.method? m = some meth) (h3 : meth.code = some c) (h4 : c.code = bytes)
    (h5 : (c.maxLocals == mx && c.exceptionTable.isEmpty && decide (c.maxStack ≤ mostOperands) && decide (meth.sig.returnType = rt) && !meth.locks && decide (parseMethodDescriptor y.desc = some meth.sig)) = true) : (Jvm.Cond.code y bytes mx rt).before a s = true := by
  simp only [Bool.and_eq_true, beq_iff_eq, Bool.not_eq_true', decide_eq_true_eq] at h5
  obtain ⟨⟨⟨⟨⟨g1, g2⟩, g3⟩, g4⟩, g5⟩, g6⟩ := h5
  simp [Cond.before, Cond.holds, Cond.value, h1, h2, h3, h4, g1, g2, g3, g4, g5, g6]
def isCode : Jvm.Cond → Bool
  | .code _ _ _ _ => true
  | _ => false
theorem all_split {L : List Jvm.Cond} {P : Jvm.Cond → Bool} (h1 : L.all (fun c => isCode c || P c) = true) (h2 : ∀ c ∈ L.filter isCode, P c = true) : L.all P = true := by
  refine List.all_eq_true.mpr fun c hc => ?_
  have h := List.all_eq_true.mp h1 c hc
  rcases Bool.eq_false_or_eq_true (isCode c) with hi | hi
  · exact h2 c (List.mem_filter.mpr ⟨hc, hi⟩)
  · simpa [hi] using h
set_option maxRecDepth 65536 in
theorem w_c0 : (Jvm.Cond.code x code maxLocals ret).before args0 about1 = true := code_word (m := ⟨1, 4⟩) (meth := k1m4) (c := k1c4) (by decide +kernel) rfl rfl rfl (by decide +kernel)
set_option maxRecDepth 65536 in
theorem w_c1 : (Jvm.Cond.code ({ cls := "com/example/ucoord/ucoord/model/StreamPartitionEqualsPinLaw", name := "str", desc := "(I)Ljava/lang/String;" } : Jvm.MethodName) method_3_code (5 : Nat) (Option.some (Jvm.ClassFile.FieldType.object "java/lang/String"))).before args0 about1 = true := code_word (m := ⟨1, 2⟩) (meth := k1m2) (c := k1c2) (by decide +kernel) rfl rfl rfl (by decide +kernel)
set_option maxRecDepth 65536 in
theorem w_c2 : (Jvm.Cond.code ({ cls := "com/example/ucoord/ucoord/model/StreamPartitionEqualsPinLaw", name := "ch", desc := "(II)C" } : Jvm.MethodName) method_2_code (2 : Nat) (Option.some Jvm.ClassFile.FieldType.char)).before args0 about1 = true := code_word (m := ⟨1, 1⟩) (meth := k1m1) (c := k1c1) (by decide +kernel) rfl rfl rfl (by decide +kernel)
set_option maxRecDepth 65536 in
theorem w_c3 : (Jvm.Cond.code ({ cls := "java/lang/String", name := "<init>", desc := "([C)V" } : Jvm.MethodName) jdk_42_method_3_code (2 : Nat) (Option.none : Option Jvm.ClassFile.FieldType)).before args0 about1 = true := code_word (m := ⟨8, 1⟩) (meth := k8m1) (c := k8c1) (by decide +kernel) rfl rfl rfl (by decide +kernel)
set_option maxRecDepth 65536 in
theorem w_c4 : (Jvm.Cond.code ({ cls := "java/lang/String", name := "<init>", desc := "([CIILjava/lang/Void;)V" } : Jvm.MethodName) jdk_42_method_149_code (6 : Nat) (Option.none : Option Jvm.ClassFile.FieldType)).before args0 about1 = true := code_word (m := ⟨8, 3⟩) (meth := k8m3) (c := k8c3) (by decide +kernel) rfl rfl rfl (by decide +kernel)
set_option maxRecDepth 65536 in
theorem w_c5 : (Jvm.Cond.code ({ cls := "java/lang/Object", name := "<init>", desc := "()V" } : Jvm.MethodName) object_method_1_code (1 : Nat) (Option.none : Option Jvm.ClassFile.FieldType)).before args0 about1 = true := code_word (m := ⟨0, 0⟩) (meth := k0m0) (c := k0c0) (by decide +kernel) rfl rfl rfl (by decide +kernel)
set_option maxRecDepth 65536 in
theorem w_c6 : (Jvm.Cond.code ({ cls := "java/lang/StringUTF16", name := "compress", desc := "([CII)[B" } : Jvm.MethodName) jdk_52_method_16_code (6 : Nat) (Option.some (Jvm.ClassFile.FieldType.array Jvm.ClassFile.FieldType.byte))).before args0 about1 = true := code_word (m := ⟨9, 2⟩) (meth := k9m2) (c := k9c2) (by decide +kernel) rfl rfl rfl (by decide +kernel)
set_option maxRecDepth 65536 in
theorem w_c7 : (Jvm.Cond.code ({ cls := "java/lang/StringUTF16", name := "compress", desc := "([CI[BII)I" } : Jvm.MethodName) jdk_52_method_21_code (7 : Nat) (Option.some Jvm.ClassFile.FieldType.int)).before args0 about1 = true := code_word (m := ⟨9, 3⟩) (meth := k9m3) (c := k9c3) (by decide +kernel) rfl rfl rfl (by decide +kernel)
set_option maxRecDepth 65536 in
theorem w_c8 : (Jvm.Cond.code ({ cls := "java/lang/StringUTF16", name := "coderFromArrayLen", desc := "([BI)B" } : Jvm.MethodName) jdk_52_method_15_code (2 : Nat) (Option.some Jvm.ClassFile.FieldType.byte)).before args0 about1 = true := code_word (m := ⟨9, 1⟩) (meth := k9m1) (c := k9c1) (by decide +kernel) rfl rfl rfl (by decide +kernel)
set_option maxRecDepth 65536 in
theorem w_c9 : (Jvm.Cond.code ({ cls := "com/example/ucoord/ucoord/model/StreamPartition", name := "<init>", desc := "(Ljava/lang/String;Ljava/lang/String;I)V" } : Jvm.MethodName) prog_39_method_1_code (4 : Nat) (Option.none : Option Jvm.ClassFile.FieldType)).before args0 about1 = true := code_word (m := ⟨2, 0⟩) (meth := k2m0) (c := k2c0) (by decide +kernel) rfl rfl rfl (by decide +kernel)
set_option maxRecDepth 65536 in
theorem w_c10 : (Jvm.Cond.code ({ cls := "java/util/Objects", name := "requireNonNull", desc := "(Ljava/lang/Object;Ljava/lang/String;)Ljava/lang/Object;" } : Jvm.MethodName) jdk_31_method_11_code (2 : Nat) (Option.some (Jvm.ClassFile.FieldType.object "java/lang/Object"))).before args0 about1 = true := code_word (m := ⟨10, 1⟩) (meth := k10m1) (c := k10c1) (by decide +kernel) rfl rfl rfl (by decide +kernel)
set_option maxRecDepth 65536 in
theorem w_c11 : (Jvm.Cond.code ({ cls := "com/example/ucoord/ucoord/model/StreamPartitionEqualsPinLaw", name := "same", desc := "(II)Z" } : Jvm.MethodName) method_4_code (3 : Nat) (Option.some Jvm.ClassFile.FieldType.boolean)).before args0 about1 = true := code_word (m := ⟨1, 3⟩) (meth := k1m3) (c := k1c3) (by decide +kernel) rfl rfl rfl (by decide +kernel)
set_option maxRecDepth 65536 in
theorem w_c12 : (Jvm.Cond.code ({ cls := "com/example/ucoord/ucoord/model/StreamPartition", name := "equals", desc := "(Ljava/lang/Object;)Z" } : Jvm.MethodName) prog_39_method_6_code (3 : Nat) (Option.some Jvm.ClassFile.FieldType.boolean)).before args0 about1 = true := code_word (m := ⟨2, 1⟩) (meth := k2m1) (c := k2c1) (by decide +kernel) rfl rfl rfl (by decide +kernel)
set_option maxRecDepth 65536 in
theorem w_c13 : (Jvm.Cond.code ({ cls := "java/lang/String", name := "equals", desc := "(Ljava/lang/Object;)Z" } : Jvm.MethodName) jdk_42_method_66_code (3 : Nat) (Option.some Jvm.ClassFile.FieldType.boolean)).before args0 about1 = true := code_word (m := ⟨8, 2⟩) (meth := k8m2) (c := k8c2) (by decide +kernel) rfl rfl rfl (by decide +kernel)
set_option maxRecDepth 65536 in
theorem w_c14 : (Jvm.Cond.code ({ cls := "java/lang/StringLatin1", name := "equals", desc := "([B[B)Z" } : Jvm.MethodName) jdk_43_method_13_code (3 : Nat) (Option.some Jvm.ClassFile.FieldType.boolean)).before args0 about1 = true := code_word (m := ⟨11, 1⟩) (meth := k11m1) (c := k11c1) (by decide +kernel) rfl rfl rfl (by decide +kernel)
set_option maxRecDepth 65536 in
theorem w_c15 : (Jvm.Cond.code ({ cls := "java/lang/Integer", name := "valueOf", desc := "(I)Ljava/lang/Integer;" } : Jvm.MethodName) jdk_33_method_22_code (1 : Nat) (Option.some (Jvm.ClassFile.FieldType.object "java/lang/Integer"))).before args0 about1 = true := code_word (m := ⟨13, 0⟩) (meth := k13m0) (c := k13c0) (by decide +kernel) rfl rfl rfl (by decide +kernel)
set_option maxRecDepth 65536 in
theorem w_c16 : (Jvm.Cond.code ({ cls := "java/lang/Integer", name := "<init>", desc := "(I)V" } : Jvm.MethodName) jdk_33_method_23_code (2 : Nat) (Option.none : Option Jvm.ClassFile.FieldType)).before args0 about1 = true := code_word (m := ⟨13, 1⟩) (meth := k13m1) (c := k13c1) (by decide +kernel) rfl rfl rfl (by decide +kernel)
set_option maxRecDepth 65536 in
theorem w_c17 : (Jvm.Cond.code ({ cls := "java/lang/Number", name := "<init>", desc := "()V" } : Jvm.MethodName) jdk_18_method_1_code (1 : Nat) (Option.none : Option Jvm.ClassFile.FieldType)).before args0 about1 = true := code_word (m := ⟨12, 0⟩) (meth := k12m0) (c := k12c0) (by decide +kernel) rfl rfl rfl (by decide +kernel)
def codes1 : List Jvm.Cond := [Jvm.Cond.code x code maxLocals ret, Jvm.Cond.code ({ cls := "com/example/ucoord/ucoord/model/StreamPartitionEqualsPinLaw", name := "str", desc := "(I)Ljava/lang/String;" } : Jvm.MethodName) method_3_code (5 : Nat) (Option.some (Jvm.ClassFile.FieldType.object "java/lang/String")), Jvm.Cond.code ({ cls := "com/example/ucoord/ucoord/model/StreamPartitionEqualsPinLaw", name := "ch", desc := "(II)C" } : Jvm.MethodName) method_2_code (2 : Nat) (Option.some Jvm.ClassFile.FieldType.char), Jvm.Cond.code ({ cls := "java/lang/String", name := "<init>", desc := "([C)V" } : Jvm.MethodName) jdk_42_method_3_code (2 : Nat) (Option.none : Option Jvm.ClassFile.FieldType), Jvm.Cond.code ({ cls := "java/lang/String", name := "<init>", desc := "([CIILjava/lang/Void;)V" } : Jvm.MethodName) jdk_42_method_149_code (6 : Nat) (Option.none : Option Jvm.ClassFile.FieldType), Jvm.Cond.code ({ cls := "java/lang/Object", name := "<init>", desc := "()V" } : Jvm.MethodName) object_method_1_code (1 : Nat) (Option.none : Option Jvm.ClassFile.FieldType), Jvm.Cond.code ({ cls := "java/lang/StringUTF16", name := "compress", desc := "([CII)[B" } : Jvm.MethodName) jdk_52_method_16_code (6 : Nat) (Option.some (Jvm.ClassFile.FieldType.array Jvm.ClassFile.FieldType.byte)), Jvm.Cond.code ({ cls := "java/lang/StringUTF16", name := "compress", desc := "([CI[BII)I" } : Jvm.MethodName) jdk_52_method_21_code (7 : Nat) (Option.some Jvm.ClassFile.FieldType.int), Jvm.Cond.code ({ cls := "java/lang/StringUTF16", name := "coderFromArrayLen", desc := "([BI)B" } : Jvm.MethodName) jdk_52_method_15_code (2 : Nat) (Option.some Jvm.ClassFile.FieldType.byte), Jvm.Cond.code ({ cls := "com/example/ucoord/ucoord/model/StreamPartition", name := "<init>", desc := "(Ljava/lang/String;Ljava/lang/String;I)V" } : Jvm.MethodName) prog_39_method_1_code (4 : Nat) (Option.none : Option Jvm.ClassFile.FieldType), Jvm.Cond.code ({ cls := "java/util/Objects", name := "requireNonNull", desc := "(Ljava/lang/Object;Ljava/lang/String;)Ljava/lang/Object;" } : Jvm.MethodName) jdk_31_method_11_code (2 : Nat) (Option.some (Jvm.ClassFile.FieldType.object "java/lang/Object")), Jvm.Cond.code ({ cls := "com/example/ucoord/ucoord/model/StreamPartitionEqualsPinLaw", name := "same", desc := "(II)Z" } : Jvm.MethodName) method_4_code (3 : Nat) (Option.some Jvm.ClassFile.FieldType.boolean), Jvm.Cond.code ({ cls := "com/example/ucoord/ucoord/model/StreamPartition", name := "equals", desc := "(Ljava/lang/Object;)Z" } : Jvm.MethodName) prog_39_method_6_code (3 : Nat) (Option.some Jvm.ClassFile.FieldType.boolean), Jvm.Cond.code ({ cls := "java/lang/String", name := "equals", desc := "(Ljava/lang/Object;)Z" } : Jvm.MethodName) jdk_42_method_66_code (3 : Nat) (Option.some Jvm.ClassFile.FieldType.boolean), Jvm.Cond.code ({ cls := "java/lang/StringLatin1", name := "equals", desc := "([B[B)Z" } : Jvm.MethodName) jdk_43_method_13_code (3 : Nat) (Option.some Jvm.ClassFile.FieldType.boolean), Jvm.Cond.code ({ cls := "java/lang/Integer", name := "valueOf", desc := "(I)Ljava/lang/Integer;" } : Jvm.MethodName) jdk_33_method_22_code (1 : Nat) (Option.some (Jvm.ClassFile.FieldType.object "java/lang/Integer")), Jvm.Cond.code ({ cls := "java/lang/Integer", name := "<init>", desc := "(I)V" } : Jvm.MethodName) jdk_33_method_23_code (2 : Nat) (Option.none : Option Jvm.ClassFile.FieldType), Jvm.Cond.code ({ cls := "java/lang/Number", name := "<init>", desc := "()V" } : Jvm.MethodName) jdk_18_method_1_code (1 : Nat) (Option.none : Option Jvm.ClassFile.FieldType)]
set_option maxRecDepth 65536 in
theorem codes_eq : words1.filter isCode = codes1 := rfl
theorem w_codes : ∀ c ∈ words1.filter isCode, c.before args0 about1 = true := by
  rw [codes_eq]
  intro c hc
  simp only [codes1, List.mem_cons, List.not_mem_nil, or_false] at hc
  rcases hc with rfl | rfl | rfl | rfl | rfl | rfl | rfl | rfl | rfl | rfl | rfl | rfl | rfl | rfl | rfl | rfl | rfl | rfl
  · exact w_c0
  · exact w_c1
  · exact w_c2
  · exact w_c3
  · exact w_c4
  · exact w_c5
  · exact w_c6
  · exact w_c7
  · exact w_c8
  · exact w_c9
  · exact w_c10
  · exact w_c11
  · exact w_c12
  · exact w_c13
  · exact w_c14
  · exact w_c15
  · exact w_c16
  · exact w_c17
set_option maxRecDepth 65536 in
theorem w_t1 : (words1.take 24).all (fun c => isCode c || c.before args0 about1) = true := by decide +kernel
set_option maxRecDepth 65536 in
theorem w_t2 : ((words1.drop 24).take 24).all (fun c => isCode c || c.before args0 about1) = true := by decide +kernel
set_option maxRecDepth 65536 in
theorem w_t3 : (((words1.drop 24).drop 24).take 24).all (fun c => isCode c || c.before args0 about1) = true := by decide +kernel
set_option maxRecDepth 65536 in
theorem w_t4 : ((((words1.drop 24).drop 24).drop 24).take 24).all (fun c => isCode c || c.before args0 about1) = true := by decide +kernel
set_option maxRecDepth 65536 in
theorem w_t5 : ((((words1.drop 24).drop 24).drop 24).drop 24).all (fun c => isCode c || c.before args0 about1) = true := by decide +kernel
theorem w_tables : (allAtoms (Jvm.Cond.code x code maxLocals ret :: tables_1)).before args0 about1 = true := by
  rw [allAtoms_all]
  show words1.all (fun c => c.before args0 about1) = true
  refine all_split ?_ w_codes
  rw [← List.take_append_drop 24 words1, List.all_append, w_t1, ← List.take_append_drop 24 (words1.drop 24), List.all_append, w_t2, ← List.take_append_drop 24 ((words1.drop 24).drop 24), List.all_append, w_t3, ← List.take_append_drop 24 (((words1.drop 24).drop 24).drop 24), List.all_append, w_t4, w_t5]
  rfl
set_option maxRecDepth 65536 in
theorem w_rest : rest_1_c.before args0 about1 = true := by decide +kernel
set_option maxRecDepth 65536 in
theorem w_case : (Jvm.Cond.and given_1 narrow_1).before args0 about1 = true := by decide +kernel
set_option maxRecDepth 65536 in
theorem w_consts : constsHeld consts_1 about1 := Jvm.Lit.constsHeldB_iff.mp (by decide +kernel)
theorem w_applies : (headSpec (Jvm.Cond.code x code maxLocals ret :: tables_1) room_1).applies x e0.platform about1 = true :=
  (Spec.applies_iff w_frames).mpr ⟨w_running, w_runnable, w_alone, w_named, w_hears, w_ripe, w_room, w_tables⟩
theorem atStart : AtStart classFile x code maxLocals ret World_1 tables_1 room_1 Calls_1 rest_1 Pre_1 launch0 p0 e0 about1 theMethod args0 below0 :=
  ⟨lists_1, trivial, launch0.admits_env _ _ _, launch0.least_env, fairChoices_fair.cas, fairChoices_fair.clock, w_frames, w_args, w_heap, w_applies, ⟨w_consts, trivial⟩, w_rest, w_case⟩
end start1
theorem witness_1 : WitnessClaimed_1 := ⟨start1.p0, start1.e0, start1.about1, start1.theMethod, start1.args0, start1.below0, start1.atStart⟩
end Jvm.Pilot.@@N@@
