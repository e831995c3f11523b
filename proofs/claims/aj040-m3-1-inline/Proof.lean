import JvmDerived
import JvmDerived.Pilot.@@N@@Statement
import JvmDerived.Pilot.@@N@@Code
set_option linter.unusedVariables false
set_option linter.unusedSimpArgs false
namespace Jvm.Own
open Sem ClassFile Op Lib Jvm.Stand Jvm.Free Jvm.LawKit Jvm.RoadKit
/-- the walk that stands in T at the frame g runs to the method's return, and F is said of the state, the value and the places -/
def OE (p : Program) (e : Env) (below : List Frame) (F : State → Option Value → List Loc → Prop) (T : State) (g : JFrame) : Prop :=
  ∃ (t : State) (v : Option Value) (L : List Loc), Steps p.tables e below (T.setTop g) t ∧ t.status = .running ∧ Ended t below (.returned v) ∧ F t v L
/-- the narrow end -/
def FN (s : State) (C S : Nat) (Q : Option Value → Heap → List Loc → Prop) : State → Option Value → List Loc → Prop := fun t v L => Q v t.heap L ∧ FrameEnd s (.returned v) t L C S
/-- the wide end: it may have interned; the tables are said too -/
def FW (s : State) (C S : Nat) (Q : Option Value → Heap → List Loc → Vm → Prop) : State → Option Value → List Loc → Prop := fun t v L => Q v t.heap L t.vm ∧ ReturnedEndW s (.returned v) t L C S
abbrev OEnds (p : Program) (e : Env) (below : List Frame) (s : State) (C S : Nat) (Q : Option Value → Heap → List Loc → Prop) (T : State) (g : JFrame) : Prop := OE p e below (FN s C S Q) T g
def OCon (l : Launch) (Z : State) (y : MethodName) (bytes : ByteArray) (maxL : Nat) (ret : Option FieldType) (ws : List Jvm.Cond) (rm : Room) (as' : Array Value) (h : Heap) (Q : Option Value → Heap → List Loc → Prop) : Prop :=
  MetFree l y (head1 (Jvm.Cond.code y bytes maxL ret :: ws) rm) (fun a U => a = as' ∧ Z.Warmed39 U.vm ∧ U.heap = h) (fun _ _ _ _ _ => True) (fun _ U o U' => ∃ v L, o = .returned v ∧ Q v U'.heap L ∧ FrameEnd U o U' L rm.cells rm.slots)
/-- a contract of a callee that may intern: V is asked of the tables at its start, Q says what they are at its end -/
def OConV (l : Launch) (Z : State) (y : MethodName) (bytes : ByteArray) (maxL : Nat) (ret : Option FieldType) (ws : List Jvm.Cond) (rm : Room) (as' : Array Value) (h : Heap) (V : Vm → Prop) (Q : Option Value → Heap → List Loc → Vm → Prop) : Prop :=
  MetFree l y (head1 (Jvm.Cond.code y bytes maxL ret :: ws) rm) (fun a U => a = as' ∧ Z.Warmed39 U.vm ∧ U.heap = h ∧ V U.vm) (fun _ _ _ _ _ => True) (fun _ U o U' => ∃ v L, o = .returned v ∧ Q v U'.heap L U'.vm ∧ ReturnedEndW U o U' L rm.cells rm.slots)
section Walk
variable {p : Program} {l : Launch} {e : Env} {R : Room} {s : State} {m : MethodId} {args : Array Value} {below : List Frame} {meth : Method} {c : Code} {T : State} {locs : List Loc} {cells slots : Nat} {C S : Nat} {Q : Option Value → Heap → List Loc → Prop} {QV : Option Value → Heap → List Loc → Vm → Prop} {V : Vm → Prop} {FF : State → Option Value → List Loc → Prop} {bytes : ByteArray} {pc n : Nat} {L : Array Slot} {st : List Value} {Z : State} {a0 : Array Value} {h : Heap} {vm0 : Vm} {k0 : Nat}
theorem OE.pre {T' : State} {g g' : JFrame} (k : OE p e below FF T' g') (f : ∀ t, Steps p.tables e below (T'.setTop g') t → Steps p.tables e below (T.setTop g) t) : OE p e below FF T g := by
  obtain ⟨t, v, L, h1, h2⟩ := k
  exact ⟨t, v, L, f _ h1, h2⟩
theorem con {y : MethodName} {maxL : Nat} {ret : Option FieldType} {ws : List Jvm.Cond} {rm : Room} {as' : Array Value} (hp : plainFor y = true)
    (body : ∀ (p : Program) (e : Env) (s : State) (m : MethodId) (below : List Frame) (meth : Method) (c : Code) (s₁ : State), p.tables.exec = Jvm.exec → c.code = bytes → c.maxLocals = maxL → Z.Warmed39 s.vm → s.vm.findClass y.cls = some m.cls → meth.name = y.name → meth.sig.returnType = ret → meth.locks = false →
      Stand p l e rm s m as' below meth c s₁ [] 0 0 → s₁.heap = h → OEnds p e below s rm.cells rm.slots Q s₁ (entryFrame m as' maxL)) : OCon l Z y bytes maxL ret ws rm as' h Q := by
  refine MetFree.of_bodySF hp hisR ?_
  intro p e s m args below meth c s₁ Bd hml hP hK
  obtain ⟨rfl, hZ, hh⟩ := hP
  obtain ⟨t, v, L, h1, h2, h3, h4, h5⟩ := body p e s m below meth c s₁ Bd.exec Bd.bytes hml hZ (findClass_of_methodNamed Bd.named) (name_of_methodNamed Bd.named Bd.method).1 Bd.returns Bd.notSynchronized (Stand.of_body Bd) (by rw [← hh, Bd.state]; rfl)
  exact ⟨t, _, h1, h2, h3, v, L, rfl, h4, h5⟩
theorem conV {y : MethodName} {maxL : Nat} {ret : Option FieldType} {ws : List Jvm.Cond} {rm : Room} {as' : Array Value} (hp : plainFor y = true)
    (body : ∀ (p : Program) (e : Env) (s : State) (m : MethodId) (below : List Frame) (meth : Method) (c : Code) (s₁ : State), p.tables.exec = Jvm.exec → c.code = bytes → c.maxLocals = maxL → Z.Warmed39 (s.setVm s.vm).vm → (s.setVm s.vm).vm.findClass y.cls = some m.cls → meth.name = y.name → meth.sig.returnType = ret → meth.locks = false →
      Stand p l e rm (s.setVm s.vm) m as' below meth c s₁ [] 0 0 → s₁.heap = h → s.heap = h → V s.vm → s.Since s.vm s.heap.size → OE p e below (FW s rm.cells rm.slots QV) s₁ (entryFrame m as' maxL)) : OConV l Z y bytes maxL ret ws rm as' h V QV := by
  refine MetFree.of_bodySF hp hisR ?_
  intro p e s m args below meth c s₁ Bd hml hP hK
  obtain ⟨rfl, hZ, hh, hV⟩ := hP
  obtain ⟨t, v, L, h1, h2, h3, h4, h5⟩ := body p e s m below meth c s₁ Bd.exec Bd.bytes hml hZ (findClass_of_methodNamed Bd.named) (name_of_methodNamed Bd.named Bd.method).1 Bd.returns Bd.notSynchronized (Stand.of_body Bd) (by rw [← hh, Bd.state]; rfl) hh hV (State.WarmedH.since (State.WarmedH.refl s) s.heap.size)
  exact ⟨t, _, h1, h2, h3, v, L, rfl, h4, h5⟩
theorem entry {mm : MethodId} {as' : Array Value} {maxL : Nat} {g : JFrame} (q : entryFrame mm as' maxL = g) (k : OE p e below FF T g) : OE p e below FF T (entryFrame mm as' maxL) := q ▸ k
theorem s_iloadN (X : Stand p l e R s m args below meth c T locs cells slots) (hx : p.tables.exec = Jvm.exec) (hby : c.code = bytes) {i : Fin 4} {x : Int32} (hd : decode bytes pc = .ok (.iload_n i, 1)) (hl : L[i.val]? = some (.val (.int x))) (hn : pc + 1 = n) (k : OE p e below FF T (mkF m n L (.int x :: st))) : OE p e below FF T (mkF m pc L (st)) := by
  subst hn
  exact k.pre fun t r => XS.iloadN X.here hx rfl (hb hby hd) hl r
theorem s_iload (X : Stand p l e R s m args below meth c T locs cells slots) (hx : p.tables.exec = Jvm.exec) (hby : c.code = bytes) {i : Nat} {x : Int32} (hd : decode bytes pc = .ok (.iload i, 2)) (hl : L[i]? = some (.val (.int x))) (hn : pc + 2 = n) (k : OE p e below FF T (mkF m n L (.int x :: st))) : OE p e below FF T (mkF m pc L (st)) := by
  subst hn
  exact k.pre fun t r => XS.iload X.here hx rfl (hb hby hd) hl r
theorem s_lloadN (X : Stand p l e R s m args below meth c T locs cells slots) (hx : p.tables.exec = Jvm.exec) (hby : c.code = bytes) {i : Fin 4} {x : Int64} (hd : decode bytes pc = .ok (.lload_n i, 1)) (hl : L[i.val]? = some (.val (.long x))) (hn : pc + 1 = n) (k : OE p e below FF T (mkF m n L (.long x :: st))) : OE p e below FF T (mkF m pc L (st)) := by
  subst hn
  exact k.pre fun t r => XT.lloadN X.here hx rfl (hb hby hd) hl r
theorem s_lload (X : Stand p l e R s m args below meth c T locs cells slots) (hx : p.tables.exec = Jvm.exec) (hby : c.code = bytes) {i : Nat} {x : Int64} (hd : decode bytes pc = .ok (.lload i, 2)) (hl : L[i]? = some (.val (.long x))) (hn : pc + 2 = n) (k : OE p e below FF T (mkF m n L (.long x :: st))) : OE p e below FF T (mkF m pc L (st)) := by
  subst hn
  exact k.pre fun t r => XT.lload X.here hx rfl (hb hby hd) hl r
theorem s_aloadN (X : Stand p l e R s m args below meth c T locs cells slots) (hx : p.tables.exec = Jvm.exec) (hby : c.code = bytes) {i : Fin 4} {x : Value} (hd : decode bytes pc = .ok (.aload_n i, 1)) (hl : L[i.val]? = some (.val x)) (hv : x.isRef = true) (hn : pc + 1 = n) (k : OE p e below FF T (mkF m n L (x :: st))) : OE p e below FF T (mkF m pc L (st)) := by
  subst hn
  exact k.pre fun t r => XS.aloadN X.here hx rfl (hb hby hd) hl hv r
theorem s_aload (X : Stand p l e R s m args below meth c T locs cells slots) (hx : p.tables.exec = Jvm.exec) (hby : c.code = bytes) {i : Nat} {x : Value} (hd : decode bytes pc = .ok (.aload i, 2)) (hl : L[i]? = some (.val x)) (hv : x.isRef = true) (hn : pc + 2 = n) (k : OE p e below FF T (mkF m n L (x :: st))) : OE p e below FF T (mkF m pc L (st)) := by
  subst hn
  exact k.pre fun t r => XS.aload X.here hx rfl (hb hby hd) hl hv r
theorem s_istoreN (X : Stand p l e R s m args below meth c T locs cells slots) (hx : p.tables.exec = Jvm.exec) (hby : c.code = bytes) {i : Fin 4} {x : Int32} {L' : Array Slot} (hd : decode bytes pc = .ok (.istore_n i, 1)) (hl : storeLocals L i.val (.int x) = some L') (hn : pc + 1 = n) (k : OE p e below FF T (mkF m n L' (st))) : OE p e below FF T (mkF m pc L (.int x :: st)) := by
  subst hn
  exact k.pre fun t r => XS.istoreN X.here hx rfl (hb hby hd) rfl hl r
theorem s_istore (X : Stand p l e R s m args below meth c T locs cells slots) (hx : p.tables.exec = Jvm.exec) (hby : c.code = bytes) {i : Nat} {x : Int32} {L' : Array Slot} (hd : decode bytes pc = .ok (.istore i, 2)) (hl : storeLocals L i (.int x) = some L') (hn : pc + 2 = n) (k : OE p e below FF T (mkF m n L' (st))) : OE p e below FF T (mkF m pc L (.int x :: st)) := by
  subst hn
  exact k.pre fun t r => XS.istore X.here hx rfl (hb hby hd) rfl hl r
theorem s_lstoreN (X : Stand p l e R s m args below meth c T locs cells slots) (hx : p.tables.exec = Jvm.exec) (hby : c.code = bytes) {i : Fin 4} {x : Int64} {L' : Array Slot} (hd : decode bytes pc = .ok (.lstore_n i, 1)) (hl : storeLocals L i.val (.long x) = some L') (hn : pc + 1 = n) (k : OE p e below FF T (mkF m n L' (st))) : OE p e below FF T (mkF m pc L (.long x :: st)) := by
  subst hn
  exact k.pre fun t r => XT.lstoreN X.here hx rfl (hb hby hd) rfl hl r
theorem s_lstore (X : Stand p l e R s m args below meth c T locs cells slots) (hx : p.tables.exec = Jvm.exec) (hby : c.code = bytes) {i : Nat} {x : Int64} {L' : Array Slot} (hd : decode bytes pc = .ok (.lstore i, 2)) (hl : storeLocals L i (.long x) = some L') (hn : pc + 2 = n) (k : OE p e below FF T (mkF m n L' (st))) : OE p e below FF T (mkF m pc L (.long x :: st)) := by
  subst hn
  exact k.pre fun t r => XT.lstore X.here hx rfl (hb hby hd) rfl hl r
theorem s_astoreN (X : Stand p l e R s m args below meth c T locs cells slots) (hx : p.tables.exec = Jvm.exec) (hby : c.code = bytes) {i : Fin 4} {x : Value} {L' : Array Slot} (hd : decode bytes pc = .ok (.astore_n i, 1)) (hv : x.isRef = true) (hl : storeLocals L i.val x = some L') (hn : pc + 1 = n) (k : OE p e below FF T (mkF m n L' (st))) : OE p e below FF T (mkF m pc L (x :: st)) := by
  subst hn
  exact k.pre fun t r => XS.astoreN X.here hx rfl (hb hby hd) rfl hv hl r
theorem s_astore (X : Stand p l e R s m args below meth c T locs cells slots) (hx : p.tables.exec = Jvm.exec) (hby : c.code = bytes) {i : Nat} {x : Value} {L' : Array Slot} (hd : decode bytes pc = .ok (.astore i, 2)) (hv : x.isRef = true) (hl : storeLocals L i x = some L') (hn : pc + 2 = n) (k : OE p e below FF T (mkF m n L' (st))) : OE p e below FF T (mkF m pc L (x :: st)) := by
  subst hn
  exact k.pre fun t r => XS.astore X.here hx rfl (hb hby hd) rfl hv hl r
theorem s_iinc (X : Stand p l e R s m args below meth c T locs cells slots) (hx : p.tables.exec = Jvm.exec) (hby : c.code = bytes) {i : Nat} {cst : Int} {x v : Int32} {L' : Array Slot} (hd : decode bytes pc = .ok (.iinc i cst, 3)) (hv : Int32.ofInt cst = v) (hi : L[i]? = some (.val (.int x))) (hl : storeLocals L i (.int (x + v)) = some L') (hn : pc + 3 = n) (k : OE p e below FF T (mkF m n L' (st))) : OE p e below FF T (mkF m pc L (st)) := by
  subst hn
  exact k.pre fun t r => XT.iincV X.here hx rfl _ (hb hby hd) hv hi hl r
theorem s_iconst (X : Stand p l e R s m args below meth c T locs cells slots) (hx : p.tables.exec = Jvm.exec) (hby : c.code = bytes) {i : Int} {v : Int32} (hd : decode bytes pc = .ok (.iconst i, 1)) (hv : Int32.ofInt i = v) (hn : pc + 1 = n) (k : OE p e below FF T (mkF m n L (.int v :: st))) : OE p e below FF T (mkF m pc L (st)) := by
  subst hn
  exact k.pre fun t r => XT.iconstV X.here hx rfl _ (hb hby hd) hv r
theorem s_bipush (X : Stand p l e R s m args below meth c T locs cells slots) (hx : p.tables.exec = Jvm.exec) (hby : c.code = bytes) {i : Int} {v : Int32} (hd : decode bytes pc = .ok (.bipush i, 2)) (hv : (Int8.ofInt i).toInt32 = v) (hn : pc + 2 = n) (k : OE p e below FF T (mkF m n L (.int v :: st))) : OE p e below FF T (mkF m pc L (st)) := by
  subst hn
  exact k.pre fun t r => XT.bipushV X.here hx rfl _ (hb hby hd) hv r
theorem s_sipush (X : Stand p l e R s m args below meth c T locs cells slots) (hx : p.tables.exec = Jvm.exec) (hby : c.code = bytes) {i : Int} {v : Int32} (hd : decode bytes pc = .ok (.sipush i, 3)) (hv : (Int16.ofInt i).toInt32 = v) (hn : pc + 3 = n) (k : OE p e below FF T (mkF m n L (.int v :: st))) : OE p e below FF T (mkF m pc L (st)) := by
  subst hn
  exact k.pre fun t r => XT.sipushV X.here hx rfl _ (hb hby hd) hv r
theorem s_lconst (X : Stand p l e R s m args below meth c T locs cells slots) (hx : p.tables.exec = Jvm.exec) (hby : c.code = bytes) {i : Fin 2} {v : Int64} (hd : decode bytes pc = .ok (.lconst i, 1)) (hv : Int64.ofNat i = v) (hn : pc + 1 = n) (k : OE p e below FF T (mkF m n L (.long v :: st))) : OE p e below FF T (mkF m pc L (st)) := by
  subst hn
  exact k.pre fun t r => XT.lconstV X.here hx rfl _ (hb hby hd) hv r
theorem s_aconstNull (X : Stand p l e R s m args below meth c T locs cells slots) (hx : p.tables.exec = Jvm.exec) (hby : c.code = bytes)  (hd : decode bytes pc = .ok (.aconst_null, 1)) (hn : pc + 1 = n) (k : OE p e below FF T (mkF m n L (.null :: st))) : OE p e below FF T (mkF m pc L (st)) := by
  subst hn
  exact k.pre fun t r => XS.aconstNull X.here hx rfl (hb hby hd)  r
theorem s_iadd (X : Stand p l e R s m args below meth c T locs cells slots) (hx : p.tables.exec = Jvm.exec) (hby : c.code = bytes) {x y : Int32} (hd : decode bytes pc = .ok (.iadd, 1)) (hn : pc + 1 = n) (k : OE p e below FF T (mkF m n L (.int (x + y) :: st))) : OE p e below FF T (mkF m pc L (.int y :: .int x :: st)) := by
  subst hn
  exact k.pre fun t r => XS.iadd X.here hx rfl (hb hby hd) rfl r
theorem s_isub (X : Stand p l e R s m args below meth c T locs cells slots) (hx : p.tables.exec = Jvm.exec) (hby : c.code = bytes) {x y : Int32} (hd : decode bytes pc = .ok (.isub, 1)) (hn : pc + 1 = n) (k : OE p e below FF T (mkF m n L (.int (x - y) :: st))) : OE p e below FF T (mkF m pc L (.int y :: .int x :: st)) := by
  subst hn
  exact k.pre fun t r => XS.isub X.here hx rfl (hb hby hd) rfl r
theorem s_iand (X : Stand p l e R s m args below meth c T locs cells slots) (hx : p.tables.exec = Jvm.exec) (hby : c.code = bytes) {x y : Int32} (hd : decode bytes pc = .ok (.iand, 1)) (hn : pc + 1 = n) (k : OE p e below FF T (mkF m n L (.int (x &&& y) :: st))) : OE p e below FF T (mkF m pc L (.int y :: .int x :: st)) := by
  subst hn
  exact k.pre fun t r => XS.iand X.here hx rfl (hb hby hd) rfl r
theorem s_imul (X : Stand p l e R s m args below meth c T locs cells slots) (hx : p.tables.exec = Jvm.exec) (hby : c.code = bytes) {x y : Int32} (hd : decode bytes pc = .ok (.imul, 1)) (hn : pc + 1 = n) (k : OE p e below FF T (mkF m n L (.int (x * y) :: st))) : OE p e below FF T (mkF m pc L (.int y :: .int x :: st)) := by
  subst hn
  exact k.pre fun t r => XS.imul X.here hx rfl (hb hby hd) rfl r
theorem s_ixor (X : Stand p l e R s m args below meth c T locs cells slots) (hx : p.tables.exec = Jvm.exec) (hby : c.code = bytes) {x y : Int32} (hd : decode bytes pc = .ok (.ixor, 1)) (hn : pc + 1 = n) (k : OE p e below FF T (mkF m n L (.int (x ^^^ y) :: st))) : OE p e below FF T (mkF m pc L (.int y :: .int x :: st)) := by
  subst hn
  exact k.pre fun t r => XT.ixor X.here hx rfl (hb hby hd) rfl r
theorem s_ior (X : Stand p l e R s m args below meth c T locs cells slots) (hx : p.tables.exec = Jvm.exec) (hby : c.code = bytes) {x y : Int32} (hd : decode bytes pc = .ok (.ior, 1)) (hn : pc + 1 = n) (k : OE p e below FF T (mkF m n L (.int (x ||| y) :: st))) : OE p e below FF T (mkF m pc L (.int y :: .int x :: st)) := by
  subst hn
  exact k.pre fun t r => XT.ior X.here hx rfl (hb hby hd) rfl r
theorem s_ishl (X : Stand p l e R s m args below meth c T locs cells slots) (hx : p.tables.exec = Jvm.exec) (hby : c.code = bytes) {x y : Int32} (hd : decode bytes pc = .ok (.ishl, 1)) (hn : pc + 1 = n) (k : OE p e below FF T (mkF m n L (.int (x <<< (y &&& 31)) :: st))) : OE p e below FF T (mkF m pc L (.int y :: .int x :: st)) := by
  subst hn
  exact k.pre fun t r => XT.ishl X.here hx rfl (hb hby hd) rfl r
theorem s_ishr (X : Stand p l e R s m args below meth c T locs cells slots) (hx : p.tables.exec = Jvm.exec) (hby : c.code = bytes) {x y : Int32} (hd : decode bytes pc = .ok (.ishr, 1)) (hn : pc + 1 = n) (k : OE p e below FF T (mkF m n L (.int (x >>> (y &&& 31)) :: st))) : OE p e below FF T (mkF m pc L (.int y :: .int x :: st)) := by
  subst hn
  exact k.pre fun t r => XT.ishr X.here hx rfl (hb hby hd) rfl r
theorem s_iushr (X : Stand p l e R s m args below meth c T locs cells slots) (hx : p.tables.exec = Jvm.exec) (hby : c.code = bytes) {x y : Int32} (hd : decode bytes pc = .ok (.iushr, 1)) (hn : pc + 1 = n) (k : OE p e below FF T (mkF m n L (.int (XT.ushr x y) :: st))) : OE p e below FF T (mkF m pc L (.int y :: .int x :: st)) := by
  subst hn
  exact k.pre fun t r => XT.iushr X.here hx rfl (hb hby hd) rfl r
theorem s_ladd (X : Stand p l e R s m args below meth c T locs cells slots) (hx : p.tables.exec = Jvm.exec) (hby : c.code = bytes) {x y : Int64} (hd : decode bytes pc = .ok (.ladd, 1)) (hn : pc + 1 = n) (k : OE p e below FF T (mkF m n L (.long (x + y) :: st))) : OE p e below FF T (mkF m pc L (.long y :: .long x :: st)) := by
  subst hn
  exact k.pre fun t r => XT.ladd X.here hx rfl (hb hby hd) rfl r
theorem s_lsub (X : Stand p l e R s m args below meth c T locs cells slots) (hx : p.tables.exec = Jvm.exec) (hby : c.code = bytes) {x y : Int64} (hd : decode bytes pc = .ok (.lsub, 1)) (hn : pc + 1 = n) (k : OE p e below FF T (mkF m n L (.long (x - y) :: st))) : OE p e below FF T (mkF m pc L (.long y :: .long x :: st)) := by
  subst hn
  exact k.pre fun t r => XT.lsub X.here hx rfl (hb hby hd) rfl r
theorem s_lmul (X : Stand p l e R s m args below meth c T locs cells slots) (hx : p.tables.exec = Jvm.exec) (hby : c.code = bytes) {x y : Int64} (hd : decode bytes pc = .ok (.lmul, 1)) (hn : pc + 1 = n) (k : OE p e below FF T (mkF m n L (.long (x * y) :: st))) : OE p e below FF T (mkF m pc L (.long y :: .long x :: st)) := by
  subst hn
  exact k.pre fun t r => XT.lmul X.here hx rfl (hb hby hd) rfl r
theorem s_land (X : Stand p l e R s m args below meth c T locs cells slots) (hx : p.tables.exec = Jvm.exec) (hby : c.code = bytes) {x y : Int64} (hd : decode bytes pc = .ok (.land, 1)) (hn : pc + 1 = n) (k : OE p e below FF T (mkF m n L (.long (x &&& y) :: st))) : OE p e below FF T (mkF m pc L (.long y :: .long x :: st)) := by
  subst hn
  exact k.pre fun t r => XT.land X.here hx rfl (hb hby hd) rfl r
theorem s_lor (X : Stand p l e R s m args below meth c T locs cells slots) (hx : p.tables.exec = Jvm.exec) (hby : c.code = bytes) {x y : Int64} (hd : decode bytes pc = .ok (.lor, 1)) (hn : pc + 1 = n) (k : OE p e below FF T (mkF m n L (.long (x ||| y) :: st))) : OE p e below FF T (mkF m pc L (.long y :: .long x :: st)) := by
  subst hn
  exact k.pre fun t r => XT.lor X.here hx rfl (hb hby hd) rfl r
theorem s_lxor (X : Stand p l e R s m args below meth c T locs cells slots) (hx : p.tables.exec = Jvm.exec) (hby : c.code = bytes) {x y : Int64} (hd : decode bytes pc = .ok (.lxor, 1)) (hn : pc + 1 = n) (k : OE p e below FF T (mkF m n L (.long (x ^^^ y) :: st))) : OE p e below FF T (mkF m pc L (.long y :: .long x :: st)) := by
  subst hn
  exact k.pre fun t r => XT.lxor X.here hx rfl (hb hby hd) rfl r
theorem s_lshl (X : Stand p l e R s m args below meth c T locs cells slots) (hx : p.tables.exec = Jvm.exec) (hby : c.code = bytes) {x : Int64} {y : Int32} (hd : decode bytes pc = .ok (.lshl, 1)) (hn : pc + 1 = n) (k : OE p e below FF T (mkF m n L (.long (x <<< (y.toInt64 &&& 63)) :: st))) : OE p e below FF T (mkF m pc L (.int y :: .long x :: st)) := by
  subst hn
  exact k.pre fun t r => XT.lshl X.here hx rfl (hb hby hd) rfl r
theorem s_lshr (X : Stand p l e R s m args below meth c T locs cells slots) (hx : p.tables.exec = Jvm.exec) (hby : c.code = bytes) {x : Int64} {y : Int32} (hd : decode bytes pc = .ok (.lshr, 1)) (hn : pc + 1 = n) (k : OE p e below FF T (mkF m n L (.long (x >>> (y.toInt64 &&& 63)) :: st))) : OE p e below FF T (mkF m pc L (.int y :: .long x :: st)) := by
  subst hn
  exact k.pre fun t r => XT.lshr X.here hx rfl (hb hby hd) rfl r
theorem s_lushr (X : Stand p l e R s m args below meth c T locs cells slots) (hx : p.tables.exec = Jvm.exec) (hby : c.code = bytes) {x : Int64} {y : Int32} (hd : decode bytes pc = .ok (.lushr, 1)) (hn : pc + 1 = n) (k : OE p e below FF T (mkF m n L (.long (XT.ushrL x y) :: st))) : OE p e below FF T (mkF m pc L (.int y :: .long x :: st)) := by
  subst hn
  exact k.pre fun t r => XT.lushr X.here hx rfl (hb hby hd) rfl r
theorem s_idiv (X : Stand p l e R s m args below meth c T locs cells slots) (hx : p.tables.exec = Jvm.exec) (hby : c.code = bytes) {x y : Int32} (hd : decode bytes pc = .ok (.idiv, 1)) (hy : y ≠ 0) (hn : pc + 1 = n) (k : OE p e below FF T (mkF m n L (.int (x / y) :: st))) : OE p e below FF T (mkF m pc L (.int y :: .int x :: st)) := by
  subst hn
  exact k.pre fun t r => XS.idiv X.here hx rfl (hb hby hd) rfl hy r
theorem s_ldiv (X : Stand p l e R s m args below meth c T locs cells slots) (hx : p.tables.exec = Jvm.exec) (hby : c.code = bytes) {x y : Int64} (hd : decode bytes pc = .ok (.ldiv, 1)) (hy : y ≠ 0) (hn : pc + 1 = n) (k : OE p e below FF T (mkF m n L (.long (x / y) :: st))) : OE p e below FF T (mkF m pc L (.long y :: .long x :: st)) := by
  subst hn
  exact k.pre fun t r => XT.ldiv X.here hx rfl (hb hby hd) rfl hy r
theorem s_irem (X : Stand p l e R s m args below meth c T locs cells slots) (hx : p.tables.exec = Jvm.exec) (hby : c.code = bytes) {x y : Int32} (hd : decode bytes pc = .ok (.irem, 1)) (hy : y ≠ 0) (hn : pc + 1 = n) (k : OE p e below FF T (mkF m n L (.int (x % y) :: st))) : OE p e below FF T (mkF m pc L (.int y :: .int x :: st)) := by
  subst hn
  exact k.pre fun t r => iremM X hx rfl (hb hby hd) rfl hy r
theorem s_lrem (X : Stand p l e R s m args below meth c T locs cells slots) (hx : p.tables.exec = Jvm.exec) (hby : c.code = bytes) {x y : Int64} (hd : decode bytes pc = .ok (.lrem, 1)) (hy : y ≠ 0) (hn : pc + 1 = n) (k : OE p e below FF T (mkF m n L (.long (x % y) :: st))) : OE p e below FF T (mkF m pc L (.long y :: .long x :: st)) := by
  subst hn
  rw [← lrem_mod] at k
  exact k.pre fun t r => XT.lrem X.here hx rfl (hb hby hd) rfl hy r
theorem s_ineg (X : Stand p l e R s m args below meth c T locs cells slots) (hx : p.tables.exec = Jvm.exec) (hby : c.code = bytes) {x : Int32} (hd : decode bytes pc = .ok (.ineg, 1)) (hn : pc + 1 = n) (k : OE p e below FF T (mkF m n L (.int (-x) :: st))) : OE p e below FF T (mkF m pc L (.int x :: st)) := by
  subst hn
  exact k.pre fun t r => XS.ineg X.here hx rfl (hb hby hd) rfl r
theorem s_lneg (X : Stand p l e R s m args below meth c T locs cells slots) (hx : p.tables.exec = Jvm.exec) (hby : c.code = bytes) {x : Int64} (hd : decode bytes pc = .ok (.lneg, 1)) (hn : pc + 1 = n) (k : OE p e below FF T (mkF m n L (.long (-x) :: st))) : OE p e below FF T (mkF m pc L (.long x :: st)) := by
  subst hn
  exact k.pre fun t r => XT.lneg X.here hx rfl (hb hby hd) rfl r
theorem s_i2l (X : Stand p l e R s m args below meth c T locs cells slots) (hx : p.tables.exec = Jvm.exec) (hby : c.code = bytes) {x : Int32} (hd : decode bytes pc = .ok (.i2l, 1)) (hn : pc + 1 = n) (k : OE p e below FF T (mkF m n L (.long x.toInt64 :: st))) : OE p e below FF T (mkF m pc L (.int x :: st)) := by
  subst hn
  exact k.pre fun t r => XT.i2l X.here hx rfl (hb hby hd) rfl r
theorem s_l2i (X : Stand p l e R s m args below meth c T locs cells slots) (hx : p.tables.exec = Jvm.exec) (hby : c.code = bytes) {x : Int64} (hd : decode bytes pc = .ok (.l2i, 1)) (hn : pc + 1 = n) (k : OE p e below FF T (mkF m n L (.int x.toInt32 :: st))) : OE p e below FF T (mkF m pc L (.long x :: st)) := by
  subst hn
  exact k.pre fun t r => XT.l2i X.here hx rfl (hb hby hd) rfl r
theorem s_i2b (X : Stand p l e R s m args below meth c T locs cells slots) (hx : p.tables.exec = Jvm.exec) (hby : c.code = bytes) {x : Int32} (hd : decode bytes pc = .ok (.i2b, 1)) (hn : pc + 1 = n) (k : OE p e below FF T (mkF m n L (.int x.toInt8.toInt32 :: st))) : OE p e below FF T (mkF m pc L (.int x :: st)) := by
  subst hn
  exact k.pre fun t r => XT.i2b X.here hx rfl (hb hby hd) rfl r
theorem s_i2c (X : Stand p l e R s m args below meth c T locs cells slots) (hx : p.tables.exec = Jvm.exec) (hby : c.code = bytes) {x : Int32} (hd : decode bytes pc = .ok (.i2c, 1)) (hn : pc + 1 = n) (k : OE p e below FF T (mkF m n L (.int x.toUInt32.toUInt16.toUInt32.toInt32 :: st))) : OE p e below FF T (mkF m pc L (.int x :: st)) := by
  subst hn
  exact k.pre fun t r => XT.i2c X.here hx rfl (hb hby hd) rfl r
theorem s_i2s (X : Stand p l e R s m args below meth c T locs cells slots) (hx : p.tables.exec = Jvm.exec) (hby : c.code = bytes) {x : Int32} (hd : decode bytes pc = .ok (.i2s, 1)) (hn : pc + 1 = n) (k : OE p e below FF T (mkF m n L (.int x.toInt16.toInt32 :: st))) : OE p e below FF T (mkF m pc L (.int x :: st)) := by
  subst hn
  exact k.pre fun t r => XT.i2s X.here hx rfl (hb hby hd) rfl r
theorem s_lcmp (X : Stand p l e R s m args below meth c T locs cells slots) (hx : p.tables.exec = Jvm.exec) (hby : c.code = bytes) {x y : Int64} (hd : decode bytes pc = .ok (.lcmp, 1)) (hn : pc + 1 = n) (k : OE p e below FF T (mkF m n L (.int (XT.cmpL x y) :: st))) : OE p e below FF T (mkF m pc L (.long y :: .long x :: st)) := by
  subst hn
  exact k.pre fun t r => XT.lcmp X.here hx rfl (hb hby hd) rfl r
theorem s_dup (X : Stand p l e R s m args below meth c T locs cells slots) (hx : p.tables.exec = Jvm.exec) (hby : c.code = bytes) {x : Value} (hd : decode bytes pc = .ok (.dup, 1)) (hc : x.category = 1) (hn : pc + 1 = n) (k : OE p e below FF T (mkF m n L (x :: x :: st))) : OE p e below FF T (mkF m pc L (x :: st)) := by
  subst hn
  exact k.pre fun t r => XS.dup X.here hx rfl (hb hby hd) rfl hc r
theorem s_pop (X : Stand p l e R s m args below meth c T locs cells slots) (hx : p.tables.exec = Jvm.exec) (hby : c.code = bytes) {x : Value} (hd : decode bytes pc = .ok (.pop, 1)) (hc : x.category = 1) (hn : pc + 1 = n) (k : OE p e below FF T (mkF m n L (st))) : OE p e below FF T (mkF m pc L (x :: st)) := by
  subst hn
  exact k.pre fun t r => XT.pop X.here hx rfl (hb hby hd) rfl hc r
theorem s_dupX1 (X : Stand p l e R s m args below meth c T locs cells slots) (hx : p.tables.exec = Jvm.exec) (hby : c.code = bytes) {x y : Value} (hd : decode bytes pc = .ok (.dup_x1, 1)) (hc : x.category = 1) (hc' : y.category = 1) (hn : pc + 1 = n) (k : OE p e below FF T (mkF m n L (x :: y :: x :: st))) : OE p e below FF T (mkF m pc L (x :: y :: st)) := by
  subst hn
  exact k.pre fun t r => XT.dupX1 X.here hx rfl (hb hby hd) rfl hc hc' r
theorem s_dup2 (X : Stand p l e R s m args below meth c T locs cells slots) (hx : p.tables.exec = Jvm.exec) (hby : c.code = bytes) {x y : Value} (hd : decode bytes pc = .ok (.dup2, 1)) (hc : x.category = 1) (hc' : y.category = 1) (hn : pc + 1 = n) (k : OE p e below FF T (mkF m n L (x :: y :: x :: y :: st))) : OE p e below FF T (mkF m pc L (x :: y :: st)) := by
  subst hn
  exact k.pre fun t r => XT.dup2 X.here hx rfl (hb hby hd) rfl hc hc' r
theorem s_dup2L (X : Stand p l e R s m args below meth c T locs cells slots) (hx : p.tables.exec = Jvm.exec) (hby : c.code = bytes) {x : Int64} (hd : decode bytes pc = .ok (.dup2, 1)) (hn : pc + 1 = n) (k : OE p e below FF T (mkF m n L (.long x :: .long x :: st))) : OE p e below FF T (mkF m pc L (.long x :: st)) := by
  subst hn
  exact k.pre fun t r => XT.dup2L X.here hx rfl (hb hby hd) rfl r
theorem s_goto (X : Stand p l e R s m args below meth c T locs cells slots) (hx : p.tables.exec = Jvm.exec) (hby : c.code = bytes) {o : Int}  (hd : decode bytes pc = .ok (.goto o, 3)) (ho : 0 ≤ (pc : Int) + o) (hn : ((pc : Int) + o).toNat = n) (k : OE p e below FF T (mkF m n L st)) : OE p e below FF T (mkF m pc L (st)) :=
  k.pre fun t r => XS.goto X.here hx rfl rfl (hb hby hd)  ho hn r
theorem s_ifY (X : Stand p l e R s m args below meth c T locs cells slots) (hx : p.tables.exec = Jvm.exec) (hby : c.code = bytes) {o : Int} {cd : ClassFile.Cond} {x : Int32} (hd : decode bytes pc = .ok (.ifCond cd o, 3)) (hc : ifCond.holds cd x = true) (ho : 0 ≤ (pc : Int) + o) (hn : ((pc : Int) + o).toNat = n) (k : OE p e below FF T (mkF m n L st)) : OE p e below FF T (mkF m pc L (.int x :: st)) :=
  k.pre fun t r => XS.ifYes X.here hx rfl rfl (hb hby hd) rfl hc ho hn r
theorem s_ifN (X : Stand p l e R s m args below meth c T locs cells slots) (hx : p.tables.exec = Jvm.exec) (hby : c.code = bytes) {o : Int} {cd : ClassFile.Cond} {x : Int32} (hd : decode bytes pc = .ok (.ifCond cd o, 3)) (hc : ifCond.holds cd x = false) (hn : pc + 3 = n) (k : OE p e below FF T (mkF m n L st)) : OE p e below FF T (mkF m pc L (.int x :: st)) := by
  subst hn
  exact k.pre fun t r => XS.ifNo X.here hx rfl (hb hby hd) rfl hc r
theorem s_icmpY (X : Stand p l e R s m args below meth c T locs cells slots) (hx : p.tables.exec = Jvm.exec) (hby : c.code = bytes) {o : Int} {cd : ClassFile.Cond} {x y : Int32} (hd : decode bytes pc = .ok (.if_icmp cd o, 3)) (hc : if_icmp.holds cd x y = true) (ho : 0 ≤ (pc : Int) + o) (hn : ((pc : Int) + o).toNat = n) (k : OE p e below FF T (mkF m n L st)) : OE p e below FF T (mkF m pc L (.int y :: .int x :: st)) :=
  k.pre fun t r => XS.icmpYes X.here hx rfl rfl (hb hby hd) rfl hc ho hn r
theorem s_icmpN (X : Stand p l e R s m args below meth c T locs cells slots) (hx : p.tables.exec = Jvm.exec) (hby : c.code = bytes) {o : Int} {cd : ClassFile.Cond} {x y : Int32} (hd : decode bytes pc = .ok (.if_icmp cd o, 3)) (hc : if_icmp.holds cd x y = false) (hn : pc + 3 = n) (k : OE p e below FF T (mkF m n L st)) : OE p e below FF T (mkF m pc L (.int y :: .int x :: st)) := by
  subst hn
  exact k.pre fun t r => XS.icmpNo X.here hx rfl (hb hby hd) rfl hc r
theorem s_acmpY (X : Stand p l e R s m args below meth c T locs cells slots) (hx : p.tables.exec = Jvm.exec) (hby : c.code = bytes) {o : Int} {cd : ClassFile.ACond} {x y : Value} (hd : decode bytes pc = .ok (.if_acmp cd o, 3)) (h1 : x.isRef = true) (h2 : y.isRef = true) (hc : XT.acmp cd x y = true) (ho : 0 ≤ (pc : Int) + o) (hn : ((pc : Int) + o).toNat = n) (k : OE p e below FF T (mkF m n L st)) : OE p e below FF T (mkF m pc L (y :: x :: st)) :=
  k.pre fun t r => XT.acmpYes X.here hx rfl rfl (hb hby hd) rfl h1 h2 hc ho hn r
theorem s_acmpN (X : Stand p l e R s m args below meth c T locs cells slots) (hx : p.tables.exec = Jvm.exec) (hby : c.code = bytes) {o : Int} {cd : ClassFile.ACond} {x y : Value} (hd : decode bytes pc = .ok (.if_acmp cd o, 3)) (h1 : x.isRef = true) (h2 : y.isRef = true) (hc : XT.acmp cd x y = false) (hn : pc + 3 = n) (k : OE p e below FF T (mkF m n L st)) : OE p e below FF T (mkF m pc L (y :: x :: st)) := by
  subst hn
  exact k.pre fun t r => XT.acmpNo X.here hx rfl (hb hby hd) rfl h1 h2 hc r
theorem s_nullY (X : Stand p l e R s m args below meth c T locs cells slots) (hx : p.tables.exec = Jvm.exec) (hby : c.code = bytes) {o : Int} {x : Value} (hd : decode bytes pc = .ok (.ifnull o, 3)) (hv : x = .null) (ho : 0 ≤ (pc : Int) + o) (hn : ((pc : Int) + o).toNat = n) (k : OE p e below FF T (mkF m n L st)) : OE p e below FF T (mkF m pc L (x :: st)) :=
  k.pre fun t r => XT.nullYes X.here hx rfl rfl (hb hby hd) rfl hv ho hn r
theorem s_nullN (X : Stand p l e R s m args below meth c T locs cells slots) (hx : p.tables.exec = Jvm.exec) (hby : c.code = bytes) {o : Int} {x : Value} (hd : decode bytes pc = .ok (.ifnull o, 3)) (h1 : x.isRef = true) (hv : ¬ x = .null) (hn : pc + 3 = n) (k : OE p e below FF T (mkF m n L st)) : OE p e below FF T (mkF m pc L (x :: st)) := by
  subst hn
  exact k.pre fun t r => XT.nullNo X.here hx rfl (hb hby hd) rfl h1 hv r
theorem s_nonnullY (X : Stand p l e R s m args below meth c T locs cells slots) (hx : p.tables.exec = Jvm.exec) (hby : c.code = bytes) {o : Int} {x : Value} (hd : decode bytes pc = .ok (.ifnonnull o, 3)) (h1 : x.isRef = true) (hv : ¬ x = .null) (ho : 0 ≤ (pc : Int) + o) (hn : ((pc : Int) + o).toNat = n) (k : OE p e below FF T (mkF m n L st)) : OE p e below FF T (mkF m pc L (x :: st)) :=
  k.pre fun t r => XT.nonnullYes X.here hx rfl rfl (hb hby hd) rfl h1 hv ho hn r
theorem s_nonnullN (X : Stand p l e R s m args below meth c T locs cells slots) (hx : p.tables.exec = Jvm.exec) (hby : c.code = bytes) {o : Int} {x : Value} (hd : decode bytes pc = .ok (.ifnonnull o, 3)) (hv : x = .null) (hn : pc + 3 = n) (k : OE p e below FF T (mkF m n L st)) : OE p e below FF T (mkF m pc L (x :: st)) := by
  subst hn
  exact k.pre fun t r => XT.nonnullNo X.here hx rfl (hb hby hd) rfl hv r
theorem s_iincC (X : Stand p l e R s m args below meth c T locs cells slots) (hx : p.tables.exec = Jvm.exec) (hby : c.code = bytes) {i : Nat} {cst : Int} {x v z : Int32} {L' : Array Slot} (hd : decode bytes pc = .ok (.iinc i cst, 3)) (hv : Int32.ofInt cst = v) (hi : L[i]? = some (.val (.int x))) (hz : x + v = z) (hl : storeLocals L i (.int z) = some L') (hn : pc + 3 = n) (k : OE p e below FF T (mkF m n L' (st))) : OE p e below FF T (mkF m pc L (st)) := by
  subst hn
  exact k.pre fun t r => XT.iincV X.here hx rfl _ (hb hby hd) hv hi (hz ▸ hl) r

theorem s_fold {x z : Int32} (hz : x = z) (k : OE p e below FF T (mkF m pc L (.int z :: st))) : OE p e below FF T (mkF m pc L (.int x :: st)) := hz ▸ k
theorem s_foldJ {x z : Int64} (hz : x = z) (k : OE p e below FF T (mkF m pc L (.long z :: st))) : OE p e below FF T (mkF m pc L (.long x :: st)) := hz ▸ k
/-- the constants of the pool -/
theorem s_ldcI (X : Stand p l e R s m args below meth c T locs cells slots) (hx : p.tables.exec = Jvm.exec) (hby : c.code = bytes) (hZ : Z.Warmed39 s.vm) {own : String} {index : Nat} {v : Int32} (hown : s.vm.findClass own = some m.cls) (w : (Jvm.Cond.constant own index v).before a0 Z = true) (hd : decode bytes pc = .ok (.ldc index, 2)) (hn : pc + 2 = n) (k : OE p e below FF T (mkF m n L (.int v :: st))) : OE p e below FF T (mkF m pc L st) := by
  subst hn
  exact k.pre fun t r => X.ldcI hx hown (mvT hZ w) rfl (hb hby hd) r
theorem s_ldcWI (X : Stand p l e R s m args below meth c T locs cells slots) (hx : p.tables.exec = Jvm.exec) (hby : c.code = bytes) (hZ : Z.Warmed39 s.vm) {own : String} {index : Nat} {v : Int32} (hown : s.vm.findClass own = some m.cls) (w : (Jvm.Cond.constant own index v).before a0 Z = true) (hd : decode bytes pc = .ok (.ldc_w index, 3)) (hn : pc + 3 = n) (k : OE p e below FF T (mkF m n L (.int v :: st))) : OE p e below FF T (mkF m pc L st) := by
  subst hn
  exact k.pre fun t r => X.ldcWI hx hown (mvT hZ w) rfl (hb hby hd) r
theorem s_ldc2J (X : Stand p l e R s m args below meth c T locs cells slots) (hx : p.tables.exec = Jvm.exec) (hby : c.code = bytes) (hZ : Z.Warmed39 s.vm) {own : String} {index : Nat} {v : Int64} (hown : s.vm.findClass own = some m.cls) (w : (Jvm.Cond.constantLong own index v).before a0 Z = true) (hd : decode bytes pc = .ok (.ldc2_w index, 3)) (hn : pc + 3 = n) (k : OE p e below FF T (mkF m n L (.long v :: st))) : OE p e below FF T (mkF m pc L st) := by
  subst hn
  exact k.pre fun t r => X.ldc2J hx hown (mvT hZ w) rfl (hb hby hd) r
/-- the returns -/
theorem s_retV (X : Stand p l e R s m args below meth c T locs cells slots) (hx : p.tables.exec = Jvm.exec) (hby : c.code = bytes) (hlk : meth.locks = false) {t : FieldType} (hret : meth.sig.returnType = some t) {w : Value} {i : Instr} (hi : (i = .ireturn ∧ (t = .int ∨ t = .boolean ∨ t = .byte ∨ t = .char ∨ t = .short) ∧ ∃ z, w = .int z) ∨ (i = .lreturn ∧ t = .long ∧ ∃ z, w = .long z) ∨ (i = .dreturn ∧ t = .double ∧ ∃ z, w = .double z) ∨ (i = .freturn ∧ t = .float ∧ ∃ z, w = .float z) ∨ (i = .areturn ∧ t.isReference = true ∧ w.isRef = true))
    (hnw : narrow t w = w) (hd : decode bytes pc = .ok (i, 1)) (hc : cells ≤ C) (hs : slots ≤ S) (q : Q (some w) T.heap locs) : OEnds p e below s C S Q T (mkF m pc L (w :: st)) := by
  obtain ⟨fs, hr, hrun, hended, hW, hsame⟩ := X.leave (v := some w) (fun h => by rw [hret] at h; cases h) hlk
  exact ⟨_, _, _, retOut X hx hret hnw hi (hb hby hd) hr, hrun, hended, q, ⟨_, rfl⟩, hW, hsame.mono hc hs⟩
theorem s_retI (X : Stand p l e R s m args below meth c T locs cells slots) (hx : p.tables.exec = Jvm.exec) (hby : c.code = bytes) (hlk : meth.locks = false) (hret : meth.sig.returnType = some .int) {z : Int32} (hd : decode bytes pc = .ok (.ireturn, 1)) (hc : cells ≤ C) (hs : slots ≤ S) (q : Q (some (.int z)) T.heap locs) : OEnds p e below s C S Q T (mkF m pc L (.int z :: st)) :=
  s_retV X hx hby hlk hret (Or.inl ⟨rfl, Or.inl rfl, _, rfl⟩) rfl hd hc hs q
theorem s_retJ (X : Stand p l e R s m args below meth c T locs cells slots) (hx : p.tables.exec = Jvm.exec) (hby : c.code = bytes) (hlk : meth.locks = false) (hret : meth.sig.returnType = some .long) {z : Int64} (hd : decode bytes pc = .ok (.lreturn, 1)) (hc : cells ≤ C) (hs : slots ≤ S) (q : Q (some (.long z)) T.heap locs) : OEnds p e below s C S Q T (mkF m pc L (.long z :: st)) :=
  s_retV X hx hby hlk hret (Or.inr (Or.inl ⟨rfl, rfl, _, rfl⟩)) rfl hd hc hs q
theorem s_retA (X : Stand p l e R s m args below meth c T locs cells slots) (hx : p.tables.exec = Jvm.exec) (hby : c.code = bytes) (hlk : meth.locks = false) {t : FieldType} (hret : meth.sig.returnType = some t) (ht : t.isReference = true) {w : Value} (hw : w.isRef = true) (hd : decode bytes pc = .ok (.areturn, 1)) (hc : cells ≤ C) (hs : slots ≤ S) (q : Q (some w) T.heap locs) : OEnds p e below s C S Q T (mkF m pc L (w :: st)) :=
  s_retV X hx hby hlk hret (Or.inr (Or.inr (Or.inr (Or.inr ⟨rfl, ht, hw⟩)))) (by cases w <;> cases t <;> simp_all [Value.isRef, FieldType.isReference, narrow]) hd hc hs q
theorem s_retN (X : Stand p l e R s m args below meth c T locs cells slots) (hx : p.tables.exec = Jvm.exec) (hby : c.code = bytes) (hlk : meth.locks = false) {t : FieldType} (hret : meth.sig.returnType = some t) (ht : t = .boolean ∨ t = .byte ∨ t = .char ∨ t = .short) {z z' : Int32} (hz : nar t z = z') (hd : decode bytes pc = .ok (.ireturn, 1)) (hc : cells ≤ C) (hs : slots ≤ S) (q : Q (some (.int z')) T.heap locs) : OEnds p e below s C S Q T (mkF m pc L (.int z :: st)) := by
  subst hz
  obtain ⟨fs, hr, hrun, hended, hW, hsame⟩ := X.leave (v := some (.int (nar t z))) (fun h => by rw [hret] at h; cases h) hlk
  exact ⟨_, _, _, retN X hx hret ht (hb hby hd) hr, hrun, hended, q, ⟨_, rfl⟩, hW, hsame.mono hc hs⟩
theorem s_ret (X : Stand p l e R s m args below meth c T locs cells slots) (hx : p.tables.exec = Jvm.exec) (hby : c.code = bytes) (hlk : meth.locks = false) (hret : meth.sig.returnType = none) (hd : decode bytes pc = .ok (.return_, 1)) (hc : cells ≤ C) (hs : slots ≤ S) (q : Q none T.heap locs) : OEnds p e below s C S Q T (mkF m pc L []) := by
  obtain ⟨fs, hr, hrun, hended, hW, hsame⟩ := X.leave (v := none) (fun _ => rfl) hlk
  exact ⟨_, _, _, X.returnOut hx hret (hb hby hd) hr, hrun, hended, q, ⟨_, rfl⟩, hW, hsame.mono hc hs⟩
/-- the returns of a walk that may have interned -/
theorem v_retV (X : Stand p l e R (s.setVm vm0) m args below meth c T locs cells slots) (hx : p.tables.exec = Jvm.exec) (hby : c.code = bytes) (hlk : meth.locks = false) {t : FieldType} (hret : meth.sig.returnType = some t) {w : Value} {i : Instr} (hi : (i = .ireturn ∧ (t = .int ∨ t = .boolean ∨ t = .byte ∨ t = .char ∨ t = .short) ∧ ∃ z, w = .int z) ∨ (i = .lreturn ∧ t = .long ∧ ∃ z, w = .long z) ∨ (i = .dreturn ∧ t = .double ∧ ∃ z, w = .double z) ∨ (i = .freturn ∧ t = .float ∧ ∃ z, w = .float z) ∨ (i = .areturn ∧ t.isReference = true ∧ w.isRef = true))
    (hnw : narrow t w = w) (hd : decode bytes pc = .ok (i, 1)) (hS : s.Since vm0 k0) (hk : k0 ≤ T.heap.size) (hc : cells ≤ C) (hs : slots ≤ S) (q : QV (some w) T.heap locs T.vm) : OE p e below (FW s C S QV) T (mkF m pc L (w :: st)) := by
  obtain ⟨fs, hr, hrun, hended, hW, hsame⟩ := X.leave (v := some w) (fun h => by rw [hret] at h; cases h) hlk
  obtain ⟨q1, q2, q3⟩ := hS.ended hW hk (hsame.mono hc hs)
  exact ⟨_, _, _, retOut X hx hret hnw hi (hb hby hd) hr, hrun, hended, q, ⟨_, rfl⟩, q1, q2, q3⟩
theorem v_retA (X : Stand p l e R (s.setVm vm0) m args below meth c T locs cells slots) (hx : p.tables.exec = Jvm.exec) (hby : c.code = bytes) (hlk : meth.locks = false) {t : FieldType} (hret : meth.sig.returnType = some t) (ht : t.isReference = true) {w : Value} (hw : w.isRef = true) (hd : decode bytes pc = .ok (.areturn, 1)) (hS : s.Since vm0 k0) (hk : k0 ≤ T.heap.size) (hc : cells ≤ C) (hs : slots ≤ S) (q : QV (some w) T.heap locs T.vm) : OE p e below (FW s C S QV) T (mkF m pc L (w :: st)) :=
  v_retV X hx hby hlk hret (Or.inr (Or.inr (Or.inr (Or.inr ⟨rfl, ht, hw⟩)))) (by cases w <;> cases t <;> simp_all [Value.isRef, FieldType.isReference, narrow]) hd hS hk hc hs q
theorem v_retN (X : Stand p l e R (s.setVm vm0) m args below meth c T locs cells slots) (hx : p.tables.exec = Jvm.exec) (hby : c.code = bytes) (hlk : meth.locks = false) {t : FieldType} (hret : meth.sig.returnType = some t) (ht : t = .boolean ∨ t = .byte ∨ t = .char ∨ t = .short) {z z' : Int32} (hz : nar t z = z') (hd : decode bytes pc = .ok (.ireturn, 1)) (hS : s.Since vm0 k0) (hk : k0 ≤ T.heap.size) (hc : cells ≤ C) (hs : slots ≤ S) (q : QV (some (.int z')) T.heap locs T.vm) : OE p e below (FW s C S QV) T (mkF m pc L (.int z :: st)) := by
  subst hz
  obtain ⟨fs, hr, hrun, hended, hW, hsame⟩ := X.leave (v := some (.int (nar t z))) (fun h => by rw [hret] at h; cases h) hlk
  obtain ⟨q1, q2, q3⟩ := hS.ended hW hk (hsame.mono hc hs)
  exact ⟨_, _, _, retN X hx hret ht (hb hby hd) hr, hrun, hended, q, ⟨_, rfl⟩, q1, q2, q3⟩
theorem v_ret (X : Stand p l e R (s.setVm vm0) m args below meth c T locs cells slots) (hx : p.tables.exec = Jvm.exec) (hby : c.code = bytes) (hlk : meth.locks = false) (hret : meth.sig.returnType = none) (hd : decode bytes pc = .ok (.return_, 1)) (hS : s.Since vm0 k0) (hk : k0 ≤ T.heap.size) (hc : cells ≤ C) (hs : slots ≤ S) (q : QV none T.heap locs T.vm) : OE p e below (FW s C S QV) T (mkF m pc L []) := by
  obtain ⟨fs, hr, hrun, hended, hW, hsame⟩ := X.leave (v := none) (fun _ => rfl) hlk
  obtain ⟨q1, q2, q3⟩ := hS.ended hW hk (hsame.mono hc hs)
  exact ⟨_, _, _, X.returnOut hx hret (hb hby hd) hr, hrun, hended, q, ⟨_, rfl⟩, q1, q2, q3⟩
/-- who pays for a call of a callee that may intern -/
theorem backOfV {y : MethodName} {yb : ByteArray} {maxL : Nat} {ret : Option FieldType} {rm : Room} {len W : Nat} {as' : Array Value} (hM : OConV l Z y yb maxL ret [] rm as' h V QV) (hZ : Z.Warmed39 s.vm) (wc : (Jvm.Cond.code y yb maxL ret).before a0 Z = true) (wz : (Jvm.Cond.initialized y.cls).before a0 Z = true) (hf : rm.frames + 1 ≤ R.frames) (hl : W + (maxL + 11) + rm.locals ≤ R.locals) (hV : ∀ vm₁, s.WarmedH vm₁ → V vm₁) :
    BackS l R p e below s args y len W (fun A a => a = as' ∧ A.U.heap = h ∧ A.cells + rm.cells ≤ R.cells ∧ A.slots + rm.slots ≤ R.slots)
      (fun A _ v B => ∃ L, QV v B.U.heap L B.U.vm ∧ B.locs = A.locs ++ L ∧ B.cells = A.cells + rm.cells ∧ B.slots = A.slots + rm.slots) :=
  BackS.of_freeW (bytes := yb) (maxL := maxL) (ret := ret) (E := fun _ _ o t L k n => k = rm.cells ∧ n = rm.slots ∧ ∃ v, o = .returned v ∧ QV v t.heap L t.vm) hM hf hl
    (fun m meth c A a Y hp => have hU : Z.Warmed39 A.U.vm := wtrans hZ Y.warmed
      ⟨by show (Jvm.Cond.and _ .tt).before a A.U = true; rw [Cond.before_and, mv hU wc]; rfl, mv hU wc, mv hU wz, hp.2.2.1, hp.2.2.2⟩)
    (fun m meth c A a g mk Y hp => ⟨hp.1, wtrans hZ Y.warmed, hp.2.1, hV _ Y.warmed⟩) (fun _ _ _ _ _ _ _ _ _ => trivial)
    (fun _ _ _ _ ⟨v, L, h1, h2, h3⟩ => ⟨L, _, _, h3, rfl, rfl, v, h1, h2⟩)
    (fun m meth c A a g mk v t L k n Y hp _ _ ⟨e1, e2, v', e3, e4⟩ => by cases e3; subst e1 e2; exact ⟨L, e4, rfl, rfl, rfl⟩)
theorem v_callS (X : Stand p l e R (s.setVm vm0) m args below meth c T locs cells slots) (hx : p.tables.exec = Jvm.exec) (hby : c.code = bytes) {ml : Nat} (hml : c.maxLocals = ml) (hZ : Z.Warmed39 (s.setVm vm0).vm) {own : String} {index : Nat} {y : MethodName} {yb : ByteArray} {maxL : Nat} {ret : Option FieldType} (hown : (s.setVm vm0).vm.findClass own = some m.cls) (w1 : (Jvm.Cond.methodLink own index y).before a0 Z = true) (w2 : (Jvm.Cond.static y).before a0 Z = true) (w3 : (Jvm.Cond.initialized y.cls).before a0 Z = true) (w4 : (Jvm.Cond.code y yb maxL ret).before a0 Z = true) (hy : y.cls ≠ "java/lang/invoke/MethodHandle" ∧ y.cls ≠ "java/lang/invoke/VarHandle")
    {rm : Room} {as' : Array Value} (K : OConV l Z y yb maxL ret [] rm as' h V QV) (hV : ∀ vm₁, (s.setVm vm0).WarmedH vm₁ → V vm₁) (hS : s.Since vm0 k0) (hk : k0 ≤ h.size) (eT : T.heap = h) (hf : rm.frames + 1 ≤ R.frames) (W : Nat) (hl : W + (maxL + 11) + rm.locals ≤ R.locals) (hc : cells + rm.cells ≤ R.cells) (hs : slots + rm.slots ≤ R.slots) {ps : List FieldType} {rt : Option FieldType} (pd : parseMethodDescriptor y.desc = some ⟨ps, rt⟩) (argsL rest : List Value) (hlen : argsL.length = ps.length) (has : argsL.toArray = as') (hst : st = argsL.reverse ++ rest) (hW : (rest.map fun v => v.category).sum ≤ W) (hsz : L.size = ml) (hd : decode bytes pc = .ok (.invokestatic index, 3)) (hn : pc + 3 = n)
    (k : ∀ T' L' v, Stand p l e R (s.setVm T'.vm) m args below meth c T' (locs ++ L') (cells + rm.cells) (slots + rm.slots) → s.Since T'.vm T'.heap.size → Z.Warmed39 (s.setVm T'.vm).vm → (s.setVm T'.vm).vm.findClass own = some m.cls → QV v T'.heap L' T'.vm → OE p e below FF T' (mkF m n L (v.toList ++ rest))) : OE p e below FF T (mkF m pc L st) := by
  subst hn has
  obtain ⟨v, _, ⟨T', L', k', n'⟩, -, X', hS', hg, ⟨Lc, hQ, l', y', z'⟩, f'⟩ := callSS X hx (y := y) hown (mvT hZ w1) (mvT hZ w2) (mvT hZ w3) (mvT hZ w4) hy (backOfV (W := W) K hZ w4 w3 hf hl hV) (g := mkF m pc L st) rfl (by rw [hml]; exact hsz) (argsL := argsL) (rest := rest) (lenOf pd hlen) hst (by show 2 * 0 + _ ≤ _; rw [Nat.mul_zero, Nat.zero_add]; exact hW) (hb hby hd) (fun _ _ => ⟨rfl, eT, hc, hs⟩)
  dsimp only [Pt.U, Pt.locs, Pt.cells, Pt.slots] at X' l' y' z' f' hQ hS' hg
  subst l' y' z'
  have hS2 : s.Since T'.vm T'.heap.size := hS.trans hS' (Nat.le_trans hk (by rw [← eT]; exact hg))
  exact (k T' Lc v X' hS2 (State.Warmed39.trans hZ hS'.1) ((hS'.1.alike.findClass _ _).trans hown) hQ).pre fun t r => f'.trans r
theorem v_callI (X : Stand p l e R (s.setVm vm0) m args below meth c T locs cells slots) (hx : p.tables.exec = Jvm.exec) (hby : c.code = bytes) {ml : Nat} (hml : c.maxLocals = ml) (hZ : Z.Warmed39 (s.setVm vm0).vm) {own : String} {index : Nat} {y : MethodName} {yb : ByteArray} {maxL : Nat} (hown : (s.setVm vm0).vm.findClass own = some m.cls) (w1 : (Jvm.Cond.methodLink own index y).before a0 Z = true) (hy1 : y.name = "<init>") (w2 : (Jvm.Cond.instanceMethod y).before a0 Z = true) (w3 : (Jvm.Cond.initialized y.cls).before a0 Z = true) (w4 : (Jvm.Cond.code y yb maxL none).before a0 Z = true) (hy : y.cls ≠ "java/lang/invoke/MethodHandle" ∧ y.cls ≠ "java/lang/invoke/VarHandle")
    {rm : Room} {as' : Array Value} (K : OConV l Z y yb maxL none [] rm as' h V QV) (hV : ∀ vm₁, (s.setVm vm0).WarmedH vm₁ → V vm₁) (hS : s.Since vm0 k0) (hk : k0 ≤ h.size) (eT : T.heap = h) (hf : rm.frames + 1 ≤ R.frames) (W : Nat) (hl : W + (maxL + 11) + rm.locals ≤ R.locals) (hc : cells + rm.cells ≤ R.cells) (hs : slots + rm.slots ≤ R.slots) {ps : List FieldType} {rt : Option FieldType} (pd : parseMethodDescriptor y.desc = some ⟨ps, rt⟩) (a : Addr) (argsL rest : List Value) (hlen : argsL.length = ps.length) (has : (Value.ref a :: argsL).toArray = as') (hst : st = argsL.reverse ++ .ref a :: rest) (hW : (rest.map fun v => v.category).sum ≤ W) (hsz : L.size = ml) (hd : decode bytes pc = .ok (.invokespecial index, 3)) (hn : pc + 3 = n)
    (k : ∀ T' L' v, Stand p l e R (s.setVm T'.vm) m args below meth c T' (locs ++ L') (cells + rm.cells) (slots + rm.slots) → s.Since T'.vm T'.heap.size → Z.Warmed39 (s.setVm T'.vm).vm → (s.setVm T'.vm).vm.findClass own = some m.cls → QV v T'.heap L' T'.vm → OE p e below FF T' (mkF m n L (v.toList ++ rest))) : OE p e below FF T (mkF m pc L st) := by
  subst hn has
  obtain ⟨v, _, ⟨T', L', k', n'⟩, -, X', hS', hg, ⟨Lc, hQ, l', y', z'⟩, f'⟩ := X.specialBackS hx (y := y) hy1 hown (mvT hZ w1) (mvT hZ w2) (mvT hZ w4) hy (backOfV (W := W) K hZ w4 w3 hf hl hV) (g := mkF m pc L st) rfl (by rw [hml]; exact hsz) (Steps.refl _) (a := a) (argsL := argsL) (rest := rest) (lenOf pd hlen) hst (by show 2 * 0 + _ ≤ _; rw [Nat.mul_zero, Nat.zero_add]; exact hW) (hb hby hd) (fun _ _ => ⟨rfl, eT, hc, hs⟩)
  dsimp only [Pt.U, Pt.locs, Pt.cells, Pt.slots] at X' l' y' z' f' hQ hS' hg
  subst l' y' z'
  have hS2 : s.Since T'.vm T'.heap.size := hS.trans hS' (Nat.le_trans hk (by rw [← eT]; exact hg))
  exact (k T' Lc v X' hS2 (State.Warmed39.trans hZ hS'.1) ((hS'.1.alike.findClass _ _).trans hown) hQ).pre fun t r => f'.trans r
theorem v_callV (X : Stand p l e R (s.setVm vm0) m args below meth c T locs cells slots) (hx : p.tables.exec = Jvm.exec) (hby : c.code = bytes) {ml : Nat} (hml : c.maxLocals = ml) (hZ : Z.Warmed39 (s.setVm vm0).vm) {own K0 : String} {index : Nat} {y z : MethodName} {yb : ByteArray} {maxL : Nat} {ret : Option FieldType} (hown : (s.setVm vm0).vm.findClass own = some m.cls) (w1 : (Jvm.Cond.methodLink own index y).before a0 Z = true) (w2 : (Jvm.Cond.declares y).before a0 Z = true) (w5 : NotFace (s.setVm vm0) y) (w6 : (Jvm.Cond.selects K0 y z).before a0 Z = true) (w7 : (Jvm.Cond.instanceMethod z).before a0 Z = true) (w3 : (Jvm.Cond.initialized z.cls).before a0 Z = true) (w4 : (Jvm.Cond.code z yb maxL ret).before a0 Z = true) (hy : y.cls ≠ "java/lang/invoke/MethodHandle" ∧ y.cls ≠ "java/lang/invoke/VarHandle")
    {rm : Room} {as' : Array Value} (K : OConV l Z z yb maxL ret [] rm as' h V QV) (hV : ∀ vm₁, (s.setVm vm0).WarmedH vm₁ → V vm₁) (hS : s.Since vm0 k0) (hk : k0 ≤ h.size) (eT : T.heap = h) (hf : rm.frames + 1 ≤ R.frames) (W : Nat) (hl : W + (maxL + 11) + rm.locals ≤ R.locals) (hc : cells + rm.cells ≤ R.cells) (hs : slots + rm.slots ≤ R.slots) {ps : List FieldType} {rt : Option FieldType} (pd : parseMethodDescriptor y.desc = some ⟨ps, rt⟩) {a : Addr} (E : Exa Z h a K0) (argsL rest : List Value) (hlen : argsL.length = ps.length) (has : (Value.ref a :: argsL).toArray = as') (hst : st = argsL.reverse ++ .ref a :: rest) (hW : (rest.map fun v => v.category).sum ≤ W) (hsz : L.size = ml) (hd : decode bytes pc = .ok (.invokevirtual index, 3)) (hn : pc + 3 = n)
    (k : ∀ T' L' v, Stand p l e R (s.setVm T'.vm) m args below meth c T' (locs ++ L') (cells + rm.cells) (slots + rm.slots) → s.Since T'.vm T'.heap.size → Z.Warmed39 (s.setVm T'.vm).vm → (s.setVm T'.vm).vm.findClass own = some m.cls → QV v T'.heap L' T'.vm → OE p e below FF T' (mkF m n L (v.toList ++ rest))) : OE p e below FF T (mkF m pc L st) := by
  subst hn has
  obtain ⟨cq, kq, qa, qb, qc⟩ := isOf hZ eT E
  obtain ⟨v, _, ⟨T', L', k', n'⟩, -, X', hS', hg, ⟨Lc, hQ, l', y', z'⟩, f'⟩ := X.virtualBackS hx (y := y) (z := z) hown (mvT hZ w1) (mvT hZ w2) w5 (mvT hZ w6) (mvT hZ w7) hy (backOfV (W := W) K hZ w4 w3 hf hl hV) qa qc (g := mkF m pc L st) rfl (by rw [hml]; exact hsz) (Steps.refl _) (argsL := argsL) (rest := rest) (lenOf pd hlen) hst (by show 2 * 0 + _ ≤ _; rw [Nat.mul_zero, Nat.zero_add]; exact hW) (hb hby hd) (fun _ _ => ⟨rfl, eT, hc, hs⟩)
  dsimp only [Pt.U, Pt.locs, Pt.cells, Pt.slots] at X' l' y' z' f' hQ hS' hg
  subst l' y' z'
  have hS2 : s.Since T'.vm T'.heap.size := hS.trans hS' (Nat.le_trans hk (by rw [← eT]; exact hg))
  exact (k T' Lc v X' hS2 (State.Warmed39.trans hZ hS'.1) ((hS'.1.alike.findClass _ _).trans hown) hQ).pre fun t r => f'.trans r
/-- 'ldc' of a String constant, its text read; the first time in the run behind the start -/
theorem v_ldc (X : Stand p l e R (s.setVm vm0) m args below meth c T locs cells slots) (hx : p.tables.exec = Jvm.exec) (hby : c.code = bytes) (hZ : Z.Warmed39 (s.setVm vm0).vm) {own text : String} {index : Nat} (hown : (s.setVm vm0).vm.findClass own = some m.cls) (w : (Jvm.Cond.stringLink own index text).before a0 Z = true) (wS : ∀ a ∈ Bundle.stringAtoms, a.before a0 Z = true) (eT : T.heap = h) (hS : s.Since vm0 k0) (hk : k0 ≤ h.size) (N : Fr s.heap.size locs) (hkeep : Ext Z.heap s.heap) {Ts : List String} (I : IB Z vm0 Ts) (hnot : text ∉ Ts) (hh : Jvm.Lit.constHeld Z own index) (hcw : Jvm.Lit.compactW.before a0 Z = true)
    {vs : List Value} {z : Int32} (ht : (∀ c ∈ text.toList, c.toNat < 256) ∧ text.toList.map (fun c => Value.int (Jvm.Lit.byteI c.toNat.toUInt16)) = vs) (hz : ¬ z < 0) (hlv : z.toNatClampNeg = vs.length) (num : Nat) (hnum : 4 * text.toList.length ≤ num) (hbig : num ≤ 536870912) (hc : cells + 2 ≤ R.cells) (hl : slots + (num + 4) ≤ R.slots) (hd : decode bytes pc = .ok (.ldc index, 2)) (hn : pc + 2 = n)
    (k : ∀ T' h' a b kb k1, Stand p l e R (s.setVm T'.vm) m args below meth c T' locs (cells + 2) (slots + (num + 4)) → T'.heap = h' → Ext h h' → s.Since T'.vm k1 → k1 ≤ h'.size → Z.Warmed39 (s.setVm T'.vm).vm → (s.setVm T'.vm).vm.findClass own = some m.cls → Exa Z h' a "java/lang/String" → Fld Z h' a "java/lang/String" "coder" "B" (.int 0) → Fld Z h' a "java/lang/String" "value" "[B" (.ref b) → Arv Z h' b kb .byte z vs (.int 0) → IB Z T'.vm (text :: Ts) → Lit (s.setVm T'.vm) own index a → OE p e below FF T' (mkF m n L (.ref a :: st))) : OE p e below FF T (mkF m pc L st) := by
  subst hn
  obtain ⟨a, T', h', k1, b, kb, r1, r2, r3, r4, r5, r6, r7, r8, r9, r10, r11, -, -, r14, r15, r16⟩ := ldcSVL X hx hZ hown w wS eT hS hk N hkeep.2 I hnot hh hcw ht hz hlv (g := mkF m pc L st) rfl (hb hby hd) hnum hbig hc hl
  exact (k T' h' a b kb k1 r1 r2 r3 r4 r5 r6 r7 r8 r9 r10 r11 r14 r15).pre r16
/-- .. and again -/
theorem v_ldcAgain (X : Stand p l e R (s.setVm vm0) m args below meth c T locs cells slots) (hx : p.tables.exec = Jvm.exec) (hby : c.code = bytes) (hZ : Z.Warmed39 (s.setVm vm0).vm) {own text : String} {index : Nat} (hown : (s.setVm vm0).vm.findClass own = some m.cls) (w : (Jvm.Cond.stringLink own index text).before a0 Z = true) {a : Addr} (Lt : Lit (s.setVm vm0) own index a) (hd : decode bytes pc = .ok (.ldc index, 2)) (hn : pc + 2 = n)
    (k : OE p e below FF T (mkF m n L (.ref a :: st))) : OE p e below FF T (mkF m pc L st) := by
  subst hn
  exact k.pre (ldcAgain X hx hZ hown w Lt (g := mkF m pc L st) rfl (hb hby hd))
theorem IB.warm {Z1 : State} {vm1 : Vm} {Ts : List String} (I : IB Z1 vm0 Ts) {s1 : State} (hW : (s1.setVm vm0).WarmedH vm1) : IB Z1 vm1 Ts := by
  obtain ⟨more, h1, h2⟩ := I
  exact ⟨more, by rw [hW.interned_eq]; exact h1, h2⟩
/-- the heap: fields -/
theorem s_getF (X : Stand p l e R s m args below meth c T locs cells slots) (hx : p.tables.exec = Jvm.exec) (hby : c.code = bytes) (hZ : Z.Warmed39 s.vm) {own O f d : String} {index : Nat} (hown : s.vm.findClass own = some m.cls) (w : (Jvm.Cond.fieldLink own index O f d).before a0 Z = true) (eT : T.heap = h) {a : Addr} {v : Value} (F : Fld Z h a O f d v) (hd : decode bytes pc = .ok (.getfield index, 3)) (hn : pc + 3 = n)
    (k : ∀ T', Stand p l e R s m args below meth c T' locs cells slots → T'.heap = h → OE p e below FF T' (mkF m n L (v :: st))) : OE p e below FF T (mkF m pc L (.ref a :: st)) := by
  subst hn
  obtain ⟨T', X', e', f'⟩ := getF X hx hZ hown (host := "") (Or.inl w) Via.refl eT F (g := mkF m pc L (.ref a :: st)) rfl rfl (hb hby hd)
  exact (k T' X' e').pre f'
theorem s_putF (X : Stand p l e R s m args below meth c T locs cells slots) (hx : p.tables.exec = Jvm.exec) (hby : c.code = bytes) (hZ : Z.Warmed39 s.vm) {own O f d K : String} {index kk : Nat} {ty : FieldType} (hown : s.vm.findClass own = some m.cls) (w : (Jvm.Cond.fieldLink own index O f d).before a0 Z = true) (eT : T.heap = h) {a : Addr} {v old : Value} (F : Fld Z h a O f d old) (E : Exa Z h a K)
    (Lw : (Jvm.Cond.lays K O f d).before a0 Z = true ∨ ((Jvm.Cond.laysFinal K O f d).before a0 Z = true ∧ own = O ∧ meth.name = "<init>")) (wi : (Jvm.Cond.instantiable K kk).before a0 Z = true) (hty : parseFieldDescriptor d = some ty) (hnw : narrow ty v = v) (hf : fits ty v = true) (hd : decode bytes pc = .ok (.putfield index, 3)) (hn : pc + 3 = n)
    (k : ∀ T' h', Stand p l e R s m args below meth c T' (locs ++ [⟨a, RoadKit.slotOf Z O f d⟩]) cells slots → T'.heap = h' → Wr h h' a (RoadKit.slotOf Z O f d) v → OE p e below FF T' (mkF m n L st)) : OE p e below FF T (mkF m pc L (v :: .ref a :: st)) := by
  subst hn
  obtain ⟨T', h', X', e', W', f'⟩ := putF X hx hZ hown (host := "") (Or.inl w) Via.refl eT F E Lw wi hty hnw hf (g := mkF m pc L (v :: .ref a :: st)) rfl rfl (hb hby hd)
  exact (k T' h' X' e' W').pre f'
theorem s_getS (X : Stand p l e R s m args below meth c T locs cells slots) (hx : p.tables.exec = Jvm.exec) (hby : c.code = bytes) (hZ : Z.Warmed39 s.vm) {own O f d : String} {index : Nat} (hown : s.vm.findClass own = some m.cls) (w : (Jvm.Cond.fieldLink own index O f d).before a0 Z = true) (eT : T.heap = h) {v : Value} (F : Sta Z h O f d v) (hd : decode bytes pc = .ok (.getstatic index, 3)) (hn : pc + 3 = n)
    (k : ∀ T', Stand p l e R s m args below meth c T' locs cells slots → T'.heap = h → OE p e below FF T' (mkF m n L (v :: st))) : OE p e below FF T (mkF m pc L st) := by
  subst hn
  obtain ⟨T', X', e', f'⟩ := getS X hx hZ hown (host := "") w Via.refl eT F (g := mkF m pc L st) rfl (hb hby hd)
  exact (k T' X' e').pre f'
theorem s_newO (X : Stand p l e R s m args below meth c T locs cells slots) (hx : p.tables.exec = Jvm.exec) (hby : c.code = bytes) (hZ : Z.Warmed39 s.vm) {own K : String} {index num : Nat} (hown : s.vm.findClass own = some m.cls) (w : (Jvm.Cond.classLink own index K).before a0 Z = true) (wi : (Jvm.Cond.instantiable K num).before a0 Z = true) (wz : (Jvm.Cond.initialized K).before a0 Z = true) (eT : T.heap = h) (hc : cells + 1 ≤ R.cells) (hl : slots + num ≤ R.slots) (hd : decode bytes pc = .ok (.new index, 3)) (hn : pc + 3 = n)
    (k : ∀ T' h' a, a = h.size → Stand p l e R s m args below meth c T' locs (cells + 1) (slots + num) → T'.heap = h' → Ext h h' → Exa Z h' a K → (∀ {O nm d : String} {ty : FieldType}, Laid Z a0 K O nm d → parseFieldDescriptor d = some ty → Fld Z h' a O nm d (defaultValue ty)) → OE p e below FF T' (mkF m n L (.ref a :: st))) : OE p e below FF T (mkF m pc L st) := by
  subst hn
  obtain ⟨T', h', X', e', E', A', D', -, f'⟩ := newO X hx hZ hown w wi wz eT (g := mkF m pc L st) rfl (hb hby hd) hc hl
  exact (k T' h' _ rfl X' e' E' A' D').pre f'
theorem s_initO (X : Stand p l e R s m args below meth c T locs cells slots) (hx : p.tables.exec = Jvm.exec) (hby : c.code = bytes) {ml : Nat} (hml : c.maxLocals = ml) (hZ : Z.Warmed39 s.vm) {own : String} {index : Nat} (hown : s.vm.findClass own = some m.cls) (w1 : (Jvm.Cond.methodLink own index Lib.objectInit).before a0 Z = true) (w2 : (Jvm.Cond.instanceMethod Lib.objectInit).before a0 Z = true) (w3 : (Jvm.Cond.code Lib.objectInit ⟨#[0xb1]⟩ 1 none).before a0 Z = true) (eT : T.heap = h) {a : Addr} (hf : 1 ≤ R.frames) (W : Nat) (hW : (st.map fun v => v.category).sum ≤ W) (hl : W + 12 ≤ R.locals) (hsz : L.size = ml) (hd : decode bytes pc = .ok (.invokespecial index, 3)) (hn : pc + 3 = n)
    (k : ∀ T', Stand p l e R s m args below meth c T' locs cells slots → T'.heap = h → OE p e below FF T' (mkF m n L st)) : OE p e below FF T (mkF m pc L (.ref a :: st)) := by
  subst hn
  obtain ⟨T', X', e', f'⟩ := initO X hx hZ hown w1 w2 w3 eT (g := mkF m pc L (.ref a :: st)) rfl (by rw [hml]; exact hsz) rfl (hb hby hd) hf (W := W) (by show 2 * 0 + _ ≤ _; rw [Nat.mul_zero, Nat.zero_add]; exact hW) hl
  exact (k T' X' e').pre f'
/-- the calls by a contract -/
theorem s_callS (X : Stand p l e R s m args below meth c T locs cells slots) (hx : p.tables.exec = Jvm.exec) (hby : c.code = bytes) {ml : Nat} (hml : c.maxLocals = ml) (hZ : Z.Warmed39 s.vm) {own : String} {index : Nat} {y : MethodName} {yb : ByteArray} {maxL : Nat} {ret : Option FieldType} (hown : s.vm.findClass own = some m.cls) (w1 : (Jvm.Cond.methodLink own index y).before a0 Z = true) (w2 : (Jvm.Cond.static y).before a0 Z = true) (w3 : (Jvm.Cond.initialized y.cls).before a0 Z = true) (w4 : (Jvm.Cond.code y yb maxL ret).before a0 Z = true) (hy : y.cls ≠ "java/lang/invoke/MethodHandle" ∧ y.cls ≠ "java/lang/invoke/VarHandle")
    {rm : Room} {as' : Array Value} {Q' : Option Value → Heap → List Loc → Prop} (K : OCon l Z y yb maxL ret [] rm as' h Q') (eT : T.heap = h) (hf : rm.frames + 1 ≤ R.frames) (W : Nat) (hl : W + (maxL + 11) + rm.locals ≤ R.locals) (hc : cells + rm.cells ≤ R.cells) (hs : slots + rm.slots ≤ R.slots) {ps : List FieldType} {rt : Option FieldType} (pd : parseMethodDescriptor y.desc = some ⟨ps, rt⟩) (argsL rest : List Value) (hlen : argsL.length = ps.length) (has : argsL.toArray = as') (hst : st = argsL.reverse ++ rest) (hW : (rest.map fun v => v.category).sum ≤ W) (hsz : L.size = ml) (hd : decode bytes pc = .ok (.invokestatic index, 3)) (hn : pc + 3 = n)
    (k : ∀ T' L' v, Stand p l e R s m args below meth c T' (locs ++ L') (cells + rm.cells) (slots + rm.slots) → Q' v T'.heap L' → OE p e below FF T' (mkF m n L (v.toList ++ rest))) : OE p e below FF T (mkF m pc L st) := by
  subst hn has
  obtain ⟨v, _, ⟨T', L', k', n'⟩, -, X', ⟨Lc, hQ, l', y', z'⟩, f'⟩ := Jvm.LawKit.callS X hx (y := y) hown (mvT hZ w1) (mvT hZ w2) (mvT hZ w3) (mvT hZ w4) hy (backOf (W := W) K hZ w4 w3 hf hl) (g := mkF m pc L st) rfl (by rw [hml]; exact hsz) (argsL := argsL) (rest := rest) (lenOf pd hlen) hst (by show 2 * 0 + _ ≤ _; rw [Nat.mul_zero, Nat.zero_add]; exact hW) (hb hby hd) (fun _ _ => ⟨rfl, eT, hc, hs⟩)
  dsimp only [Pt.U, Pt.locs, Pt.cells, Pt.slots] at X' l' y' z' f' hQ
  subst l' y' z'
  exact (k T' Lc v X' hQ).pre f'
theorem s_callI (X : Stand p l e R s m args below meth c T locs cells slots) (hx : p.tables.exec = Jvm.exec) (hby : c.code = bytes) {ml : Nat} (hml : c.maxLocals = ml) (hZ : Z.Warmed39 s.vm) {own : String} {index : Nat} {y : MethodName} {yb : ByteArray} {maxL : Nat} (hy1 : y.name = "<init>") (hown : s.vm.findClass own = some m.cls) (w1 : (Jvm.Cond.methodLink own index y).before a0 Z = true) (w2 : (Jvm.Cond.instanceMethod y).before a0 Z = true) (w3 : (Jvm.Cond.initialized y.cls).before a0 Z = true) (w4 : (Jvm.Cond.code y yb maxL none).before a0 Z = true) (hy : y.cls ≠ "java/lang/invoke/MethodHandle" ∧ y.cls ≠ "java/lang/invoke/VarHandle")
    {rm : Room} {as' : Array Value} {Q' : Option Value → Heap → List Loc → Prop} (K : OCon l Z y yb maxL none [] rm as' h Q') (eT : T.heap = h) (hf : rm.frames + 1 ≤ R.frames) (W : Nat) (hl : W + (maxL + 11) + rm.locals ≤ R.locals) (hc : cells + rm.cells ≤ R.cells) (hs : slots + rm.slots ≤ R.slots) {ps : List FieldType} {rt : Option FieldType} (pd : parseMethodDescriptor y.desc = some ⟨ps, rt⟩) (a : Addr) (argsL rest : List Value) (hlen : argsL.length = ps.length) (has : (Value.ref a :: argsL).toArray = as') (hst : st = argsL.reverse ++ .ref a :: rest) (hW : (rest.map fun v => v.category).sum ≤ W) (hsz : L.size = ml) (hd : decode bytes pc = .ok (.invokespecial index, 3)) (hn : pc + 3 = n)
    (k : ∀ T' L' v, Stand p l e R s m args below meth c T' (locs ++ L') (cells + rm.cells) (slots + rm.slots) → Q' v T'.heap L' → OE p e below FF T' (mkF m n L (v.toList ++ rest))) : OE p e below FF T (mkF m pc L st) := by
  subst hn has
  obtain ⟨v, _, ⟨T', L', k', n'⟩, -, X', ⟨Lc, hQ, l', y', z'⟩, f'⟩ := X.specialBack hx (y := y) hy1 hown (mvT hZ w1) (mvT hZ w2) (mvT hZ w4) hy (backOf (W := W) K hZ w4 w3 hf hl) (g := mkF m pc L st) rfl (by rw [hml]; exact hsz) (Steps.refl _) (a := a) (argsL := argsL) (rest := rest) (lenOf pd hlen) hst (by show 2 * 0 + _ ≤ _; rw [Nat.mul_zero, Nat.zero_add]; exact hW) (hb hby hd) (fun _ _ => ⟨rfl, eT, hc, hs⟩)
  dsimp only [Pt.U, Pt.locs, Pt.cells, Pt.slots] at X' l' y' z' f' hQ
  subst l' y' z'
  exact (k T' Lc v X' hQ).pre fun t r => f'.trans r
theorem s_callV (X : Stand p l e R s m args below meth c T locs cells slots) (hx : p.tables.exec = Jvm.exec) (hby : c.code = bytes) {ml : Nat} (hml : c.maxLocals = ml) (hZ : Z.Warmed39 s.vm) {own K0 : String} {index : Nat} {y z : MethodName} {yb : ByteArray} {maxL : Nat} {ret : Option FieldType} (hown : s.vm.findClass own = some m.cls) (w1 : (Jvm.Cond.methodLink own index y).before a0 Z = true) (w2 : (Jvm.Cond.declares y).before a0 Z = true) (w5 : NotFace s y) (w6 : (Jvm.Cond.selects K0 y z).before a0 Z = true) (w7 : (Jvm.Cond.instanceMethod z).before a0 Z = true) (w3 : (Jvm.Cond.initialized z.cls).before a0 Z = true) (w4 : (Jvm.Cond.code z yb maxL ret).before a0 Z = true) (hy : y.cls ≠ "java/lang/invoke/MethodHandle" ∧ y.cls ≠ "java/lang/invoke/VarHandle")
    {rm : Room} {as' : Array Value} {Q' : Option Value → Heap → List Loc → Prop} (K : OCon l Z z yb maxL ret [] rm as' h Q') (eT : T.heap = h) (hf : rm.frames + 1 ≤ R.frames) (W : Nat) (hl : W + (maxL + 11) + rm.locals ≤ R.locals) (hc : cells + rm.cells ≤ R.cells) (hs : slots + rm.slots ≤ R.slots) {ps : List FieldType} {rt : Option FieldType} (pd : parseMethodDescriptor y.desc = some ⟨ps, rt⟩) {a : Addr} (E : Exa Z h a K0) (argsL rest : List Value) (hlen : argsL.length = ps.length) (has : (Value.ref a :: argsL).toArray = as') (hst : st = argsL.reverse ++ .ref a :: rest) (hW : (rest.map fun v => v.category).sum ≤ W) (hsz : L.size = ml) (hd : decode bytes pc = .ok (.invokevirtual index, 3)) (hn : pc + 3 = n)
    (k : ∀ T' L' v, Stand p l e R s m args below meth c T' (locs ++ L') (cells + rm.cells) (slots + rm.slots) → Q' v T'.heap L' → OE p e below FF T' (mkF m n L (v.toList ++ rest))) : OE p e below FF T (mkF m pc L st) := by
  subst hn has
  obtain ⟨cq, kq, qa, qb, qc⟩ := isOf hZ eT E
  obtain ⟨v, _, ⟨T', L', k', n'⟩, -, X', ⟨Lc, hQ, l', y', z'⟩, f'⟩ := X.virtualBack hx (y := y) (z := z) hown (mvT hZ w1) (mvT hZ w2) w5 (mvT hZ w6) (mvT hZ w7) hy (backOf (W := W) K hZ w4 w3 hf hl) qa qc (g := mkF m pc L st) rfl (by rw [hml]; exact hsz) (Steps.refl _) (argsL := argsL) (rest := rest) (lenOf pd hlen) hst (by show 2 * 0 + _ ≤ _; rw [Nat.mul_zero, Nat.zero_add]; exact hW) (hb hby hd) (fun _ _ => ⟨rfl, eT, hc, hs⟩)
  dsimp only [Pt.U, Pt.locs, Pt.cells, Pt.slots] at X' l' y' z' f' hQ
  subst l' y' z'
  exact (k T' Lc v X' hQ).pre fun t r => f'.trans r
/-- arrays -/
theorem s_newP (X : Stand p l e R s m args below meth c T locs cells slots) (hx : p.tables.exec = Jvm.exec) (hby : c.code = bytes) (hZ : Z.Warmed39 s.vm) {aty : ArrayType} (w : (Jvm.Cond.arrayClass (newarray.typeOf aty)).before a0 Z = true) {ty : FieldType} (hty : newarray.typeOf aty = ty) (eT : T.heap = h) {num : Int32} (hnn : ¬ num < 0) (cap : Nat) (hcap : num.toNatClampNeg ≤ cap) (hb8 : cap * 8 ≤ 536870912) (hc : cells + 1 ≤ R.cells) (hl : slots + cap ≤ R.slots) (hd : decode bytes pc = .ok (.newarray aty, 2)) (hn : pc + 2 = n)
    (k : ∀ T' h' cA a, a = h.size → Stand p l e R s m args below meth c T' locs (cells + 1) (slots + cap) → T'.heap = h' → Ext h h' → Arr Z h' a (newA cA ty num) ty → OE p e below FF T' (mkF m n L (.ref a :: st))) : OE p e below FF T (mkF m pc L (.int num :: st)) := by
  subst hn hty
  obtain ⟨T', h', cA, X', e', E', A', f'⟩ := newP X hx hZ w eT (g := mkF m pc L (.int num :: st)) rfl (hb hby hd) rfl hnn hcap hb8 hc hl
  exact (k T' h' cA _ rfl X' e' E' A').pre f'
theorem s_arraylength (X : Stand p l e R s m args below meth c T locs cells slots) (hx : p.tables.exec = Jvm.exec) (hby : c.code = bytes) (hZ : Z.Warmed39 s.vm) (eT : T.heap = h) {a : Addr} {cl : Cell} {ty : FieldType} (A : Arr Z h a cl ty) {z : Int32} (hsz : cl.slots.size = z.toNatClampNeg) (hz : ¬ z < 0) (hd : decode bytes pc = .ok (.arraylength, 1)) (hn : pc + 1 = n)
    (k : OE p e below FF T (mkF m n L (.int z :: st))) : OE p e below FF T (mkF m pc L (.ref a :: st)) := by
  subst hn
  rw [← len_of hsz hz] at k
  exact k.pre fun t r => X.arraylength hx (by rw [eT]; exact A.1) (State.isArrayOf_alike hZ.alike A.2.1) (g := mkF m pc L (.ref a :: st)) rfl rfl (hb hby hd) _ r
theorem s_iaload (X : Stand p l e R s m args below meth c T locs cells slots) (hx : p.tables.exec = Jvm.exec) (hby : c.code = bytes) (hZ : Z.Warmed39 s.vm) (eT : T.heap = h) {a : Addr} {cl : Cell} (A : Arr Z h a cl .int) {j : Int32} (hj : ¬ (j < 0 ∨ cl.slots.size ≤ j.toNatClampNeg)) {v : Value} (hv : cl.slots[j.toNatClampNeg]? = some v) (hd : decode bytes pc = .ok (.iaload, 1)) (hn : pc + 1 = n)
    (k : OE p e below FF T (mkF m n L (v :: st))) : OE p e below FF T (mkF m pc L (.int j :: .ref a :: st)) := by
  subst hn
  exact k.pre fun t r => X.iaload hx (by rw [eT]; exact A.1) (State.isArrayOf_alike hZ.alike A.2.1) A.2.2 hj hv (g := mkF m pc L (.int j :: .ref a :: st)) rfl rfl (hb hby hd) _ r
theorem s_baload (X : Stand p l e R s m args below meth c T locs cells slots) (hx : p.tables.exec = Jvm.exec) (hby : c.code = bytes) (hZ : Z.Warmed39 s.vm) (eT : T.heap = h) {a : Addr} {cl : Cell} (A : Arr Z h a cl .byte) {j : Int32} (hj : ¬ (j < 0 ∨ cl.slots.size ≤ j.toNatClampNeg)) {v : Value} (hv : cl.slots[j.toNatClampNeg]? = some v) (hd : decode bytes pc = .ok (.baload, 1)) (hn : pc + 1 = n)
    (k : OE p e below FF T (mkF m n L (v :: st))) : OE p e below FF T (mkF m pc L (.int j :: .ref a :: st)) := by
  subst hn
  exact k.pre fun t r => X.baloadBytes hx (by rw [eT]; exact A.1) (State.isArrayOf_alike hZ.alike A.2.1) A.2.2 hj hv (g := mkF m pc L (.int j :: .ref a :: st)) rfl rfl (hb hby hd) _ r
theorem s_caload (X : Stand p l e R s m args below meth c T locs cells slots) (hx : p.tables.exec = Jvm.exec) (hby : c.code = bytes) (hZ : Z.Warmed39 s.vm) (eT : T.heap = h) {a : Addr} {cl : Cell} (A : Arr Z h a cl .char) {j : Int32} (hj : ¬ (j < 0 ∨ cl.slots.size ≤ j.toNatClampNeg)) {v : Value} (hv : cl.slots[j.toNatClampNeg]? = some v) (hd : decode bytes pc = .ok (.caload, 1)) (hn : pc + 1 = n)
    (k : OE p e below FF T (mkF m n L (v :: st))) : OE p e below FF T (mkF m pc L (.int j :: .ref a :: st)) := by
  subst hn
  exact k.pre fun t r => X.caload hx (by rw [eT]; exact A.1) (State.isArrayOf_alike hZ.alike A.2.1) A.2.2 hj hv (g := mkF m pc L (.int j :: .ref a :: st)) rfl rfl (hb hby hd) _ r
theorem s_iastore (X : Stand p l e R s m args below meth c T locs cells slots) (hx : p.tables.exec = Jvm.exec) (hby : c.code = bytes) (hZ : Z.Warmed39 s.vm) (eT : T.heap = h) {a : Addr} {cl : Cell} (A : Arr Z h a cl .int) {j x : Int32} (hj : ¬ (j < 0 ∨ cl.slots.size ≤ j.toNatClampNeg)) (hd : decode bytes pc = .ok (.iastore, 1)) (hn : pc + 1 = n)
    (k : ∀ T' h', Stand p l e R s m args below meth c T' (locs ++ [⟨a, j.toNatClampNeg⟩]) cells slots → T'.heap = h' → Wr h h' a j.toNatClampNeg (.int x) → OE p e below FF T' (mkF m n L st)) : OE p e below FF T (mkF m pc L (.int x :: .int j :: .ref a :: st)) := by
  subst hn
  obtain ⟨T', h', X', e', W', f'⟩ := stI X hx hZ eT A hj (g := mkF m pc L (.int x :: .int j :: .ref a :: st)) rfl rfl (hb hby hd)
  exact (k T' h' X' e' W').pre f'
theorem s_bastore (X : Stand p l e R s m args below meth c T locs cells slots) (hx : p.tables.exec = Jvm.exec) (hby : c.code = bytes) (hZ : Z.Warmed39 s.vm) (eT : T.heap = h) {a : Addr} {cl : Cell} (A : Arr Z h a cl .byte) {j x : Int32} (hj : ¬ (j < 0 ∨ cl.slots.size ≤ j.toNatClampNeg)) (hd : decode bytes pc = .ok (.bastore, 1)) (hn : pc + 1 = n)
    (k : ∀ T' h', Stand p l e R s m args below meth c T' (locs ++ [⟨a, j.toNatClampNeg⟩]) cells slots → T'.heap = h' → Wr h h' a j.toNatClampNeg (.int (nar .byte x)) → OE p e below FF T' (mkF m n L st)) : OE p e below FF T (mkF m pc L (.int x :: .int j :: .ref a :: st)) := by
  subst hn
  obtain ⟨T', h', X', e', W', f'⟩ := stB X hx hZ eT A hj (g := mkF m pc L (.int x :: .int j :: .ref a :: st)) rfl rfl (hb hby hd)
  exact (k T' h' X' e' W').pre f'
theorem s_castore (X : Stand p l e R s m args below meth c T locs cells slots) (hx : p.tables.exec = Jvm.exec) (hby : c.code = bytes) (hZ : Z.Warmed39 s.vm) (eT : T.heap = h) {a : Addr} {cl : Cell} (A : Arr Z h a cl .char) {j x : Int32} (hj : ¬ (j < 0 ∨ cl.slots.size ≤ j.toNatClampNeg)) (hd : decode bytes pc = .ok (.castore, 1)) (hn : pc + 1 = n)
    (k : ∀ T' h', Stand p l e R s m args below meth c T' (locs ++ [⟨a, j.toNatClampNeg⟩]) cells slots → T'.heap = h' → Wr h h' a j.toNatClampNeg (.int (nar .char x)) → OE p e below FF T' (mkF m n L st)) : OE p e below FF T (mkF m pc L (.int x :: .int j :: .ref a :: st)) := by
  subst hn
  obtain ⟨T', h', X', e', W', f'⟩ := stC X hx hZ eT A hj (g := mkF m pc L (.int x :: .int j :: .ref a :: st)) rfl rfl (hb hby hd)
  exact (k T' h' X' e' W').pre f'
theorem s_bastoreC (X : Stand p l e R s m args below meth c T locs cells slots) (hx : p.tables.exec = Jvm.exec) (hby : c.code = bytes) (hZ : Z.Warmed39 s.vm) (eT : T.heap = h) {a : Addr} {cl : Cell} (A : Arr Z h a cl .byte) {j x : Int32} (i : Nat) (hj : ¬ j < 0) (hi : j.toNatClampNeg = i) (hs : i < cl.slots.size) (hd : decode bytes pc = .ok (.bastore, 1)) (hn : pc + 1 = n)
    (k : ∀ T' h', Stand p l e R s m args below meth c T' (locs ++ [⟨a, i⟩]) cells slots → T'.heap = h' → Wr h h' a i (.int (nar .byte x)) → OE p e below FF T' (mkF m n L st)) : OE p e below FF T (mkF m pc L (.int x :: .int j :: .ref a :: st)) := by
  subst hi
  exact s_bastore X hx hby hZ eT A (fun q => q.elim hj (Nat.not_le.mpr hs)) hd hn k
theorem s_iastoreC (X : Stand p l e R s m args below meth c T locs cells slots) (hx : p.tables.exec = Jvm.exec) (hby : c.code = bytes) (hZ : Z.Warmed39 s.vm) (eT : T.heap = h) {a : Addr} {cl : Cell} (A : Arr Z h a cl .int) {j x : Int32} (i : Nat) (hj : ¬ j < 0) (hi : j.toNatClampNeg = i) (hs : i < cl.slots.size) (hd : decode bytes pc = .ok (.iastore, 1)) (hn : pc + 1 = n)
    (k : ∀ T' h', Stand p l e R s m args below meth c T' (locs ++ [⟨a, i⟩]) cells slots → T'.heap = h' → Wr h h' a i (.int x) → OE p e below FF T' (mkF m n L st)) : OE p e below FF T (mkF m pc L (.int x :: .int j :: .ref a :: st)) := by
  subst hi
  exact s_iastore X hx hby hZ eT A (fun q => q.elim hj (Nat.not_le.mpr hs)) hd hn k
theorem s_castoreC (X : Stand p l e R s m args below meth c T locs cells slots) (hx : p.tables.exec = Jvm.exec) (hby : c.code = bytes) (hZ : Z.Warmed39 s.vm) (eT : T.heap = h) {a : Addr} {cl : Cell} (A : Arr Z h a cl .char) {j x : Int32} (i : Nat) (hj : ¬ j < 0) (hi : j.toNatClampNeg = i) (hs : i < cl.slots.size) (hd : decode bytes pc = .ok (.castore, 1)) (hn : pc + 1 = n)
    (k : ∀ T' h', Stand p l e R s m args below meth c T' (locs ++ [⟨a, i⟩]) cells slots → T'.heap = h' → Wr h h' a i (.int (nar .char x)) → OE p e below FF T' (mkF m n L st)) : OE p e below FF T (mkF m pc L (.int x :: .int j :: .ref a :: st)) := by
  subst hi
  exact s_castore X hx hby hZ eT A (fun q => q.elim hj (Nat.not_le.mpr hs)) hd hn k
theorem s_baloadC (X : Stand p l e R s m args below meth c T locs cells slots) (hx : p.tables.exec = Jvm.exec) (hby : c.code = bytes) (hZ : Z.Warmed39 s.vm) (eT : T.heap = h) {a : Addr} {cl : Cell} (A : Arr Z h a cl .byte) {j : Int32} (i : Nat) (hj : ¬ j < 0) (hi : j.toNatClampNeg = i) (hs : i < cl.slots.size) {v : Value} (hv : cl.slots[i]? = some v) (hd : decode bytes pc = .ok (.baload, 1)) (hn : pc + 1 = n)
    (k : OE p e below FF T (mkF m n L (v :: st))) : OE p e below FF T (mkF m pc L (.int j :: .ref a :: st)) := by
  subst hi
  exact s_baload X hx hby hZ eT A (fun q => q.elim hj (Nat.not_le.mpr hs)) hv hd hn k
theorem s_caloadC (X : Stand p l e R s m args below meth c T locs cells slots) (hx : p.tables.exec = Jvm.exec) (hby : c.code = bytes) (hZ : Z.Warmed39 s.vm) (eT : T.heap = h) {a : Addr} {cl : Cell} (A : Arr Z h a cl .char) {j : Int32} (i : Nat) (hj : ¬ j < 0) (hi : j.toNatClampNeg = i) (hs : i < cl.slots.size) {v : Value} (hv : cl.slots[i]? = some v) (hd : decode bytes pc = .ok (.caload, 1)) (hn : pc + 1 = n)
    (k : OE p e below FF T (mkF m n L (v :: st))) : OE p e below FF T (mkF m pc L (.int j :: .ref a :: st)) := by
  subst hi
  exact s_caload X hx hby hZ eT A (fun q => q.elim hj (Nat.not_le.mpr hs)) hv hd hn k
theorem s_ialoadC (X : Stand p l e R s m args below meth c T locs cells slots) (hx : p.tables.exec = Jvm.exec) (hby : c.code = bytes) (hZ : Z.Warmed39 s.vm) (eT : T.heap = h) {a : Addr} {cl : Cell} (A : Arr Z h a cl .int) {j : Int32} (i : Nat) (hj : ¬ j < 0) (hi : j.toNatClampNeg = i) (hs : i < cl.slots.size) {v : Value} (hv : cl.slots[i]? = some v) (hd : decode bytes pc = .ok (.iaload, 1)) (hn : pc + 1 = n)
    (k : OE p e below FF T (mkF m n L (v :: st))) : OE p e below FF T (mkF m pc L (.int j :: .ref a :: st)) := by
  subst hi
  exact s_iaload X hx hby hZ eT A (fun q => q.elim hj (Nat.not_le.mpr hs)) hv hd hn k
theorem set_hit {cl : Cell} {i : Nat} {v : Value} (hs : i < cl.slots.size) : (cl.setSlot i v).slots[i]? = some v := by simp [Cell.setSlot, hs]
theorem set_mis {cl : Cell} {i j : Nat} {v : Value} {w : Option Value} (hv : cl.slots[j]? = w) (q : i ≠ j) : (cl.setSlot i v).slots[j]? = w := by
  rw [← hv]; exact Array.getElem?_setIfInBounds_ne q
theorem new_at (cA : ClassId) (ty : FieldType) {z : Int32} {i : Nat} (q : i < z.toNatClampNeg) : (newA cA ty z).slots[i]? = some (defaultValue ty) := by simp [newA, q]
/-- instanceof, checkcast, aaload -/
theorem s_instY (X : Stand p l e R s m args below meth c T locs cells slots) (hx : p.tables.exec = Jvm.exec) (hby : c.code = bytes) (hZ : Z.Warmed39 s.vm) {own K : String} {index : Nat} (hown : s.vm.findClass own = some m.cls) (w : (Jvm.Cond.classLink own index K).before a0 Z = true) (eT : T.heap = h) {a : Addr} (F : Ins Z h a K true) (hd : decode bytes pc = .ok (.instanceof index, 3)) (hn : pc + 3 = n)
    (k : ∀ T', Stand p l e R s m args below meth c T' locs cells slots → T'.heap = h → OE p e below FF T' (mkF m n L (.int 1 :: st))) : OE p e below FF T (mkF m pc L (.ref a :: st)) := by
  subst hn
  obtain ⟨T', X', e', f'⟩ := instY X hx hZ hown w eT F (g := mkF m pc L (.ref a :: st)) rfl rfl (hb hby hd)
  exact (k T' X' e').pre f'
theorem s_instNo (X : Stand p l e R s m args below meth c T locs cells slots) (hx : p.tables.exec = Jvm.exec) (hby : c.code = bytes) (hZ : Z.Warmed39 s.vm) {own K C0 : String} {index : Nat} (hown : s.vm.findClass own = some m.cls) (w : (Jvm.Cond.classLink own index K).before a0 Z = true) (eT : T.heap = h) {a : Addr} (E : Exa Z h a C0) (F : ∃ c t, Z.vm.findClass C0 = some c ∧ Z.vm.findClass K = some t ∧ Z.vm.assignable c t = false) (hd : decode bytes pc = .ok (.instanceof index, 3)) (hn : pc + 3 = n)
    (k : ∀ T', Stand p l e R s m args below meth c T' locs cells slots → T'.heap = h → OE p e below FF T' (mkF m n L (.int 0 :: st))) : OE p e below FF T (mkF m pc L (.ref a :: st)) := by
  subst hn
  obtain ⟨T', X', e', f'⟩ := instNo X hx hZ hown w eT E F (g := mkF m pc L (.ref a :: st)) rfl rfl (hb hby hd)
  exact (k T' X' e').pre f'
theorem s_instNull (X : Stand p l e R s m args below meth c T locs cells slots) (hx : p.tables.exec = Jvm.exec) (hby : c.code = bytes) {index : Nat} (hd : decode bytes pc = .ok (.instanceof index, 3)) (hn : pc + 3 = n)
    (k : OE p e below FF T (mkF m n L (.int 0 :: st))) : OE p e below FF T (mkF m pc L (.null :: st)) := by
  subst hn
  exact k.pre fun t r => Stand.instanceofNull X hx (g := mkF m pc L (.null :: st)) rfl rfl (hb hby hd) t r
theorem s_castY (X : Stand p l e R s m args below meth c T locs cells slots) (hx : p.tables.exec = Jvm.exec) (hby : c.code = bytes) (hZ : Z.Warmed39 s.vm) {own K : String} {index : Nat} (hown : s.vm.findClass own = some m.cls) (w : (Jvm.Cond.classLink own index K).before a0 Z = true) (eT : T.heap = h) {a : Addr} (F : Ins Z h a K true) (hd : decode bytes pc = .ok (.checkcast index, 3)) (hn : pc + 3 = n)
    (k : ∀ T', Stand p l e R s m args below meth c T' locs cells slots → T'.heap = h → OE p e below FF T' (mkF m n L (.ref a :: st))) : OE p e below FF T (mkF m pc L (.ref a :: st)) := by
  subst hn
  obtain ⟨T', X', e', f'⟩ := castY X hx hZ hown w eT F (g := mkF m pc L (.ref a :: st)) rfl rfl (hb hby hd)
  exact (k T' X' e').pre f'
theorem s_aaload (X : Stand p l e R s m args below meth c T locs cells slots) (hx : p.tables.exec = Jvm.exec) (hby : c.code = bytes) (hZ : Z.Warmed39 s.vm) (eT : T.heap = h) {a : Addr} {cl : Cell} {ty : FieldType} (A : Arr Z h a cl ty) (hty : ty.isReference = true) {j : Int32} (hj : ¬ (j < 0 ∨ cl.slots.size ≤ j.toNatClampNeg)) {v : Value} (hv : cl.slots[j.toNatClampNeg]? = some v) (hd : decode bytes pc = .ok (.aaload, 1)) (hn : pc + 1 = n)
    (k : OE p e below FF T (mkF m n L (v :: st))) : OE p e below FF T (mkF m pc L (.int j :: .ref a :: st)) := by
  subst hn
  exact k.pre fun t r => X.aaload hx (by rw [eT]; exact A.1) (State.isArrayOf_alike hZ.alike A.2.1) hty A.2.2 hj hv (g := mkF m pc L (.int j :: .ref a :: st)) rfl rfl (hb hby hd) _ r
theorem ns_root {O K : String} {num : Nat} (w : (Jvm.Cond.noSuperclass O).before a0 Z = true) (wi : (Jvm.Cond.instantiable K num).before a0 Z = true) (hn : O ≠ K) : NS Z O K := by
  obtain ⟨c, k, h1, h2, h3, -, -⟩ := Cond.noSuperclass_spec w
  obtain ⟨t, kt, g1, -⟩ := Cond.instantiable_spec wi
  have ne := ids_ne h1 g1 hn
  refine ⟨c, t, h1, g1, fun fuel => ?_⟩
  match fuel with
  | 0 => rfl
  | f + 1 => simp [Vm.isSubclassAux, ne, h2, h3]
theorem ns_no {C0 S0 K : String} {num : Nat} (w : (Jvm.Cond.superclass C0 S0).before a0 Z = true) (wi : (Jvm.Cond.instantiable K num).before a0 Z = true) (nn : NS Z C0 K) (hn : C0 ≠ K) : ∃ c t, Z.vm.findClass C0 = some c ∧ Z.vm.findClass K = some t ∧ Z.vm.assignable c t = false := by
  obtain ⟨c, t, q0, g0, n3⟩ := nn
  obtain ⟨p, k, kp, h1, h2, h3, h4, h5, -, h7⟩ := Cond.superclass_spec q0 w
  obtain ⟨t', kt, g1, g2, g3, g4, -⟩ := Cond.instantiable_spec wi
  cases g0.symm.trans g1
  have ne := ids_ne q0 g0 hn
  have g7 : kt.isInterface = false := by simp only [Bool.or_eq_false_iff] at g4; exact g4.1
  refine ⟨c, t, q0, g0, ?_⟩
  show Z.vm.assignableAux (255 + 1) c t = false
  simp [Vm.assignableAux, ne, h2, g2, h5, g3, g7, Vm.isSubclass, n3]
end Walk
/-- a boolean as an int -/
def b2i (b : Bool) : Int32 := if b = true then 1 else 0
theorem b2i_t : b2i true = 1 := rfl
theorem b2i_f : b2i false = 0 := rfl
theorem nar_b2i (b : Bool) : nar .boolean (b2i b) = b2i b := by cases b <;> decide
theorem ifb_eq_t {b : Bool} (q : b = false) : ifCond.holds .eq (b2i b) = true := by subst q; decide
theorem ifb_eq_f {b : Bool} (q : b = true) : ifCond.holds .eq (b2i b) = false := by subst q; decide
theorem ifb_ne_t {b : Bool} (q : b = true) : ifCond.holds .ne (b2i b) = true := by subst q; decide
theorem ifb_ne_f {b : Bool} (q : b = false) : ifCond.holds .ne (b2i b) = false := by subst q; decide
theorem icb_eq_t {a b : Bool} (q : a = b) : if_icmp.holds .eq (b2i a) (b2i b) = true := by subst q; cases a <;> decide
theorem icb_eq_f {a b : Bool} (q : ¬ a = b) : if_icmp.holds .eq (b2i a) (b2i b) = false := by cases a <;> cases b <;> first | exact absurd rfl q | decide
theorem icb_ne_t {a b : Bool} (q : ¬ a = b) : if_icmp.holds .ne (b2i a) (b2i b) = true := by cases a <;> cases b <;> first | exact absurd rfl q | decide
theorem icb_ne_f {a b : Bool} (q : a = b) : if_icmp.holds .ne (b2i a) (b2i b) = false := by subst q; cases a <;> decide
end Jvm.Own
namespace Jvm.Own
open Sem ClassFile Op Lib Jvm.Stand Jvm.Free Jvm.LawKit Jvm.RoadKit
section Walk3
variable {p : Program} {l : Launch} {e : Env} {R : Room} {s : State} {m : MethodId} {args : Array Value} {below : List Frame} {meth : Method} {c : Code} {T : State} {locs : List Loc} {cells slots : Nat} {FF : State → Option Value → List Loc → Prop} {bytes : ByteArray} {pc n : Nat} {L : Array Slot} {st : List Value} {Z : State} {a0 : Array Value} {h : Heap}
/-- 'invokevirtual' of a private method -/
theorem s_callP (X : Stand p l e R s m args below meth c T locs cells slots) (hx : p.tables.exec = Jvm.exec) (hby : c.code = bytes) {ml : Nat} (hml : c.maxLocals = ml) (hZ : Z.Warmed39 s.vm) {own K0 K1 : String} {index : Nat} {y : MethodName} {yb : ByteArray} {maxL : Nat} {ret : Option FieldType} (hown : s.vm.findClass own = some m.cls) (w1 : (Jvm.Cond.methodLink own index y).before a0 Z = true) (w2 : (Jvm.Cond.privateMethod y).before a0 Z = true) (w6 : (Jvm.Cond.selects K0 y y).before a0 Z = true) (w7 : (Jvm.Cond.instanceMethod y).before a0 Z = true) (w3 : (Jvm.Cond.initialized y.cls).before a0 Z = true) (w4 : (Jvm.Cond.code y yb maxL ret).before a0 Z = true) (hy : y.cls ≠ "java/lang/invoke/MethodHandle" ∧ y.cls ≠ "java/lang/invoke/VarHandle")
    {rm : Room} {as' : Array Value} {Q' : Option Value → Heap → List Loc → Prop} (K : OCon l Z y yb maxL ret [] rm as' h Q') (eT : T.heap = h) (hf : rm.frames + 1 ≤ R.frames) (W : Nat) (hl : W + (maxL + 11) + rm.locals ≤ R.locals) (hc : cells + rm.cells ≤ R.cells) (hs : slots + rm.slots ≤ R.slots) {ps : List FieldType} {rt : Option FieldType} (pd : parseMethodDescriptor y.desc = some ⟨ps, rt⟩) {a : Addr} (E : Exa Z h a K1) (argsL rest : List Value) (hlen : argsL.length = ps.length) (has : (Value.ref a :: argsL).toArray = as') (hst : st = argsL.reverse ++ .ref a :: rest) (hW : (rest.map fun v => v.category).sum ≤ W) (hsz : L.size = ml) (hd : decode bytes pc = .ok (.invokevirtual index, 3)) (hn : pc + 3 = n)
    (k : ∀ T' L' v, Stand p l e R s m args below meth c T' (locs ++ L') (cells + rm.cells) (slots + rm.slots) → Q' v T'.heap L' → OE p e below FF T' (mkF m n L (v.toList ++ rest))) : OE p e below FF T (mkF m pc L st) := by
  subst hn has
  obtain ⟨cell, kc, c1, c2, c3, c4, c5⟩ := E
  have hpr : s.PrivateAt y := Cond.privateMethod_at (args := args) (mvT hZ w2)
  obtain ⟨cc, r2, m2, q1, q2, q3, q4, kP, hkP, hkPi⟩ := Cond.selects_spec (mvT (args := args) hZ w6)
  have hsel : (Jvm.Cond.selects y.cls y y).before args s = true := selects_self_of_private (findClass_of_methodNamed q3) hkP hkPi hpr (mvT hZ w7) hy
  obtain ⟨v, _, ⟨T', L', k', n'⟩, -, X', ⟨Lc, hQ, l', y', z'⟩, f'⟩ := X.privateBack hx (y := y) hown (mvT hZ w1) (mvT hZ w7) hsel hpr (mvT hZ w4) hy (backOf (W := W) K hZ w4 w3 hf hl) (g := mkF m pc L st) rfl (by rw [hml]; exact hsz) (Steps.refl _) (a := a) (cell := cell) (by rw [eT]; exact c1) (fun q ee => by rw [ee] at c4; cases c4) (argsL := argsL) (rest := rest) (lenOf pd hlen) hst (by show 2 * 0 + _ ≤ _; rw [Nat.mul_zero, Nat.zero_add]; exact hW) (hb hby hd) (fun _ _ => ⟨rfl, eT, hc, hs⟩)
  dsimp only [Pt.U, Pt.locs, Pt.cells, Pt.slots] at X' l' y' z' f' hQ
  subst l' y' z'
  exact (k T' Lc v X' hQ).pre fun t r => f'.trans r
/-- 'invokespecial' of a superclass's method; the class that declares it is no interface by the word wf -/
theorem s_callU (X : Stand p l e R s m args below meth c T locs cells slots) (hx : p.tables.exec = Jvm.exec) (hby : c.code = bytes) {ml : Nat} (hml : c.maxLocals = ml) (hZ : Z.Warmed39 s.vm) {own K0 K1 : String} {index : Nat} {y y2 : MethodName} {yb : ByteArray} {maxL : Nat} {ret : Option FieldType} (hown : s.vm.findClass own = some m.cls) (w1 : (Jvm.Cond.methodLink own index y).before a0 Z = true) (wf : (Jvm.Cond.selects K0 y2 y2).before a0 Z = true) (hy2 : y2.cls = y.cls) (w5 : (Jvm.Cond.superclass own y.cls).before a0 Z = true) (hn1 : y.name ≠ "<init>") (w7 : (Jvm.Cond.instanceMethod y).before a0 Z = true) (w3 : (Jvm.Cond.initialized y.cls).before a0 Z = true) (w4 : (Jvm.Cond.code y yb maxL ret).before a0 Z = true) (hy : y.cls ≠ "java/lang/invoke/MethodHandle" ∧ y.cls ≠ "java/lang/invoke/VarHandle")
    {rm : Room} {as' : Array Value} {Q' : Option Value → Heap → List Loc → Prop} (K : OCon l Z y yb maxL ret [] rm as' h Q') (eT : T.heap = h) (hf : rm.frames + 1 ≤ R.frames) (W : Nat) (hl : W + (maxL + 11) + rm.locals ≤ R.locals) (hc : cells + rm.cells ≤ R.cells) (hs : slots + rm.slots ≤ R.slots) {ps : List FieldType} {rt : Option FieldType} (pd : parseMethodDescriptor y.desc = some ⟨ps, rt⟩) {a : Addr} (E : Exa Z h a K1) (argsL rest : List Value) (hlen : argsL.length = ps.length) (has : (Value.ref a :: argsL).toArray = as') (hst : st = argsL.reverse ++ .ref a :: rest) (hW : (rest.map fun v => v.category).sum ≤ W) (hsz : L.size = ml) (hd : decode bytes pc = .ok (.invokespecial index, 3)) (hn : pc + 3 = n)
    (k : ∀ T' L' v, Stand p l e R s m args below meth c T' (locs ++ L') (cells + rm.cells) (slots + rm.slots) → Q' v T'.heap L' → OE p e below FF T' (mkF m n L (v.toList ++ rest))) : OE p e below FF T (mkF m pc L st) := by
  subst hn has
  have w2 : (Jvm.Cond.sameMethod y.cls y.cls y.name y.desc).before a0 Z = true := by
    obtain ⟨mk, methM, hnamed, hmethM, -, -⟩ := Cond.instanceMethod_spec w7
    obtain ⟨cc, r2, m2, q1, q2, q3, q4, kP, hkP, hkPi⟩ := Cond.selects_spec wf
    have e1 := findClass_of_methodNamed hnamed
    have e2 := findClass_of_methodNamed q3
    rw [hy2] at e2
    have e3 : mk.cls = m2.cls := Option.some.inj (e1.symm.trans e2)
    have hf := State.methodFound?_of_named hnamed hy
    have hnamed' : Z.methodNamed? ⟨y.cls, y.name, y.desc⟩ = some mk := hnamed
    simp only [Cond.before, Cond.holds, Cond.value, e1, hf, hnamed', e3, hkP]
    simp [hkPi]
  obtain ⟨v, _, ⟨T', L', k', n'⟩, -, X', ⟨Lc, hQ, l', y', z'⟩, f'⟩ := superBack X hx hZ hown w1 w2 w7 w5 hn1 (backOf (W := W) K hZ w4 w3 hf hl) eT (Ins.self E) (g := mkF m pc L st) rfl (by rw [hml]; exact hsz) w4 (argsL := argsL) (rest := rest) (lenOf pd hlen) hst (by show 2 * 0 + _ ≤ _; rw [Nat.mul_zero, Nat.zero_add]; exact hW) (hb hby hd) (fun _ _ => ⟨rfl, eT, hc, hs⟩)
  dsimp only [Pt.U, Pt.locs, Pt.cells, Pt.slots] at X' l' y' z' f' hQ
  subst l' y' z'
  exact (k T' Lc v X' hQ).pre fun t r => f'.trans r
/-- System.arraycopy between byte arrays -/
theorem s_copyB (X : Stand p l e R s m args below meth c T locs cells slots) (hx : p.tables.exec = Jvm.exec) (hby : c.code = bytes) {ml : Nat} (hml : c.maxLocals = ml) (hZ : Z.Warmed39 s.vm) {own : String} {index : Nat} (hown : s.vm.findClass own = some m.cls)
    (w1 : (Jvm.Cond.methodLink own index Jvm.Stand.acN).before a0 Z = true) (w2 : (Jvm.Cond.native Jvm.Stand.acN).before a0 Z = true) (w3 : (Jvm.Cond.static Jvm.Stand.acN).before a0 Z = true) (w4 : (Jvm.Cond.initialized "java/lang/System").before a0 Z = true) (eT : T.heap = h)
    {a b : Addr} {k k' : ClassId} {z z' sp dp nn : Int32} {vs vd us : List Value} {dv dd : Value} (A : Arv Z h a k .byte z vs dv) (B : Arv Z h b k' .byte z' vd dd)
    (h1 : ¬ sp < 0) (h2 : ¬ dp < 0) (h3 : ¬ nn < 0) (h4 : sp.toNatClampNeg + nn.toNatClampNeg ≤ z.toNatClampNeg) (h5 : dp.toNatClampNeg + nn.toNatClampNeg ≤ z'.toNatClampNeg)
    (hus : us = (List.range nn.toNatClampNeg).map fun i => vs.getD (sp.toNatClampNeg + i) dv) (hl : dp.toNatClampNeg + nn.toNatClampNeg ≤ vd.length) {n0 : Nat} (N : Fr n0 locs) (ge : n0 ≤ b)
    (hf : 1 ≤ R.frames) (W : Nat) (hW : (st.map fun v => v.category).sum ≤ W) (hlo : W + (nativeFrameWords "java/lang/System" "arraycopy" 5 + 11) ≤ R.locals) (hsz : L.size = ml) (hd : decode bytes pc = .ok (.invokestatic index, 3)) (hn : pc + 3 = n)
    (kk : ∀ T' h' L', Stand p l e R s m args below meth c T' L' cells slots → T'.heap = h' → Fr n0 L' → Keep h h' [b] → Arv Z h' b k' .byte z' (vd.take dp.toNatClampNeg ++ us ++ vd.drop (dp.toNatClampNeg + nn.toNatClampNeg)) dd → OE p e below FF T' (mkF m n L st)) : OE p e below FF T (mkF m pc L (.int nn :: .int dp :: .ref b :: .int sp :: .ref a :: st)) := by
  subst hn
  obtain ⟨T', h', L', X', e', N', K', A', f'⟩ := cpA X hx hZ hown w1 w2 w3 w4 eT A B (Or.inl ⟨rfl, rfl⟩) h1 h2 h3 h4 h5 hus hl N ge (g := mkF m pc L (.int nn :: .int dp :: .ref b :: .int sp :: .ref a :: st)) rfl (by rw [hml]; exact hsz) rfl (hb hby hd) hf (W := W) (by show 2 * 0 + _ ≤ _; rw [Nat.mul_zero, Nat.zero_add]; exact hW) hlo
  exact (kk T' h' L' X' e' N' K' A').pre f'
end Walk3
/-- numbers -/
theorem n32 {n : Nat} (q : n < 2147483648) : (Int32.ofNat n).toInt = n := Int32.toInt_ofNat_of_lt (by show n < 2 ^ 31; omega)
theorem c32 {n : Nat} (q : n < 2147483648) : (Int32.ofNat n).toNatClampNeg = n := by
  rw [show (Int32.ofNat n).toNatClampNeg = (Int32.ofNat n).toInt.toNat from rfl, n32 q]; simp
theorem p32 {n : Nat} (q : n < 2147483648) : ¬ (Int32.ofNat n) < 0 := by
  rw [Int32.lt_iff_toInt_lt, n32 q, show (0 : Int32).toInt = 0 from by decide]; omega
theorem lt32 {a b : Nat} (p : a < 2147483648) (q : b < 2147483648) : (Int32.ofNat a < Int32.ofNat b) ↔ a < b := by
  rw [Int32.lt_iff_toInt_lt, n32 p, n32 q]; omega
theorem eq32 {a b : Nat} (p : a < 2147483648) (q : b < 2147483648) : (Int32.ofNat a = Int32.ofNat b) ↔ a = b := by
  rw [← Int32.toInt_inj, n32 p, n32 q]; omega
theorem add32 (a b : Nat) : Int32.ofNat a + Int32.ofNat b = Int32.ofNat (a + b) := (Int32.ofNat_add a b).symm
theorem sub32 {a b : Nat} (q : b ≤ a) : Int32.ofNat a - Int32.ofNat b = Int32.ofNat (a - b) := by
  have := add32 (a - b) b
  rw [Nat.sub_add_cancel q] at this
  rw [← this, Int32.add_sub_cancel]
theorem shr0 (x : Int32) : x >>> ((0 : Int32) &&& 31) = x := by
  rw [show ((0 : Int32) &&& 31) = 0 from by decide]; simp
theorem shl0 (x : Int32) : x <<< ((0 : Int32) &&& 31) = x := by
  rw [show ((0 : Int32) &&& 31) = 0 from by decide]; simp
theorem range_all (vs rest : List Value) (d : Value) (z : Nat) (hz : z = 0) : (List.range vs.length).map (fun i => (vs ++ rest).getD (z + i) d) = vs := by
  subst hz
  refine List.ext_getElem (by simp) fun i h1 h2 => ?_
  simp [List.getElem?_append_left h2, List.getElem?_eq_getElem h2]
theorem gd_l (a b : List Int32) (c : Int32) (i : Nat) (q : i < a.length) : (a ++ c :: b).getD i 0 = a.getD i 0 := by
  simp only [List.getD_eq_getElem?_getD, List.getElem?_append_left q]
theorem gd_m (a b : List Int32) (c : Int32) (i : Nat) (q : i = a.length) : (a ++ c :: b).getD i 0 = c := by
  subst q; simp
theorem gd_r (a b : List Int32) (c : Int32) (i : Nat) (q : a.length < i) : (a ++ c :: b).getD i 0 = b.getD (i - a.length - 1) 0 := by
  simp only [List.getD_eq_getElem?_getD]
  rw [List.getElem?_append_right (Nat.le_of_lt q)]
  obtain ⟨j, hj⟩ : ∃ j, i - a.length = j + 1 := ⟨i - a.length - 1, by omega⟩
  rw [hj]; simp
theorem getDm (bs : List Int32) (i : Nat) : (bs.map Value.int).getD i (.int 0) = .int (bs.getD i 0) := by
  simp only [List.getD_eq_getElem?_getD, List.getElem?_map]
  cases bs[i]? <;> rfl
/-- the cells that stood when the law began stand as they stood; n0 is a mark above them -/
def Oln (Z : State) (n0 : Nat) (h : Heap) : Prop := (Z.heap.size ≤ n0 ∧ n0 ≤ h.size) ∧ Ext Z.heap h
section OlnFacts
variable {Z : State} {n0 n1 : Nat} {h h' : Heap} {ws : List Addr} {a : Addr} {sl : Nat} {v : Value} {L : List Loc}
theorem Oln.le (O : Oln Z n0 h) : n0 ≤ h.size := O.1.2
theorem Oln.ext (O : Oln Z n0 h) (E : Ext h h') : Oln Z n0 h' := ⟨⟨O.1.1, Nat.le_trans O.1.2 E.1⟩, Nat.le_trans O.2.1 E.1, fun x c q => E.2 x c (O.2.2 x c q)⟩
theorem Oln.keep (O : Oln Z n0 h) (K : Keep h h' ws) (q : ∀ x ∈ ws, n0 ≤ x) : Oln Z n0 h' := ⟨⟨O.1.1, Nat.le_trans O.1.2 K.1⟩, Nat.le_trans O.2.1 K.1, fun x c r => K.2.1 x c (O.2.2 x c r) fun z => absurd (Nat.lt_of_lt_of_le (Array.getElem?_eq_some_iff.mp r).1 O.1.1) (Nat.not_lt.mpr (q x z))⟩
theorem Oln.wr (O : Oln Z n0 h) (W : Wr h h' a sl v) (q : n0 ≤ a) : Oln Z n0 h' := O.keep (Keep.of_wr W) (allS q all0)
theorem Oln.top (O : Oln Z n0 h) : Oln Z h.size h := ⟨⟨Nat.le_trans O.1.1 O.1.2, Nat.le_refl _⟩, O.2⟩
theorem Oln.start (s : State) : Oln s s.heap.size s.heap := ⟨⟨Nat.le_refl _, Nat.le_refl _⟩, Nat.le_refl _, fun _ _ q => q⟩
theorem fr_mono (N : Fr n1 L) (q : n0 ≤ n1) : Fr n0 L := fun y hy => Nat.le_trans q (N y hy)
end OlnFacts
theorem notFace_cls {args : Array Value} {s : State} {C : String} {y y2 : MethodName} (q : y2.cls = y.cls) (hsel : (Jvm.Cond.selects C y2 y2).before args s = true) : NotFace s y := fun r0 h0 => by
  obtain ⟨c2, r2, m2, q1, q2, q3, q4, kP, hkP, hkPi⟩ := Cond.selects_spec hsel
  have e1 := findClass_of_methodNamed h0
  have e2 := findClass_of_methodNamed q3
  rw [q] at e2
  have e3 : r0.cls = m2.cls := Option.some.inj (e1.symm.trans e2)
  exact ⟨kP, by rw [e3]; exact hkP, hkPi⟩
/-- a byte array that holds the bytes bs -/
def Bys (Z : State) (h : Heap) (b : Addr) (bs : List Int32) : Prop := bs.length < 2147483648 ∧ ∃ k, Arv Z h b k .byte (Int32.ofNat bs.length) (bs.map Value.int) (.int 0)
/-- a Latin-1 String that holds the bytes bs -/
def Str (Z : State) (h : Heap) (r : Addr) (bs : List Int32) : Prop := Exa Z h r "java/lang/String" ∧ Fld Z h r "java/lang/String" "coder" "B" (.int (0 : Int32)) ∧ ∃ b, Fld Z h r "java/lang/String" "value" "[B" (.ref b) ∧ Bys Z h b bs
/-- a StringBuilder of capacity 16 that holds the bytes pre -/
def SBd (Z : State) (h : Heap) (o d : Addr) (pre : List Int32) : Prop := Exa Z h o "java/lang/StringBuilder" ∧ Fld Z h o "java/lang/AbstractStringBuilder" "value" "[B" (.ref d) ∧ Fld Z h o "java/lang/AbstractStringBuilder" "coder" "B" (.int (0 : Int32)) ∧ Fld Z h o "java/lang/AbstractStringBuilder" "count" "I" (.int (Int32.ofNat pre.length)) ∧ pre.length < 16 ∧ ∃ k, Arv Z h d k .byte 16 (pre.map Value.int ++ List.replicate (16 - pre.length) (.int 0)) (.int 0)
section StrFacts
variable {Z : State} {h h' : Heap} {a0 : Array Value} {b r o d : Addr} {bs cs pre : List Int32} {ws : List Addr} {v : Value} {sl : Nat}
theorem Bys.ext (F : Bys Z h b bs) (E : Ext h h') : Bys Z h' b bs := by
  obtain ⟨q, k, A⟩ := F
  exact ⟨q, k, A.ext E⟩
theorem Bys.keep (F : Bys Z h b bs) (K : Keep h h' ws) (q : b ∉ ws) : Bys Z h' b bs := by
  obtain ⟨q1, k, A⟩ := F
  exact ⟨q1, k, A.keep K q⟩
theorem Bys.other {a : Addr} (F : Bys Z h b bs) (W : Wr h h' a sl v) (q : b ≠ a) : Bys Z h' b bs := by
  obtain ⟨q1, k, A⟩ := F
  exact ⟨q1, k, A.other W q⟩
theorem Bys.lt (F : Bys Z h b bs) : b < h.size := by
  obtain ⟨_, k, A⟩ := F
  exact A.lt
theorem Str.ext (F : Str Z h r bs) (E : Ext h h') : Str Z h' r bs := by
  obtain ⟨h1, h2, b, h3, h4⟩ := F
  exact ⟨h1.ext E, h2.ext E, b, h3.ext E, h4.ext E⟩
theorem Str.keep (F : Str Z h r bs) (K : Keep h h' []) : Str Z h' r bs := by
  obtain ⟨h1, h2, b, h3, h4⟩ := F
  exact ⟨h1.keep K, h2.keep K nin0, b, h3.keep K nin0, h4.keep K nin0⟩
theorem Str.lt (F : Str Z h r bs) : r < h.size := F.1.lt
theorem SBd.ext (F : SBd Z h o d pre) (E : Ext h h') : SBd Z h' o d pre := by
  obtain ⟨h1, h2, h3, h4, h5, k, h6⟩ := F
  exact ⟨h1.ext E, h2.ext E, h3.ext E, h4.ext E, h5, k, h6.ext E⟩
theorem SBd.keep (F : SBd Z h o d pre) (K : Keep h h' []) : SBd Z h' o d pre := by
  obtain ⟨h1, h2, h3, h4, h5, k, h6⟩ := F
  exact ⟨h1.keep K, h2.keep K nin0, h3.keep K nin0, h4.keep K nin0, h5, k, h6.keep K nin0⟩
theorem arv_ne {a : Addr} {k k' : ClassId} {ty ty' : FieldType} {z z' : Int32} {vs vs' : List Value} {dv dv' : Value} (F : Arv Z h a k ty z vs dv) (G : Arv Z h b k' ty' z' vs' dv') (q : z.toNatClampNeg ≠ z'.toNatClampNeg) : a ≠ b := fun ee => by
  subst ee
  obtain ⟨c, A, -, S, -⟩ := F
  obtain ⟨c', A', -, S', -⟩ := G
  cases A.1.symm.trans A'.1
  exact q (S.symm.trans S')
theorem arv_exa {a : Addr} {C : String} {num : Nat} {k : ClassId} {ty : FieldType} {z : Int32} {vs : List Value} {dv : Value} (E : Exa Z h a C) (wi : (Jvm.Cond.instantiable C num).before a0 Z = true) (F : Arv Z h b k ty z vs dv) : a ≠ b := by
  obtain ⟨c, A, -⟩ := F
  exact ne_arr E wi A
/-- a short String is no part of a builder -/
theorem Str.aside (F : Str Z h r cs) (hc : cs.length < 16) (G : SBd Z h o d pre) (ws1 : (Jvm.Cond.instantiable "java/lang/String" 4).before a0 Z = true) (ws2 : (Jvm.Cond.instantiable "java/lang/StringBuilder" 4).before a0 Z = true) (K : Keep h h' [o, d]) : Str Z h' r cs := by
  obtain ⟨h1, h2, b, h3, h4, kb, h5⟩ := F
  obtain ⟨g1, g2, g3, g4, g5, k, g6⟩ := G
  have n1 : r ≠ o := ne_exa h1 g1 (by decide)
  have n2 : r ≠ d := arv_exa h1 ws1 g6
  have n3 : b ≠ o := (arv_exa g1 ws2 h5).symm
  have n4 : b ≠ d := arv_ne h5 g6 (by rw [c32 h4]; show cs.length ≠ 16; omega)
  exact ⟨h1.keep K, h2.keep K (ninS n1 (ninS n2 nin0)), b, h3.keep K (ninS n1 (ninS n2 nin0)), h4, kb, h5.keep K (ninS n3 (ninS n4 nin0))⟩
theorem SBd.other {a : Addr} (F : SBd Z h o d pre) (W : Wr h h' a sl v) (q1 : o ≠ a) (q2 : d ≠ a) : SBd Z h' o d pre := by
  obtain ⟨h1, h2, h3, h4, h5, k, h6⟩ := F
  exact ⟨h1.wr W, h2.other W (Or.inl q1), h3.other W (Or.inl q1), h4.other W (Or.inl q1), h5, k, h6.other W q2⟩
theorem sb_room : ∀ k : Fin 17, ¬ (0 : Int32) < Int32.ofNat k.1 - 16 := by decide
theorem sb_app (pre cs : List Int32) (q : pre.length + cs.length < 16) : (pre.map Value.int ++ List.replicate (16 - pre.length) (Value.int 0)).take pre.length ++ cs.map Value.int ++ (pre.map Value.int ++ List.replicate (16 - pre.length) (Value.int 0)).drop (pre.length + cs.length) = (pre ++ cs).map Value.int ++ List.replicate (16 - (pre ++ cs).length) (Value.int 0) := by
  have e1 : (pre.map Value.int ++ List.replicate (16 - pre.length) (Value.int 0)).take pre.length = pre.map Value.int := by
    rw [List.take_append_of_le_length (by rw [List.length_map]; exact Nat.le_refl _), List.take_of_length_le (by rw [List.length_map]; exact Nat.le_refl _)]
  have e2 : (pre.map Value.int ++ List.replicate (16 - pre.length) (Value.int 0)).drop (pre.length + cs.length) = List.replicate (16 - (pre ++ cs).length) (Value.int 0) := by
    rw [List.drop_append, List.drop_eq_nil_of_le (by rw [List.length_map]; omega)]
    simp only [List.length_map, List.nil_append, List.drop_replicate, List.length_append]
    congr 1; omega
  rw [e1, e2, List.map_append]
/-- the state of the empty text's constant: not loaded, or loaded -/
def LS (Z : State) (own : String) (idx : Nat) (vm : Vm) (h : Heap) : Prop := IB Z vm [] ∨ (IB Z vm [""] ∧ ∃ a, Lit (Z.setVm vm) own idx a ∧ Str Z h a [])
theorem LS.warm {own : String} {idx : Nat} {vm vm' : Vm} {s1 : State} (F : LS Z own idx vm h) (hW : (s1.setVm vm).WarmedH vm') : LS Z own idx vm' h := by
  rcases F with I | ⟨I, a, Lt, S⟩
  · exact Or.inl (IB.warm I hW)
  · refine Or.inr ⟨IB.warm I hW, a, ?_, S⟩
    have q : Lit (s1.setVm vm) own idx a := Lt
    exact Lit.stays q hW.wide
theorem LS.keep {own : String} {idx : Nat} {vm : Vm} (F : LS Z own idx vm h) (K : Keep h h' []) : LS Z own idx vm h' := by
  rcases F with I | ⟨I, a, Lt, S⟩
  · exact Or.inl I
  · exact Or.inr ⟨I, a, Lt, S.keep K⟩
theorem LS.ib {own : String} {idx : Nat} {vm : Vm} (F : LS Z own idx vm h) : ∃ Ts, "." ∉ Ts ∧ IB Z vm Ts := by
  rcases F with I | ⟨I, -⟩
  · exact ⟨[], by simp, I⟩
  · exact ⟨[""], by decide, I⟩
theorem le255 (x : Int32) : ¬ (255 : Int32) < (x &&& 255) := by
  have q := (c_and x 255 (by decide)).2
  rw [Int32.lt_iff_toInt_lt]; omega
theorem le255n (x : Int32) : ¬ (255 : Int32) < nar .char (x &&& 255) := by
  rw [show nar .char (x &&& 255) = x &&& 255 from i2c_mask x]; exact le255 x
theorem and3 (x : Int32) : (x &&& 3) = 0 ∨ (x &&& 3) = 1 ∨ (x &&& 3) = 2 ∨ (x &&& 3) = 3 := by
  have q := c_and x 3 (by decide)
  have k3 : (3 : Int32).toInt = 3 := by decide
  simp only [← Int32.toInt_inj, k3, show (0 : Int32).toInt = 0 from by decide, show (1 : Int32).toInt = 1 from by decide, show (2 : Int32).toInt = 2 from by decide]
  rw [k3] at q; omega
theorem Keep.more {h0 : Heap} {ws ws' : List Addr} (K : Keep h0 h ws) (q : ∀ x ∈ ws, x ∈ ws') : Keep h0 h ws' := ⟨K.1, fun x c hx r => K.2.1 x c hx fun z => r (q x z), K.2.2⟩
end StrFacts
end Jvm.Own
namespace Jvm.Pilot.@@N@@
open Jvm Jvm.ClassFile Sem Op Lib Jvm.Free Jvm.Stand Jvm.LawKit Jvm.RoadKit Bundle Jvm.Own Jvm.Pilot.@@N@@.Jvm.D
theorem d1_0 : decode method_2_code 0 = .ok (.iload_n 0, 1) := by decide +kernel
theorem d1_1 : decode method_2_code 1 = .ok (.sipush 255, 3) := by decide +kernel
theorem d1_4 : decode method_2_code 4 = .ok (.iand, 1) := by decide +kernel
theorem d1_5 : decode method_2_code 5 = .ok (.i2c, 1) := by decide +kernel
theorem d1_6 : decode method_2_code 6 = .ok (.istore_n 2, 1) := by decide +kernel
theorem d1_7 : decode method_2_code 7 = .ok (.iload_n 0, 1) := by decide +kernel
theorem d1_8 : decode method_2_code 8 = .ok (.bipush 8, 2) := by decide +kernel
theorem d1_10 : decode method_2_code 10 = .ok (.iushr, 1) := by decide +kernel
theorem d1_11 : decode method_2_code 11 = .ok (.sipush 255, 3) := by decide +kernel
theorem d1_14 : decode method_2_code 14 = .ok (.iand, 1) := by decide +kernel
theorem d1_15 : decode method_2_code 15 = .ok (.i2c, 1) := by decide +kernel
theorem d1_16 : decode method_2_code 16 = .ok (.istore_n 3, 1) := by decide +kernel
theorem d1_17 : decode method_2_code 17 = .ok (.iload_n 0, 1) := by decide +kernel
theorem d1_18 : decode method_2_code 18 = .ok (.bipush 16, 2) := by decide +kernel
theorem d1_20 : decode method_2_code 20 = .ok (.iushr, 1) := by decide +kernel
theorem d1_21 : decode method_2_code 21 = .ok (.sipush 255, 3) := by decide +kernel
theorem d1_24 : decode method_2_code 24 = .ok (.iand, 1) := by decide +kernel
theorem d1_25 : decode method_2_code 25 = .ok (.i2c, 1) := by decide +kernel
theorem d1_26 : decode method_2_code 26 = .ok (.istore 4, 2) := by decide +kernel
theorem d1_28 : decode method_2_code 28 = .ok (.iload_n 1, 1) := by decide +kernel
theorem d1_29 : decode method_2_code 29 = .ok (.ifCond .ne 6, 3) := by decide +kernel
theorem d1_32 : decode method_2_code 32 = .ok (.ldc 7, 2) := by decide +kernel
theorem d1_34 : decode method_2_code 34 = .ok (.areturn, 1) := by decide +kernel
theorem d1_35 : decode method_2_code 35 = .ok (.iload_n 1, 1) := by decide +kernel
theorem d1_36 : decode method_2_code 36 = .ok (.iconst 1, 1) := by decide +kernel
theorem d1_37 : decode method_2_code 37 = .ok (.if_icmp .ne 8, 3) := by decide +kernel
theorem d1_40 : decode method_2_code 40 = .ok (.iload_n 2, 1) := by decide +kernel
theorem d1_41 : decode method_2_code 41 = .ok (.invokestatic 9, 3) := by decide +kernel
theorem d1_44 : decode method_2_code 44 = .ok (.areturn, 1) := by decide +kernel
theorem d1_45 : decode method_2_code 45 = .ok (.iload_n 1, 1) := by decide +kernel
theorem d1_46 : decode method_2_code 46 = .ok (.iconst 2, 1) := by decide +kernel
theorem d1_47 : decode method_2_code 47 = .ok (.if_icmp .ne 22, 3) := by decide +kernel
theorem d1_50 : decode method_2_code 50 = .ok (.new 10, 3) := by decide +kernel
theorem d1_53 : decode method_2_code 53 = .ok (.dup, 1) := by decide +kernel
theorem d1_54 : decode method_2_code 54 = .ok (.iconst 2, 1) := by decide +kernel
theorem d1_55 : decode method_2_code 55 = .ok (.newarray .char, 2) := by decide +kernel
theorem d1_57 : decode method_2_code 57 = .ok (.dup, 1) := by decide +kernel
theorem d1_58 : decode method_2_code 58 = .ok (.iconst 0, 1) := by decide +kernel
theorem d1_59 : decode method_2_code 59 = .ok (.iload_n 2, 1) := by decide +kernel
theorem d1_60 : decode method_2_code 60 = .ok (.castore, 1) := by decide +kernel
theorem d1_61 : decode method_2_code 61 = .ok (.dup, 1) := by decide +kernel
theorem d1_62 : decode method_2_code 62 = .ok (.iconst 1, 1) := by decide +kernel
theorem d1_63 : decode method_2_code 63 = .ok (.iload_n 3, 1) := by decide +kernel
theorem d1_64 : decode method_2_code 64 = .ok (.castore, 1) := by decide +kernel
theorem d1_65 : decode method_2_code 65 = .ok (.invokespecial 15, 3) := by decide +kernel
theorem d1_68 : decode method_2_code 68 = .ok (.areturn, 1) := by decide +kernel
theorem d1_69 : decode method_2_code 69 = .ok (.new 10, 3) := by decide +kernel
theorem d1_72 : decode method_2_code 72 = .ok (.dup, 1) := by decide +kernel
theorem d1_73 : decode method_2_code 73 = .ok (.iconst 3, 1) := by decide +kernel
theorem d1_74 : decode method_2_code 74 = .ok (.newarray .char, 2) := by decide +kernel
theorem d1_76 : decode method_2_code 76 = .ok (.dup, 1) := by decide +kernel
theorem d1_77 : decode method_2_code 77 = .ok (.iconst 0, 1) := by decide +kernel
theorem d1_78 : decode method_2_code 78 = .ok (.iload_n 2, 1) := by decide +kernel
theorem d1_79 : decode method_2_code 79 = .ok (.castore, 1) := by decide +kernel
theorem d1_80 : decode method_2_code 80 = .ok (.dup, 1) := by decide +kernel
theorem d1_81 : decode method_2_code 81 = .ok (.iconst 1, 1) := by decide +kernel
theorem d1_82 : decode method_2_code 82 = .ok (.iload_n 3, 1) := by decide +kernel
theorem d1_83 : decode method_2_code 83 = .ok (.castore, 1) := by decide +kernel
theorem d1_84 : decode method_2_code 84 = .ok (.dup, 1) := by decide +kernel
theorem d1_85 : decode method_2_code 85 = .ok (.iconst 2, 1) := by decide +kernel
theorem d1_86 : decode method_2_code 86 = .ok (.iload 4, 2) := by decide +kernel
theorem d1_88 : decode method_2_code 88 = .ok (.castore, 1) := by decide +kernel
theorem d1_89 : decode method_2_code 89 = .ok (.invokespecial 15, 3) := by decide +kernel
theorem d1_92 : decode method_2_code 92 = .ok (.areturn, 1) := by decide +kernel
theorem d2_0 : decode jdk_42_method_3_code 0 = .ok (.aload_n 0, 1) := by decide +kernel
theorem d2_1 : decode jdk_42_method_3_code 1 = .ok (.aload_n 1, 1) := by decide +kernel
theorem d2_2 : decode jdk_42_method_3_code 2 = .ok (.iconst 0, 1) := by decide +kernel
theorem d2_3 : decode jdk_42_method_3_code 3 = .ok (.aload_n 1, 1) := by decide +kernel
theorem d2_4 : decode jdk_42_method_3_code 4 = .ok (.arraylength, 1) := by decide +kernel
theorem d2_5 : decode jdk_42_method_3_code 5 = .ok (.aconst_null, 1) := by decide +kernel
theorem d2_6 : decode jdk_42_method_3_code 6 = .ok (.invokespecial 27, 3) := by decide +kernel
theorem d2_9 : decode jdk_42_method_3_code 9 = .ok (.return_, 1) := by decide +kernel
theorem d3_0 : decode jdk_42_method_149_code 0 = .ok (.aload_n 0, 1) := by decide +kernel
theorem d3_1 : decode jdk_42_method_149_code 1 = .ok (.invokespecial 1, 3) := by decide +kernel
theorem d3_4 : decode jdk_42_method_149_code 4 = .ok (.iload_n 3, 1) := by decide +kernel
theorem d3_5 : decode jdk_42_method_149_code 5 = .ok (.ifCond .ne 22, 3) := by decide +kernel
theorem d3_27 : decode jdk_42_method_149_code 27 = .ok (.getstatic 38, 3) := by decide +kernel
theorem d3_30 : decode jdk_42_method_149_code 30 = .ok (.ifCond .eq 28, 3) := by decide +kernel
theorem d3_33 : decode jdk_42_method_149_code 33 = .ok (.aload_n 1, 1) := by decide +kernel
theorem d3_34 : decode jdk_42_method_149_code 34 = .ok (.iload_n 2, 1) := by decide +kernel
theorem d3_35 : decode jdk_42_method_149_code 35 = .ok (.iload_n 3, 1) := by decide +kernel
theorem d3_36 : decode jdk_42_method_149_code 36 = .ok (.invokestatic 177, 3) := by decide +kernel
theorem d3_39 : decode jdk_42_method_149_code 39 = .ok (.astore 5, 2) := by decide +kernel
theorem d3_41 : decode jdk_42_method_149_code 41 = .ok (.aload_n 0, 1) := by decide +kernel
theorem d3_42 : decode jdk_42_method_149_code 42 = .ok (.aload 5, 2) := by decide +kernel
theorem d3_44 : decode jdk_42_method_149_code 44 = .ok (.iload_n 3, 1) := by decide +kernel
theorem d3_45 : decode jdk_42_method_149_code 45 = .ok (.invokestatic 47, 3) := by decide +kernel
theorem d3_48 : decode jdk_42_method_149_code 48 = .ok (.putfield 15, 3) := by decide +kernel
theorem d3_51 : decode jdk_42_method_149_code 51 = .ok (.aload_n 0, 1) := by decide +kernel
theorem d3_52 : decode jdk_42_method_149_code 52 = .ok (.aload 5, 2) := by decide +kernel
theorem d3_54 : decode jdk_42_method_149_code 54 = .ok (.putfield 9, 3) := by decide +kernel
theorem d3_57 : decode jdk_42_method_149_code 57 = .ok (.return_, 1) := by decide +kernel
theorem d5_0 : decode jdk_52_method_16_code 0 = .ok (.iload_n 2, 1) := by decide +kernel
theorem d5_1 : decode jdk_52_method_16_code 1 = .ok (.newarray .byte, 2) := by decide +kernel
theorem d5_3 : decode jdk_52_method_16_code 3 = .ok (.astore_n 3, 1) := by decide +kernel
theorem d5_4 : decode jdk_52_method_16_code 4 = .ok (.aload_n 0, 1) := by decide +kernel
theorem d5_5 : decode jdk_52_method_16_code 5 = .ok (.iload_n 1, 1) := by decide +kernel
theorem d5_6 : decode jdk_52_method_16_code 6 = .ok (.aload_n 3, 1) := by decide +kernel
theorem d5_7 : decode jdk_52_method_16_code 7 = .ok (.iconst 0, 1) := by decide +kernel
theorem d5_8 : decode jdk_52_method_16_code 8 = .ok (.iload_n 2, 1) := by decide +kernel
theorem d5_9 : decode jdk_52_method_16_code 9 = .ok (.invokestatic 115, 3) := by decide +kernel
theorem d5_12 : decode jdk_52_method_16_code 12 = .ok (.istore 4, 2) := by decide +kernel
theorem d5_14 : decode jdk_52_method_16_code 14 = .ok (.iload 4, 2) := by decide +kernel
theorem d5_16 : decode jdk_52_method_16_code 16 = .ok (.iload_n 2, 1) := by decide +kernel
theorem d5_17 : decode jdk_52_method_16_code 17 = .ok (.if_icmp .eq 40, 3) := by decide +kernel
theorem d5_57 : decode jdk_52_method_16_code 57 = .ok (.aload_n 3, 1) := by decide +kernel
theorem d5_58 : decode jdk_52_method_16_code 58 = .ok (.areturn, 1) := by decide +kernel
theorem d6_0 : decode jdk_52_method_21_code 0 = .ok (.iconst 0, 1) := by decide +kernel
theorem d6_1 : decode jdk_52_method_21_code 1 = .ok (.istore 5, 2) := by decide +kernel
theorem d6_3 : decode jdk_52_method_21_code 3 = .ok (.iload 5, 2) := by decide +kernel
theorem d6_5 : decode jdk_52_method_21_code 5 = .ok (.iload 4, 2) := by decide +kernel
theorem d6_7 : decode jdk_52_method_21_code 7 = .ok (.if_icmp .ge 37, 3) := by decide +kernel
theorem d6_10 : decode jdk_52_method_21_code 10 = .ok (.aload_n 0, 1) := by decide +kernel
theorem d6_11 : decode jdk_52_method_21_code 11 = .ok (.iload_n 1, 1) := by decide +kernel
theorem d6_12 : decode jdk_52_method_21_code 12 = .ok (.caload, 1) := by decide +kernel
theorem d6_13 : decode jdk_52_method_21_code 13 = .ok (.istore 6, 2) := by decide +kernel
theorem d6_15 : decode jdk_52_method_21_code 15 = .ok (.iload 6, 2) := by decide +kernel
theorem d6_17 : decode jdk_52_method_21_code 17 = .ok (.sipush 255, 3) := by decide +kernel
theorem d6_20 : decode jdk_52_method_21_code 20 = .ok (.if_icmp .le 6, 3) := by decide +kernel
theorem d6_26 : decode jdk_52_method_21_code 26 = .ok (.aload_n 2, 1) := by decide +kernel
theorem d6_27 : decode jdk_52_method_21_code 27 = .ok (.iload_n 3, 1) := by decide +kernel
theorem d6_28 : decode jdk_52_method_21_code 28 = .ok (.iload 6, 2) := by decide +kernel
theorem d6_30 : decode jdk_52_method_21_code 30 = .ok (.i2b, 1) := by decide +kernel
theorem d6_31 : decode jdk_52_method_21_code 31 = .ok (.bastore, 1) := by decide +kernel
theorem d6_32 : decode jdk_52_method_21_code 32 = .ok (.iinc 1 1, 3) := by decide +kernel
theorem d6_35 : decode jdk_52_method_21_code 35 = .ok (.iinc 3 1, 3) := by decide +kernel
theorem d6_38 : decode jdk_52_method_21_code 38 = .ok (.iinc 5 1, 3) := by decide +kernel
theorem d6_41 : decode jdk_52_method_21_code 41 = .ok (.goto (-38), 3) := by decide +kernel
theorem d6_44 : decode jdk_52_method_21_code 44 = .ok (.iload 4, 2) := by decide +kernel
theorem d6_46 : decode jdk_52_method_21_code 46 = .ok (.ireturn, 1) := by decide +kernel
theorem d7_0 : decode jdk_52_method_15_code 0 = .ok (.iload_n 1, 1) := by decide +kernel
theorem d7_1 : decode jdk_52_method_15_code 1 = .ok (.aload_n 0, 1) := by decide +kernel
theorem d7_2 : decode jdk_52_method_15_code 2 = .ok (.arraylength, 1) := by decide +kernel
theorem d7_3 : decode jdk_52_method_15_code 3 = .ok (.isub, 1) := by decide +kernel
theorem d7_4 : decode jdk_52_method_15_code 4 = .ok (.bipush 31, 2) := by decide +kernel
theorem d7_6 : decode jdk_52_method_15_code 6 = .ok (.iushr, 1) := by decide +kernel
theorem d7_7 : decode jdk_52_method_15_code 7 = .ok (.i2b, 1) := by decide +kernel
theorem d7_8 : decode jdk_52_method_15_code 8 = .ok (.ireturn, 1) := by decide +kernel
theorem d8_0 : decode prog_9_method_1_code 0 = .ok (.aload_n 0, 1) := by decide +kernel
theorem d8_1 : decode prog_9_method_1_code 1 = .ok (.invokespecial 1, 3) := by decide +kernel
theorem d8_4 : decode prog_9_method_1_code 4 = .ok (.aload_n 0, 1) := by decide +kernel
theorem d8_5 : decode prog_9_method_1_code 5 = .ok (.aload_n 1, 1) := by decide +kernel
theorem d8_6 : decode prog_9_method_1_code 6 = .ok (.putfield 7, 3) := by decide +kernel
theorem d8_9 : decode prog_9_method_1_code 9 = .ok (.aload_n 0, 1) := by decide +kernel
theorem d8_10 : decode prog_9_method_1_code 10 = .ok (.aload_n 2, 1) := by decide +kernel
theorem d8_11 : decode prog_9_method_1_code 11 = .ok (.putfield 13, 3) := by decide +kernel
theorem d8_14 : decode prog_9_method_1_code 14 = .ok (.return_, 1) := by decide +kernel
theorem d9_0 : decode jdk_30_method_1_code 0 = .ok (.aload_n 0, 1) := by decide +kernel
theorem d9_1 : decode jdk_30_method_1_code 1 = .ok (.invokespecial 1, 3) := by decide +kernel
theorem d9_4 : decode jdk_30_method_1_code 4 = .ok (.return_, 1) := by decide +kernel
theorem d10_0 : decode prog_9_method_5_code 0 = .ok (.new 35, 3) := by decide +kernel
theorem d10_3 : decode prog_9_method_5_code 3 = .ok (.dup, 1) := by decide +kernel
theorem d10_4 : decode prog_9_method_5_code 4 = .ok (.invokespecial 37, 3) := by decide +kernel
theorem d10_7 : decode prog_9_method_5_code 7 = .ok (.aload_n 0, 1) := by decide +kernel
theorem d10_8 : decode prog_9_method_5_code 8 = .ok (.getfield 7, 3) := by decide +kernel
theorem d10_11 : decode prog_9_method_5_code 11 = .ok (.invokevirtual 40, 3) := by decide +kernel
theorem d10_14 : decode prog_9_method_5_code 14 = .ok (.ldc 82, 2) := by decide +kernel
theorem d10_16 : decode prog_9_method_5_code 16 = .ok (.invokevirtual 40, 3) := by decide +kernel
theorem d10_19 : decode prog_9_method_5_code 19 = .ok (.aload_n 0, 1) := by decide +kernel
theorem d10_20 : decode prog_9_method_5_code 20 = .ok (.getfield 13, 3) := by decide +kernel
theorem d10_23 : decode prog_9_method_5_code 23 = .ok (.invokevirtual 40, 3) := by decide +kernel
theorem d10_26 : decode prog_9_method_5_code 26 = .ok (.invokevirtual 52, 3) := by decide +kernel
theorem d10_29 : decode prog_9_method_5_code 29 = .ok (.areturn, 1) := by decide +kernel
theorem d11_0 : decode jdk_67_method_1_code 0 = .ok (.aload_n 0, 1) := by decide +kernel
theorem d11_1 : decode jdk_67_method_1_code 1 = .ok (.bipush 16, 2) := by decide +kernel
theorem d11_3 : decode jdk_67_method_1_code 3 = .ok (.invokespecial 1, 3) := by decide +kernel
theorem d11_6 : decode jdk_67_method_1_code 6 = .ok (.return_, 1) := by decide +kernel
theorem d12_0 : decode jdk_68_method_2_code 0 = .ok (.aload_n 0, 1) := by decide +kernel
theorem d12_1 : decode jdk_68_method_2_code 1 = .ok (.invokespecial 3, 3) := by decide +kernel
theorem d12_4 : decode jdk_68_method_2_code 4 = .ok (.getstatic 18, 3) := by decide +kernel
theorem d12_7 : decode jdk_68_method_2_code 7 = .ok (.ifCond .eq 18, 3) := by decide +kernel
theorem d12_10 : decode jdk_68_method_2_code 10 = .ok (.aload_n 0, 1) := by decide +kernel
theorem d12_11 : decode jdk_68_method_2_code 11 = .ok (.iload_n 1, 1) := by decide +kernel
theorem d12_12 : decode jdk_68_method_2_code 12 = .ok (.newarray .byte, 2) := by decide +kernel
theorem d12_14 : decode jdk_68_method_2_code 14 = .ok (.putfield 15, 3) := by decide +kernel
theorem d12_17 : decode jdk_68_method_2_code 17 = .ok (.aload_n 0, 1) := by decide +kernel
theorem d12_18 : decode jdk_68_method_2_code 18 = .ok (.iconst 0, 1) := by decide +kernel
theorem d12_19 : decode jdk_68_method_2_code 19 = .ok (.putfield 22, 3) := by decide +kernel
theorem d12_22 : decode jdk_68_method_2_code 22 = .ok (.goto 16, 3) := by decide +kernel
theorem d12_38 : decode jdk_68_method_2_code 38 = .ok (.return_, 1) := by decide +kernel
theorem d13_0 : decode jdk_67_method_7_code 0 = .ok (.aload_n 0, 1) := by decide +kernel
theorem d13_1 : decode jdk_67_method_7_code 1 = .ok (.aload_n 1, 1) := by decide +kernel
theorem d13_2 : decode jdk_67_method_7_code 2 = .ok (.invokespecial 29, 3) := by decide +kernel
theorem d13_5 : decode jdk_67_method_7_code 5 = .ok (.pop, 1) := by decide +kernel
theorem d13_6 : decode jdk_67_method_7_code 6 = .ok (.aload_n 0, 1) := by decide +kernel
theorem d13_7 : decode jdk_67_method_7_code 7 = .ok (.areturn, 1) := by decide +kernel
theorem d14_0 : decode jdk_68_method_22_code 0 = .ok (.aload_n 1, 1) := by decide +kernel
theorem d14_1 : decode jdk_68_method_22_code 1 = .ok (.ifnonnull 8, 3) := by decide +kernel
theorem d14_9 : decode jdk_68_method_22_code 9 = .ok (.aload_n 1, 1) := by decide +kernel
theorem d14_10 : decode jdk_68_method_22_code 10 = .ok (.invokevirtual 32, 3) := by decide +kernel
theorem d14_13 : decode jdk_68_method_22_code 13 = .ok (.istore_n 2, 1) := by decide +kernel
theorem d14_14 : decode jdk_68_method_22_code 14 = .ok (.aload_n 0, 1) := by decide +kernel
theorem d14_15 : decode jdk_68_method_22_code 15 = .ok (.aload_n 0, 1) := by decide +kernel
theorem d14_16 : decode jdk_68_method_22_code 16 = .ok (.getfield 79, 3) := by decide +kernel
theorem d14_19 : decode jdk_68_method_22_code 19 = .ok (.iload_n 2, 1) := by decide +kernel
theorem d14_20 : decode jdk_68_method_22_code 20 = .ok (.iadd, 1) := by decide +kernel
theorem d14_21 : decode jdk_68_method_22_code 21 = .ok (.invokevirtual 100, 3) := by decide +kernel
theorem d14_24 : decode jdk_68_method_22_code 24 = .ok (.aload_n 0, 1) := by decide +kernel
theorem d14_25 : decode jdk_68_method_22_code 25 = .ok (.aload_n 0, 1) := by decide +kernel
theorem d14_26 : decode jdk_68_method_22_code 26 = .ok (.getfield 79, 3) := by decide +kernel
theorem d14_29 : decode jdk_68_method_22_code 29 = .ok (.aload_n 1, 1) := by decide +kernel
theorem d14_30 : decode jdk_68_method_22_code 30 = .ok (.invokevirtual 208, 3) := by decide +kernel
theorem d14_33 : decode jdk_68_method_22_code 33 = .ok (.aload_n 0, 1) := by decide +kernel
theorem d14_34 : decode jdk_68_method_22_code 34 = .ok (.dup, 1) := by decide +kernel
theorem d14_35 : decode jdk_68_method_22_code 35 = .ok (.getfield 79, 3) := by decide +kernel
theorem d14_38 : decode jdk_68_method_22_code 38 = .ok (.iload_n 2, 1) := by decide +kernel
theorem d14_39 : decode jdk_68_method_22_code 39 = .ok (.iadd, 1) := by decide +kernel
theorem d14_40 : decode jdk_68_method_22_code 40 = .ok (.putfield 79, 3) := by decide +kernel
theorem d14_43 : decode jdk_68_method_22_code 43 = .ok (.aload_n 0, 1) := by decide +kernel
theorem d14_44 : decode jdk_68_method_22_code 44 = .ok (.areturn, 1) := by decide +kernel
theorem d15_0 : decode jdk_42_method_54_code 0 = .ok (.aload_n 0, 1) := by decide +kernel
theorem d15_1 : decode jdk_42_method_54_code 1 = .ok (.getfield 9, 3) := by decide +kernel
theorem d15_4 : decode jdk_42_method_54_code 4 = .ok (.arraylength, 1) := by decide +kernel
theorem d15_5 : decode jdk_42_method_54_code 5 = .ok (.aload_n 0, 1) := by decide +kernel
theorem d15_6 : decode jdk_42_method_54_code 6 = .ok (.invokevirtual 335, 3) := by decide +kernel
theorem d15_9 : decode jdk_42_method_54_code 9 = .ok (.ishr, 1) := by decide +kernel
theorem d15_10 : decode jdk_42_method_54_code 10 = .ok (.ireturn, 1) := by decide +kernel
theorem d16_0 : decode jdk_42_method_152_code 0 = .ok (.getstatic 38, 3) := by decide +kernel
theorem d16_3 : decode jdk_42_method_152_code 3 = .ok (.ifCond .eq 10, 3) := by decide +kernel
theorem d16_6 : decode jdk_42_method_152_code 6 = .ok (.aload_n 0, 1) := by decide +kernel
theorem d16_7 : decode jdk_42_method_152_code 7 = .ok (.getfield 15, 3) := by decide +kernel
theorem d16_10 : decode jdk_42_method_152_code 10 = .ok (.goto 4, 3) := by decide +kernel
theorem d16_14 : decode jdk_42_method_152_code 14 = .ok (.ireturn, 1) := by decide +kernel
theorem d17_0 : decode jdk_68_method_9_code 0 = .ok (.aload_n 0, 1) := by decide +kernel
theorem d17_1 : decode jdk_68_method_9_code 1 = .ok (.getfield 15, 3) := by decide +kernel
theorem d17_4 : decode jdk_68_method_9_code 4 = .ok (.arraylength, 1) := by decide +kernel
theorem d17_5 : decode jdk_68_method_9_code 5 = .ok (.aload_n 0, 1) := by decide +kernel
theorem d17_6 : decode jdk_68_method_9_code 6 = .ok (.getfield 22, 3) := by decide +kernel
theorem d17_9 : decode jdk_68_method_9_code 9 = .ok (.ishr, 1) := by decide +kernel
theorem d17_10 : decode jdk_68_method_9_code 10 = .ok (.istore_n 2, 1) := by decide +kernel
theorem d17_11 : decode jdk_68_method_9_code 11 = .ok (.iload_n 1, 1) := by decide +kernel
theorem d17_12 : decode jdk_68_method_9_code 12 = .ok (.iload_n 2, 1) := by decide +kernel
theorem d17_13 : decode jdk_68_method_9_code 13 = .ok (.isub, 1) := by decide +kernel
theorem d17_14 : decode jdk_68_method_9_code 14 = .ok (.ifCond .le 24, 3) := by decide +kernel
theorem d17_38 : decode jdk_68_method_9_code 38 = .ok (.return_, 1) := by decide +kernel
theorem d18_0 : decode jdk_68_method_73_code 0 = .ok (.aload_n 0, 1) := by decide +kernel
theorem d18_1 : decode jdk_68_method_73_code 1 = .ok (.aload_n 2, 1) := by decide +kernel
theorem d18_2 : decode jdk_68_method_73_code 2 = .ok (.invokevirtual 397, 3) := by decide +kernel
theorem d18_5 : decode jdk_68_method_73_code 5 = .ok (.aload_n 2, 1) := by decide +kernel
theorem d18_6 : decode jdk_68_method_73_code 6 = .ok (.aload_n 0, 1) := by decide +kernel
theorem d18_7 : decode jdk_68_method_73_code 7 = .ok (.getfield 15, 3) := by decide +kernel
theorem d18_10 : decode jdk_68_method_73_code 10 = .ok (.iload_n 1, 1) := by decide +kernel
theorem d18_11 : decode jdk_68_method_73_code 11 = .ok (.aload_n 0, 1) := by decide +kernel
theorem d18_12 : decode jdk_68_method_73_code 12 = .ok (.getfield 22, 3) := by decide +kernel
theorem d18_15 : decode jdk_68_method_73_code 15 = .ok (.invokevirtual 399, 3) := by decide +kernel
theorem d18_18 : decode jdk_68_method_73_code 18 = .ok (.return_, 1) := by decide +kernel
theorem d19_0 : decode jdk_68_method_71_code 0 = .ok (.getstatic 18, 3) := by decide +kernel
theorem d19_3 : decode jdk_68_method_71_code 3 = .ok (.ifCond .eq 18, 3) := by decide +kernel
theorem d19_6 : decode jdk_68_method_71_code 6 = .ok (.aload_n 0, 1) := by decide +kernel
theorem d19_7 : decode jdk_68_method_71_code 7 = .ok (.getfield 22, 3) := by decide +kernel
theorem d19_10 : decode jdk_68_method_71_code 10 = .ok (.aload_n 1, 1) := by decide +kernel
theorem d19_11 : decode jdk_68_method_71_code 11 = .ok (.invokevirtual 40, 3) := by decide +kernel
theorem d19_14 : decode jdk_68_method_71_code 14 = .ok (.if_icmp .eq 7, 3) := by decide +kernel
theorem d19_21 : decode jdk_68_method_71_code 21 = .ok (.return_, 1) := by decide +kernel
theorem d20_0 : decode jdk_42_method_147_code 0 = .ok (.aload_n 0, 1) := by decide +kernel
theorem d20_1 : decode jdk_42_method_147_code 1 = .ok (.invokevirtual 335, 3) := by decide +kernel
theorem d20_4 : decode jdk_42_method_147_code 4 = .ok (.iload_n 3, 1) := by decide +kernel
theorem d20_5 : decode jdk_42_method_147_code 5 = .ok (.if_icmp .ne 23, 3) := by decide +kernel
theorem d20_8 : decode jdk_42_method_147_code 8 = .ok (.aload_n 0, 1) := by decide +kernel
theorem d20_9 : decode jdk_42_method_147_code 9 = .ok (.getfield 9, 3) := by decide +kernel
theorem d20_12 : decode jdk_42_method_147_code 12 = .ok (.iconst 0, 1) := by decide +kernel
theorem d20_13 : decode jdk_42_method_147_code 13 = .ok (.aload_n 1, 1) := by decide +kernel
theorem d20_14 : decode jdk_42_method_147_code 14 = .ok (.iload_n 2, 1) := by decide +kernel
theorem d20_15 : decode jdk_42_method_147_code 15 = .ok (.iload_n 3, 1) := by decide +kernel
theorem d20_16 : decode jdk_42_method_147_code 16 = .ok (.ishl, 1) := by decide +kernel
theorem d20_17 : decode jdk_42_method_147_code 17 = .ok (.aload_n 0, 1) := by decide +kernel
theorem d20_18 : decode jdk_42_method_147_code 18 = .ok (.getfield 9, 3) := by decide +kernel
theorem d20_21 : decode jdk_42_method_147_code 21 = .ok (.arraylength, 1) := by decide +kernel
theorem d20_22 : decode jdk_42_method_147_code 22 = .ok (.invokestatic 212, 3) := by decide +kernel
theorem d20_25 : decode jdk_42_method_147_code 25 = .ok (.goto 18, 3) := by decide +kernel
theorem d20_43 : decode jdk_42_method_147_code 43 = .ok (.return_, 1) := by decide +kernel
theorem d21_0 : decode jdk_67_method_42_code 0 = .ok (.new 18, 3) := by decide +kernel
theorem d21_3 : decode jdk_67_method_42_code 3 = .ok (.dup, 1) := by decide +kernel
theorem d21_4 : decode jdk_67_method_42_code 4 = .ok (.aload_n 0, 1) := by decide +kernel
theorem d21_5 : decode jdk_67_method_42_code 5 = .ok (.invokespecial 137, 3) := by decide +kernel
theorem d21_8 : decode jdk_67_method_42_code 8 = .ok (.areturn, 1) := by decide +kernel
theorem d22_0 : decode jdk_42_method_53_code 0 = .ok (.aload_n 0, 1) := by decide +kernel
theorem d22_1 : decode jdk_42_method_53_code 1 = .ok (.aload_n 1, 1) := by decide +kernel
theorem d22_2 : decode jdk_42_method_53_code 2 = .ok (.aconst_null, 1) := by decide +kernel
theorem d22_3 : decode jdk_42_method_53_code 3 = .ok (.invokespecial 489, 3) := by decide +kernel
theorem d22_6 : decode jdk_42_method_53_code 6 = .ok (.return_, 1) := by decide +kernel
theorem d23_0 : decode jdk_42_method_150_code 0 = .ok (.aload_n 0, 1) := by decide +kernel
theorem d23_1 : decode jdk_42_method_150_code 1 = .ok (.invokespecial 1, 3) := by decide +kernel
theorem d23_4 : decode jdk_42_method_150_code 4 = .ok (.aload_n 1, 1) := by decide +kernel
theorem d23_5 : decode jdk_42_method_150_code 5 = .ok (.invokevirtual 552, 3) := by decide +kernel
theorem d23_8 : decode jdk_42_method_150_code 8 = .ok (.astore_n 3, 1) := by decide +kernel
theorem d23_9 : decode jdk_42_method_150_code 9 = .ok (.aload_n 1, 1) := by decide +kernel
theorem d23_10 : decode jdk_42_method_150_code 10 = .ok (.invokevirtual 549, 3) := by decide +kernel
theorem d23_13 : decode jdk_42_method_150_code 13 = .ok (.istore 4, 2) := by decide +kernel
theorem d23_15 : decode jdk_42_method_150_code 15 = .ok (.aload_n 1, 1) := by decide +kernel
theorem d23_16 : decode jdk_42_method_150_code 16 = .ok (.invokevirtual 1047, 3) := by decide +kernel
theorem d23_19 : decode jdk_42_method_150_code 19 = .ok (.ifCond .eq 22, 3) := by decide +kernel
theorem d23_22 : decode jdk_42_method_150_code 22 = .ok (.aload_n 0, 1) := by decide +kernel
theorem d23_23 : decode jdk_42_method_150_code 23 = .ok (.iconst 0, 1) := by decide +kernel
theorem d23_24 : decode jdk_42_method_150_code 24 = .ok (.putfield 15, 3) := by decide +kernel
theorem d23_27 : decode jdk_42_method_150_code 27 = .ok (.aload_n 0, 1) := by decide +kernel
theorem d23_28 : decode jdk_42_method_150_code 28 = .ok (.aload_n 3, 1) := by decide +kernel
theorem d23_29 : decode jdk_42_method_150_code 29 = .ok (.iconst 0, 1) := by decide +kernel
theorem d23_30 : decode jdk_42_method_150_code 30 = .ok (.iload 4, 2) := by decide +kernel
theorem d23_32 : decode jdk_42_method_150_code 32 = .ok (.invokestatic 54, 3) := by decide +kernel
theorem d23_35 : decode jdk_42_method_150_code 35 = .ok (.putfield 9, 3) := by decide +kernel
theorem d23_38 : decode jdk_42_method_150_code 38 = .ok (.goto 59, 3) := by decide +kernel
theorem d23_97 : decode jdk_42_method_150_code 97 = .ok (.return_, 1) := by decide +kernel
theorem d24_0 : decode jdk_68_method_64_code 0 = .ok (.aload_n 0, 1) := by decide +kernel
theorem d24_1 : decode jdk_68_method_64_code 1 = .ok (.getfield 15, 3) := by decide +kernel
theorem d24_4 : decode jdk_68_method_64_code 4 = .ok (.areturn, 1) := by decide +kernel
theorem d25_0 : decode jdk_67_method_93_code 0 = .ok (.aload_n 0, 1) := by decide +kernel
theorem d25_1 : decode jdk_67_method_93_code 1 = .ok (.invokespecial 343, 3) := by decide +kernel
theorem d25_4 : decode jdk_67_method_93_code 4 = .ok (.ireturn, 1) := by decide +kernel
theorem d26_0 : decode jdk_68_method_6_code 0 = .ok (.aload_n 0, 1) := by decide +kernel
theorem d26_1 : decode jdk_68_method_6_code 1 = .ok (.getfield 79, 3) := by decide +kernel
theorem d26_4 : decode jdk_68_method_6_code 4 = .ok (.ireturn, 1) := by decide +kernel
theorem d27_0 : decode jdk_68_method_68_code 0 = .ok (.getstatic 18, 3) := by decide +kernel
theorem d27_3 : decode jdk_68_method_68_code 3 = .ok (.ifCond .eq 14, 3) := by decide +kernel
theorem d27_6 : decode jdk_68_method_68_code 6 = .ok (.aload_n 0, 1) := by decide +kernel
theorem d27_7 : decode jdk_68_method_68_code 7 = .ok (.getfield 22, 3) := by decide +kernel
theorem d27_10 : decode jdk_68_method_68_code 10 = .ok (.ifCond .ne 7, 3) := by decide +kernel
theorem d27_13 : decode jdk_68_method_68_code 13 = .ok (.iconst 1, 1) := by decide +kernel
theorem d27_14 : decode jdk_68_method_68_code 14 = .ok (.goto 4, 3) := by decide +kernel
theorem d27_18 : decode jdk_68_method_68_code 18 = .ok (.ireturn, 1) := by decide +kernel
theorem d28_0 : decode jdk_65_method_132_code 0 = .ok (.iload_n 1, 1) := by decide +kernel
theorem d28_1 : decode jdk_65_method_132_code 1 = .ok (.ifCond .ne 9, 3) := by decide +kernel
theorem d28_4 : decode jdk_65_method_132_code 4 = .ok (.iload_n 2, 1) := by decide +kernel
theorem d28_5 : decode jdk_65_method_132_code 5 = .ok (.aload_n 0, 1) := by decide +kernel
theorem d28_6 : decode jdk_65_method_132_code 6 = .ok (.arraylength, 1) := by decide +kernel
theorem d28_7 : decode jdk_65_method_132_code 7 = .ok (.if_icmp .eq 10, 3) := by decide +kernel
theorem d28_10 : decode jdk_65_method_132_code 10 = .ok (.aload_n 0, 1) := by decide +kernel
theorem d28_11 : decode jdk_65_method_132_code 11 = .ok (.iload_n 1, 1) := by decide +kernel
theorem d28_12 : decode jdk_65_method_132_code 12 = .ok (.iload_n 2, 1) := by decide +kernel
theorem d28_13 : decode jdk_65_method_132_code 13 = .ok (.invokestatic 339, 3) := by decide +kernel
theorem d28_16 : decode jdk_65_method_132_code 16 = .ok (.areturn, 1) := by decide +kernel
theorem d29_0 : decode jdk_65_method_133_code 0 = .ok (.iload_n 1, 1) := by decide +kernel
theorem d29_1 : decode jdk_65_method_133_code 1 = .ok (.iload_n 2, 1) := by decide +kernel
theorem d29_2 : decode jdk_65_method_133_code 2 = .ok (.invokestatic 343, 3) := by decide +kernel
theorem d29_5 : decode jdk_65_method_133_code 5 = .ok (.iload_n 2, 1) := by decide +kernel
theorem d29_6 : decode jdk_65_method_133_code 6 = .ok (.iload_n 1, 1) := by decide +kernel
theorem d29_7 : decode jdk_65_method_133_code 7 = .ok (.isub, 1) := by decide +kernel
theorem d29_8 : decode jdk_65_method_133_code 8 = .ok (.istore_n 3, 1) := by decide +kernel
theorem d29_9 : decode jdk_65_method_133_code 9 = .ok (.iload_n 3, 1) := by decide +kernel
theorem d29_10 : decode jdk_65_method_133_code 10 = .ok (.newarray .byte, 2) := by decide +kernel
theorem d29_12 : decode jdk_65_method_133_code 12 = .ok (.astore 4, 2) := by decide +kernel
theorem d29_14 : decode jdk_65_method_133_code 14 = .ok (.aload_n 0, 1) := by decide +kernel
theorem d29_15 : decode jdk_65_method_133_code 15 = .ok (.iload_n 1, 1) := by decide +kernel
theorem d29_16 : decode jdk_65_method_133_code 16 = .ok (.aload 4, 2) := by decide +kernel
theorem d29_18 : decode jdk_65_method_133_code 18 = .ok (.iconst 0, 1) := by decide +kernel
theorem d29_19 : decode jdk_65_method_133_code 19 = .ok (.aload_n 0, 1) := by decide +kernel
theorem d29_20 : decode jdk_65_method_133_code 20 = .ok (.arraylength, 1) := by decide +kernel
theorem d29_21 : decode jdk_65_method_133_code 21 = .ok (.iload_n 1, 1) := by decide +kernel
theorem d29_22 : decode jdk_65_method_133_code 22 = .ok (.isub, 1) := by decide +kernel
theorem d29_23 : decode jdk_65_method_133_code 23 = .ok (.iload_n 3, 1) := by decide +kernel
theorem d29_24 : decode jdk_65_method_133_code 24 = .ok (.invokestatic 304, 3) := by decide +kernel
theorem d29_27 : decode jdk_65_method_133_code 27 = .ok (.invokestatic 150, 3) := by decide +kernel
theorem d29_30 : decode jdk_65_method_133_code 30 = .ok (.aload 4, 2) := by decide +kernel
theorem d29_32 : decode jdk_65_method_133_code 32 = .ok (.areturn, 1) := by decide +kernel
theorem d30_0 : decode jdk_65_method_131_code 0 = .ok (.iload_n 1, 1) := by decide +kernel
theorem d30_1 : decode jdk_65_method_131_code 1 = .ok (.iload_n 0, 1) := by decide +kernel
theorem d30_2 : decode jdk_65_method_131_code 2 = .ok (.if_icmp .ge 35, 3) := by decide +kernel
theorem d30_37 : decode jdk_65_method_131_code 37 = .ok (.return_, 1) := by decide +kernel
theorem d31_0 : decode jdk_29_method_69_code 0 = .ok (.iload_n 0, 1) := by decide +kernel
theorem d31_1 : decode jdk_29_method_69_code 1 = .ok (.iload_n 1, 1) := by decide +kernel
theorem d31_2 : decode jdk_29_method_69_code 2 = .ok (.if_icmp .gt 7, 3) := by decide +kernel
theorem d31_9 : decode jdk_29_method_69_code 9 = .ok (.iload_n 1, 1) := by decide +kernel
theorem d31_10 : decode jdk_29_method_69_code 10 = .ok (.ireturn, 1) := by decide +kernel
theorem d32_0 : decode method_3_code 0 = .ok (.aload_n 1, 1) := by decide +kernel
theorem d32_1 : decode method_3_code 1 = .ok (.invokevirtual 18, 3) := by decide +kernel
theorem d32_4 : decode method_3_code 4 = .ok (.istore 4, 2) := by decide +kernel
theorem d32_6 : decode method_3_code 6 = .ok (.iload 4, 2) := by decide +kernel
theorem d32_8 : decode method_3_code 8 = .ok (.iconst 1, 1) := by decide +kernel
theorem d32_9 : decode method_3_code 9 = .ok (.iadd, 1) := by decide +kernel
theorem d32_10 : decode method_3_code 10 = .ok (.aload_n 2, 1) := by decide +kernel
theorem d32_11 : decode method_3_code 11 = .ok (.invokevirtual 18, 3) := by decide +kernel
theorem d32_14 : decode method_3_code 14 = .ok (.iadd, 1) := by decide +kernel
theorem d32_15 : decode method_3_code 15 = .ok (.istore 5, 2) := by decide +kernel
theorem d32_17 : decode method_3_code 17 = .ok (.iload_n 3, 1) := by decide +kernel
theorem d32_18 : decode method_3_code 18 = .ok (.iload 5, 2) := by decide +kernel
theorem d32_20 : decode method_3_code 20 = .ok (.if_icmp .lt 5, 3) := by decide +kernel
theorem d32_23 : decode method_3_code 23 = .ok (.iconst 1, 1) := by decide +kernel
theorem d32_24 : decode method_3_code 24 = .ok (.ireturn, 1) := by decide +kernel
theorem d32_25 : decode method_3_code 25 = .ok (.iload_n 3, 1) := by decide +kernel
theorem d32_26 : decode method_3_code 26 = .ok (.iload 4, 2) := by decide +kernel
theorem d32_28 : decode method_3_code 28 = .ok (.if_icmp .ge 13, 3) := by decide +kernel
theorem d32_31 : decode method_3_code 31 = .ok (.aload_n 1, 1) := by decide +kernel
theorem d32_32 : decode method_3_code 32 = .ok (.iload_n 3, 1) := by decide +kernel
theorem d32_33 : decode method_3_code 33 = .ok (.invokevirtual 22, 3) := by decide +kernel
theorem d32_36 : decode method_3_code 36 = .ok (.istore 6, 2) := by decide +kernel
theorem d32_38 : decode method_3_code 38 = .ok (.goto 28, 3) := by decide +kernel
theorem d32_41 : decode method_3_code 41 = .ok (.iload_n 3, 1) := by decide +kernel
theorem d32_42 : decode method_3_code 42 = .ok (.iload 4, 2) := by decide +kernel
theorem d32_44 : decode method_3_code 44 = .ok (.if_icmp .ne 10, 3) := by decide +kernel
theorem d32_47 : decode method_3_code 47 = .ok (.bipush 46, 2) := by decide +kernel
theorem d32_49 : decode method_3_code 49 = .ok (.istore 6, 2) := by decide +kernel
theorem d32_51 : decode method_3_code 51 = .ok (.goto 15, 3) := by decide +kernel
theorem d32_54 : decode method_3_code 54 = .ok (.aload_n 2, 1) := by decide +kernel
theorem d32_55 : decode method_3_code 55 = .ok (.iload_n 3, 1) := by decide +kernel
theorem d32_56 : decode method_3_code 56 = .ok (.iload 4, 2) := by decide +kernel
theorem d32_58 : decode method_3_code 58 = .ok (.isub, 1) := by decide +kernel
theorem d32_59 : decode method_3_code 59 = .ok (.iconst 1, 1) := by decide +kernel
theorem d32_60 : decode method_3_code 60 = .ok (.isub, 1) := by decide +kernel
theorem d32_61 : decode method_3_code 61 = .ok (.invokevirtual 22, 3) := by decide +kernel
theorem d32_64 : decode method_3_code 64 = .ok (.istore 6, 2) := by decide +kernel
theorem d32_66 : decode method_3_code 66 = .ok (.aload_n 0, 1) := by decide +kernel
theorem d32_67 : decode method_3_code 67 = .ok (.iload_n 3, 1) := by decide +kernel
theorem d32_68 : decode method_3_code 68 = .ok (.invokevirtual 22, 3) := by decide +kernel
theorem d32_71 : decode method_3_code 71 = .ok (.iload 6, 2) := by decide +kernel
theorem d32_73 : decode method_3_code 73 = .ok (.if_icmp .ne 7, 3) := by decide +kernel
theorem d32_76 : decode method_3_code 76 = .ok (.iconst 1, 1) := by decide +kernel
theorem d32_77 : decode method_3_code 77 = .ok (.goto 4, 3) := by decide +kernel
theorem d32_81 : decode method_3_code 81 = .ok (.ireturn, 1) := by decide +kernel
theorem d33_0 : decode jdk_42_method_56_code 0 = .ok (.aload_n 0, 1) := by decide +kernel
theorem d33_1 : decode jdk_42_method_56_code 1 = .ok (.invokevirtual 492, 3) := by decide +kernel
theorem d33_4 : decode jdk_42_method_56_code 4 = .ok (.ifCond .eq 12, 3) := by decide +kernel
theorem d33_7 : decode jdk_42_method_56_code 7 = .ok (.aload_n 0, 1) := by decide +kernel
theorem d33_8 : decode jdk_42_method_56_code 8 = .ok (.getfield 9, 3) := by decide +kernel
theorem d33_11 : decode jdk_42_method_56_code 11 = .ok (.iload_n 1, 1) := by decide +kernel
theorem d33_12 : decode jdk_42_method_56_code 12 = .ok (.invokestatic 495, 3) := by decide +kernel
theorem d33_15 : decode jdk_42_method_56_code 15 = .ok (.ireturn, 1) := by decide +kernel
theorem d34_0 : decode jdk_42_method_154_code 0 = .ok (.getstatic 38, 3) := by decide +kernel
theorem d34_3 : decode jdk_42_method_154_code 3 = .ok (.ifCond .eq 14, 3) := by decide +kernel
theorem d34_6 : decode jdk_42_method_154_code 6 = .ok (.aload_n 0, 1) := by decide +kernel
theorem d34_7 : decode jdk_42_method_154_code 7 = .ok (.getfield 15, 3) := by decide +kernel
theorem d34_10 : decode jdk_42_method_154_code 10 = .ok (.ifCond .ne 7, 3) := by decide +kernel
theorem d34_13 : decode jdk_42_method_154_code 13 = .ok (.iconst 1, 1) := by decide +kernel
theorem d34_14 : decode jdk_42_method_154_code 14 = .ok (.goto 4, 3) := by decide +kernel
theorem d34_18 : decode jdk_42_method_154_code 18 = .ok (.ireturn, 1) := by decide +kernel
theorem d35_0 : decode jdk_43_method_2_code 0 = .ok (.iload_n 1, 1) := by decide +kernel
theorem d35_1 : decode jdk_43_method_2_code 1 = .ok (.aload_n 0, 1) := by decide +kernel
theorem d35_2 : decode jdk_43_method_2_code 2 = .ok (.arraylength, 1) := by decide +kernel
theorem d35_3 : decode jdk_43_method_2_code 3 = .ok (.invokestatic 9, 3) := by decide +kernel
theorem d35_6 : decode jdk_43_method_2_code 6 = .ok (.aload_n 0, 1) := by decide +kernel
theorem d35_7 : decode jdk_43_method_2_code 7 = .ok (.iload_n 1, 1) := by decide +kernel
theorem d35_8 : decode jdk_43_method_2_code 8 = .ok (.baload, 1) := by decide +kernel
theorem d35_9 : decode jdk_43_method_2_code 9 = .ok (.sipush 255, 3) := by decide +kernel
theorem d35_12 : decode jdk_43_method_2_code 12 = .ok (.iand, 1) := by decide +kernel
theorem d35_13 : decode jdk_43_method_2_code 13 = .ok (.i2c, 1) := by decide +kernel
theorem d35_14 : decode jdk_43_method_2_code 14 = .ok (.ireturn, 1) := by decide +kernel
theorem d36_0 : decode jdk_42_method_155_code 0 = .ok (.iload_n 0, 1) := by decide +kernel
theorem d36_1 : decode jdk_42_method_155_code 1 = .ok (.iload_n 1, 1) := by decide +kernel
theorem d36_2 : decode jdk_42_method_155_code 2 = .ok (.getstatic 1053, 3) := by decide +kernel
theorem d36_5 : decode jdk_42_method_155_code 5 = .ok (.invokestatic 1059, 3) := by decide +kernel
theorem d36_8 : decode jdk_42_method_155_code 8 = .ok (.pop, 1) := by decide +kernel
theorem d36_9 : decode jdk_42_method_155_code 9 = .ok (.return_, 1) := by decide +kernel
theorem d37_0 : decode jdk_41_method_11_code 0 = .ok (.iload_n 0, 1) := by decide +kernel
theorem d37_1 : decode jdk_41_method_11_code 1 = .ok (.ifCond .lt 8, 3) := by decide +kernel
theorem d37_4 : decode jdk_41_method_11_code 4 = .ok (.iload_n 0, 1) := by decide +kernel
theorem d37_5 : decode jdk_41_method_11_code 5 = .ok (.iload_n 1, 1) := by decide +kernel
theorem d37_6 : decode jdk_41_method_11_code 6 = .ok (.if_icmp .lt 10, 3) := by decide +kernel
theorem d37_16 : decode jdk_41_method_11_code 16 = .ok (.iload_n 0, 1) := by decide +kernel
theorem d37_17 : decode jdk_41_method_11_code 17 = .ok (.ireturn, 1) := by decide +kernel
theorem d38_0 : decode jdk_42_method_139_code 0 = .ok (.getstatic 38, 3) := by decide +kernel
theorem d38_3 : decode jdk_42_method_139_code 3 = .ok (.ifCond .eq 23, 3) := by decide +kernel
theorem d38_6 : decode jdk_42_method_139_code 6 = .ok (.iload_n 0, 1) := by decide +kernel
theorem d38_7 : decode jdk_42_method_139_code 7 = .ok (.invokestatic 1015, 3) := by decide +kernel
theorem d38_10 : decode jdk_42_method_139_code 10 = .ok (.ifCond .eq 16, 3) := by decide +kernel
theorem d38_13 : decode jdk_42_method_139_code 13 = .ok (.new 10, 3) := by decide +kernel
theorem d38_16 : decode jdk_42_method_139_code 16 = .ok (.dup, 1) := by decide +kernel
theorem d38_17 : decode jdk_42_method_139_code 17 = .ok (.iload_n 0, 1) := by decide +kernel
theorem d38_18 : decode jdk_42_method_139_code 18 = .ok (.invokestatic 1018, 3) := by decide +kernel
theorem d38_21 : decode jdk_42_method_139_code 21 = .ok (.iconst 0, 1) := by decide +kernel
theorem d38_22 : decode jdk_42_method_139_code 22 = .ok (.invokespecial 209, 3) := by decide +kernel
theorem d38_25 : decode jdk_42_method_139_code 25 = .ok (.areturn, 1) := by decide +kernel
theorem d39_0 : decode jdk_43_method_3_code 0 = .ok (.iload_n 0, 1) := by decide +kernel
theorem d39_1 : decode jdk_43_method_3_code 1 = .ok (.sipush 255, 3) := by decide +kernel
theorem d39_4 : decode jdk_43_method_3_code 4 = .ok (.if_icmp .gt 7, 3) := by decide +kernel
theorem d39_7 : decode jdk_43_method_3_code 7 = .ok (.iconst 1, 1) := by decide +kernel
theorem d39_8 : decode jdk_43_method_3_code 8 = .ok (.goto 4, 3) := by decide +kernel
theorem d39_12 : decode jdk_43_method_3_code 12 = .ok (.ireturn, 1) := by decide +kernel
theorem d40_0 : decode jdk_43_method_46_code 0 = .ok (.iconst 1, 1) := by decide +kernel
theorem d40_1 : decode jdk_43_method_46_code 1 = .ok (.newarray .byte, 2) := by decide +kernel
theorem d40_3 : decode jdk_43_method_46_code 3 = .ok (.dup, 1) := by decide +kernel
theorem d40_4 : decode jdk_43_method_46_code 4 = .ok (.iconst 0, 1) := by decide +kernel
theorem d40_5 : decode jdk_43_method_46_code 5 = .ok (.iload_n 0, 1) := by decide +kernel
theorem d40_6 : decode jdk_43_method_46_code 6 = .ok (.i2b, 1) := by decide +kernel
theorem d40_7 : decode jdk_43_method_46_code 7 = .ok (.bastore, 1) := by decide +kernel
theorem d40_8 : decode jdk_43_method_46_code 8 = .ok (.areturn, 1) := by decide +kernel
theorem d41_0 : decode jdk_42_method_151_code 0 = .ok (.aload_n 0, 1) := by decide +kernel
theorem d41_1 : decode jdk_42_method_151_code 1 = .ok (.invokespecial 1, 3) := by decide +kernel
theorem d41_4 : decode jdk_42_method_151_code 4 = .ok (.aload_n 0, 1) := by decide +kernel
theorem d41_5 : decode jdk_42_method_151_code 5 = .ok (.aload_n 1, 1) := by decide +kernel
theorem d41_6 : decode jdk_42_method_151_code 6 = .ok (.putfield 9, 3) := by decide +kernel
theorem d41_9 : decode jdk_42_method_151_code 9 = .ok (.aload_n 0, 1) := by decide +kernel
theorem d41_10 : decode jdk_42_method_151_code 10 = .ok (.iload_n 2, 1) := by decide +kernel
theorem d41_11 : decode jdk_42_method_151_code 11 = .ok (.putfield 15, 3) := by decide +kernel
theorem d41_14 : decode jdk_42_method_151_code 14 = .ok (.return_, 1) := by decide +kernel
theorem pd_0 : parseMethodDescriptor "()B" = some ⟨[], some (.byte)⟩ := by decide +kernel
theorem pd_1 : parseMethodDescriptor "(IILjava/util/function/BiFunction;)I" = some ⟨[.int, .int, .object "java/util/function/BiFunction"], some (.int)⟩ := by decide +kernel
theorem pd_2 : parseMethodDescriptor "(II)V" = some ⟨[.int, .int], none⟩ := by decide +kernel
theorem pd_3 : parseMethodDescriptor "()Z" = some ⟨[], some (.boolean)⟩ := by decide +kernel
theorem pd_4 : parseMethodDescriptor "([BI)C" = some ⟨[(.array (.byte)), .int], some (.char)⟩ := by decide +kernel
theorem pd_5 : parseMethodDescriptor "(I)V" = some ⟨[.int], none⟩ := by decide +kernel
theorem pd_6 : parseMethodDescriptor "(Ljava/lang/String;)V" = some ⟨[.object "java/lang/String"], none⟩ := by decide +kernel
theorem pd_7 : parseMethodDescriptor "([BIB)V" = some ⟨[(.array (.byte)), .int, .byte], none⟩ := by decide +kernel
theorem pd_8 : parseMethodDescriptor "()I" = some ⟨[], some (.int)⟩ := by decide +kernel
theorem pd_9 : parseMethodDescriptor "(ILjava/lang/String;)V" = some ⟨[.int, .object "java/lang/String"], none⟩ := by decide +kernel
theorem pd_10 : parseMethodDescriptor "(Ljava/lang/String;)Ljava/lang/AbstractStringBuilder;" = some ⟨[.object "java/lang/String"], some (.object "java/lang/AbstractStringBuilder")⟩ := by decide +kernel
theorem pd_11 : parseMethodDescriptor "(II)I" = some ⟨[.int, .int], some (.int)⟩ := by decide +kernel
theorem pd_12 : parseMethodDescriptor "([BII)[B" = some ⟨[(.array (.byte)), .int, .int], some ((.array (.byte)))⟩ := by decide +kernel
theorem pd_13 : parseMethodDescriptor "()[B" = some ⟨[], some ((.array (.byte)))⟩ := by decide +kernel
theorem pd_14 : parseMethodDescriptor "(Ljava/lang/AbstractStringBuilder;Ljava/lang/Void;)V" = some ⟨[.object "java/lang/AbstractStringBuilder", .object "java/lang/Void"], none⟩ := by decide +kernel
theorem pd_15 : parseMethodDescriptor "(Ljava/lang/StringBuilder;)V" = some ⟨[.object "java/lang/StringBuilder"], none⟩ := by decide +kernel
theorem pd_16 : parseMethodDescriptor "(C)Z" = some ⟨[.char], some (.boolean)⟩ := by decide +kernel
theorem pd_17 : parseMethodDescriptor "(C)[B" = some ⟨[.char], some ((.array (.byte)))⟩ := by decide +kernel
theorem pd_18 : parseMethodDescriptor "([BB)V" = some ⟨[(.array (.byte)), .byte], none⟩ := by decide +kernel
theorem pd_19 : parseMethodDescriptor "([CI[BII)I" = some ⟨[(.array (.char)), .int, (.array (.byte)), .int, .int], some (.int)⟩ := by decide +kernel
theorem pd_20 : parseMethodDescriptor "([CII)[B" = some ⟨[(.array (.char)), .int, .int], some ((.array (.byte)))⟩ := by decide +kernel
theorem pd_21 : parseMethodDescriptor "([BI)B" = some ⟨[(.array (.byte)), .int], some (.byte)⟩ := by decide +kernel
theorem pd_22 : parseMethodDescriptor "([CIILjava/lang/Void;)V" = some ⟨[(.array (.char)), .int, .int, .object "java/lang/Void"], none⟩ := by decide +kernel
theorem pd_23 : parseMethodDescriptor "(I)C" = some ⟨[.int], some (.char)⟩ := by decide +kernel
theorem pd_24 : parseMethodDescriptor "()V" = some ⟨[], none⟩ := by decide +kernel
theorem pd_25 : parseMethodDescriptor "(C)Ljava/lang/String;" = some ⟨[.char], some (.object "java/lang/String")⟩ := by decide +kernel
theorem pd_26 : parseMethodDescriptor "([C)V" = some ⟨[(.array (.char))], none⟩ := by decide +kernel
theorem pd_27 : parseMethodDescriptor "(Ljava/lang/String;)Ljava/lang/StringBuilder;" = some ⟨[.object "java/lang/String"], some (.object "java/lang/StringBuilder")⟩ := by decide +kernel
theorem pd_28 : parseMethodDescriptor "()Ljava/lang/String;" = some ⟨[], some (.object "java/lang/String")⟩ := by decide +kernel
theorem pd_29 : parseMethodDescriptor "(II)Ljava/lang/String;" = some ⟨[.int, .int], some (.object "java/lang/String")⟩ := by decide +kernel
theorem pd_30 : parseMethodDescriptor "(Ljava/lang/String;Ljava/lang/String;)V" = some ⟨[.object "java/lang/String", .object "java/lang/String"], none⟩ := by decide +kernel
theorem pd_31 : parseMethodDescriptor "(Ljava/lang/String;Ljava/lang/String;Ljava/lang/String;I)Z" = some ⟨[.object "java/lang/String", .object "java/lang/String", .object "java/lang/String", .int], some (.boolean)⟩ := by decide +kernel
theorem pq0 : plainName "java/lang/String" = true := by first | (simp [plainName, overriddenIn]; done) | decide +kernel
theorem eq0f (m : MethodId) (x0 : Addr) : entryFrame m #[(.ref x0)] 1 = mkF m 0 #[.val (.ref x0)] [] := by first | (simp [entryFrame, mkF, argsToLocals, Value.category, maxLocals]; done) | rfl
set_option maxRecDepth 65536 in
set_option maxHeartbeats 40000000 in
theorem rmCoder (l : Launch) (Z : State) (a0 : Array Value) (hw : ∀ d ∈ tables_1, d.before a0 Z = true) (z0 : Int32) (hz0 : ¬ z0 = (0 : Int32)) (Sz0 : Sta Z Z.heap "java/lang/String" "COMPACT_STRINGS" "Z" (.int z0)) (fm : Value) (hfm : fm.isRef = true) (Sfm : Sta Z Z.heap "jdk/internal/util/Preconditions" "SIOOBE_FORMATTER" "Ljava/util/function/BiFunction;" fm) (o : Addr) (h0 : Heap) (n0 : Nat) (O0 : Oln Z n0 h0) (Fc : Fld Z h0 o "java/lang/String" "coder" "B" (.int (0 : Int32))) :
    OCon l Z (⟨"java/lang/String", "coder", "()B"⟩ : MethodName) jdk_42_method_152_code 1 (some (.byte)) [] ({ frames := 0, cells := 0, slots := 0, locals := 0 } : Room) #[(.ref o)] h0 (fun v h L => v = some (.int (0 : Int32)) ∧ h = h0 ∧ Fr n0 L) := by
  refine con (plainFor_of_name pq0) ?_
  intro p e s m below meth c s₁ hx hby hml hZ hown hnm hret hlk X0 e0
  refine entry (eq0f m o) ?_
  have M0 := Fr.nil n0
  refine s_getS X0 hx hby hZ (n := 3) hown (hw _ (List.mem_of_getElem? (i := 18) rfl)) e0 (Sz0.ext O0.2) d16_0 rfl ?_
  intro T1 X1 e1
  refine s_ifN X1 hx hby (n := 6) d16_3 (XT.i0_eq_f hz0) rfl ?_
  refine s_aloadN X1 hx hby (n := 7) (x := (.ref o)) d16_6 rfl rfl rfl ?_
  refine s_getF X1 hx hby hZ (n := 10) hown (hw _ (List.mem_of_getElem? (i := 30) rfl)) e1 Fc d16_7 rfl ?_
  intro T2 X2 e2
  refine s_goto X2 hx hby (n := 14) d16_10 (by decide) (by decide) ?_
  exact s_retN X2 hx hby hlk hret (t := .byte) (by simp) (z' := (0 : Int32)) (by decide) d16_14 (by decide) (by decide) ⟨rfl, e2, M0⟩
set_option maxRecDepth 65536 in
set_option maxHeartbeats 40000000 in
theorem rmLen (l : Launch) (Z : State) (a0 : Array Value) (hw : ∀ d ∈ tables_1, d.before a0 Z = true) (z0 : Int32) (hz0 : ¬ z0 = (0 : Int32)) (Sz0 : Sta Z Z.heap "java/lang/String" "COMPACT_STRINGS" "Z" (.int z0)) (fm : Value) (hfm : fm.isRef = true) (Sfm : Sta Z Z.heap "jdk/internal/util/Preconditions" "SIOOBE_FORMATTER" "Ljava/util/function/BiFunction;" fm) (o : Addr) (bs : List Int32) (h0 : Heap) (n0 : Nat) (O0 : Oln Z n0 h0) (S : Str Z h0 o bs) :
    OCon l Z (⟨"java/lang/String", "length", "()I"⟩ : MethodName) jdk_42_method_54_code 1 (some (.int)) [] ({ frames := 1, cells := 0, slots := 0, locals := 13 } : Room) #[(.ref o)] h0 (fun v h L => v = some (.int (Int32.ofNat bs.length)) ∧ h = h0 ∧ Fr n0 L) := by
  refine con (plainFor_of_name pq0) ?_
  intro p e s m below meth c s₁ hx hby hml hZ hown hnm hret hlk X0 e0
  refine entry (eq0f m o) ?_
  have M0 := Fr.nil n0
  obtain ⟨sE, sFc, sb, sFv, slt, sk, scb, sAb, shk, sSz, shz, sHb, sGb⟩ := S
  refine s_aloadN X0 hx hby (n := 1) (x := (.ref o)) d15_0 rfl rfl rfl ?_
  refine s_getF X0 hx hby hZ (n := 4) hown (hw _ (List.mem_of_getElem? (i := 32) rfl)) e0 sFv d15_1 rfl ?_
  intro T1 X1 e1
  refine s_arraylength X1 hx hby hZ (n := 5) e1 sAb (z := (Int32.ofNat bs.length)) sSz shz d15_4 rfl ?_
  refine s_aloadN X1 hx hby (n := 6) (x := (.ref o)) d15_5 rfl rfl rfl ?_
  refine s_callV X1 hx hby hml hZ (n := 9) hown (hw _ (List.mem_of_getElem? (i := 91) rfl)) (hw _ (List.mem_of_getElem? (i := 92) rfl)) (notFace_of_selects (args := #[]) (mvT hZ (hw _ (List.mem_of_getElem? (i := 94) rfl)))) (hw _ (List.mem_of_getElem? (i := 94) rfl)) (hw _ (List.mem_of_getElem? (i := 93) rfl)) (hw _ (List.mem_of_getElem? (i := 6) rfl)) (hw _ (List.mem_of_getElem? (i := 95) rfl)) (by decide) (rmCoder l Z a0 hw z0 hz0 Sz0 fm hfm Sfm o h0 n0 O0 sFc) e1 (by decide) 1 (by decide) (by decide) (by decide) pd_0 sE [] [(.int (Int32.ofNat bs.length))] rfl rfl rfl (Nat.le_of_eq rfl) rfl d15_6 rfl ?_
  intro T2 L2 v2 X2 q2c
  obtain ⟨rfl, e2, N2⟩ := q2c
  show OE p e below _ T2 (mkF m 9 #[.val (.ref o)] [(.int (0 : Int32)), (.int (Int32.ofNat bs.length))])
  have M2 := Fr.app M0 N2
  refine s_ishr X2 hx hby (n := 10) d15_9 rfl ?_
  refine s_fold (z := (Int32.ofNat bs.length)) (shr0 _) ?_
  exact s_retI X2 hx hby hlk hret d15_10 (by decide) (by decide) ⟨rfl, e2, M2⟩
theorem pnS : plainName "java/lang/String" = true := by first | (simp [plainName, overriddenIn]; done) | decide +kernel
theorem pnSL : plainName "java/lang/StringLatin1" = true := by first | (simp [plainName, overriddenIn]; done) | decide +kernel
theorem pnPC : plainName "jdk/internal/util/Preconditions" = true := by first | (simp [plainName, overriddenIn]; done) | decide +kernel
theorem efS1 (m : MethodId) (x0 : Addr) : entryFrame m #[(.ref x0)] 1 = mkF m 0 #[.val (.ref x0)] [] := by first | (simp [entryFrame, mkF, argsToLocals, Value.category, maxLocals]; done) | rfl
theorem efSI (m : MethodId) (x0 : Addr) (x1 : Int32) : entryFrame m #[(.ref x0), (.int x1)] 2 = mkF m 0 #[.val (.ref x0), .val (.int x1)] [] := by first | (simp [entryFrame, mkF, argsToLocals, Value.category, maxLocals]; done) | rfl
theorem efAI (m : MethodId) (x0 : Addr) (x1 : Int32) : entryFrame m #[(.ref x0), (.int x1)] 2 = mkF m 0 #[.val (.ref x0), .val (.int x1)] [] := by first | (simp [entryFrame, mkF, argsToLocals, Value.category, maxLocals]; done) | rfl
theorem efII2 (m : MethodId) (x0 : Int32) (x1 : Int32) : entryFrame m #[(.int x0), (.int x1)] 2 = mkF m 0 #[.val (.int x0), .val (.int x1)] [] := by first | (simp [entryFrame, mkF, argsToLocals, Value.category, maxLocals]; done) | rfl
theorem efP3 (m : MethodId) (x0 x1 : Int32) (x2 : Value) (hr : x2.isRef = true) : entryFrame m #[(.int x0), (.int x1), x2] 3 = mkF m 0 #[.val (.int x0), .val (.int x1), .val x2] [] := by
  rcases ref_cases hr with rfl | ⟨a, rfl⟩ <;> first | (simp [entryFrame, mkF, argsToLocals, Value.category, maxLocals]; done) | rfl
set_option maxRecDepth 65536 in
set_option maxHeartbeats 40000000 in
theorem rmPC (l : Launch) (Z : State) (a0 : Array Value) (hw : ∀ d ∈ tables_1, d.before a0 Z = true) (p1 p2 : Int32) (fm : Value) (hfm : fm.isRef = true) (q1 : ¬ p1 < 0) (q2 : p1 < p2) (h0 : Heap) (n0 : Nat)  :
    OCon l Z (⟨"jdk/internal/util/Preconditions", "checkIndex", "(IILjava/util/function/BiFunction;)I"⟩ : MethodName) jdk_41_method_11_code 3 (some (.int)) [] ({ frames := 0, cells := 0, slots := 0, locals := 0 } : Room) #[(.int p1), (.int p2), fm] h0 (fun v h L => v = some (.int p1) ∧ h = h0 ∧ Fr n0 L) := by
  refine con (plainFor_of_name pnPC) ?_
  intro p e s m below meth c s₁ hx hby hml hZ hown hnm hret hlk X0 e0
  refine entry (efP3 m p1 p2 fm hfm) ?_
  have M0 := Fr.nil n0
  refine s_iloadN X0 hx hby (n := 1) (x := p1) d37_0 rfl rfl ?_
  refine s_ifN X0 hx hby (n := 4) d37_1 (XT.i0_lt_f q1) rfl ?_
  refine s_iloadN X0 hx hby (n := 5) (x := p1) d37_4 rfl rfl ?_
  refine s_iloadN X0 hx hby (n := 6) (x := p2) d37_5 rfl rfl ?_
  refine s_icmpY X0 hx hby (n := 16) d37_6 (XT.ii_lt_t q2) (by decide) (by decide) ?_
  refine s_iloadN X0 hx hby (n := 17) (x := p1) d37_16 rfl rfl ?_
  exact s_retI X0 hx hby hlk hret d37_17 (by decide) (by decide) ⟨rfl, e0, M0⟩
set_option maxRecDepth 65536 in
set_option maxHeartbeats 40000000 in
theorem rmCk (l : Launch) (Z : State) (a0 : Array Value) (hw : ∀ d ∈ tables_1, d.before a0 Z = true) (p1 p2 : Int32) (q1 : ¬ p1 < 0) (q2 : p1 < p2) (h0 : Heap) (n0 : Nat) (fm : Value) (hfm : fm.isRef = true) (Sfm : Sta Z h0 "jdk/internal/util/Preconditions" "SIOOBE_FORMATTER" "Ljava/util/function/BiFunction;" fm) :
    OCon l Z (⟨"java/lang/String", "checkIndex", "(II)V"⟩ : MethodName) jdk_42_method_155_code 2 (none) [] ({ frames := 1, cells := 0, slots := 0, locals := 14 } : Room) #[(.int p1), (.int p2)] h0 (fun v h L => v = none ∧ h = h0 ∧ Fr n0 L) := by
  refine con (plainFor_of_name pnS) ?_
  intro p e s m below meth c s₁ hx hby hml hZ hown hnm hret hlk X0 e0
  refine entry (efII2 m p1 p2) ?_
  have M0 := Fr.nil n0
  refine s_iloadN X0 hx hby (n := 1) (x := p1) d36_0 rfl rfl ?_
  refine s_iloadN X0 hx hby (n := 2) (x := p2) d36_1 rfl rfl ?_
  refine s_getS X0 hx hby hZ (n := 5) hown (hw _ (List.mem_of_getElem? (i := 190) rfl)) e0 Sfm d36_2 rfl ?_
  intro T1 X1 e1
  refine s_callS X1 hx hby hml hZ (n := 8) hown (hw _ (List.mem_of_getElem? (i := 192) rfl)) (hw _ (List.mem_of_getElem? (i := 193) rfl)) (hw _ (List.mem_of_getElem? (i := 191) rfl)) (hw _ (List.mem_of_getElem? (i := 194) rfl)) (by decide) (rmPC l Z a0 hw p1 p2 fm hfm q1 q2 h0 n0) e1 (by decide) 0 (by decide) (by decide) (by decide) pd_1 [(.int p1), (.int p2), fm] [] rfl rfl rfl (Nat.le_of_eq rfl) rfl d36_5 rfl ?_
  intro T2 L2 v2 X2 q2c
  obtain ⟨rfl, e2, N2⟩ := q2c
  show OE p e below _ T2 (mkF m 8 #[.val (.int p1), .val (.int p2)] [(.int p1)])
  have M2 := Fr.app M0 N2
  refine s_pop X2 hx hby (n := 9) d36_8 rfl rfl ?_
  exact s_ret X2 hx hby hlk hret d36_9 (by decide) (by decide) ⟨rfl, e2, M2⟩
set_option maxRecDepth 65536 in
set_option maxHeartbeats 40000000 in
theorem rmLat (l : Launch) (Z : State) (a0 : Array Value) (hw : ∀ d ∈ tables_1, d.before a0 Z = true) (o : Addr) (h0 : Heap) (n0 : Nat) (z0 : Int32) (hz0 : ¬ z0 = (0 : Int32)) (Sz0 : Sta Z h0 "java/lang/String" "COMPACT_STRINGS" "Z" (.int z0)) (Fc : Fld Z h0 o "java/lang/String" "coder" "B" (.int (0 : Int32))) :
    OCon l Z (⟨"java/lang/String", "isLatin1", "()Z"⟩ : MethodName) jdk_42_method_154_code 1 (some (.boolean)) [] ({ frames := 0, cells := 0, slots := 0, locals := 0 } : Room) #[(.ref o)] h0 (fun v h L => v = some (.int 1) ∧ h = h0 ∧ Fr n0 L) := by
  refine con (plainFor_of_name pnS) ?_
  intro p e s m below meth c s₁ hx hby hml hZ hown hnm hret hlk X0 e0
  refine entry (efS1 m o) ?_
  have M0 := Fr.nil n0
  refine s_getS X0 hx hby hZ (n := 3) hown (hw _ (List.mem_of_getElem? (i := 18) rfl)) e0 Sz0 d34_0 rfl ?_
  intro T1 X1 e1
  refine s_ifN X1 hx hby (n := 6) d34_3 (XT.i0_eq_f hz0) rfl ?_
  refine s_aloadN X1 hx hby (n := 7) (x := (.ref o)) d34_6 rfl rfl rfl ?_
  refine s_getF X1 hx hby hZ (n := 10) hown (hw _ (List.mem_of_getElem? (i := 30) rfl)) e1 Fc d34_7 rfl ?_
  intro T2 X2 e2
  refine s_ifN X2 hx hby (n := 13) d34_10 (by decide) rfl ?_
  refine s_iconst X2 hx hby (n := 14) (v := (1 : Int32)) d34_13 rfl rfl ?_
  refine s_goto X2 hx hby (n := 18) d34_14 (by decide) (by decide) ?_
  exact s_retN X2 hx hby hlk hret (t := .boolean) (by simp) (z' := (1 : Int32)) (by decide) d34_18 (by decide) (by decide) ⟨rfl, e2, M0⟩
set_option maxRecDepth 65536 in
set_option maxHeartbeats 40000000 in
theorem rmLC (l : Launch) (Z : State) (a0 : Array Value) (hw : ∀ d ∈ tables_1, d.before a0 Z = true) (a : Addr) (cl : Cell) (z p1 b : Int32) (h0 : Heap) (n0 : Nat) (fm : Value) (hfm : fm.isRef = true) (Sfm : Sta Z h0 "jdk/internal/util/Preconditions" "SIOOBE_FORMATTER" "Ljava/util/function/BiFunction;" fm) (Ar : Arr Z h0 a cl .byte) (Sz : cl.slots.size = z.toNatClampNeg) (hz : ¬ z < 0) (q1 : ¬ p1 < 0) (q2 : p1 < z) (Bi : cl.slots[p1.toNatClampNeg]? = some (.int b)) :
    OCon l Z (⟨"java/lang/StringLatin1", "charAt", "([BI)C"⟩ : MethodName) jdk_43_method_2_code 2 (some (.char)) [] ({ frames := 2, cells := 0, slots := 0, locals := 27 } : Room) #[(.ref a), (.int p1)] h0 (fun v h L => v = some (.int (b &&& (255 : Int32))) ∧ h = h0 ∧ Fr n0 L) := by
  refine con (plainFor_of_name pnSL) ?_
  intro p e s m below meth c s₁ hx hby hml hZ hown hnm hret hlk X0 e0
  refine entry (efAI m a p1) ?_
  have M0 := Fr.nil n0
  refine s_iloadN X0 hx hby (n := 1) (x := p1) d35_0 rfl rfl ?_
  refine s_aloadN X0 hx hby (n := 2) (x := (.ref a)) d35_1 rfl rfl rfl ?_
  refine s_arraylength X0 hx hby hZ (n := 3) e0 Ar (z := z) Sz hz d35_2 rfl ?_
  refine s_callS X0 hx hby hml hZ (n := 6) hown (hw _ (List.mem_of_getElem? (i := 187) rfl)) (hw _ (List.mem_of_getElem? (i := 188) rfl)) (hw _ (List.mem_of_getElem? (i := 6) rfl)) (hw _ (List.mem_of_getElem? (i := 189) rfl)) (by decide) (rmCk l Z a0 hw p1 z q1 q2 h0 n0 fm hfm Sfm) e0 (by decide) 0 (by decide) (by decide) (by decide) pd_2 [(.int p1), (.int z)] [] rfl rfl rfl (Nat.le_of_eq rfl) rfl d35_3 rfl ?_
  intro T1 L1 v1 X1 q1c
  obtain ⟨rfl, e1, N1⟩ := q1c
  show OE p e below _ T1 (mkF m 6 #[.val (.ref a), .val (.int p1)] [])
  have M1 := Fr.app M0 N1
  refine s_aloadN X1 hx hby (n := 7) (x := (.ref a)) d35_6 rfl rfl rfl ?_
  refine s_iloadN X1 hx hby (n := 8) (x := p1) d35_7 rfl rfl ?_
  refine s_baload X1 hx hby hZ (n := 9) e1 Ar (inb_of Sz ⟨q1, q2⟩) Bi d35_8 rfl ?_
  refine s_sipush X1 hx hby (n := 12) (v := (255 : Int32)) d35_9 rfl rfl ?_
  refine s_iand X1 hx hby (n := 13) d35_12 rfl ?_
  refine s_i2c X1 hx hby (n := 14) d35_13 rfl ?_
  refine s_fold (z := (b &&& (255 : Int32))) (i2c_mask b) ?_
  exact s_retN X1 hx hby hlk hret (t := .char) (by simp) (z' := (b &&& (255 : Int32))) (i2c_mask b) d35_14 (by decide) (by decide) ⟨rfl, e1, M1⟩
set_option maxRecDepth 65536 in
set_option maxHeartbeats 40000000 in
theorem rmCh (l : Launch) (Z : State) (a0 : Array Value) (hw : ∀ d ∈ tables_1, d.before a0 Z = true) (o a : Addr) (cl : Cell) (z p1 b : Int32) (h0 : Heap) (n0 : Nat) (z0 : Int32) (hz0 : ¬ z0 = (0 : Int32)) (Sz0 : Sta Z h0 "java/lang/String" "COMPACT_STRINGS" "Z" (.int z0)) (fm : Value) (hfm : fm.isRef = true) (Sfm : Sta Z h0 "jdk/internal/util/Preconditions" "SIOOBE_FORMATTER" "Ljava/util/function/BiFunction;" fm) (E : Exa Z h0 o "java/lang/String") (Fc : Fld Z h0 o "java/lang/String" "coder" "B" (.int (0 : Int32))) (Fv : Fld Z h0 o "java/lang/String" "value" "[B" (.ref a)) (Ar : Arr Z h0 a cl .byte) (Sz : cl.slots.size = z.toNatClampNeg) (hz : ¬ z < 0) (q1 : ¬ p1 < 0) (q2 : p1 < z) (Bi : cl.slots[p1.toNatClampNeg]? = some (.int b)) :
    OCon l Z (⟨"java/lang/String", "charAt", "(I)C"⟩ : MethodName) jdk_42_method_56_code 2 (some (.char)) [] ({ frames := 3, cells := 0, slots := 0, locals := 40 } : Room) #[(.ref o), (.int p1)] h0 (fun v h L => v = some (.int (b &&& (255 : Int32))) ∧ h = h0 ∧ Fr n0 L) := by
  refine con (plainFor_of_name pnS) ?_
  intro p e s m below meth c s₁ hx hby hml hZ hown hnm hret hlk X0 e0
  refine entry (efSI m o p1) ?_
  have M0 := Fr.nil n0
  refine s_aloadN X0 hx hby (n := 1) (x := (.ref o)) d33_0 rfl rfl rfl ?_
  refine s_callV X0 hx hby hml hZ (n := 4) hown (hw _ (List.mem_of_getElem? (i := 178) rfl)) (hw _ (List.mem_of_getElem? (i := 179) rfl)) (notFace_of_selects (args := #[]) (mvT hZ (hw _ (List.mem_of_getElem? (i := 181) rfl)))) (hw _ (List.mem_of_getElem? (i := 181) rfl)) (hw _ (List.mem_of_getElem? (i := 180) rfl)) (hw _ (List.mem_of_getElem? (i := 6) rfl)) (hw _ (List.mem_of_getElem? (i := 182) rfl)) (by decide) (rmLat l Z a0 hw o h0 n0 z0 hz0 Sz0 Fc) e0 (by decide) 0 (by decide) (by decide) (by decide) pd_3 E [] [] rfl rfl rfl (Nat.le_of_eq rfl) rfl d33_1 rfl ?_
  intro T1 L1 v1 X1 q1c
  obtain ⟨rfl, e1, N1⟩ := q1c
  show OE p e below _ T1 (mkF m 4 #[.val (.ref o), .val (.int p1)] [(.int (1 : Int32))])
  have M1 := Fr.app M0 N1
  refine s_ifN X1 hx hby (n := 7) d33_4 (by decide) rfl ?_
  refine s_aloadN X1 hx hby (n := 8) (x := (.ref o)) d33_7 rfl rfl rfl ?_
  refine s_getF X1 hx hby hZ (n := 11) hown (hw _ (List.mem_of_getElem? (i := 32) rfl)) e1 Fv d33_8 rfl ?_
  intro T2 X2 e2
  refine s_iloadN X2 hx hby (n := 12) (x := p1) d33_11 rfl rfl ?_
  refine s_callS X2 hx hby hml hZ (n := 15) hown (hw _ (List.mem_of_getElem? (i := 183) rfl)) (hw _ (List.mem_of_getElem? (i := 184) rfl)) (hw _ (List.mem_of_getElem? (i := 185) rfl)) (hw _ (List.mem_of_getElem? (i := 186) rfl)) (by decide) (rmLC l Z a0 hw a cl z p1 b h0 n0 fm hfm Sfm Ar Sz hz q1 q2 Bi) e2 (by decide) 0 (by decide) (by decide) (by decide) pd_4 [(.ref a), (.int p1)] [] rfl rfl rfl (Nat.le_of_eq rfl) rfl d33_12 rfl ?_
  intro T3 L3 v3 X3 q3c
  obtain ⟨rfl, e3, N3⟩ := q3c
  show OE p e below _ T3 (mkF m 15 #[.val (.ref o), .val (.int p1)] [(.int (b &&& (255 : Int32)))])
  have M3 := Fr.app M1 N3
  exact s_retN X3 hx hby hlk hret (t := .char) (by simp) (z' := (b &&& (255 : Int32))) (i2c_mask b) d33_15 (by decide) (by decide) ⟨rfl, e3, M3⟩
theorem rmChS (l : Launch) (Z : State) (a0 : Array Value) (hw : ∀ d ∈ tables_1, d.before a0 Z = true) (z0 : Int32) (hz0 : ¬ z0 = (0 : Int32)) (Sz0 : Sta Z Z.heap "java/lang/String" "COMPACT_STRINGS" "Z" (.int z0)) (fm : Value) (hfm : fm.isRef = true) (Sfm : Sta Z Z.heap "jdk/internal/util/Preconditions" "SIOOBE_FORMATTER" "Ljava/util/function/BiFunction;" fm) (o : Addr) (bs : List Int32) (i : Nat) (h0 : Heap) (n0 : Nat) (O0 : Oln Z n0 h0) (S : Str Z h0 o bs) (hi : i < bs.length) :
    OCon l Z (⟨"java/lang/String", "charAt", "(I)C"⟩ : MethodName) jdk_42_method_56_code 2 (some .char) [] ({ frames := 3, cells := 0, slots := 0, locals := 40 } : Room) #[(.ref o), (.int (Int32.ofNat i))] h0 (fun v h L => v = some (.int ((bs.getD i 0) &&& (255 : Int32))) ∧ h = h0 ∧ Fr n0 L) := by
  obtain ⟨sE, sFc, sb, sFv, slt, sk, scb, sAb, shk, sSz, shz, sHb, sGb⟩ := S
  refine rmCh l Z a0 hw o sb scb (Int32.ofNat bs.length) (Int32.ofNat i) (bs.getD i 0) h0 n0 z0 hz0 (Sz0.ext O0.2) fm hfm (Sfm.ext O0.2) sE sFc sFv sAb sSz shz (p32 (by omega)) ((lt32 (by omega) slt).mpr hi) ?_
  rw [c32 (by omega), sHb i (by rw [sSz, c32 slt]; exact hi), getDm]
theorem pq1 : plainName "java/lang/AbstractStringBuilder" = true := by first | (simp [plainName, overriddenIn]; done) | decide +kernel
theorem eq1f (m : MethodId) (x0 : Addr) (x1 : Int32) : entryFrame m #[(.ref x0), (.int x1)] 2 = mkF m 0 #[.val (.ref x0), .val (.int x1)] [] := by first | (simp [entryFrame, mkF, argsToLocals, Value.category, maxLocals]; done) | rfl
set_option maxRecDepth 65536 in
set_option maxHeartbeats 40000000 in
theorem rmASBi (l : Launch) (Z : State) (a0 : Array Value) (hw : ∀ d ∈ tables_1, d.before a0 Z = true) (z0 : Int32) (hz0 : ¬ z0 = (0 : Int32)) (Sz0 : Sta Z Z.heap "java/lang/String" "COMPACT_STRINGS" "Z" (.int z0)) (fm : Value) (hfm : fm.isRef = true) (Sfm : Sta Z Z.heap "jdk/internal/util/Preconditions" "SIOOBE_FORMATTER" "Ljava/util/function/BiFunction;" fm) (o : Addr) (h0 : Heap) (n0 : Nat) (O0 : Oln Z n0 h0) (n_o : n0 ≤ o) (E0 : Exa Z h0 o "java/lang/StringBuilder") (F0v : Fld Z h0 o "java/lang/AbstractStringBuilder" "value" "[B" .null) (F0c : Fld Z h0 o "java/lang/AbstractStringBuilder" "coder" "B" (.int (0 : Int32))) (F0n : Fld Z h0 o "java/lang/AbstractStringBuilder" "count" "I" (.int (0 : Int32))) :
    OCon l Z (⟨"java/lang/AbstractStringBuilder", "<init>", "(I)V"⟩ : MethodName) jdk_68_method_2_code 2 (none) [] ({ frames := 1, cells := 1, slots := 16, locals := 12 } : Room) #[(.ref o), (.int (16 : Int32))] h0 (fun v h L => v = none ∧ Fr n0 L ∧ Keep h0 h [o] ∧ ∃ d, n0 ≤ d ∧ SBd Z h o d []) := by
  refine con (plainFor_of_name pq1) ?_
  intro p e s m below meth c s₁ hx hby hml hZ hown hnm hret hlk X0 e0
  refine entry (eq1f m o (16 : Int32)) ?_
  have M0 := Fr.nil n0
  have K0 := Keep.refl h0 [o]
  refine s_aloadN X0 hx hby (n := 1) (x := (.ref o)) d12_0 rfl rfl rfl ?_
  refine s_initO X0 hx hby hml hZ (n := 4) hown (hw _ (List.mem_of_getElem? (i := 70) rfl)) (hw _ (List.mem_of_getElem? (i := 16) rfl)) (hw _ (List.mem_of_getElem? (i := 17) rfl)) e0 (by decide) 0 (Nat.le_of_eq rfl) (by decide) rfl d12_1 rfl ?_
  intro T1 X1 e1
  refine s_getS X1 hx hby hZ (n := 7) hown (hw _ (List.mem_of_getElem? (i := 71) rfl)) e1 (Sz0.ext O0.2) d12_4 rfl ?_
  intro T2 X2 e2
  refine s_ifN X2 hx hby (n := 10) d12_7 (XT.i0_eq_f hz0) rfl ?_
  refine s_aloadN X2 hx hby (n := 11) (x := (.ref o)) d12_10 rfl rfl rfl ?_
  refine s_iloadN X2 hx hby (n := 12) (x := (16 : Int32)) d12_11 rfl rfl ?_
  refine s_newP X2 hx hby hZ (n := 14) (hw _ (List.mem_of_getElem? (i := 23) rfl)) (ty := .byte) rfl e2 (num := (16 : Int32)) (by decide) 16 (by decide) (by decide) (by decide) (by decide) d12_12 rfl ?_
  intro T3 h3 cd d gd X3 e3 Q3 A3
  have n_d : n0 ≤ d := by rw [gd]; exact Oln.le O0
  have V3_d := Arv.new A3 (by decide)
  have E3_o := E0.ext Q3
  have F3_o_value := F0v.ext Q3
  have F3_o_coder := F0c.ext Q3
  have F3_o_count := F0n.ext Q3
  have K3 := K0.ext Q3
  have OO3 := O0.ext Q3
  have V3 : Arv Z h3 d cd .byte 16 (([] : List Int32).map Value.int ++ List.replicate (16 - ([] : List Int32).length) (.int 0)) (.int 0) := Arv.pad V3_d (pad_rep [] _ 16)
  have ned : d ≠ o := (arv_exa E3_o (hw _ (List.mem_of_getElem? (i := 59) rfl)) V3).symm
  refine s_putF X3 hx hby hZ (n := 17) hown (hw _ (List.mem_of_getElem? (i := 72) rfl)) e3 F3_o_value E3_o (Or.inl (hw _ (List.mem_of_getElem? (i := 73) rfl))) (hw _ (List.mem_of_getElem? (i := 59) rfl)) (ty := (.array (.byte))) (by decide) rfl rfl d12_14 rfl ?_
  intro T4 h4 X4 e4 W4
  have E4_o := E3_o.wr W4
  have F4_o_value := Fld.same W4 F3_o_value
  have F4_o_coder := Fld.other W4 F3_o_coder (Or.inr (slot_ne (Or.inl (hw _ (List.mem_of_getElem? (i := 75) rfl))) (Or.inl (hw _ (List.mem_of_getElem? (i := 73) rfl))) (by decide) (t := .byte) (t' := (.array (.byte))) (by decide) (by decide)))
  have F4_o_count := Fld.other W4 F3_o_count (Or.inr (slot_ne (Or.inl (hw _ (List.mem_of_getElem? (i := 97) rfl))) (Or.inl (hw _ (List.mem_of_getElem? (i := 73) rfl))) (by decide) (t := .int) (t' := (.array (.byte))) (by decide) (by decide)))
  have M4 := Fr.snoc X4 M0 n_o
  have K4 := Keep.wr K3 W4 (Or.inl (List.mem_of_getElem? (i := 0) rfl))
  have OO4 := OO3.wr W4 n_o
  have V4 := V3.other W4 ned
  refine s_aloadN X4 hx hby (n := 18) (x := (.ref o)) d12_17 rfl rfl rfl ?_
  refine s_iconst X4 hx hby (n := 19) (v := (0 : Int32)) d12_18 rfl rfl ?_
  refine s_putF X4 hx hby hZ (n := 22) hown (hw _ (List.mem_of_getElem? (i := 74) rfl)) e4 F4_o_coder E4_o (Or.inl (hw _ (List.mem_of_getElem? (i := 75) rfl))) (hw _ (List.mem_of_getElem? (i := 59) rfl)) (ty := .byte) (by decide) rfl rfl d12_19 rfl ?_
  intro T5 h5 X5 e5 W5
  have E5_o := E4_o.wr W5
  have F5_o_value := Fld.other W5 F4_o_value (Or.inr (slot_ne (Or.inl (hw _ (List.mem_of_getElem? (i := 73) rfl))) (Or.inl (hw _ (List.mem_of_getElem? (i := 75) rfl))) (by decide) (t := (.array (.byte))) (t' := .byte) (by decide) (by decide)))
  have F5_o_coder := Fld.same W5 F4_o_coder
  have F5_o_count := Fld.other W5 F4_o_count (Or.inr (slot_ne (Or.inl (hw _ (List.mem_of_getElem? (i := 97) rfl))) (Or.inl (hw _ (List.mem_of_getElem? (i := 75) rfl))) (by decide) (t := .int) (t' := .byte) (by decide) (by decide)))
  have M5 := Fr.snoc X5 M4 n_o
  have K5 := Keep.wr K4 W5 (Or.inl (List.mem_of_getElem? (i := 0) rfl))
  have OO5 := OO4.wr W5 n_o
  have V5 := V4.other W5 ned
  refine s_goto X5 hx hby (n := 38) d12_22 (by decide) (by decide) ?_
  exact s_ret X5 hx hby hlk hret d12_38 (by decide) (by decide) (by rw [e5]; exact ⟨rfl, M5, K5, d, n_d, E5_o, F5_o_value, F5_o_coder, F5_o_count, by decide, _, V5⟩)
theorem pq2 : plainName "java/lang/StringBuilder" = true := by first | (simp [plainName, overriddenIn]; done) | decide +kernel
set_option maxRecDepth 65536 in
set_option maxHeartbeats 40000000 in
theorem rmSBi (l : Launch) (Z : State) (a0 : Array Value) (hw : ∀ d ∈ tables_1, d.before a0 Z = true) (z0 : Int32) (hz0 : ¬ z0 = (0 : Int32)) (Sz0 : Sta Z Z.heap "java/lang/String" "COMPACT_STRINGS" "Z" (.int z0)) (fm : Value) (hfm : fm.isRef = true) (Sfm : Sta Z Z.heap "jdk/internal/util/Preconditions" "SIOOBE_FORMATTER" "Ljava/util/function/BiFunction;" fm) (o : Addr) (h0 : Heap) (n0 : Nat) (O0 : Oln Z n0 h0) (n_o : n0 ≤ o) (E0 : Exa Z h0 o "java/lang/StringBuilder") (F0v : Fld Z h0 o "java/lang/AbstractStringBuilder" "value" "[B" .null) (F0c : Fld Z h0 o "java/lang/AbstractStringBuilder" "coder" "B" (.int (0 : Int32))) (F0n : Fld Z h0 o "java/lang/AbstractStringBuilder" "count" "I" (.int (0 : Int32))) :
    OCon l Z (⟨"java/lang/StringBuilder", "<init>", "()V"⟩ : MethodName) jdk_67_method_1_code 1 (none) [] ({ frames := 2, cells := 1, slots := 16, locals := 25 } : Room) #[(.ref o)] h0 (fun v h L => v = none ∧ Fr n0 L ∧ Keep h0 h [o] ∧ ∃ d, n0 ≤ d ∧ SBd Z h o d []) := by
  refine con (plainFor_of_name pq2) ?_
  intro p e s m below meth c s₁ hx hby hml hZ hown hnm hret hlk X0 e0
  refine entry (eq0f m o) ?_
  have M0 := Fr.nil n0
  refine s_aloadN X0 hx hby (n := 1) (x := (.ref o)) d11_0 rfl rfl rfl ?_
  refine s_bipush X0 hx hby (n := 3) (v := (16 : Int32)) d11_1 rfl rfl ?_
  refine s_callI X0 hx hby hml hZ (n := 6) rfl hown (hw _ (List.mem_of_getElem? (i := 64) rfl)) (hw _ (List.mem_of_getElem? (i := 65) rfl)) (hw _ (List.mem_of_getElem? (i := 68) rfl)) (hw _ (List.mem_of_getElem? (i := 69) rfl)) (by decide) (rmASBi l Z a0 hw z0 hz0 Sz0 fm hfm Sfm o h0 n0 O0 n_o E0 F0v F0c F0n) e0 (by decide) 0 (by decide) (by decide) (by decide) pd_5 o [(.int (16 : Int32))] [] rfl rfl rfl (Nat.le_of_eq rfl) rfl d11_3 rfl ?_
  intro T1 L1 v1 X1 q1c
  obtain ⟨rfl, N1, K1, d, gd, S1⟩ := q1c
  show OE p e below _ T1 (mkF m 6 #[.val (.ref o)] [])
  have M1 := Fr.app M0 N1
  exact s_ret X1 hx hby hlk hret d11_6 (by decide) (by decide) ⟨rfl, M1, K1, d, gd, S1⟩
theorem eq2f (m : MethodId) (x0 : Addr) (x1 : Int32) : entryFrame m #[(.ref x0), (.int x1)] 3 = mkF m 0 #[.val (.ref x0), .val (.int x1), .unset] [] := by first | (simp [entryFrame, mkF, argsToLocals, Value.category, maxLocals]; done) | rfl
set_option maxRecDepth 65536 in
set_option maxHeartbeats 40000000 in
theorem rmEns (l : Launch) (Z : State) (a0 : Array Value) (hw : ∀ d ∈ tables_1, d.before a0 Z = true) (z0 : Int32) (hz0 : ¬ z0 = (0 : Int32)) (Sz0 : Sta Z Z.heap "java/lang/String" "COMPACT_STRINGS" "Z" (.int z0)) (fm : Value) (hfm : fm.isRef = true) (Sfm : Sta Z Z.heap "jdk/internal/util/Preconditions" "SIOOBE_FORMATTER" "Ljava/util/function/BiFunction;" fm) (o d : Addr) (pre : List Int32) (k : Nat) (h0 : Heap) (n0 : Nat) (O0 : Oln Z n0 h0) (G : SBd Z h0 o d pre) (hk : k < 17) :
    OCon l Z (⟨"java/lang/AbstractStringBuilder", "ensureCapacityInternal", "(I)V"⟩ : MethodName) jdk_68_method_9_code 3 (none) [] ({ frames := 0, cells := 0, slots := 0, locals := 0 } : Room) #[(.ref o), (.int (Int32.ofNat k))] h0 (fun v h L => v = none ∧ h = h0 ∧ Fr n0 L) := by
  refine con (plainFor_of_name pq1) ?_
  intro p e s m below meth c s₁ hx hby hml hZ hown hnm hret hlk X0 e0
  refine entry (eq2f m o (Int32.ofNat k)) ?_
  have M0 := Fr.nil n0
  obtain ⟨gE, gv, gc, gn, glt, gk, gA⟩ := G
  obtain ⟨gcb, gAb, ghk, gSz, ghz, gHb, gGb⟩ := id gA
  refine s_aloadN X0 hx hby (n := 1) (x := (.ref o)) d17_0 rfl rfl rfl ?_
  refine s_getF X0 hx hby hZ (n := 4) hown (hw _ (List.mem_of_getElem? (i := 72) rfl)) e0 gv d17_1 rfl ?_
  intro T1 X1 e1
  refine s_arraylength X1 hx hby hZ (n := 5) e1 gAb (z := (16 : Int32)) gSz (by decide) d17_4 rfl ?_
  refine s_aloadN X1 hx hby (n := 6) (x := (.ref o)) d17_5 rfl rfl rfl ?_
  refine s_getF X1 hx hby hZ (n := 9) hown (hw _ (List.mem_of_getElem? (i := 74) rfl)) e1 gc d17_6 rfl ?_
  intro T2 X2 e2
  refine s_ishr X2 hx hby (n := 10) d17_9 rfl ?_
  refine s_fold (z := (16 : Int32)) (by decide) ?_
  refine s_istoreN X2 hx hby (n := 11) (L' := #[.val (.ref o), .val (.int (Int32.ofNat k)), .val (.int (16 : Int32))]) d17_10 rfl rfl ?_
  refine s_iloadN X2 hx hby (n := 12) (x := (Int32.ofNat k)) d17_11 rfl rfl ?_
  refine s_iloadN X2 hx hby (n := 13) (x := (16 : Int32)) d17_12 rfl rfl ?_
  refine s_isub X2 hx hby (n := 14) d17_13 rfl ?_
  refine s_ifY X2 hx hby (n := 38) d17_14 (XT.i0_le_t (sb_room ⟨k, hk⟩)) (by decide) (by decide) ?_
  exact s_ret X2 hx hby hlk hret d17_38 (by decide) (by decide) ⟨rfl, e2, M0⟩
theorem eq3f (m : MethodId) (x0 : Addr) (x1 : Addr) : entryFrame m #[(.ref x0), (.ref x1)] 2 = mkF m 0 #[.val (.ref x0), .val (.ref x1)] [] := by first | (simp [entryFrame, mkF, argsToLocals, Value.category, maxLocals]; done) | rfl
set_option maxRecDepth 65536 in
set_option maxHeartbeats 40000000 in
theorem rmInf (l : Launch) (Z : State) (a0 : Array Value) (hw : ∀ d ∈ tables_1, d.before a0 Z = true) (z0 : Int32) (hz0 : ¬ z0 = (0 : Int32)) (Sz0 : Sta Z Z.heap "java/lang/String" "COMPACT_STRINGS" "Z" (.int z0)) (fm : Value) (hfm : fm.isRef = true) (Sfm : Sta Z Z.heap "jdk/internal/util/Preconditions" "SIOOBE_FORMATTER" "Ljava/util/function/BiFunction;" fm) (o d r : Addr) (pre cs : List Int32) (h0 : Heap) (n0 : Nat) (O0 : Oln Z n0 h0) (G : SBd Z h0 o d pre) (S : Str Z h0 r cs) :
    OCon l Z (⟨"java/lang/AbstractStringBuilder", "inflateIfNeededFor", "(Ljava/lang/String;)V"⟩ : MethodName) jdk_68_method_71_code 2 (none) [] ({ frames := 1, cells := 0, slots := 0, locals := 13 } : Room) #[(.ref o), (.ref r)] h0 (fun v h L => v = none ∧ h = h0 ∧ Fr n0 L) := by
  refine con (plainFor_of_name pq1) ?_
  intro p e s m below meth c s₁ hx hby hml hZ hown hnm hret hlk X0 e0
  refine entry (eq3f m o r) ?_
  have M0 := Fr.nil n0
  obtain ⟨gE, gv, gc, gn, glt, gk, gA⟩ := G
  obtain ⟨gcb, gAb, ghk, gSz, ghz, gHb, gGb⟩ := id gA
  refine s_getS X0 hx hby hZ (n := 3) hown (hw _ (List.mem_of_getElem? (i := 71) rfl)) e0 (Sz0.ext O0.2) d19_0 rfl ?_
  intro T1 X1 e1
  refine s_ifN X1 hx hby (n := 6) d19_3 (XT.i0_eq_f hz0) rfl ?_
  refine s_aloadN X1 hx hby (n := 7) (x := (.ref o)) d19_6 rfl rfl rfl ?_
  refine s_getF X1 hx hby hZ (n := 10) hown (hw _ (List.mem_of_getElem? (i := 74) rfl)) e1 gc d19_7 rfl ?_
  intro T2 X2 e2
  refine s_aloadN X2 hx hby (n := 11) (x := (.ref r)) d19_10 rfl rfl rfl ?_
  refine s_callV X2 hx hby hml hZ (n := 14) hown (hw _ (List.mem_of_getElem? (i := 113) rfl)) (hw _ (List.mem_of_getElem? (i := 92) rfl)) (notFace_of_selects (args := #[]) (mvT hZ (hw _ (List.mem_of_getElem? (i := 94) rfl)))) (hw _ (List.mem_of_getElem? (i := 94) rfl)) (hw _ (List.mem_of_getElem? (i := 93) rfl)) (hw _ (List.mem_of_getElem? (i := 6) rfl)) (hw _ (List.mem_of_getElem? (i := 95) rfl)) (by decide) (rmCoder l Z a0 hw z0 hz0 Sz0 fm hfm Sfm r h0 n0 O0 S.2.1) e2 (by decide) 1 (by decide) (by decide) (by decide) pd_0 S.1 [] [(.int (0 : Int32))] rfl rfl rfl (Nat.le_of_eq rfl) rfl d19_11 rfl ?_
  intro T3 L3 v3 X3 q3c
  obtain ⟨rfl, e3, N3⟩ := q3c
  show OE p e below _ T3 (mkF m 14 #[.val (.ref o), .val (.ref r)] [(.int (0 : Int32)), (.int (0 : Int32))])
  have M3 := Fr.app M0 N3
  refine s_icmpY X3 hx hby (n := 21) d19_14 (by decide) (by decide) (by decide) ?_
  exact s_ret X3 hx hby hlk hret d19_21 (by decide) (by decide) ⟨rfl, e3, M3⟩
theorem eq4f (m : MethodId) (x0 : Addr) (x1 : Addr) (x2 : Int32) (x3 : Int32) : entryFrame m #[(.ref x0), (.ref x1), (.int x2), (.int x3)] 4 = mkF m 0 #[.val (.ref x0), .val (.ref x1), .val (.int x2), .val (.int x3)] [] := by first | (simp [entryFrame, mkF, argsToLocals, Value.category, maxLocals]; done) | rfl
set_option maxRecDepth 65536 in
set_option maxHeartbeats 40000000 in
theorem rmGB (l : Launch) (Z : State) (a0 : Array Value) (hw : ∀ d ∈ tables_1, d.before a0 Z = true) (z0 : Int32) (hz0 : ¬ z0 = (0 : Int32)) (Sz0 : Sta Z Z.heap "java/lang/String" "COMPACT_STRINGS" "Z" (.int z0)) (fm : Value) (hfm : fm.isRef = true) (Sfm : Sta Z Z.heap "jdk/internal/util/Preconditions" "SIOOBE_FORMATTER" "Ljava/util/function/BiFunction;" fm) (r d : Addr) (pre cs : List Int32) (gk : ClassId) (h0 : Heap) (n0 : Nat) (O0 : Oln Z n0 h0) (S : Str Z h0 r cs) (gA : Arv Z h0 d gk .byte 16 (pre.map Value.int ++ List.replicate (16 - pre.length) (Value.int 0)) (.int 0)) (hsum : pre.length + cs.length < 16) (n_d : n0 ≤ d) :
    OCon l Z (⟨"java/lang/String", "getBytes", "([BIB)V"⟩ : MethodName) jdk_42_method_147_code 4 (none) [] ({ frames := 1, cells := 0, slots := 0, locals := 22 } : Room) #[(.ref r), (.ref d), (.int (Int32.ofNat pre.length)), (.int (0 : Int32))] h0 (fun v h L => v = none ∧ Fr n0 L ∧ Keep h0 h [d] ∧ Arv Z h d gk .byte 16 ((pre ++ cs).map Value.int ++ List.replicate (16 - (pre ++ cs).length) (Value.int 0)) (.int 0)) := by
  refine con (plainFor_of_name pq0) ?_
  intro p e s m below meth c s₁ hx hby hml hZ hown hnm hret hlk X0 e0
  refine entry (eq4f m r d (Int32.ofNat pre.length) (0 : Int32)) ?_
  have M0 := Fr.nil n0
  obtain ⟨sE, sFc, sb, sFv, slt, sk, sA⟩ := S
  obtain ⟨scb, sAb, shk, sSz, shz, sHb, sGb⟩ := id sA
  have hpl : pre.length < 2147483648 := by omega
  refine s_aloadN X0 hx hby (n := 1) (x := (.ref r)) d20_0 rfl rfl rfl ?_
  refine s_callV X0 hx hby hml hZ (n := 4) hown (hw _ (List.mem_of_getElem? (i := 91) rfl)) (hw _ (List.mem_of_getElem? (i := 92) rfl)) (notFace_of_selects (args := #[]) (mvT hZ (hw _ (List.mem_of_getElem? (i := 94) rfl)))) (hw _ (List.mem_of_getElem? (i := 94) rfl)) (hw _ (List.mem_of_getElem? (i := 93) rfl)) (hw _ (List.mem_of_getElem? (i := 6) rfl)) (hw _ (List.mem_of_getElem? (i := 95) rfl)) (by decide) (rmCoder l Z a0 hw z0 hz0 Sz0 fm hfm Sfm r h0 n0 O0 sFc) e0 (by decide) 0 (by decide) (by decide) (by decide) pd_0 sE [] [] rfl rfl rfl (Nat.le_of_eq rfl) rfl d20_1 rfl ?_
  intro T1 L1 v1 X1 q1c
  obtain ⟨rfl, e1, N1⟩ := q1c
  show OE p e below _ T1 (mkF m 4 #[.val (.ref r), .val (.ref d), .val (.int (Int32.ofNat pre.length)), .val (.int (0 : Int32))] [(.int (0 : Int32))])
  have M1 := Fr.app M0 N1
  refine s_iloadN X1 hx hby (n := 5) (x := (0 : Int32)) d20_4 rfl rfl ?_
  refine s_icmpN X1 hx hby (n := 8) d20_5 (by decide) rfl ?_
  refine s_aloadN X1 hx hby (n := 9) (x := (.ref r)) d20_8 rfl rfl rfl ?_
  refine s_getF X1 hx hby hZ (n := 12) hown (hw _ (List.mem_of_getElem? (i := 32) rfl)) e1 sFv d20_9 rfl ?_
  intro T2 X2 e2
  refine s_iconst X2 hx hby (n := 13) (v := (0 : Int32)) d20_12 rfl rfl ?_
  refine s_aloadN X2 hx hby (n := 14) (x := (.ref d)) d20_13 rfl rfl rfl ?_
  refine s_iloadN X2 hx hby (n := 15) (x := (Int32.ofNat pre.length)) d20_14 rfl rfl ?_
  refine s_iloadN X2 hx hby (n := 16) (x := (0 : Int32)) d20_15 rfl rfl ?_
  refine s_ishl X2 hx hby (n := 17) d20_16 rfl ?_
  refine s_fold (z := (Int32.ofNat pre.length)) (shl0 _) ?_
  refine s_aloadN X2 hx hby (n := 18) (x := (.ref r)) d20_17 rfl rfl rfl ?_
  refine s_getF X2 hx hby hZ (n := 21) hown (hw _ (List.mem_of_getElem? (i := 32) rfl)) e2 sFv d20_18 rfl ?_
  intro T3 X3 e3
  refine s_arraylength X3 hx hby hZ (n := 22) e3 sAb (z := (Int32.ofNat cs.length)) sSz shz d20_21 rfl ?_
  refine s_copyB X3 hx hby hml hZ (n := 25) hown (hw _ (List.mem_of_getElem? (i := 119) rfl)) (hw _ (List.mem_of_getElem? (i := 122) rfl)) (hw _ (List.mem_of_getElem? (i := 120) rfl)) (hw _ (List.mem_of_getElem? (i := 121) rfl)) e3 sA gA (by decide) (p32 hpl) (p32 slt) (by rw [c32 slt]; exact Nat.le_of_eq (Nat.zero_add _)) (by rw [c32 hpl, c32 slt]; show _ ≤ 16; omega) (us := (cs.map Value.int)) (by rw [c32 slt]; have q := range_all (cs.map Value.int) [] (.int 0) ((0 : Int32).toNatClampNeg) rfl; rw [List.length_map, List.append_nil] at q; exact q.symm) (by rw [c32 hpl, c32 slt]; simp only [List.length_append, List.length_map, List.length_replicate]; omega) M1 n_d (by decide) 0 (Nat.le_of_eq rfl) (by decide) rfl d20_22 rfl ?_
  intro T4 h4 L4 X4 e4 M4 K4c V4c
  rw [c32 hpl, c32 slt, sb_app pre cs hsum] at V4c
  refine s_goto X4 hx hby (n := 43) d20_25 (by decide) (by decide) ?_
  exact s_ret X4 hx hby hlk hret d20_43 (by decide) (by decide) (by rw [e4]; exact ⟨rfl, M4, K4c, V4c⟩)
theorem eq5f (m : MethodId) (x0 : Addr) (x1 : Int32) (x2 : Addr) : entryFrame m #[(.ref x0), (.int x1), (.ref x2)] 3 = mkF m 0 #[.val (.ref x0), .val (.int x1), .val (.ref x2)] [] := by first | (simp [entryFrame, mkF, argsToLocals, Value.category, maxLocals]; done) | rfl
set_option maxRecDepth 65536 in
set_option maxHeartbeats 40000000 in
theorem rmPut (l : Launch) (Z : State) (a0 : Array Value) (hw : ∀ d ∈ tables_1, d.before a0 Z = true) (z0 : Int32) (hz0 : ¬ z0 = (0 : Int32)) (Sz0 : Sta Z Z.heap "java/lang/String" "COMPACT_STRINGS" "Z" (.int z0)) (fm : Value) (hfm : fm.isRef = true) (Sfm : Sta Z Z.heap "jdk/internal/util/Preconditions" "SIOOBE_FORMATTER" "Ljava/util/function/BiFunction;" fm) (o d r : Addr) (pre cs : List Int32) (gk : ClassId) (h0 : Heap) (n0 : Nat) (O0 : Oln Z n0 h0) (G : SBd Z h0 o d pre) (gA : Arv Z h0 d gk .byte 16 (pre.map Value.int ++ List.replicate (16 - pre.length) (Value.int 0)) (.int 0)) (S : Str Z h0 r cs) (hsum : pre.length + cs.length < 16) (n_d : n0 ≤ d) :
    OCon l Z (⟨"java/lang/AbstractStringBuilder", "putStringAt", "(ILjava/lang/String;)V"⟩ : MethodName) jdk_68_method_73_code 3 (none) [] ({ frames := 2, cells := 0, slots := 0, locals := 37 } : Room) #[(.ref o), (.int (Int32.ofNat pre.length)), (.ref r)] h0 (fun v h L => v = none ∧ Fr n0 L ∧ Keep h0 h [d] ∧ Arv Z h d gk .byte 16 ((pre ++ cs).map Value.int ++ List.replicate (16 - (pre ++ cs).length) (Value.int 0)) (.int 0)) := by
  refine con (plainFor_of_name pq1) ?_
  intro p e s m below meth c s₁ hx hby hml hZ hown hnm hret hlk X0 e0
  refine entry (eq5f m o (Int32.ofNat pre.length) r) ?_
  have M0 := Fr.nil n0
  obtain ⟨gE, gv, gc, gn, glt, -⟩ := id G
  refine s_aloadN X0 hx hby (n := 1) (x := (.ref o)) d18_0 rfl rfl rfl ?_
  refine s_aloadN X0 hx hby (n := 2) (x := (.ref r)) d18_1 rfl rfl rfl ?_
  refine s_callP X0 hx hby hml hZ (n := 5) hown (hw _ (List.mem_of_getElem? (i := 108) rfl)) (hw _ (List.mem_of_getElem? (i := 110) rfl)) (hw _ (List.mem_of_getElem? (i := 111) rfl)) (hw _ (List.mem_of_getElem? (i := 109) rfl)) (hw _ (List.mem_of_getElem? (i := 68) rfl)) (hw _ (List.mem_of_getElem? (i := 112) rfl)) (by decide) (rmInf l Z a0 hw z0 hz0 Sz0 fm hfm Sfm o d r pre cs h0 n0 O0 G S) e0 (by decide) 0 (by decide) (by decide) (by decide) pd_6 gE [(.ref r)] [] rfl rfl rfl (Nat.le_of_eq rfl) rfl d18_2 rfl ?_
  intro T1 L1 v1 X1 q1c
  obtain ⟨rfl, e1, N1⟩ := q1c
  show OE p e below _ T1 (mkF m 5 #[.val (.ref o), .val (.int (Int32.ofNat pre.length)), .val (.ref r)] [])
  have M1 := Fr.app M0 N1
  refine s_aloadN X1 hx hby (n := 6) (x := (.ref r)) d18_5 rfl rfl rfl ?_
  refine s_aloadN X1 hx hby (n := 7) (x := (.ref o)) d18_6 rfl rfl rfl ?_
  refine s_getF X1 hx hby hZ (n := 10) hown (hw _ (List.mem_of_getElem? (i := 72) rfl)) e1 gv d18_7 rfl ?_
  intro T2 X2 e2
  refine s_iloadN X2 hx hby (n := 11) (x := (Int32.ofNat pre.length)) d18_10 rfl rfl ?_
  refine s_aloadN X2 hx hby (n := 12) (x := (.ref o)) d18_11 rfl rfl rfl ?_
  refine s_getF X2 hx hby hZ (n := 15) hown (hw _ (List.mem_of_getElem? (i := 74) rfl)) e2 gc d18_12 rfl ?_
  intro T3 X3 e3
  refine s_callV X3 hx hby hml hZ (n := 18) hown (hw _ (List.mem_of_getElem? (i := 114) rfl)) (hw _ (List.mem_of_getElem? (i := 115) rfl)) (notFace_of_selects (args := #[]) (mvT hZ (hw _ (List.mem_of_getElem? (i := 117) rfl)))) (hw _ (List.mem_of_getElem? (i := 117) rfl)) (hw _ (List.mem_of_getElem? (i := 116) rfl)) (hw _ (List.mem_of_getElem? (i := 6) rfl)) (hw _ (List.mem_of_getElem? (i := 118) rfl)) (by decide) (rmGB l Z a0 hw z0 hz0 Sz0 fm hfm Sfm r d pre cs gk h0 n0 O0 S gA hsum n_d) e3 (by decide) 0 (by decide) (by decide) (by decide) pd_7 S.1 [(.ref d), (.int (Int32.ofNat pre.length)), (.int (0 : Int32))] [] rfl rfl rfl (Nat.le_of_eq rfl) rfl d18_15 rfl ?_
  intro T4 L4 v4 X4 q4c
  obtain ⟨rfl, N4, K4, V4⟩ := q4c
  show OE p e below _ T4 (mkF m 18 #[.val (.ref o), .val (.int (Int32.ofNat pre.length)), .val (.ref r)] [])
  have M4 := Fr.app M1 N4
  exact s_ret X4 hx hby hlk hret d18_18 (by decide) (by decide) ⟨rfl, M4, K4, V4⟩
theorem eq6f (m : MethodId) (x0 : Addr) (x1 : Addr) : entryFrame m #[(.ref x0), (.ref x1)] 3 = mkF m 0 #[.val (.ref x0), .val (.ref x1), .unset] [] := by first | (simp [entryFrame, mkF, argsToLocals, Value.category, maxLocals]; done) | rfl
set_option maxRecDepth 65536 in
set_option maxHeartbeats 40000000 in
theorem rmApA (l : Launch) (Z : State) (a0 : Array Value) (hw : ∀ d ∈ tables_1, d.before a0 Z = true) (z0 : Int32) (hz0 : ¬ z0 = (0 : Int32)) (Sz0 : Sta Z Z.heap "java/lang/String" "COMPACT_STRINGS" "Z" (.int z0)) (fm : Value) (hfm : fm.isRef = true) (Sfm : Sta Z Z.heap "jdk/internal/util/Preconditions" "SIOOBE_FORMATTER" "Ljava/util/function/BiFunction;" fm) (o d r : Addr) (pre cs : List Int32) (h0 : Heap) (n0 : Nat) (O0 : Oln Z n0 h0) (G : SBd Z h0 o d pre) (S : Str Z h0 r cs) (hsum : pre.length + cs.length < 16) (n_o : n0 ≤ o) (n_d : n0 ≤ d) :
    OCon l Z (⟨"java/lang/AbstractStringBuilder", "append", "(Ljava/lang/String;)Ljava/lang/AbstractStringBuilder;"⟩ : MethodName) jdk_68_method_22_code 3 (some (.object "java/lang/AbstractStringBuilder")) [] ({ frames := 3, cells := 0, slots := 0, locals := 51 } : Room) #[(.ref o), (.ref r)] h0 (fun v h L => v = some (.ref o) ∧ Fr n0 L ∧ Keep h0 h [o, d] ∧ SBd Z h o d (pre ++ cs)) := by
  refine con (plainFor_of_name pq1) ?_
  intro p e s m below meth c s₁ hx hby hml hZ hown hnm hret hlk X0 e0
  refine entry (eq6f m o r) ?_
  have M0 := Fr.nil n0
  obtain ⟨gE, gv, gc, gn, glt, gk, gA⟩ := id G
  refine s_aloadN X0 hx hby (n := 1) (x := (.ref r)) d14_0 rfl rfl rfl ?_
  refine s_nonnullY X0 hx hby (n := 9) d14_1 rfl (by simp) (by decide) (by decide) ?_
  refine s_aloadN X0 hx hby (n := 10) (x := (.ref r)) d14_9 rfl rfl rfl ?_
  refine s_callV X0 hx hby hml hZ (n := 13) hown (hw _ (List.mem_of_getElem? (i := 86) rfl)) (hw _ (List.mem_of_getElem? (i := 87) rfl)) (notFace_of_selects (args := #[]) (mvT hZ (hw _ (List.mem_of_getElem? (i := 89) rfl)))) (hw _ (List.mem_of_getElem? (i := 89) rfl)) (hw _ (List.mem_of_getElem? (i := 88) rfl)) (hw _ (List.mem_of_getElem? (i := 6) rfl)) (hw _ (List.mem_of_getElem? (i := 90) rfl)) (by decide) (rmLen l Z a0 hw z0 hz0 Sz0 fm hfm Sfm r cs h0 n0 O0 S) e0 (by decide) 0 (by decide) (by decide) (by decide) pd_8 S.1 [] [] rfl rfl rfl (Nat.le_of_eq rfl) rfl d14_10 rfl ?_
  intro T1 L1 v1 X1 q1c
  obtain ⟨rfl, e1, N1⟩ := q1c
  show OE p e below _ T1 (mkF m 13 #[.val (.ref o), .val (.ref r), .unset] [(.int (Int32.ofNat (cs).length))])
  have M1 := Fr.app M0 N1
  refine s_istoreN X1 hx hby (n := 14) (L' := #[.val (.ref o), .val (.ref r), .val (.int (Int32.ofNat (cs).length))]) d14_13 rfl rfl ?_
  refine s_aloadN X1 hx hby (n := 15) (x := (.ref o)) d14_14 rfl rfl rfl ?_
  refine s_aloadN X1 hx hby (n := 16) (x := (.ref o)) d14_15 rfl rfl rfl ?_
  refine s_getF X1 hx hby hZ (n := 19) hown (hw _ (List.mem_of_getElem? (i := 96) rfl)) e1 gn d14_16 rfl ?_
  intro T2 X2 e2
  refine s_iloadN X2 hx hby (n := 20) (x := (Int32.ofNat (cs).length)) d14_19 rfl rfl ?_
  refine s_iadd X2 hx hby (n := 21) d14_20 rfl ?_
  refine s_fold (z := (Int32.ofNat (pre.length + cs.length))) (add32 _ _) ?_
  refine s_callP X2 hx hby hml hZ (n := 24) hown (hw _ (List.mem_of_getElem? (i := 98) rfl)) (hw _ (List.mem_of_getElem? (i := 100) rfl)) (hw _ (List.mem_of_getElem? (i := 101) rfl)) (hw _ (List.mem_of_getElem? (i := 99) rfl)) (hw _ (List.mem_of_getElem? (i := 68) rfl)) (hw _ (List.mem_of_getElem? (i := 102) rfl)) (by decide) (rmEns l Z a0 hw z0 hz0 Sz0 fm hfm Sfm o d pre (pre.length + cs.length) h0 n0 O0 G (by omega)) e2 (by decide) 0 (by decide) (by decide) (by decide) pd_5 gE [(.int (Int32.ofNat (pre.length + cs.length)))] [] rfl rfl rfl (Nat.le_of_eq rfl) rfl d14_21 rfl ?_
  intro T3 L3 v3 X3 q3c
  obtain ⟨rfl, e3, N3⟩ := q3c
  show OE p e below _ T3 (mkF m 24 #[.val (.ref o), .val (.ref r), .val (.int (Int32.ofNat (cs).length))] [])
  have M3 := Fr.app M1 N3
  refine s_aloadN X3 hx hby (n := 25) (x := (.ref o)) d14_24 rfl rfl rfl ?_
  refine s_aloadN X3 hx hby (n := 26) (x := (.ref o)) d14_25 rfl rfl rfl ?_
  refine s_getF X3 hx hby hZ (n := 29) hown (hw _ (List.mem_of_getElem? (i := 96) rfl)) e3 gn d14_26 rfl ?_
  intro T4 X4 e4
  refine s_aloadN X4 hx hby (n := 30) (x := (.ref r)) d14_29 rfl rfl rfl ?_
  refine s_callP X4 hx hby hml hZ (n := 33) hown (hw _ (List.mem_of_getElem? (i := 103) rfl)) (hw _ (List.mem_of_getElem? (i := 105) rfl)) (hw _ (List.mem_of_getElem? (i := 106) rfl)) (hw _ (List.mem_of_getElem? (i := 104) rfl)) (hw _ (List.mem_of_getElem? (i := 68) rfl)) (hw _ (List.mem_of_getElem? (i := 107) rfl)) (by decide) (rmPut l Z a0 hw z0 hz0 Sz0 fm hfm Sfm o d r pre cs gk h0 n0 O0 G gA S hsum n_d) e4 (by decide) 0 (by decide) (by decide) (by decide) pd_9 gE [(.int (Int32.ofNat pre.length)), (.ref r)] [] rfl rfl rfl (Nat.le_of_eq rfl) rfl d14_30 rfl ?_
  intro T5 L5 v5 X5 q5c
  obtain ⟨rfl, N5, K5, V5⟩ := q5c
  show OE p e below _ T5 (mkF m 33 #[.val (.ref o), .val (.ref r), .val (.int (Int32.ofNat (cs).length))] [])
  have M5 := Fr.app M3 N5
  have neo : o ≠ d := arv_exa gE (hw _ (List.mem_of_getElem? (i := 59) rfl)) gA
  have gv2 := gv.keep K5 (ninS neo nin0)
  have gc2 := gc.keep K5 (ninS neo nin0)
  have gn2 := gn.keep K5 (ninS neo nin0)
  have gE2 := gE.keep K5
  have KK := Keep.more K5 (ws' := [o, d]) (fun x q => List.mem_cons_of_mem _ q)
  refine s_aloadN X5 hx hby (n := 34) (x := (.ref o)) d14_33 rfl rfl rfl ?_
  refine s_dup X5 hx hby (n := 35) d14_34 rfl rfl ?_
  refine s_getF X5 hx hby hZ (n := 38) hown (hw _ (List.mem_of_getElem? (i := 96) rfl)) rfl gn2 d14_35 rfl ?_
  intro T6 X6 e6
  refine s_iloadN X6 hx hby (n := 39) (x := (Int32.ofNat (cs).length)) d14_38 rfl rfl ?_
  refine s_iadd X6 hx hby (n := 40) d14_39 rfl ?_
  refine s_fold (z := (Int32.ofNat (pre ++ cs).length)) (by rw [List.length_append]; exact add32 _ _) ?_
  refine s_putF X6 hx hby hZ (n := 43) hown (hw _ (List.mem_of_getElem? (i := 96) rfl)) e6 gn2 gE2 (Or.inl (hw _ (List.mem_of_getElem? (i := 97) rfl))) (hw _ (List.mem_of_getElem? (i := 59) rfl)) (ty := .int) (by decide) rfl rfl d14_40 rfl ?_
  intro T7 h7 X7 e7 W7
  have E7_o := gE2.wr W7
  have F7_o_value := Fld.other W7 gv2 (Or.inr (slot_ne (Or.inl (hw _ (List.mem_of_getElem? (i := 73) rfl))) (Or.inl (hw _ (List.mem_of_getElem? (i := 97) rfl))) (by decide) (t := (.array (.byte))) (t' := .int) (by decide) (by decide)))
  have F7_o_coder := Fld.other W7 gc2 (Or.inr (slot_ne (Or.inl (hw _ (List.mem_of_getElem? (i := 75) rfl))) (Or.inl (hw _ (List.mem_of_getElem? (i := 97) rfl))) (by decide) (t := .byte) (t' := .int) (by decide) (by decide)))
  have F7_o_count := Fld.same W7 gn2
  have M7 := Fr.snoc X7 M5 n_o
  have K7 := Keep.wr KK W7 (Or.inl (List.mem_of_getElem? (i := 0) rfl))
  have V2 := V5.other W7 neo.symm
  refine s_aloadN X7 hx hby (n := 44) (x := (.ref o)) d14_43 rfl rfl rfl ?_
  exact s_retA X7 hx hby hlk hret rfl rfl d14_44 (by decide) (by decide) (by rw [e7]; exact ⟨rfl, M7, K7, E7_o, F7_o_value, F7_o_coder, F7_o_count, by rw [List.length_append]; exact hsum, _, V2⟩)
set_option maxRecDepth 65536 in
set_option maxHeartbeats 40000000 in
theorem rmAp (l : Launch) (Z : State) (a0 : Array Value) (hw : ∀ d ∈ tables_1, d.before a0 Z = true) (z0 : Int32) (hz0 : ¬ z0 = (0 : Int32)) (Sz0 : Sta Z Z.heap "java/lang/String" "COMPACT_STRINGS" "Z" (.int z0)) (fm : Value) (hfm : fm.isRef = true) (Sfm : Sta Z Z.heap "jdk/internal/util/Preconditions" "SIOOBE_FORMATTER" "Ljava/util/function/BiFunction;" fm) (o d r : Addr) (pre cs : List Int32) (h0 : Heap) (n0 : Nat) (O0 : Oln Z n0 h0) (G : SBd Z h0 o d pre) (S : Str Z h0 r cs) (hsum : pre.length + cs.length < 16) (n_o : n0 ≤ o) (n_d : n0 ≤ d) :
    OCon l Z (⟨"java/lang/StringBuilder", "append", "(Ljava/lang/String;)Ljava/lang/StringBuilder;"⟩ : MethodName) jdk_67_method_7_code 2 (some (.object "java/lang/StringBuilder")) [] ({ frames := 4, cells := 0, slots := 0, locals := 65 } : Room) #[(.ref o), (.ref r)] h0 (fun v h L => v = some (.ref o) ∧ Fr n0 L ∧ Keep h0 h [o, d] ∧ SBd Z h o d (pre ++ cs)) := by
  refine con (plainFor_of_name pq2) ?_
  intro p e s m below meth c s₁ hx hby hml hZ hown hnm hret hlk X0 e0
  refine entry (eq3f m o r) ?_
  have M0 := Fr.nil n0
  refine s_aloadN X0 hx hby (n := 1) (x := (.ref o)) d13_0 rfl rfl rfl ?_
  refine s_aloadN X0 hx hby (n := 2) (x := (.ref r)) d13_1 rfl rfl rfl ?_
  refine s_callU X0 hx hby hml hZ (n := 5) hown (hw _ (List.mem_of_getElem? (i := 81) rfl)) (hw _ (List.mem_of_getElem? (i := 101) rfl)) rfl (hw _ (List.mem_of_getElem? (i := 83) rfl)) (by decide) (hw _ (List.mem_of_getElem? (i := 82) rfl)) (hw _ (List.mem_of_getElem? (i := 68) rfl)) (hw _ (List.mem_of_getElem? (i := 85) rfl)) (by decide) (rmApA l Z a0 hw z0 hz0 Sz0 fm hfm Sfm o d r pre cs h0 n0 O0 G S hsum n_o n_d) e0 (by decide) 0 (by decide) (by decide) (by decide) pd_10 G.1 [(.ref r)] [] rfl rfl rfl (Nat.le_of_eq rfl) rfl d13_2 rfl ?_
  intro T1 L1 v1 X1 q1c
  obtain ⟨rfl, N1, K1, S1⟩ := q1c
  show OE p e below _ T1 (mkF m 5 #[.val (.ref o), .val (.ref r)] [(.ref o)])
  have M1 := Fr.app M0 N1
  refine s_pop X1 hx hby (n := 6) d13_5 rfl rfl ?_
  refine s_aloadN X1 hx hby (n := 7) (x := (.ref o)) d13_6 rfl rfl rfl ?_
  exact s_retA X1 hx hby hlk hret rfl rfl d13_7 (by decide) (by decide) ⟨rfl, M1, K1, S1⟩
set_option maxRecDepth 65536 in
set_option maxHeartbeats 40000000 in
theorem rmGV (l : Launch) (Z : State) (a0 : Array Value) (hw : ∀ d ∈ tables_1, d.before a0 Z = true) (z0 : Int32) (hz0 : ¬ z0 = (0 : Int32)) (Sz0 : Sta Z Z.heap "java/lang/String" "COMPACT_STRINGS" "Z" (.int z0)) (fm : Value) (hfm : fm.isRef = true) (Sfm : Sta Z Z.heap "jdk/internal/util/Preconditions" "SIOOBE_FORMATTER" "Ljava/util/function/BiFunction;" fm) (o d : Addr) (pre : List Int32) (h0 : Heap) (n0 : Nat) (O0 : Oln Z n0 h0) (G : SBd Z h0 o d pre) :
    OCon l Z (⟨"java/lang/AbstractStringBuilder", "getValue", "()[B"⟩ : MethodName) jdk_68_method_64_code 1 (some ((.array (.byte)))) [] ({ frames := 0, cells := 0, slots := 0, locals := 0 } : Room) #[(.ref o)] h0 (fun v h L => v = some (.ref d) ∧ h = h0 ∧ Fr n0 L) := by
  refine con (plainFor_of_name pq1) ?_
  intro p e s m below meth c s₁ hx hby hml hZ hown hnm hret hlk X0 e0
  refine entry (eq0f m o) ?_
  have M0 := Fr.nil n0
  obtain ⟨gE, gv, gc, gn, glt, gk, gA⟩ := G
  refine s_aloadN X0 hx hby (n := 1) (x := (.ref o)) d24_0 rfl rfl rfl ?_
  refine s_getF X0 hx hby hZ (n := 4) hown (hw _ (List.mem_of_getElem? (i := 72) rfl)) e0 gv d24_1 rfl ?_
  intro T1 X1 e1
  exact s_retA X1 hx hby hlk hret rfl rfl d24_4 (by decide) (by decide) ⟨rfl, e1, M0⟩
set_option maxRecDepth 65536 in
set_option maxHeartbeats 40000000 in
theorem rmLnA (l : Launch) (Z : State) (a0 : Array Value) (hw : ∀ d ∈ tables_1, d.before a0 Z = true) (z0 : Int32) (hz0 : ¬ z0 = (0 : Int32)) (Sz0 : Sta Z Z.heap "java/lang/String" "COMPACT_STRINGS" "Z" (.int z0)) (fm : Value) (hfm : fm.isRef = true) (Sfm : Sta Z Z.heap "jdk/internal/util/Preconditions" "SIOOBE_FORMATTER" "Ljava/util/function/BiFunction;" fm) (o d : Addr) (pre : List Int32) (h0 : Heap) (n0 : Nat) (O0 : Oln Z n0 h0) (G : SBd Z h0 o d pre) :
    OCon l Z (⟨"java/lang/AbstractStringBuilder", "length", "()I"⟩ : MethodName) jdk_68_method_6_code 1 (some (.int)) [] ({ frames := 0, cells := 0, slots := 0, locals := 0 } : Room) #[(.ref o)] h0 (fun v h L => v = some (.int (Int32.ofNat pre.length)) ∧ h = h0 ∧ Fr n0 L) := by
  refine con (plainFor_of_name pq1) ?_
  intro p e s m below meth c s₁ hx hby hml hZ hown hnm hret hlk X0 e0
  refine entry (eq0f m o) ?_
  have M0 := Fr.nil n0
  obtain ⟨gE, gv, gc, gn, glt, gk, gA⟩ := G
  refine s_aloadN X0 hx hby (n := 1) (x := (.ref o)) d26_0 rfl rfl rfl ?_
  refine s_getF X0 hx hby hZ (n := 4) hown (hw _ (List.mem_of_getElem? (i := 96) rfl)) e0 gn d26_1 rfl ?_
  intro T1 X1 e1
  exact s_retI X1 hx hby hlk hret d26_4 (by decide) (by decide) ⟨rfl, e1, M0⟩
set_option maxRecDepth 65536 in
set_option maxHeartbeats 40000000 in
theorem rmLnS (l : Launch) (Z : State) (a0 : Array Value) (hw : ∀ d ∈ tables_1, d.before a0 Z = true) (z0 : Int32) (hz0 : ¬ z0 = (0 : Int32)) (Sz0 : Sta Z Z.heap "java/lang/String" "COMPACT_STRINGS" "Z" (.int z0)) (fm : Value) (hfm : fm.isRef = true) (Sfm : Sta Z Z.heap "jdk/internal/util/Preconditions" "SIOOBE_FORMATTER" "Ljava/util/function/BiFunction;" fm) (o d : Addr) (pre : List Int32) (h0 : Heap) (n0 : Nat) (O0 : Oln Z n0 h0) (G : SBd Z h0 o d pre) :
    OCon l Z (⟨"java/lang/StringBuilder", "length", "()I"⟩ : MethodName) jdk_67_method_93_code 1 (some (.int)) [] ({ frames := 1, cells := 0, slots := 0, locals := 12 } : Room) #[(.ref o)] h0 (fun v h L => v = some (.int (Int32.ofNat pre.length)) ∧ h = h0 ∧ Fr n0 L) := by
  refine con (plainFor_of_name pq2) ?_
  intro p e s m below meth c s₁ hx hby hml hZ hown hnm hret hlk X0 e0
  refine entry (eq0f m o) ?_
  have M0 := Fr.nil n0
  refine s_aloadN X0 hx hby (n := 1) (x := (.ref o)) d25_0 rfl rfl rfl ?_
  refine s_callU X0 hx hby hml hZ (n := 4) hown (hw _ (List.mem_of_getElem? (i := 147) rfl)) (hw _ (List.mem_of_getElem? (i := 101) rfl)) rfl (hw _ (List.mem_of_getElem? (i := 83) rfl)) (by decide) (hw _ (List.mem_of_getElem? (i := 143) rfl)) (hw _ (List.mem_of_getElem? (i := 68) rfl)) (hw _ (List.mem_of_getElem? (i := 148) rfl)) (by decide) (rmLnA l Z a0 hw z0 hz0 Sz0 fm hfm Sfm o d pre h0 n0 O0 G) e0 (by decide) 0 (by decide) (by decide) (by decide) pd_8 G.1 [] [] rfl rfl rfl (Nat.le_of_eq rfl) rfl d25_1 rfl ?_
  intro T1 L1 v1 X1 q1c
  obtain ⟨rfl, e1, N1⟩ := q1c
  show OE p e below _ T1 (mkF m 4 #[.val (.ref o)] [(.int (Int32.ofNat pre.length))])
  have M1 := Fr.app M0 N1
  exact s_retI X1 hx hby hlk hret d25_4 (by decide) (by decide) ⟨rfl, e1, M1⟩
set_option maxRecDepth 65536 in
set_option maxHeartbeats 40000000 in
theorem rmLaA (l : Launch) (Z : State) (a0 : Array Value) (hw : ∀ d ∈ tables_1, d.before a0 Z = true) (z0 : Int32) (hz0 : ¬ z0 = (0 : Int32)) (Sz0 : Sta Z Z.heap "java/lang/String" "COMPACT_STRINGS" "Z" (.int z0)) (fm : Value) (hfm : fm.isRef = true) (Sfm : Sta Z Z.heap "jdk/internal/util/Preconditions" "SIOOBE_FORMATTER" "Ljava/util/function/BiFunction;" fm) (o d : Addr) (pre : List Int32) (h0 : Heap) (n0 : Nat) (O0 : Oln Z n0 h0) (G : SBd Z h0 o d pre) :
    OCon l Z (⟨"java/lang/AbstractStringBuilder", "isLatin1", "()Z"⟩ : MethodName) jdk_68_method_68_code 1 (some (.boolean)) [] ({ frames := 0, cells := 0, slots := 0, locals := 0 } : Room) #[(.ref o)] h0 (fun v h L => v = some (.int (1 : Int32)) ∧ h = h0 ∧ Fr n0 L) := by
  refine con (plainFor_of_name pq1) ?_
  intro p e s m below meth c s₁ hx hby hml hZ hown hnm hret hlk X0 e0
  refine entry (eq0f m o) ?_
  have M0 := Fr.nil n0
  obtain ⟨gE, gv, gc, gn, glt, gk, gA⟩ := G
  refine s_getS X0 hx hby hZ (n := 3) hown (hw _ (List.mem_of_getElem? (i := 71) rfl)) e0 (Sz0.ext O0.2) d27_0 rfl ?_
  intro T1 X1 e1
  refine s_ifN X1 hx hby (n := 6) d27_3 (XT.i0_eq_f hz0) rfl ?_
  refine s_aloadN X1 hx hby (n := 7) (x := (.ref o)) d27_6 rfl rfl rfl ?_
  refine s_getF X1 hx hby hZ (n := 10) hown (hw _ (List.mem_of_getElem? (i := 74) rfl)) e1 gc d27_7 rfl ?_
  intro T2 X2 e2
  refine s_ifN X2 hx hby (n := 13) d27_10 (by decide) rfl ?_
  refine s_iconst X2 hx hby (n := 14) (v := (1 : Int32)) d27_13 rfl rfl ?_
  refine s_goto X2 hx hby (n := 18) d27_14 (by decide) (by decide) ?_
  exact s_retN X2 hx hby hlk hret (t := .boolean) (by simp) (z' := (1 : Int32)) (by decide) d27_18 (by decide) (by decide) ⟨rfl, e2, M0⟩
theorem eq7f (m : MethodId) (x0 : Int32) (x1 : Int32) : entryFrame m #[(.int x0), (.int x1)] 2 = mkF m 0 #[.val (.int x0), .val (.int x1)] [] := by first | (simp [entryFrame, mkF, argsToLocals, Value.category, maxLocals]; done) | rfl
set_option maxRecDepth 65536 in
set_option maxHeartbeats 40000000 in
theorem rmMin (l : Launch) (Z : State) (a0 : Array Value) (hw : ∀ d ∈ tables_1, d.before a0 Z = true) (p1 p2 : Int32) (q : p2 < p1) (h0 : Heap) (n0 : Nat)  :
    OCon l Z (⟨"java/lang/Math", "min", "(II)I"⟩ : MethodName) jdk_29_method_69_code 2 (some (.int)) [] ({ frames := 0, cells := 0, slots := 0, locals := 0 } : Room) #[(.int p1), (.int p2)] h0 (fun v h L => v = some (.int p2) ∧ h = h0 ∧ Fr n0 L) := by
  refine con (JP.mathPlain rfl (by decide +kernel)) ?_
  intro p e s m below meth c s₁ hx hby hml hZ hown hnm hret hlk X0 e0
  refine entry (eq7f m p1 p2) ?_
  have M0 := Fr.nil n0
  refine s_iloadN X0 hx hby (n := 1) (x := p1) d31_0 rfl rfl ?_
  refine s_iloadN X0 hx hby (n := 2) (x := p2) d31_1 rfl rfl ?_
  refine s_icmpY X0 hx hby (n := 9) d31_2 (XT.ii_gt_t q) (by decide) (by decide) ?_
  refine s_iloadN X0 hx hby (n := 10) (x := p2) d31_9 rfl rfl ?_
  exact s_retI X0 hx hby hlk hret d31_10 (by decide) (by decide) ⟨rfl, e0, M0⟩
theorem pq3 : plainName "java/util/Arrays" = true := by first | (simp [plainName, overriddenIn]; done) | decide +kernel
set_option maxRecDepth 65536 in
set_option maxHeartbeats 40000000 in
theorem rmCkL (l : Launch) (Z : State) (a0 : Array Value) (hw : ∀ d ∈ tables_1, d.before a0 Z = true) (p2 : Int32) (q : ¬ p2 < (0 : Int32)) (h0 : Heap) (n0 : Nat)  :
    OCon l Z (⟨"java/util/Arrays", "checkLength", "(II)V"⟩ : MethodName) jdk_65_method_131_code 2 (none) [] ({ frames := 0, cells := 0, slots := 0, locals := 0 } : Room) #[(.int (0 : Int32)), (.int p2)] h0 (fun v h L => v = none ∧ h = h0 ∧ Fr n0 L) := by
  refine con (plainFor_of_name pq3) ?_
  intro p e s m below meth c s₁ hx hby hml hZ hown hnm hret hlk X0 e0
  refine entry (eq7f m (0 : Int32) p2) ?_
  have M0 := Fr.nil n0
  refine s_iloadN X0 hx hby (n := 1) (x := p2) d30_0 rfl rfl ?_
  refine s_iloadN X0 hx hby (n := 2) (x := (0 : Int32)) d30_1 rfl rfl ?_
  refine s_icmpY X0 hx hby (n := 37) d30_2 (XT.ii_ge_t q) (by decide) (by decide) ?_
  exact s_ret X0 hx hby hlk hret d30_37 (by decide) (by decide) ⟨rfl, e0, M0⟩
theorem eq8f (m : MethodId) (x0 : Addr) (x1 : Int32) (x2 : Int32) : entryFrame m #[(.ref x0), (.int x1), (.int x2)] 5 = mkF m 0 #[.val (.ref x0), .val (.int x1), .val (.int x2), .unset, .unset] [] := by first | (simp [entryFrame, mkF, argsToLocals, Value.category, maxLocals]; done) | rfl
set_option maxRecDepth 65536 in
set_option maxHeartbeats 40000000 in
theorem rmCRB (l : Launch) (Z : State) (a0 : Array Value) (hw : ∀ d ∈ tables_1, d.before a0 Z = true) (z0 : Int32) (hz0 : ¬ z0 = (0 : Int32)) (Sz0 : Sta Z Z.heap "java/lang/String" "COMPACT_STRINGS" "Z" (.int z0)) (fm : Value) (hfm : fm.isRef = true) (Sfm : Sta Z Z.heap "jdk/internal/util/Preconditions" "SIOOBE_FORMATTER" "Ljava/util/function/BiFunction;" fm) (d : Addr) (pre : List Int32) (gk : ClassId) (h0 : Heap) (n0 : Nat) (O0 : Oln Z n0 h0) (gA : Arv Z h0 d gk .byte 16 (pre.map Value.int ++ List.replicate (16 - pre.length) (Value.int 0)) (.int 0)) (glt : pre.length < 16) :
    OCon l Z (⟨"java/util/Arrays", "copyOfRangeByte", "([BII)[B"⟩ : MethodName) jdk_65_method_133_code 5 (some ((.array (.byte)))) [] ({ frames := 1, cells := 1, slots := 16, locals := 22 } : Room) #[(.ref d), (.int (0 : Int32)), (.int (Int32.ofNat pre.length))] h0 (fun v h L => ∃ q, v = some (.ref q) ∧ Fr n0 L ∧ Keep h0 h [] ∧ Bys Z h q pre ∧ n0 ≤ q) := by
  refine con (plainFor_of_name pq3) ?_
  intro p e s m below meth c s₁ hx hby hml hZ hown hnm hret hlk X0 e0
  refine entry (eq8f m d (0 : Int32) (Int32.ofNat pre.length)) ?_
  have M0 := Fr.nil n0
  have hpl : pre.length < 2147483648 := by omega
  have K0 := Keep.refl h0 []
  refine s_iloadN X0 hx hby (n := 1) (x := (0 : Int32)) d29_0 rfl rfl ?_
  refine s_iloadN X0 hx hby (n := 2) (x := (Int32.ofNat pre.length)) d29_1 rfl rfl ?_
  refine s_callS X0 hx hby hml hZ (n := 5) hown (hw _ (List.mem_of_getElem? (i := 161) rfl)) (hw _ (List.mem_of_getElem? (i := 162) rfl)) (hw _ (List.mem_of_getElem? (i := 156) rfl)) (hw _ (List.mem_of_getElem? (i := 163) rfl)) (by decide) (rmCkL l Z a0 hw (Int32.ofNat pre.length) (p32 hpl) h0 n0) e0 (by decide) 0 (by decide) (by decide) (by decide) pd_2 [(.int (0 : Int32)), (.int (Int32.ofNat pre.length))] [] rfl rfl rfl (Nat.le_of_eq rfl) rfl d29_2 rfl ?_
  intro T1 L1 v1 X1 q1c
  obtain ⟨rfl, e1, N1⟩ := q1c
  show OE p e below _ T1 (mkF m 5 #[.val (.ref d), .val (.int (0 : Int32)), .val (.int (Int32.ofNat pre.length)), .unset, .unset] [])
  have M1 := Fr.app M0 N1
  refine s_iloadN X1 hx hby (n := 6) (x := (Int32.ofNat pre.length)) d29_5 rfl rfl ?_
  refine s_iloadN X1 hx hby (n := 7) (x := (0 : Int32)) d29_6 rfl rfl ?_
  refine s_isub X1 hx hby (n := 8) d29_7 rfl ?_
  refine s_fold (z := (Int32.ofNat pre.length)) (by simp) ?_
  refine s_istoreN X1 hx hby (n := 9) (L' := #[.val (.ref d), .val (.int (0 : Int32)), .val (.int (Int32.ofNat pre.length)), .val (.int (Int32.ofNat pre.length)), .unset]) d29_8 rfl rfl ?_
  refine s_iloadN X1 hx hby (n := 10) (x := (Int32.ofNat pre.length)) d29_9 rfl rfl ?_
  refine s_newP X1 hx hby hZ (n := 12) (hw _ (List.mem_of_getElem? (i := 23) rfl)) (ty := .byte) rfl e1 (num := (Int32.ofNat pre.length)) (p32 hpl) 16 (by rw [c32 hpl]; omega) (by decide) (by decide) (by decide) d29_10 rfl ?_
  intro T2 h2 cq q gq X2 e2 Q2 A2
  have n_q : n0 ≤ q := by rw [gq]; exact Oln.le O0
  have V2_q := Arv.new A2 (p32 hpl)
  have K2 := K0.ext Q2
  have OO2 := O0.ext Q2
  have V2 : Arv Z h2 q cq .byte (Int32.ofNat pre.length) (List.replicate pre.length (.int 0)) (.int 0) := Arv.pad V2_q (pad_rep [] _ pre.length)
  have gA2 := gA.ext Q2
  obtain ⟨gcb, gAb, ghk, gSz, ghz, gHb, gGb⟩ := id gA2
  refine s_astore X2 hx hby (n := 14) (L' := #[.val (.ref d), .val (.int (0 : Int32)), .val (.int (Int32.ofNat pre.length)), .val (.int (Int32.ofNat pre.length)), .val (.ref q)]) d29_12 rfl rfl rfl ?_
  refine s_aloadN X2 hx hby (n := 15) (x := (.ref d)) d29_14 rfl rfl rfl ?_
  refine s_iloadN X2 hx hby (n := 16) (x := (0 : Int32)) d29_15 rfl rfl ?_
  refine s_aload X2 hx hby (n := 18) (x := (.ref q)) d29_16 rfl rfl rfl ?_
  refine s_iconst X2 hx hby (n := 19) (v := (0 : Int32)) d29_18 rfl rfl ?_
  refine s_aloadN X2 hx hby (n := 20) (x := (.ref d)) d29_19 rfl rfl rfl ?_
  refine s_arraylength X2 hx hby hZ (n := 21) e2 gAb (z := (16 : Int32)) gSz (by decide) d29_20 rfl ?_
  refine s_iloadN X2 hx hby (n := 22) (x := (0 : Int32)) d29_21 rfl rfl ?_
  refine s_isub X2 hx hby (n := 23) d29_22 rfl ?_
  refine s_fold (z := (16 : Int32)) (by decide) ?_
  refine s_iloadN X2 hx hby (n := 24) (x := (Int32.ofNat pre.length)) d29_23 rfl rfl ?_
  refine s_callS X2 hx hby hml hZ (n := 27) hown (hw _ (List.mem_of_getElem? (i := 164) rfl)) (hw _ (List.mem_of_getElem? (i := 165) rfl)) (hw _ (List.mem_of_getElem? (i := 166) rfl)) (hw _ (List.mem_of_getElem? (i := 167) rfl)) (by decide) (rmMin l Z a0 hw (16 : Int32) (Int32.ofNat pre.length) ((lt32 (b := 16) hpl (by decide)).mpr glt) h2 n0) e2 (by decide) 4 (by decide) (by decide) (by decide) pd_11 [(.int (16 : Int32)), (.int (Int32.ofNat pre.length))] [(.int (0 : Int32)), (.ref q), (.int (0 : Int32)), (.ref d)] rfl rfl rfl (Nat.le_of_eq rfl) rfl d29_24 rfl ?_
  intro T3 L3 v3 X3 q3c
  obtain ⟨rfl, e3, N3⟩ := q3c
  show OE p e below _ T3 (mkF m 27 #[.val (.ref d), .val (.int (0 : Int32)), .val (.int (Int32.ofNat pre.length)), .val (.int (Int32.ofNat pre.length)), .val (.ref q)] [(.int (Int32.ofNat pre.length)), (.int (0 : Int32)), (.ref q), (.int (0 : Int32)), (.ref d)])
  have M3 := Fr.app M1 N3
  refine s_copyB X3 hx hby hml hZ (n := 30) hown (hw _ (List.mem_of_getElem? (i := 168) rfl)) (hw _ (List.mem_of_getElem? (i := 122) rfl)) (hw _ (List.mem_of_getElem? (i := 120) rfl)) (hw _ (List.mem_of_getElem? (i := 121) rfl)) e3 gA2 V2 (by decide) (by decide) (p32 hpl) (by rw [c32 hpl]; show 0 + _ ≤ 16; omega) (by rw [c32 hpl]; exact Nat.le_of_eq (Nat.zero_add _)) (us := (pre.map Value.int)) (by rw [c32 hpl]; have q := range_all (pre.map Value.int) (List.replicate (16 - pre.length) (Value.int 0)) (.int 0) ((0 : Int32).toNatClampNeg) rfl; rw [List.length_map] at q; exact q.symm) (by rw [c32 hpl, List.length_replicate]; exact Nat.le_of_eq (Nat.zero_add _)) M3 n_q (by decide) 0 (Nat.le_of_eq rfl) (by decide) rfl d29_27 rfl ?_
  intro T4 h4 L4 X4 e4 M4 K4c V4c
  have V2 : Arv Z h4 q cq .byte (Int32.ofNat pre.length) (pre.map Value.int) (.int 0) := by
    have q1 : (0 : Int32).toNatClampNeg + (Int32.ofNat pre.length).toNatClampNeg = pre.length := by rw [c32 hpl]; exact Nat.zero_add _
    rw [q1, List.drop_eq_nil_of_le (by rw [List.length_replicate]; exact Nat.le_refl _), List.append_nil] at V4c
    exact V4c
  have K2 := K2.trans K4c (allS (Or.inr (by rw [gq]; exact K0.1)) all0)
  refine s_aload X4 hx hby (n := 32) (x := (.ref q)) d29_30 rfl rfl rfl ?_
  exact s_retA X4 hx hby hlk hret rfl rfl d29_32 (by decide) (by decide) (by rw [e4]; exact ⟨q, rfl, M4, K2, ⟨hpl, _, V2⟩, n_q⟩)
theorem eq9f (m : MethodId) (x0 : Addr) (x1 : Int32) (x2 : Int32) : entryFrame m #[(.ref x0), (.int x1), (.int x2)] 3 = mkF m 0 #[.val (.ref x0), .val (.int x1), .val (.int x2)] [] := by first | (simp [entryFrame, mkF, argsToLocals, Value.category, maxLocals]; done) | rfl
set_option maxRecDepth 65536 in
set_option maxHeartbeats 40000000 in
theorem rmCR (l : Launch) (Z : State) (a0 : Array Value) (hw : ∀ d ∈ tables_1, d.before a0 Z = true) (z0 : Int32) (hz0 : ¬ z0 = (0 : Int32)) (Sz0 : Sta Z Z.heap "java/lang/String" "COMPACT_STRINGS" "Z" (.int z0)) (fm : Value) (hfm : fm.isRef = true) (Sfm : Sta Z Z.heap "jdk/internal/util/Preconditions" "SIOOBE_FORMATTER" "Ljava/util/function/BiFunction;" fm) (d : Addr) (pre : List Int32) (gk : ClassId) (h0 : Heap) (n0 : Nat) (O0 : Oln Z n0 h0) (gA : Arv Z h0 d gk .byte 16 (pre.map Value.int ++ List.replicate (16 - pre.length) (Value.int 0)) (.int 0)) (glt : pre.length < 16) :
    OCon l Z (⟨"java/util/Arrays", "copyOfRange", "([BII)[B"⟩ : MethodName) jdk_65_method_132_code 3 (some ((.array (.byte)))) [] ({ frames := 2, cells := 1, slots := 16, locals := 38 } : Room) #[(.ref d), (.int (0 : Int32)), (.int (Int32.ofNat pre.length))] h0 (fun v h L => ∃ q, v = some (.ref q) ∧ Fr n0 L ∧ Keep h0 h [] ∧ Bys Z h q pre ∧ n0 ≤ q) := by
  refine con (plainFor_of_name pq3) ?_
  intro p e s m below meth c s₁ hx hby hml hZ hown hnm hret hlk X0 e0
  refine entry (eq9f m d (0 : Int32) (Int32.ofNat pre.length)) ?_
  have M0 := Fr.nil n0
  have hpl : pre.length < 2147483648 := by omega
  obtain ⟨gcb, gAb, ghk, gSz, ghz, gHb, gGb⟩ := id gA
  refine s_iloadN X0 hx hby (n := 1) (x := (0 : Int32)) d28_0 rfl rfl ?_
  refine s_ifN X0 hx hby (n := 4) d28_1 (by decide) rfl ?_
  refine s_iloadN X0 hx hby (n := 5) (x := (Int32.ofNat pre.length)) d28_4 rfl rfl ?_
  refine s_aloadN X0 hx hby (n := 6) (x := (.ref d)) d28_5 rfl rfl rfl ?_
  refine s_arraylength X0 hx hby hZ (n := 7) e0 gAb (z := (16 : Int32)) gSz (by decide) d28_6 rfl ?_
  refine s_icmpN X0 hx hby (n := 10) d28_7 (XT.ii_eq_f (fun q => absurd ((eq32 (b := 16) hpl (by decide)).mp q) (by omega))) rfl ?_
  refine s_aloadN X0 hx hby (n := 11) (x := (.ref d)) d28_10 rfl rfl rfl ?_
  refine s_iloadN X0 hx hby (n := 12) (x := (0 : Int32)) d28_11 rfl rfl ?_
  refine s_iloadN X0 hx hby (n := 13) (x := (Int32.ofNat pre.length)) d28_12 rfl rfl ?_
  refine s_callS X0 hx hby hml hZ (n := 16) hown (hw _ (List.mem_of_getElem? (i := 158) rfl)) (hw _ (List.mem_of_getElem? (i := 159) rfl)) (hw _ (List.mem_of_getElem? (i := 156) rfl)) (hw _ (List.mem_of_getElem? (i := 160) rfl)) (by decide) (rmCRB l Z a0 hw z0 hz0 Sz0 fm hfm Sfm d pre gk h0 n0 O0 gA glt) e0 (by decide) 0 (by decide) (by decide) (by decide) pd_12 [(.ref d), (.int (0 : Int32)), (.int (Int32.ofNat pre.length))] [] rfl rfl rfl (Nat.le_of_eq rfl) rfl d28_13 rfl ?_
  intro T1 L1 v1 X1 q1c
  obtain ⟨q, rfl, N1, K1, B1, nq⟩ := q1c
  show OE p e below _ T1 (mkF m 16 #[.val (.ref d), .val (.int (0 : Int32)), .val (.int (Int32.ofNat pre.length))] [(.ref q)])
  have M1 := Fr.app M0 N1
  exact s_retA X1 hx hby hlk hret rfl rfl d28_16 (by decide) (by decide) ⟨q, rfl, M1, K1, B1, nq⟩
theorem eq10f (m : MethodId) (x0 : Addr) (x1 : Addr) : entryFrame m #[(.ref x0), (.ref x1), .null] 5 = mkF m 0 #[.val (.ref x0), .val (.ref x1), .val .null, .unset, .unset] [] := by first | (simp [entryFrame, mkF, argsToLocals, Value.category, maxLocals]; done) | rfl
set_option maxRecDepth 65536 in
set_option maxHeartbeats 40000000 in
theorem rmSAV (l : Launch) (Z : State) (a0 : Array Value) (hw : ∀ d ∈ tables_1, d.before a0 Z = true) (z0 : Int32) (hz0 : ¬ z0 = (0 : Int32)) (Sz0 : Sta Z Z.heap "java/lang/String" "COMPACT_STRINGS" "Z" (.int z0)) (fm : Value) (hfm : fm.isRef = true) (Sfm : Sta Z Z.heap "jdk/internal/util/Preconditions" "SIOOBE_FORMATTER" "Ljava/util/function/BiFunction;" fm) (r o d : Addr) (pre : List Int32) (h0 : Heap) (n0 : Nat) (O0 : Oln Z n0 h0) (G : SBd Z h0 o d pre) (n_r : n0 ≤ r) (E0 : Exa Z h0 r "java/lang/String") (F0v : Fld Z h0 r "java/lang/String" "value" "[B" .null) (F0c : Fld Z h0 r "java/lang/String" "coder" "B" (.int (0 : Int32))) :
    OCon l Z (⟨"java/lang/String", "<init>", "(Ljava/lang/AbstractStringBuilder;Ljava/lang/Void;)V"⟩ : MethodName) jdk_42_method_150_code 5 (none) [] ({ frames := 3, cells := 1, slots := 16, locals := 53 } : Room) #[(.ref r), (.ref o), .null] h0 (fun v h L => v = none ∧ Fr n0 L ∧ Keep h0 h [r] ∧ Str Z h r pre) := by
  refine con (plainFor_of_name pq0) ?_
  intro p e s m below meth c s₁ hx hby hml hZ hown hnm hret hlk X0 e0
  refine entry (eq10f m r o) ?_
  have M0 := Fr.nil n0
  have K0 := Keep.refl h0 [r]
  obtain ⟨gE, gv, gc, gn, glt, gk, gA⟩ := id G
  have ne1 : o ≠ r := ne_exa gE E0 (by decide)
  have ne2 : d ≠ r := (arv_exa E0 (hw _ (List.mem_of_getElem? (i := 5) rfl)) gA).symm
  refine s_aloadN X0 hx hby (n := 1) (x := (.ref r)) d23_0 rfl rfl rfl ?_
  refine s_initO X0 hx hby hml hZ (n := 4) hown (hw _ (List.mem_of_getElem? (i := 15) rfl)) (hw _ (List.mem_of_getElem? (i := 16) rfl)) (hw _ (List.mem_of_getElem? (i := 17) rfl)) e0 (by decide) 0 (Nat.le_of_eq rfl) (by decide) rfl d23_1 rfl ?_
  intro T1 X1 e1
  refine s_aloadN X1 hx hby (n := 5) (x := (.ref o)) d23_4 rfl rfl rfl ?_
  refine s_callV X1 hx hby hml hZ (n := 8) hown (hw _ (List.mem_of_getElem? (i := 136) rfl)) (hw _ (List.mem_of_getElem? (i := 137) rfl)) (notFace_of_selects (args := #[]) (mvT hZ (hw _ (List.mem_of_getElem? (i := 139) rfl)))) (hw _ (List.mem_of_getElem? (i := 139) rfl)) (hw _ (List.mem_of_getElem? (i := 138) rfl)) (hw _ (List.mem_of_getElem? (i := 68) rfl)) (hw _ (List.mem_of_getElem? (i := 140) rfl)) (by decide) (rmGV l Z a0 hw z0 hz0 Sz0 fm hfm Sfm o d pre h0 n0 O0 G) e1 (by decide) 0 (by decide) (by decide) (by decide) pd_13 gE [] [] rfl rfl rfl (Nat.le_of_eq rfl) rfl d23_5 rfl ?_
  intro T2 L2 v2 X2 q2c
  obtain ⟨rfl, e2, N2⟩ := q2c
  show OE p e below _ T2 (mkF m 8 #[.val (.ref r), .val (.ref o), .val .null, .unset, .unset] [(.ref d)])
  have M2 := Fr.app M0 N2
  refine s_astoreN X2 hx hby (n := 9) (L' := #[.val (.ref r), .val (.ref o), .val .null, .val (.ref d), .unset]) d23_8 rfl rfl rfl ?_
  refine s_aloadN X2 hx hby (n := 10) (x := (.ref o)) d23_9 rfl rfl rfl ?_
  refine s_callV X2 hx hby hml hZ (n := 13) hown (hw _ (List.mem_of_getElem? (i := 141) rfl)) (hw _ (List.mem_of_getElem? (i := 142) rfl)) (notFace_cls (by rfl) (mvT (args := #[]) hZ (hw _ (List.mem_of_getElem? (i := 101) rfl)))) (hw _ (List.mem_of_getElem? (i := 144) rfl)) (hw _ (List.mem_of_getElem? (i := 145) rfl)) (hw _ (List.mem_of_getElem? (i := 60) rfl)) (hw _ (List.mem_of_getElem? (i := 146) rfl)) (by decide) (rmLnS l Z a0 hw z0 hz0 Sz0 fm hfm Sfm o d pre h0 n0 O0 G) e2 (by decide) 0 (by decide) (by decide) (by decide) pd_8 gE [] [] rfl rfl rfl (Nat.le_of_eq rfl) rfl d23_10 rfl ?_
  intro T3 L3 v3 X3 q3c
  obtain ⟨rfl, e3, N3⟩ := q3c
  show OE p e below _ T3 (mkF m 13 #[.val (.ref r), .val (.ref o), .val .null, .val (.ref d), .unset] [(.int (Int32.ofNat pre.length))])
  have M3 := Fr.app M2 N3
  refine s_istore X3 hx hby (n := 15) (L' := #[.val (.ref r), .val (.ref o), .val .null, .val (.ref d), .val (.int (Int32.ofNat pre.length))]) d23_13 rfl rfl ?_
  refine s_aloadN X3 hx hby (n := 16) (x := (.ref o)) d23_15 rfl rfl rfl ?_
  refine s_callV X3 hx hby hml hZ (n := 19) hown (hw _ (List.mem_of_getElem? (i := 149) rfl)) (hw _ (List.mem_of_getElem? (i := 150) rfl)) (notFace_of_selects (args := #[]) (mvT hZ (hw _ (List.mem_of_getElem? (i := 152) rfl)))) (hw _ (List.mem_of_getElem? (i := 152) rfl)) (hw _ (List.mem_of_getElem? (i := 151) rfl)) (hw _ (List.mem_of_getElem? (i := 68) rfl)) (hw _ (List.mem_of_getElem? (i := 153) rfl)) (by decide) (rmLaA l Z a0 hw z0 hz0 Sz0 fm hfm Sfm o d pre h0 n0 O0 G) e3 (by decide) 0 (by decide) (by decide) (by decide) pd_3 gE [] [] rfl rfl rfl (Nat.le_of_eq rfl) rfl d23_16 rfl ?_
  intro T4 L4 v4 X4 q4c
  obtain ⟨rfl, e4, N4⟩ := q4c
  show OE p e below _ T4 (mkF m 19 #[.val (.ref r), .val (.ref o), .val .null, .val (.ref d), .val (.int (Int32.ofNat pre.length))] [(.int (1 : Int32))])
  have M4 := Fr.app M3 N4
  refine s_ifN X4 hx hby (n := 22) d23_19 (by decide) rfl ?_
  refine s_aloadN X4 hx hby (n := 23) (x := (.ref r)) d23_22 rfl rfl rfl ?_
  refine s_iconst X4 hx hby (n := 24) (v := (0 : Int32)) d23_23 rfl rfl ?_
  refine s_putF X4 hx hby hZ (n := 27) hown (hw _ (List.mem_of_getElem? (i := 30) rfl)) e4 F0c E0 (Or.inr ⟨(hw _ (List.mem_of_getElem? (i := 31) rfl)), rfl, hnm⟩) (hw _ (List.mem_of_getElem? (i := 5) rfl)) (ty := .byte) (by decide) rfl rfl d23_24 rfl ?_
  intro T5 h5 X5 e5 W5
  have E5_r := E0.wr W5
  have F5_r_value := Fld.other W5 F0v (Or.inr (slot_ne (Or.inr (hw _ (List.mem_of_getElem? (i := 33) rfl))) (Or.inr (hw _ (List.mem_of_getElem? (i := 31) rfl))) (by decide) (t := (.array (.byte))) (t' := .byte) (by decide) (by decide)))
  have F5_r_coder := Fld.same W5 F0c
  have M5 := Fr.snoc X5 M4 n_r
  have K5 := Keep.wr K0 W5 (Or.inl (List.mem_of_getElem? (i := 0) rfl))
  have OO5 := O0.wr W5 n_r
  have gA2 := gA.other W5 ne2
  refine s_aloadN X5 hx hby (n := 28) (x := (.ref r)) d23_27 rfl rfl rfl ?_
  refine s_aloadN X5 hx hby (n := 29) (x := (.ref d)) d23_28 rfl rfl rfl ?_
  refine s_iconst X5 hx hby (n := 30) (v := (0 : Int32)) d23_29 rfl rfl ?_
  refine s_iload X5 hx hby (n := 32) (x := (Int32.ofNat pre.length)) d23_30 rfl rfl ?_
  refine s_callS X5 hx hby hml hZ (n := 35) hown (hw _ (List.mem_of_getElem? (i := 154) rfl)) (hw _ (List.mem_of_getElem? (i := 155) rfl)) (hw _ (List.mem_of_getElem? (i := 156) rfl)) (hw _ (List.mem_of_getElem? (i := 157) rfl)) (by decide) (rmCR l Z a0 hw z0 hz0 Sz0 fm hfm Sfm d pre gk h5 n0 OO5 gA2 glt) e5 (by decide) 1 (by decide) (by decide) (by decide) pd_12 [(.ref d), (.int (0 : Int32)), (.int (Int32.ofNat pre.length))] [(.ref r)] rfl rfl rfl (Nat.le_of_eq rfl) rfl d23_32 rfl ?_
  intro T6 L6 v6 X6 q6c
  obtain ⟨q, rfl, N6, K6, B6, nq⟩ := q6c
  show OE p e below _ T6 (mkF m 35 #[.val (.ref r), .val (.ref o), .val .null, .val (.ref d), .val (.int (Int32.ofNat pre.length))] [(.ref q), (.ref r)])
  have E6 := E5_r.keep K6
  have F6_value := F5_r_value.keep K6 nin0
  have F6_coder := F5_r_coder.keep K6 nin0
  have KK6 := K5.trans K6 all0
  have M6 := Fr.app M5 N6
  obtain ⟨qlt, kq, qA⟩ := B6
  have ne3 : q ≠ r := (arv_exa E6 (hw _ (List.mem_of_getElem? (i := 5) rfl)) qA).symm
  refine s_putF X6 hx hby hZ (n := 38) hown (hw _ (List.mem_of_getElem? (i := 32) rfl)) rfl F6_value E6 (Or.inr ⟨(hw _ (List.mem_of_getElem? (i := 33) rfl)), rfl, hnm⟩) (hw _ (List.mem_of_getElem? (i := 5) rfl)) (ty := (.array (.byte))) (by decide) rfl rfl d23_35 rfl ?_
  intro T7 h7 X7 e7 W7
  have E7_r := E6.wr W7
  have F7_r_value := Fld.same W7 F6_value
  have F7_r_coder := Fld.other W7 F6_coder (Or.inr (slot_ne (Or.inr (hw _ (List.mem_of_getElem? (i := 31) rfl))) (Or.inr (hw _ (List.mem_of_getElem? (i := 33) rfl))) (by decide) (t := .byte) (t' := (.array (.byte))) (by decide) (by decide)))
  have M7 := Fr.snoc X7 M6 n_r
  have K7 := Keep.wr KK6 W7 (Or.inl (List.mem_of_getElem? (i := 0) rfl))
  have qA2 := qA.other W7 ne3
  refine s_goto X7 hx hby (n := 97) d23_38 (by decide) (by decide) ?_
  exact s_ret X7 hx hby hlk hret d23_97 (by decide) (by decide) (by rw [e7]; exact ⟨rfl, M7, K7, E7_r, F7_r_coder, q, F7_r_value, qlt, _, qA2⟩)
set_option maxRecDepth 65536 in
set_option maxHeartbeats 40000000 in
theorem rmSS (l : Launch) (Z : State) (a0 : Array Value) (hw : ∀ d ∈ tables_1, d.before a0 Z = true) (z0 : Int32) (hz0 : ¬ z0 = (0 : Int32)) (Sz0 : Sta Z Z.heap "java/lang/String" "COMPACT_STRINGS" "Z" (.int z0)) (fm : Value) (hfm : fm.isRef = true) (Sfm : Sta Z Z.heap "jdk/internal/util/Preconditions" "SIOOBE_FORMATTER" "Ljava/util/function/BiFunction;" fm) (r o d : Addr) (pre : List Int32) (h0 : Heap) (n0 : Nat) (O0 : Oln Z n0 h0) (G : SBd Z h0 o d pre) (n_r : n0 ≤ r) (E0 : Exa Z h0 r "java/lang/String") (F0v : Fld Z h0 r "java/lang/String" "value" "[B" .null) (F0c : Fld Z h0 r "java/lang/String" "coder" "B" (.int (0 : Int32))) :
    OCon l Z (⟨"java/lang/String", "<init>", "(Ljava/lang/StringBuilder;)V"⟩ : MethodName) jdk_42_method_53_code 2 (none) [] ({ frames := 4, cells := 1, slots := 16, locals := 69 } : Room) #[(.ref r), (.ref o)] h0 (fun v h L => v = none ∧ Fr n0 L ∧ Keep h0 h [r] ∧ Str Z h r pre) := by
  refine con (plainFor_of_name pq0) ?_
  intro p e s m below meth c s₁ hx hby hml hZ hown hnm hret hlk X0 e0
  refine entry (eq3f m r o) ?_
  have M0 := Fr.nil n0
  refine s_aloadN X0 hx hby (n := 1) (x := (.ref r)) d22_0 rfl rfl rfl ?_
  refine s_aloadN X0 hx hby (n := 2) (x := (.ref o)) d22_1 rfl rfl rfl ?_
  refine s_aconstNull X0 hx hby (n := 3) d22_2 rfl ?_
  refine s_callI X0 hx hby hml hZ (n := 6) rfl hown (hw _ (List.mem_of_getElem? (i := 133) rfl)) (hw _ (List.mem_of_getElem? (i := 134) rfl)) (hw _ (List.mem_of_getElem? (i := 6) rfl)) (hw _ (List.mem_of_getElem? (i := 135) rfl)) (by decide) (rmSAV l Z a0 hw z0 hz0 Sz0 fm hfm Sfm r o d pre h0 n0 O0 G n_r E0 F0v F0c) e0 (by decide) 0 (by decide) (by decide) (by decide) pd_14 r [(.ref o), .null] [] rfl rfl rfl (Nat.le_of_eq rfl) rfl d22_3 rfl ?_
  intro T1 L1 v1 X1 q1c
  obtain ⟨rfl, N1, K1, S1⟩ := q1c
  show OE p e below _ T1 (mkF m 6 #[.val (.ref r), .val (.ref o)] [])
  have M1 := Fr.app M0 N1
  exact s_ret X1 hx hby hlk hret d22_6 (by decide) (by decide) ⟨rfl, M1, K1, S1⟩
set_option maxRecDepth 65536 in
set_option maxHeartbeats 40000000 in
theorem rmTS (l : Launch) (Z : State) (a0 : Array Value) (hw : ∀ d ∈ tables_1, d.before a0 Z = true) (z0 : Int32) (hz0 : ¬ z0 = (0 : Int32)) (Sz0 : Sta Z Z.heap "java/lang/String" "COMPACT_STRINGS" "Z" (.int z0)) (fm : Value) (hfm : fm.isRef = true) (Sfm : Sta Z Z.heap "jdk/internal/util/Preconditions" "SIOOBE_FORMATTER" "Ljava/util/function/BiFunction;" fm) (o d : Addr) (pre : List Int32) (h0 : Heap) (n0 : Nat) (O0 : Oln Z n0 h0) (G : SBd Z h0 o d pre) :
    OCon l Z (⟨"java/lang/StringBuilder", "toString", "()Ljava/lang/String;"⟩ : MethodName) jdk_67_method_42_code 1 (some (.object "java/lang/String")) [] ({ frames := 5, cells := 2, slots := 20, locals := 83 } : Room) #[(.ref o)] h0 (fun v h L => ∃ r, v = some (.ref r) ∧ Fr n0 L ∧ Keep h0 h [] ∧ Str Z h r pre) := by
  refine con (plainFor_of_name pq2) ?_
  intro p e s m below meth c s₁ hx hby hml hZ hown hnm hret hlk X0 e0
  refine entry (eq0f m o) ?_
  have M0 := Fr.nil n0
  have K0 := Keep.refl h0 []
  have ZL1 := Oln.le O0
  refine s_newO X0 hx hby hZ (n := 3) hown (hw _ (List.mem_of_getElem? (i := 129) rfl)) (hw _ (List.mem_of_getElem? (i := 5) rfl)) (hw _ (List.mem_of_getElem? (i := 6) rfl)) e0 (by decide) (by decide) d21_0 rfl ?_
  intro T1 h1 r gr X1 e1 Q1 E1_r D1
  have K1 := K0.ext Q1
  have F1_r_coder : Fld Z h1 r "java/lang/String" "coder" "B" (.int (0 : Int32)) := D1 (Or.inr (hw _ (List.mem_of_getElem? (i := 31) rfl))) (ty := .byte) (by decide)
  have F1_r_value : Fld Z h1 r "java/lang/String" "value" "[B" .null := D1 (Or.inr (hw _ (List.mem_of_getElem? (i := 33) rfl))) (ty := (.array (.byte))) (by decide)
  have n_r : n0 ≤ r := by rw [gr]; exact ZL1
  have Z1 : n0 ≤ h1.size := Nat.le_trans ZL1 Q1.1
  have OO1 := O0.ext Q1
  have G2 := G.ext Q1
  refine s_dup X1 hx hby (n := 4) d21_3 rfl rfl ?_
  refine s_aloadN X1 hx hby (n := 5) (x := (.ref o)) d21_4 rfl rfl rfl ?_
  refine s_callI X1 hx hby hml hZ (n := 8) rfl hown (hw _ (List.mem_of_getElem? (i := 130) rfl)) (hw _ (List.mem_of_getElem? (i := 131) rfl)) (hw _ (List.mem_of_getElem? (i := 6) rfl)) (hw _ (List.mem_of_getElem? (i := 132) rfl)) (by decide) (rmSS l Z a0 hw z0 hz0 Sz0 fm hfm Sfm r o d pre h1 n0 OO1 G2 n_r E1_r F1_r_value F1_r_coder) e1 (by decide) 1 (by decide) (by decide) (by decide) pd_15 r [(.ref o)] [(.ref r)] rfl rfl rfl (Nat.le_of_eq rfl) rfl d21_5 rfl ?_
  intro T2 L2 v2 X2 q2c
  obtain ⟨rfl, N2, K2, S2⟩ := q2c
  show OE p e below _ T2 (mkF m 8 #[.val (.ref o)] [(.ref r)])
  have KK2 := K1.trans K2 (allS (Or.inr (by rw [gr]; exact Nat.le_refl _)) all0)
  have M2 := Fr.app M0 N2
  exact s_retA X2 hx hby hlk hret rfl rfl d21_8 (by decide) (by decide) ⟨r, rfl, M2, KK2, S2⟩
theorem pq4 : plainName "java/lang/StringLatin1" = true := by first | (simp [plainName, overriddenIn]; done) | decide +kernel
theorem eq11f (m : MethodId) (x0 : Int32) : entryFrame m #[(.int x0)] 1 = mkF m 0 #[.val (.int x0)] [] := by first | (simp [entryFrame, mkF, argsToLocals, Value.category, maxLocals]; done) | rfl
set_option maxRecDepth 65536 in
set_option maxHeartbeats 40000000 in
theorem rmCE (l : Launch) (Z : State) (a0 : Array Value) (hw : ∀ d ∈ tables_1, d.before a0 Z = true) (p1 : Int32) (q : ¬ (255 : Int32) < p1) (h0 : Heap) (n0 : Nat)  :
    OCon l Z (⟨"java/lang/StringLatin1", "canEncode", "(C)Z"⟩ : MethodName) jdk_43_method_3_code 1 (some (.boolean)) [] ({ frames := 0, cells := 0, slots := 0, locals := 0 } : Room) #[(.int p1)] h0 (fun v h L => v = some (.int (1 : Int32)) ∧ h = h0 ∧ Fr n0 L) := by
  refine con (plainFor_of_name pq4) ?_
  intro p e s m below meth c s₁ hx hby hml hZ hown hnm hret hlk X0 e0
  refine entry (eq11f m p1) ?_
  have M0 := Fr.nil n0
  refine s_iloadN X0 hx hby (n := 1) (x := p1) d39_0 rfl rfl ?_
  refine s_sipush X0 hx hby (n := 4) (v := (255 : Int32)) d39_1 rfl rfl ?_
  refine s_icmpN X0 hx hby (n := 7) d39_4 (XT.ii_gt_f q) rfl ?_
  refine s_iconst X0 hx hby (n := 8) (v := (1 : Int32)) d39_7 rfl rfl ?_
  refine s_goto X0 hx hby (n := 12) d39_8 (by decide) (by decide) ?_
  exact s_retN X0 hx hby hlk hret (t := .boolean) (by simp) (z' := (1 : Int32)) (by decide) d39_12 (by decide) (by decide) ⟨rfl, e0, M0⟩
set_option maxRecDepth 65536 in
set_option maxHeartbeats 40000000 in
theorem rmTB (l : Launch) (Z : State) (a0 : Array Value) (hw : ∀ d ∈ tables_1, d.before a0 Z = true) (z0 : Int32) (hz0 : ¬ z0 = (0 : Int32)) (Sz0 : Sta Z Z.heap "java/lang/String" "COMPACT_STRINGS" "Z" (.int z0)) (fm : Value) (hfm : fm.isRef = true) (Sfm : Sta Z Z.heap "jdk/internal/util/Preconditions" "SIOOBE_FORMATTER" "Ljava/util/function/BiFunction;" fm) (p1 : Int32) (h0 : Heap) (n0 : Nat) (O0 : Oln Z n0 h0)  :
    OCon l Z (⟨"java/lang/StringLatin1", "toBytes", "(C)[B"⟩ : MethodName) jdk_43_method_46_code 1 (some ((.array (.byte)))) [] ({ frames := 0, cells := 1, slots := 1, locals := 0 } : Room) #[(.int p1)] h0 (fun v h L => ∃ q bs, v = some (.ref q) ∧ bs.length = 1 ∧ Fr n0 L ∧ Keep h0 h [] ∧ Bys Z h q bs) := by
  refine con (plainFor_of_name pq4) ?_
  intro p e s m below meth c s₁ hx hby hml hZ hown hnm hret hlk X0 e0
  refine entry (eq11f m p1) ?_
  have M0 := Fr.nil n0
  have K0 := Keep.refl h0 []
  refine s_iconst X0 hx hby (n := 1) (v := (1 : Int32)) d40_0 rfl rfl ?_
  refine s_newP X0 hx hby hZ (n := 3) (hw _ (List.mem_of_getElem? (i := 23) rfl)) (ty := .byte) rfl e0 (num := (1 : Int32)) (by decide) 1 (by decide) (by decide) (by decide) (by decide) d40_1 rfl ?_
  intro T1 h1 cq q gq X1 e1 Q1 A1
  have n_q : n0 ≤ q := by rw [gq]; exact Oln.le O0
  have V1_q := Arv.new A1 (by decide)
  have K1 := K0.ext Q1
  have OO1 := O0.ext Q1
  have V1 : Arv Z h1 q cq .byte 1 (List.replicate 1 (.int 0)) (.int 0) := Arv.pad V1_q (pad_rep [] _ 1)
  refine s_dup X1 hx hby (n := 4) d40_3 rfl rfl ?_
  refine s_iconst X1 hx hby (n := 5) (v := (0 : Int32)) d40_4 rfl rfl ?_
  refine s_iloadN X1 hx hby (n := 6) (x := p1) d40_5 rfl rfl ?_
  refine s_i2b X1 hx hby (n := 7) d40_6 rfl ?_
  obtain ⟨cl2, Ar2, hk2, Sz2, hz2, Hb2, Gb2⟩ := id V1
  refine s_bastoreC X1 hx hby hZ (n := 8) e1 Ar2 0 (by decide) (by decide) (by rw [Sz2]; decide) d40_7 rfl ?_
  intro T2 h2 X2 e2 W2
  have V2 := Arv.set (j := (0 : Int32)) Ar2 hk2 Sz2 hz2 Hb2 Gb2 (fits_nar_byte _) W2 0 rfl (by simp)
  have M2 := Fr.snoc X2 M0 n_q
  have K2 := Keep.wr K1 W2 (Or.inr (by rw [gq]; exact K0.1))
  have OO2 := OO1.wr W2 n_q
  exact s_retA X2 hx hby hlk hret rfl rfl d40_8 (by decide) (by decide) (by rw [e2]; exact ⟨q, [nar .byte (p1.toInt8.toInt32)], rfl, rfl, M2, K2, ⟨by simp, _, V2⟩⟩)
theorem eq12f (m : MethodId) (x0 : Addr) (x1 : Addr) (x2 : Int32) : entryFrame m #[(.ref x0), (.ref x1), (.int x2)] 3 = mkF m 0 #[.val (.ref x0), .val (.ref x1), .val (.int x2)] [] := by first | (simp [entryFrame, mkF, argsToLocals, Value.category, maxLocals]; done) | rfl
set_option maxRecDepth 65536 in
set_option maxHeartbeats 40000000 in
theorem rmSB2 (l : Launch) (Z : State) (a0 : Array Value) (hw : ∀ d ∈ tables_1, d.before a0 Z = true) (z0 : Int32) (hz0 : ¬ z0 = (0 : Int32)) (Sz0 : Sta Z Z.heap "java/lang/String" "COMPACT_STRINGS" "Z" (.int z0)) (fm : Value) (hfm : fm.isRef = true) (Sfm : Sta Z Z.heap "jdk/internal/util/Preconditions" "SIOOBE_FORMATTER" "Ljava/util/function/BiFunction;" fm) (r q : Addr) (bs : List Int32) (h0 : Heap) (n0 : Nat) (O0 : Oln Z n0 h0) (B : Bys Z h0 q bs) (n_r : n0 ≤ r) (E0 : Exa Z h0 r "java/lang/String") (F0v : Fld Z h0 r "java/lang/String" "value" "[B" .null) (F0c : Fld Z h0 r "java/lang/String" "coder" "B" (.int (0 : Int32))) :
    OCon l Z (⟨"java/lang/String", "<init>", "([BB)V"⟩ : MethodName) jdk_42_method_151_code 3 (none) [] ({ frames := 1, cells := 0, slots := 0, locals := 12 } : Room) #[(.ref r), (.ref q), (.int (0 : Int32))] h0 (fun v h L => v = none ∧ Fr n0 L ∧ Keep h0 h [r] ∧ Str Z h r bs) := by
  refine con (plainFor_of_name pq0) ?_
  intro p e s m below meth c s₁ hx hby hml hZ hown hnm hret hlk X0 e0
  refine entry (eq12f m r q (0 : Int32)) ?_
  have M0 := Fr.nil n0
  have K0 := Keep.refl h0 [r]
  obtain ⟨qlt, kq, qA⟩ := B
  have ne3 : q ≠ r := (arv_exa E0 (hw _ (List.mem_of_getElem? (i := 5) rfl)) qA).symm
  refine s_aloadN X0 hx hby (n := 1) (x := (.ref r)) d41_0 rfl rfl rfl ?_
  refine s_initO X0 hx hby hml hZ (n := 4) hown (hw _ (List.mem_of_getElem? (i := 15) rfl)) (hw _ (List.mem_of_getElem? (i := 16) rfl)) (hw _ (List.mem_of_getElem? (i := 17) rfl)) e0 (by decide) 0 (Nat.le_of_eq rfl) (by decide) rfl d41_1 rfl ?_
  intro T1 X1 e1
  refine s_aloadN X1 hx hby (n := 5) (x := (.ref r)) d41_4 rfl rfl rfl ?_
  refine s_aloadN X1 hx hby (n := 6) (x := (.ref q)) d41_5 rfl rfl rfl ?_
  refine s_putF X1 hx hby hZ (n := 9) hown (hw _ (List.mem_of_getElem? (i := 32) rfl)) e1 F0v E0 (Or.inr ⟨(hw _ (List.mem_of_getElem? (i := 33) rfl)), rfl, hnm⟩) (hw _ (List.mem_of_getElem? (i := 5) rfl)) (ty := (.array (.byte))) (by decide) rfl rfl d41_6 rfl ?_
  intro T2 h2 X2 e2 W2
  have E2_r := E0.wr W2
  have F2_r_value := Fld.same W2 F0v
  have F2_r_coder := Fld.other W2 F0c (Or.inr (slot_ne (Or.inr (hw _ (List.mem_of_getElem? (i := 31) rfl))) (Or.inr (hw _ (List.mem_of_getElem? (i := 33) rfl))) (by decide) (t := .byte) (t' := (.array (.byte))) (by decide) (by decide)))
  have M2 := Fr.snoc X2 M0 n_r
  have K2 := Keep.wr K0 W2 (Or.inl (List.mem_of_getElem? (i := 0) rfl))
  have qA2 := qA.other W2 ne3
  refine s_aloadN X2 hx hby (n := 10) (x := (.ref r)) d41_9 rfl rfl rfl ?_
  refine s_iloadN X2 hx hby (n := 11) (x := (0 : Int32)) d41_10 rfl rfl ?_
  refine s_putF X2 hx hby hZ (n := 14) hown (hw _ (List.mem_of_getElem? (i := 30) rfl)) e2 F2_r_coder E2_r (Or.inr ⟨(hw _ (List.mem_of_getElem? (i := 31) rfl)), rfl, hnm⟩) (hw _ (List.mem_of_getElem? (i := 5) rfl)) (ty := .byte) (by decide) rfl rfl d41_11 rfl ?_
  intro T3 h3 X3 e3 W3
  have E3_r := E2_r.wr W3
  have F3_r_value := Fld.other W3 F2_r_value (Or.inr (slot_ne (Or.inr (hw _ (List.mem_of_getElem? (i := 33) rfl))) (Or.inr (hw _ (List.mem_of_getElem? (i := 31) rfl))) (by decide) (t := (.array (.byte))) (t' := .byte) (by decide) (by decide)))
  have F3_r_coder := Fld.same W3 F2_r_coder
  have M3 := Fr.snoc X3 M2 n_r
  have K3 := Keep.wr K2 W3 (Or.inl (List.mem_of_getElem? (i := 0) rfl))
  have qA3 := qA2.other W3 ne3
  exact s_ret X3 hx hby hlk hret d41_14 (by decide) (by decide) (by rw [e3]; exact ⟨rfl, M3, K3, E3_r, F3_r_coder, q, F3_r_value, qlt, _, qA3⟩)
set_option maxRecDepth 65536 in
set_option maxHeartbeats 40000000 in
theorem rmVO (l : Launch) (Z : State) (a0 : Array Value) (hw : ∀ d ∈ tables_1, d.before a0 Z = true) (z0 : Int32) (hz0 : ¬ z0 = (0 : Int32)) (Sz0 : Sta Z Z.heap "java/lang/String" "COMPACT_STRINGS" "Z" (.int z0)) (fm : Value) (hfm : fm.isRef = true) (Sfm : Sta Z Z.heap "jdk/internal/util/Preconditions" "SIOOBE_FORMATTER" "Ljava/util/function/BiFunction;" fm) (p1 : Int32) (hq : ¬ (255 : Int32) < p1) (h0 : Heap) (n0 : Nat) (O0 : Oln Z n0 h0)  :
    OCon l Z (⟨"java/lang/String", "valueOf", "(C)Ljava/lang/String;"⟩ : MethodName) jdk_42_method_139_code 1 (some (.object "java/lang/String")) [] ({ frames := 2, cells := 2, slots := 5, locals := 27 } : Room) #[(.int p1)] h0 (fun v h L => ∃ r bs, v = some (.ref r) ∧ bs.length = 1 ∧ Fr n0 L ∧ Keep h0 h [] ∧ Str Z h r bs) := by
  refine con (plainFor_of_name pq0) ?_
  intro p e s m below meth c s₁ hx hby hml hZ hown hnm hret hlk X0 e0
  refine entry (eq11f m p1) ?_
  have M0 := Fr.nil n0
  have K0 := Keep.refl h0 []
  refine s_getS X0 hx hby hZ (n := 3) hown (hw _ (List.mem_of_getElem? (i := 18) rfl)) e0 (Sz0.ext O0.2) d38_0 rfl ?_
  intro T1 X1 e1
  refine s_ifN X1 hx hby (n := 6) d38_3 (XT.i0_eq_f hz0) rfl ?_
  refine s_iloadN X1 hx hby (n := 7) (x := p1) d38_6 rfl rfl ?_
  refine s_callS X1 hx hby hml hZ (n := 10) hown (hw _ (List.mem_of_getElem? (i := 198) rfl)) (hw _ (List.mem_of_getElem? (i := 199) rfl)) (hw _ (List.mem_of_getElem? (i := 185) rfl)) (hw _ (List.mem_of_getElem? (i := 200) rfl)) (by decide) (rmCE l Z a0 hw p1 hq h0 n0) e1 (by decide) 0 (by decide) (by decide) (by decide) pd_16 [(.int p1)] [] rfl rfl rfl (Nat.le_of_eq rfl) rfl d38_7 rfl ?_
  intro T2 L2 v2 X2 q2c
  obtain ⟨rfl, e2, N2⟩ := q2c
  show OE p e below _ T2 (mkF m 10 #[.val (.int p1)] [(.int (1 : Int32))])
  have M2 := Fr.app M0 N2
  refine s_ifN X2 hx hby (n := 13) d38_10 (by decide) rfl ?_
  have ZL3 := Oln.le O0
  refine s_newO X2 hx hby hZ (n := 16) hown (hw _ (List.mem_of_getElem? (i := 201) rfl)) (hw _ (List.mem_of_getElem? (i := 5) rfl)) (hw _ (List.mem_of_getElem? (i := 6) rfl)) e2 (by decide) (by decide) d38_13 rfl ?_
  intro T3 h3 r gr X3 e3 Q3 E3_r D3
  have K3 := K0.ext Q3
  have F3_r_coder : Fld Z h3 r "java/lang/String" "coder" "B" (.int (0 : Int32)) := D3 (Or.inr (hw _ (List.mem_of_getElem? (i := 31) rfl))) (ty := .byte) (by decide)
  have F3_r_value : Fld Z h3 r "java/lang/String" "value" "[B" .null := D3 (Or.inr (hw _ (List.mem_of_getElem? (i := 33) rfl))) (ty := (.array (.byte))) (by decide)
  have n_r : n0 ≤ r := by rw [gr]; exact ZL3
  have Z3 : n0 ≤ h3.size := Nat.le_trans ZL3 Q3.1
  have OO3 := O0.ext Q3
  refine s_dup X3 hx hby (n := 17) d38_16 rfl rfl ?_
  refine s_iloadN X3 hx hby (n := 18) (x := p1) d38_17 rfl rfl ?_
  refine s_callS X3 hx hby hml hZ (n := 21) hown (hw _ (List.mem_of_getElem? (i := 202) rfl)) (hw _ (List.mem_of_getElem? (i := 203) rfl)) (hw _ (List.mem_of_getElem? (i := 185) rfl)) (hw _ (List.mem_of_getElem? (i := 204) rfl)) (by decide) (rmTB l Z a0 hw z0 hz0 Sz0 fm hfm Sfm p1 h3 n0 OO3) e3 (by decide) 2 (by decide) (by decide) (by decide) pd_17 [(.int p1)] [(.ref r), (.ref r)] rfl rfl rfl (Nat.le_of_eq rfl) rfl d38_18 rfl ?_
  intro T4 L4 v4 X4 q4c
  obtain ⟨q, bs, rfl, hbs, N4, K4, B4⟩ := q4c
  show OE p e below _ T4 (mkF m 21 #[.val (.int p1)] [(.ref q), (.ref r), (.ref r)])
  have E4 := E3_r.keep K4
  have F4_value := F3_r_value.keep K4 nin0
  have F4_coder := F3_r_coder.keep K4 nin0
  have KK4 := K3.trans K4 all0
  have OO4 := OO3.keep K4 all0
  have M4 := Fr.app M2 N4
  refine s_iconst X4 hx hby (n := 22) (v := (0 : Int32)) d38_21 rfl rfl ?_
  refine s_callI X4 hx hby hml hZ (n := 25) rfl hown (hw _ (List.mem_of_getElem? (i := 205) rfl)) (hw _ (List.mem_of_getElem? (i := 206) rfl)) (hw _ (List.mem_of_getElem? (i := 6) rfl)) (hw _ (List.mem_of_getElem? (i := 207) rfl)) (by decide) (rmSB2 l Z a0 hw z0 hz0 Sz0 fm hfm Sfm r q bs T4.heap n0 OO4 B4 n_r E4 F4_value F4_coder) rfl (by decide) 1 (by decide) (by decide) (by decide) pd_18 r [(.ref q), (.int (0 : Int32))] [(.ref r)] rfl rfl rfl (Nat.le_of_eq rfl) rfl d38_22 rfl ?_
  intro T5 L5 v5 X5 q5c
  obtain ⟨rfl, N5, K5, S5⟩ := q5c
  show OE p e below _ T5 (mkF m 25 #[.val (.int p1)] [(.ref r)])
  have KK5 := KK4.trans K5 (allS (Or.inr (by rw [gr]; exact Nat.le_refl _)) all0)
  have M5 := Fr.app M4 N5
  exact s_retA X5 hx hby hlk hret rfl rfl d38_25 (by decide) (by decide) ⟨r, bs, rfl, hbs, M5, KK5, S5⟩
theorem pq5 : plainName "java/lang/StringUTF16" = true := by first | (simp [plainName, overriddenIn]; done) | decide +kernel
theorem eq13f (m : MethodId) (x0 : Addr) (x1 : Int32) : entryFrame m #[(.ref x0), (.int x1)] 2 = mkF m 0 #[.val (.ref x0), .val (.int x1)] [] := by first | (simp [entryFrame, mkF, argsToLocals, Value.category, maxLocals]; done) | rfl
set_option maxRecDepth 65536 in
set_option maxHeartbeats 40000000 in
theorem rmCAL (l : Launch) (Z : State) (a0 : Array Value) (hw : ∀ d ∈ tables_1, d.before a0 Z = true) (z0 : Int32) (hz0 : ¬ z0 = (0 : Int32)) (Sz0 : Sta Z Z.heap "java/lang/String" "COMPACT_STRINGS" "Z" (.int z0)) (fm : Value) (hfm : fm.isRef = true) (Sfm : Sta Z Z.heap "jdk/internal/util/Preconditions" "SIOOBE_FORMATTER" "Ljava/util/function/BiFunction;" fm) (q : Addr) (p2 : Int32) (kq : ClassId) (vs : List Value) (h0 : Heap) (n0 : Nat) (O0 : Oln Z n0 h0) (qA : Arv Z h0 q kq .byte p2 vs (.int 0)) :
    OCon l Z (⟨"java/lang/StringUTF16", "coderFromArrayLen", "([BI)B"⟩ : MethodName) jdk_52_method_15_code 2 (some (.byte)) [] ({ frames := 0, cells := 0, slots := 0, locals := 0 } : Room) #[(.ref q), (.int p2)] h0 (fun v h L => v = some (.int (0 : Int32)) ∧ h = h0 ∧ Fr n0 L) := by
  refine con (plainFor_of_name pq5) ?_
  intro p e s m below meth c s₁ hx hby hml hZ hown hnm hret hlk X0 e0
  refine entry (eq13f m q p2) ?_
  have M0 := Fr.nil n0
  obtain ⟨scb, sAb, shk, sSz, shz, sHb, sGb⟩ := qA
  refine s_iloadN X0 hx hby (n := 1) (x := p2) d7_0 rfl rfl ?_
  refine s_aloadN X0 hx hby (n := 2) (x := (.ref q)) d7_1 rfl rfl rfl ?_
  refine s_arraylength X0 hx hby hZ (n := 3) e0 sAb (z := p2) sSz shz d7_2 rfl ?_
  refine s_isub X0 hx hby (n := 4) d7_3 rfl ?_
  refine s_fold (z := (0 : Int32)) (Int32.sub_self _) ?_
  refine s_bipush X0 hx hby (n := 6) (v := (31 : Int32)) d7_4 rfl rfl ?_
  refine s_iushr X0 hx hby (n := 7) d7_6 rfl ?_
  refine s_fold (z := (0 : Int32)) (by decide) ?_
  refine s_i2b X0 hx hby (n := 8) d7_7 rfl ?_
  refine s_fold (z := (0 : Int32)) (by decide) ?_
  exact s_retN X0 hx hby hlk hret (t := .byte) (by simp) (z' := (0 : Int32)) (by decide) d7_8 (by decide) (by decide) ⟨rfl, e0, M0⟩
theorem eq14f (m : MethodId) (x0 : Addr) (x1 : Int32) (x2 : Addr) (x3 : Int32) (x4 : Int32) : entryFrame m #[(.ref x0), (.int x1), (.ref x2), (.int x3), (.int x4)] 7 = mkF m 0 #[.val (.ref x0), .val (.int x1), .val (.ref x2), .val (.int x3), .val (.int x4), .unset, .unset] [] := by first | (simp [entryFrame, mkF, argsToLocals, Value.category, maxLocals]; done) | rfl
set_option maxRecDepth 65536 in
set_option maxHeartbeats 40000000 in
theorem rmC5_2 (l : Launch) (Z : State) (a0 : Array Value) (hw : ∀ d ∈ tables_1, d.before a0 Z = true) (z0 : Int32) (hz0 : ¬ z0 = (0 : Int32)) (Sz0 : Sta Z Z.heap "java/lang/String" "COMPACT_STRINGS" "Z" (.int z0)) (fm : Value) (hfm : fm.isRef = true) (Sfm : Sta Z Z.heap "jdk/internal/util/Preconditions" "SIOOBE_FORMATTER" "Ljava/util/function/BiFunction;" fm) (ch q : Addr) (kc kq : ClassId) (x0 x1 : Int32) (l0 : ¬ (255 : Int32) < x0) (l1 : ¬ (255 : Int32) < x1) (h0 : Heap) (n0 : Nat) (O0 : Oln Z n0 h0) (cA : Arv Z h0 ch kc .char (2 : Int32) [.int x0, .int x1] (.int 0)) (qA : Arv Z h0 q kq .byte (2 : Int32) (List.replicate 2 (.int 0)) (.int 0)) (nec : ch ≠ q) (n_q : n0 ≤ q) :
    OCon l Z (⟨"java/lang/StringUTF16", "compress", "([CI[BII)I"⟩ : MethodName) jdk_52_method_21_code 7 (some (.int)) [] ({ frames := 0, cells := 0, slots := 0, locals := 0 } : Room) #[(.ref ch), (.int (0 : Int32)), (.ref q), (.int (0 : Int32)), (.int (2 : Int32))] h0 (fun v h L => v = some (.int (2 : Int32)) ∧ Fr n0 L ∧ Keep h0 h [q] ∧ ∃ bs, bs.length = 2 ∧ Bys Z h q bs) := by
  refine con (plainFor_of_name pq5) ?_
  intro p e s m below meth c s₁ hx hby hml hZ hown hnm hret hlk X0 e0
  refine entry (eq14f m ch (0 : Int32) q (0 : Int32) (2 : Int32)) ?_
  have M0 := Fr.nil n0
  have K0 := Keep.refl h0 [q]
  refine s_iconst X0 hx hby (n := 1) (v := (0 : Int32)) d6_0 rfl rfl ?_
  refine s_istore X0 hx hby (n := 3) (L' := #[.val (.ref ch), .val (.int (0 : Int32)), .val (.ref q), .val (.int (0 : Int32)), .val (.int (2 : Int32)), .val (.int (0 : Int32)), .unset]) d6_1 rfl rfl ?_
  refine s_iload X0 hx hby (n := 5) (x := (0 : Int32)) d6_3 rfl rfl ?_
  refine s_iload X0 hx hby (n := 7) (x := (2 : Int32)) d6_5 rfl rfl ?_
  refine s_icmpN X0 hx hby (n := 10) d6_7 (by decide) rfl ?_
  refine s_aloadN X0 hx hby (n := 11) (x := (.ref ch)) d6_10 rfl rfl rfl ?_
  refine s_iloadN X0 hx hby (n := 12) (x := (0 : Int32)) d6_11 rfl rfl ?_
  obtain ⟨cl1, Ar1, hk1, Sz1, hz1, Hb1, Gb1⟩ := id cA
  refine s_caloadC X0 hx hby hZ (n := 13) e0 Ar1 0 (by decide) (by decide) (by rw [Sz1]; decide) (v := .int x0) (Hb1 0 (by rw [Sz1]; decide)) d6_12 rfl ?_
  refine s_istore X0 hx hby (n := 15) (L' := #[.val (.ref ch), .val (.int (0 : Int32)), .val (.ref q), .val (.int (0 : Int32)), .val (.int (2 : Int32)), .val (.int (0 : Int32)), .val (.int x0)]) d6_13 rfl rfl ?_
  refine s_iload X0 hx hby (n := 17) (x := x0) d6_15 rfl rfl ?_
  refine s_sipush X0 hx hby (n := 20) (v := (255 : Int32)) d6_17 rfl rfl ?_
  refine s_icmpY X0 hx hby (n := 26) d6_20 (XT.ii_le_t l0) (by decide) (by decide) ?_
  refine s_aloadN X0 hx hby (n := 27) (x := (.ref q)) d6_26 rfl rfl rfl ?_
  refine s_iloadN X0 hx hby (n := 28) (x := (0 : Int32)) d6_27 rfl rfl ?_
  refine s_iload X0 hx hby (n := 30) (x := x0) d6_28 rfl rfl ?_
  refine s_i2b X0 hx hby (n := 31) d6_30 rfl ?_
  obtain ⟨cl2, Ar2, hk2, Sz2, hz2, Hb2, Gb2⟩ := id qA
  refine s_bastoreC X0 hx hby hZ (n := 32) e0 Ar2 0 (by decide) (by decide) (by rw [Sz2]; decide) d6_31 rfl ?_
  intro T2 h2 X2 e2 W2
  have V2 := Arv.set (j := (0 : Int32)) Ar2 hk2 Sz2 hz2 Hb2 Gb2 (fits_nar_byte _) W2 0 rfl (by simp)
  have M2 := Fr.snoc X2 M0 n_q
  have K2 := Keep.wr K0 W2 (Or.inl (List.mem_of_getElem? (i := 0) rfl))
  have OO2 := O0.wr W2 n_q
  have C2 := cA.other W2 nec
  refine s_iincC X2 hx hby (n := 35) (v := (1 : Int32)) (x := (0 : Int32)) (z := (1 : Int32)) (L' := #[.val (.ref ch), .val (.int (1 : Int32)), .val (.ref q), .val (.int (0 : Int32)), .val (.int (2 : Int32)), .val (.int (0 : Int32)), .val (.int x0)]) d6_32 rfl rfl (by decide) rfl rfl ?_
  refine s_iincC X2 hx hby (n := 38) (v := (1 : Int32)) (x := (0 : Int32)) (z := (1 : Int32)) (L' := #[.val (.ref ch), .val (.int (1 : Int32)), .val (.ref q), .val (.int (1 : Int32)), .val (.int (2 : Int32)), .val (.int (0 : Int32)), .val (.int x0)]) d6_35 rfl rfl (by decide) rfl rfl ?_
  refine s_iincC X2 hx hby (n := 41) (v := (1 : Int32)) (x := (0 : Int32)) (z := (1 : Int32)) (L' := #[.val (.ref ch), .val (.int (1 : Int32)), .val (.ref q), .val (.int (1 : Int32)), .val (.int (2 : Int32)), .val (.int (1 : Int32)), .val (.int x0)]) d6_38 rfl rfl (by decide) rfl rfl ?_
  refine s_goto X2 hx hby (n := 3) d6_41 (by decide) (by decide) ?_
  refine s_iload X2 hx hby (n := 5) (x := (1 : Int32)) d6_3 rfl rfl ?_
  refine s_iload X2 hx hby (n := 7) (x := (2 : Int32)) d6_5 rfl rfl ?_
  refine s_icmpN X2 hx hby (n := 10) d6_7 (by decide) rfl ?_
  refine s_aloadN X2 hx hby (n := 11) (x := (.ref ch)) d6_10 rfl rfl rfl ?_
  refine s_iloadN X2 hx hby (n := 12) (x := (1 : Int32)) d6_11 rfl rfl ?_
  obtain ⟨cl3, Ar3, hk3, Sz3, hz3, Hb3, Gb3⟩ := id C2
  refine s_caloadC X2 hx hby hZ (n := 13) e2 Ar3 1 (by decide) (by decide) (by rw [Sz3]; decide) (v := .int x1) (Hb3 1 (by rw [Sz3]; decide)) d6_12 rfl ?_
  refine s_istore X2 hx hby (n := 15) (L' := #[.val (.ref ch), .val (.int (1 : Int32)), .val (.ref q), .val (.int (1 : Int32)), .val (.int (2 : Int32)), .val (.int (1 : Int32)), .val (.int x1)]) d6_13 rfl rfl ?_
  refine s_iload X2 hx hby (n := 17) (x := x1) d6_15 rfl rfl ?_
  refine s_sipush X2 hx hby (n := 20) (v := (255 : Int32)) d6_17 rfl rfl ?_
  refine s_icmpY X2 hx hby (n := 26) d6_20 (XT.ii_le_t l1) (by decide) (by decide) ?_
  refine s_aloadN X2 hx hby (n := 27) (x := (.ref q)) d6_26 rfl rfl rfl ?_
  refine s_iloadN X2 hx hby (n := 28) (x := (1 : Int32)) d6_27 rfl rfl ?_
  refine s_iload X2 hx hby (n := 30) (x := x1) d6_28 rfl rfl ?_
  refine s_i2b X2 hx hby (n := 31) d6_30 rfl ?_
  obtain ⟨cl4, Ar4, hk4, Sz4, hz4, Hb4, Gb4⟩ := id V2
  refine s_bastoreC X2 hx hby hZ (n := 32) e2 Ar4 1 (by decide) (by decide) (by rw [Sz4]; decide) d6_31 rfl ?_
  intro T4 h4 X4 e4 W4
  have V4 := Arv.set (j := (1 : Int32)) Ar4 hk4 Sz4 hz4 Hb4 Gb4 (fits_nar_byte _) W4 1 rfl (by simp)
  have M4 := Fr.snoc X4 M2 n_q
  have K4 := Keep.wr K2 W4 (Or.inl (List.mem_of_getElem? (i := 0) rfl))
  have OO4 := OO2.wr W4 n_q
  have C4 := C2.other W4 nec
  refine s_iincC X4 hx hby (n := 35) (v := (1 : Int32)) (x := (1 : Int32)) (z := (2 : Int32)) (L' := #[.val (.ref ch), .val (.int (2 : Int32)), .val (.ref q), .val (.int (1 : Int32)), .val (.int (2 : Int32)), .val (.int (1 : Int32)), .val (.int x1)]) d6_32 rfl rfl (by decide) rfl rfl ?_
  refine s_iincC X4 hx hby (n := 38) (v := (1 : Int32)) (x := (1 : Int32)) (z := (2 : Int32)) (L' := #[.val (.ref ch), .val (.int (2 : Int32)), .val (.ref q), .val (.int (2 : Int32)), .val (.int (2 : Int32)), .val (.int (1 : Int32)), .val (.int x1)]) d6_35 rfl rfl (by decide) rfl rfl ?_
  refine s_iincC X4 hx hby (n := 41) (v := (1 : Int32)) (x := (1 : Int32)) (z := (2 : Int32)) (L' := #[.val (.ref ch), .val (.int (2 : Int32)), .val (.ref q), .val (.int (2 : Int32)), .val (.int (2 : Int32)), .val (.int (2 : Int32)), .val (.int x1)]) d6_38 rfl rfl (by decide) rfl rfl ?_
  refine s_goto X4 hx hby (n := 3) d6_41 (by decide) (by decide) ?_
  refine s_iload X4 hx hby (n := 5) (x := (2 : Int32)) d6_3 rfl rfl ?_
  refine s_iload X4 hx hby (n := 7) (x := (2 : Int32)) d6_5 rfl rfl ?_
  refine s_icmpY X4 hx hby (n := 44) d6_7 (by decide) (by decide) (by decide) ?_
  refine s_iload X4 hx hby (n := 46) (x := (2 : Int32)) d6_44 rfl rfl ?_
  exact s_retI X4 hx hby hlk hret d6_46 (by decide) (by decide) (by rw [e4]; exact ⟨rfl, M4, K4, [nar .byte (x0.toInt8.toInt32), nar .byte (x1.toInt8.toInt32)], rfl, ⟨by simp, _, V4⟩⟩)
theorem eq15f (m : MethodId) (x0 : Addr) (x1 : Int32) (x2 : Int32) : entryFrame m #[(.ref x0), (.int x1), (.int x2)] 6 = mkF m 0 #[.val (.ref x0), .val (.int x1), .val (.int x2), .unset, .unset, .unset] [] := by first | (simp [entryFrame, mkF, argsToLocals, Value.category, maxLocals]; done) | rfl
set_option maxRecDepth 65536 in
set_option maxHeartbeats 40000000 in
theorem rmC3_2 (l : Launch) (Z : State) (a0 : Array Value) (hw : ∀ d ∈ tables_1, d.before a0 Z = true) (z0 : Int32) (hz0 : ¬ z0 = (0 : Int32)) (Sz0 : Sta Z Z.heap "java/lang/String" "COMPACT_STRINGS" "Z" (.int z0)) (fm : Value) (hfm : fm.isRef = true) (Sfm : Sta Z Z.heap "jdk/internal/util/Preconditions" "SIOOBE_FORMATTER" "Ljava/util/function/BiFunction;" fm) (ch : Addr) (kc : ClassId) (x0 x1 : Int32) (l0 : ¬ (255 : Int32) < x0) (l1 : ¬ (255 : Int32) < x1) (h0 : Heap) (n0 : Nat) (O0 : Oln Z n0 h0) (cA : Arv Z h0 ch kc .char (2 : Int32) [.int x0, .int x1] (.int 0)) :
    OCon l Z (⟨"java/lang/StringUTF16", "compress", "([CII)[B"⟩ : MethodName) jdk_52_method_16_code 6 (some ((.array (.byte)))) [] ({ frames := 1, cells := 1, slots := 2, locals := 18 } : Room) #[(.ref ch), (.int (0 : Int32)), (.int (2 : Int32))] h0 (fun v h L => ∃ q bs, v = some (.ref q) ∧ bs.length = 2 ∧ Fr n0 L ∧ Keep h0 h [] ∧ Bys Z h q bs) := by
  refine con (plainFor_of_name pq5) ?_
  intro p e s m below meth c s₁ hx hby hml hZ hown hnm hret hlk X0 e0
  refine entry (eq15f m ch (0 : Int32) (2 : Int32)) ?_
  have M0 := Fr.nil n0
  have K0 := Keep.refl h0 []
  refine s_iloadN X0 hx hby (n := 1) (x := (2 : Int32)) d5_0 rfl rfl ?_
  refine s_newP X0 hx hby hZ (n := 3) (hw _ (List.mem_of_getElem? (i := 23) rfl)) (ty := .byte) rfl e0 (num := (2 : Int32)) (by decide) 2 (by decide) (by decide) (by decide) (by decide) d5_1 rfl ?_
  intro T1 h1 cq q gq X1 e1 Q1 A1
  have n_q : n0 ≤ q := by rw [gq]; exact Oln.le O0
  have V1_q := Arv.new A1 (by decide)
  have K1 := K0.ext Q1
  have OO1 := O0.ext Q1
  have V1 : Arv Z h1 q cq .byte (2 : Int32) (List.replicate 2 (.int 0)) (.int 0) := Arv.pad V1_q (pad_rep [] _ 2)
  have nec : ch ≠ q := by rw [gq]; exact Nat.ne_of_lt cA.lt
  have cA2 := cA.ext Q1
  refine s_astoreN X1 hx hby (n := 4) (L' := #[.val (.ref ch), .val (.int (0 : Int32)), .val (.int (2 : Int32)), .val (.ref q), .unset, .unset]) d5_3 rfl rfl rfl ?_
  refine s_aloadN X1 hx hby (n := 5) (x := (.ref ch)) d5_4 rfl rfl rfl ?_
  refine s_iloadN X1 hx hby (n := 6) (x := (0 : Int32)) d5_5 rfl rfl ?_
  refine s_aloadN X1 hx hby (n := 7) (x := (.ref q)) d5_6 rfl rfl rfl ?_
  refine s_iconst X1 hx hby (n := 8) (v := (0 : Int32)) d5_7 rfl rfl ?_
  refine s_iloadN X1 hx hby (n := 9) (x := (2 : Int32)) d5_8 rfl rfl ?_
  refine s_callS X1 hx hby hml hZ (n := 12) hown (hw _ (List.mem_of_getElem? (i := 24) rfl)) (hw _ (List.mem_of_getElem? (i := 25) rfl)) (hw _ (List.mem_of_getElem? (i := 21) rfl)) (hw _ (List.mem_of_getElem? (i := 26) rfl)) (by decide) (rmC5_2 l Z a0 hw z0 hz0 Sz0 fm hfm Sfm ch q kc cq x0 x1 l0 l1 h1 n0 OO1 cA2 V1 nec n_q) e1 (by decide) 0 (by decide) (by decide) (by decide) pd_19 [(.ref ch), (.int (0 : Int32)), (.ref q), (.int (0 : Int32)), (.int (2 : Int32))] [] rfl rfl rfl (Nat.le_of_eq rfl) rfl d5_9 rfl ?_
  intro T2 L2 v2 X2 q2c
  obtain ⟨rfl, N2, K2, bs, hbs, B2⟩ := q2c
  show OE p e below _ T2 (mkF m 12 #[.val (.ref ch), .val (.int (0 : Int32)), .val (.int (2 : Int32)), .val (.ref q), .unset, .unset] [(.int (2 : Int32))])
  have KK2 := K1.trans K2 (allS (Or.inr (by rw [gq]; exact Nat.le_refl _)) all0)
  have M2 := Fr.app M0 N2
  refine s_istore X2 hx hby (n := 14) (L' := #[.val (.ref ch), .val (.int (0 : Int32)), .val (.int (2 : Int32)), .val (.ref q), .val (.int (2 : Int32)), .unset]) d5_12 rfl rfl ?_
  refine s_iload X2 hx hby (n := 16) (x := (2 : Int32)) d5_14 rfl rfl ?_
  refine s_iloadN X2 hx hby (n := 17) (x := (2 : Int32)) d5_16 rfl rfl ?_
  refine s_icmpY X2 hx hby (n := 57) d5_17 (by decide) (by decide) (by decide) ?_
  refine s_aloadN X2 hx hby (n := 58) (x := (.ref q)) d5_57 rfl rfl rfl ?_
  exact s_retA X2 hx hby hlk hret rfl rfl d5_58 (by decide) (by decide) ⟨q, bs, rfl, hbs, M2, KK2, B2⟩
theorem eq16f (m : MethodId) (x0 : Addr) (x1 : Addr) (x2 : Int32) (x3 : Int32) : entryFrame m #[(.ref x0), (.ref x1), (.int x2), (.int x3), .null] 6 = mkF m 0 #[.val (.ref x0), .val (.ref x1), .val (.int x2), .val (.int x3), .val .null, .unset] [] := by first | (simp [entryFrame, mkF, argsToLocals, Value.category, maxLocals]; done) | rfl
set_option maxRecDepth 65536 in
set_option maxHeartbeats 40000000 in
theorem rmSV_2 (l : Launch) (Z : State) (a0 : Array Value) (hw : ∀ d ∈ tables_1, d.before a0 Z = true) (z0 : Int32) (hz0 : ¬ z0 = (0 : Int32)) (Sz0 : Sta Z Z.heap "java/lang/String" "COMPACT_STRINGS" "Z" (.int z0)) (fm : Value) (hfm : fm.isRef = true) (Sfm : Sta Z Z.heap "jdk/internal/util/Preconditions" "SIOOBE_FORMATTER" "Ljava/util/function/BiFunction;" fm) (r ch : Addr) (kc : ClassId) (x0 x1 : Int32) (l0 : ¬ (255 : Int32) < x0) (l1 : ¬ (255 : Int32) < x1) (h0 : Heap) (n0 : Nat) (O0 : Oln Z n0 h0) (cA : Arv Z h0 ch kc .char (2 : Int32) [.int x0, .int x1] (.int 0)) (n_r : n0 ≤ r) (E0 : Exa Z h0 r "java/lang/String") (F0v : Fld Z h0 r "java/lang/String" "value" "[B" .null) (F0c : Fld Z h0 r "java/lang/String" "coder" "B" (.int (0 : Int32))) :
    OCon l Z (⟨"java/lang/String", "<init>", "([CIILjava/lang/Void;)V"⟩ : MethodName) jdk_42_method_149_code 6 (none) [] ({ frames := 2, cells := 1, slots := 2, locals := 35 } : Room) #[(.ref r), (.ref ch), (.int (0 : Int32)), (.int (2 : Int32)), .null] h0 (fun v h L => v = none ∧ Fr n0 L ∧ Keep h0 h [r] ∧ ∃ bs, bs.length = 2 ∧ Str Z h r bs) := by
  refine con (plainFor_of_name pq0) ?_
  intro p e s m below meth c s₁ hx hby hml hZ hown hnm hret hlk X0 e0
  refine entry (eq16f m r ch (0 : Int32) (2 : Int32)) ?_
  have M0 := Fr.nil n0
  have K0 := Keep.refl h0 [r]
  refine s_aloadN X0 hx hby (n := 1) (x := (.ref r)) d3_0 rfl rfl rfl ?_
  refine s_initO X0 hx hby hml hZ (n := 4) hown (hw _ (List.mem_of_getElem? (i := 15) rfl)) (hw _ (List.mem_of_getElem? (i := 16) rfl)) (hw _ (List.mem_of_getElem? (i := 17) rfl)) e0 (by decide) 0 (Nat.le_of_eq rfl) (by decide) rfl d3_1 rfl ?_
  intro T1 X1 e1
  refine s_iloadN X1 hx hby (n := 5) (x := (2 : Int32)) d3_4 rfl rfl ?_
  refine s_ifY X1 hx hby (n := 27) d3_5 (by decide) (by decide) (by decide) ?_
  refine s_getS X1 hx hby hZ (n := 30) hown (hw _ (List.mem_of_getElem? (i := 18) rfl)) e1 (Sz0.ext O0.2) d3_27 rfl ?_
  intro T2 X2 e2
  refine s_ifN X2 hx hby (n := 33) d3_30 (XT.i0_eq_f hz0) rfl ?_
  refine s_aloadN X2 hx hby (n := 34) (x := (.ref ch)) d3_33 rfl rfl rfl ?_
  refine s_iloadN X2 hx hby (n := 35) (x := (0 : Int32)) d3_34 rfl rfl ?_
  refine s_iloadN X2 hx hby (n := 36) (x := (2 : Int32)) d3_35 rfl rfl ?_
  refine s_callS X2 hx hby hml hZ (n := 39) hown (hw _ (List.mem_of_getElem? (i := 19) rfl)) (hw _ (List.mem_of_getElem? (i := 20) rfl)) (hw _ (List.mem_of_getElem? (i := 21) rfl)) (hw _ (List.mem_of_getElem? (i := 22) rfl)) (by decide) (rmC3_2 l Z a0 hw z0 hz0 Sz0 fm hfm Sfm ch kc x0 x1 l0 l1 h0 n0 O0 cA) e2 (by decide) 0 (by decide) (by decide) (by decide) pd_20 [(.ref ch), (.int (0 : Int32)), (.int (2 : Int32))] [] rfl rfl rfl (Nat.le_of_eq rfl) rfl d3_36 rfl ?_
  intro T3 L3 v3 X3 q3c
  obtain ⟨q, bs, rfl, hbs, N3, K3, B3⟩ := q3c
  show OE p e below _ T3 (mkF m 39 #[.val (.ref r), .val (.ref ch), .val (.int (0 : Int32)), .val (.int (2 : Int32)), .val .null, .unset] [(.ref q)])
  have E3 := E0.keep K3
  have F3_value := F0v.keep K3 nin0
  have F3_coder := F0c.keep K3 nin0
  have KK3 := K0.trans K3 all0
  have OO3 := O0.keep K3 all0
  have M3 := Fr.app M0 N3
  obtain ⟨qlt, kq, qA⟩ := id B3
  have ne3 : q ≠ r := (arv_exa E3 (hw _ (List.mem_of_getElem? (i := 5) rfl)) qA).symm
  have qA0 := qA
  rw [hbs] at qA0
  refine s_astore X3 hx hby (n := 41) (L' := #[.val (.ref r), .val (.ref ch), .val (.int (0 : Int32)), .val (.int (2 : Int32)), .val .null, .val (.ref q)]) d3_39 rfl rfl rfl ?_
  refine s_aloadN X3 hx hby (n := 42) (x := (.ref r)) d3_41 rfl rfl rfl ?_
  refine s_aload X3 hx hby (n := 44) (x := (.ref q)) d3_42 rfl rfl rfl ?_
  refine s_iloadN X3 hx hby (n := 45) (x := (2 : Int32)) d3_44 rfl rfl ?_
  refine s_callS X3 hx hby hml hZ (n := 48) hown (hw _ (List.mem_of_getElem? (i := 27) rfl)) (hw _ (List.mem_of_getElem? (i := 28) rfl)) (hw _ (List.mem_of_getElem? (i := 21) rfl)) (hw _ (List.mem_of_getElem? (i := 29) rfl)) (by decide) (rmCAL l Z a0 hw z0 hz0 Sz0 fm hfm Sfm q (2 : Int32) kq (bs.map Value.int) T3.heap n0 OO3 qA0) rfl (by decide) 1 (by decide) (by decide) (by decide) pd_21 [(.ref q), (.int (2 : Int32))] [(.ref r)] rfl rfl rfl (Nat.le_of_eq rfl) rfl d3_45 rfl ?_
  intro T4 L4 v4 X4 q4c
  obtain ⟨rfl, e4, N4⟩ := q4c
  show OE p e below _ T4 (mkF m 48 #[.val (.ref r), .val (.ref ch), .val (.int (0 : Int32)), .val (.int (2 : Int32)), .val .null, .val (.ref q)] [(.int (0 : Int32)), (.ref r)])
  have M4 := Fr.app M3 N4
  refine s_putF X4 hx hby hZ (n := 51) hown (hw _ (List.mem_of_getElem? (i := 30) rfl)) e4 F3_coder E3 (Or.inr ⟨(hw _ (List.mem_of_getElem? (i := 31) rfl)), rfl, hnm⟩) (hw _ (List.mem_of_getElem? (i := 5) rfl)) (ty := .byte) (by decide) rfl rfl d3_48 rfl ?_
  intro T5 h5 X5 e5 W5
  have E5_r := E3.wr W5
  have F5_r_value := Fld.other W5 F3_value (Or.inr (slot_ne (Or.inr (hw _ (List.mem_of_getElem? (i := 33) rfl))) (Or.inr (hw _ (List.mem_of_getElem? (i := 31) rfl))) (by decide) (t := (.array (.byte))) (t' := .byte) (by decide) (by decide)))
  have F5_r_coder := Fld.same W5 F3_coder
  have M5 := Fr.snoc X5 M4 n_r
  have K5 := Keep.wr KK3 W5 (Or.inl (List.mem_of_getElem? (i := 0) rfl))
  have qA5 := qA.other W5 ne3
  refine s_aloadN X5 hx hby (n := 52) (x := (.ref r)) d3_51 rfl rfl rfl ?_
  refine s_aload X5 hx hby (n := 54) (x := (.ref q)) d3_52 rfl rfl rfl ?_
  refine s_putF X5 hx hby hZ (n := 57) hown (hw _ (List.mem_of_getElem? (i := 32) rfl)) e5 F5_r_value E5_r (Or.inr ⟨(hw _ (List.mem_of_getElem? (i := 33) rfl)), rfl, hnm⟩) (hw _ (List.mem_of_getElem? (i := 5) rfl)) (ty := (.array (.byte))) (by decide) rfl rfl d3_54 rfl ?_
  intro T6 h6 X6 e6 W6
  have E6_r := E5_r.wr W6
  have F6_r_value := Fld.same W6 F5_r_value
  have F6_r_coder := Fld.other W6 F5_r_coder (Or.inr (slot_ne (Or.inr (hw _ (List.mem_of_getElem? (i := 31) rfl))) (Or.inr (hw _ (List.mem_of_getElem? (i := 33) rfl))) (by decide) (t := .byte) (t' := (.array (.byte))) (by decide) (by decide)))
  have M6 := Fr.snoc X6 M5 n_r
  have K6 := Keep.wr K5 W6 (Or.inl (List.mem_of_getElem? (i := 0) rfl))
  have qA6 := qA5.other W6 ne3
  exact s_ret X6 hx hby hlk hret d3_57 (by decide) (by decide) (by rw [e6]; exact ⟨rfl, M6, K6, bs, hbs, E6_r, F6_r_coder, q, F6_r_value, qlt, _, qA6⟩)
set_option maxRecDepth 65536 in
set_option maxHeartbeats 40000000 in
theorem rmSC_2 (l : Launch) (Z : State) (a0 : Array Value) (hw : ∀ d ∈ tables_1, d.before a0 Z = true) (z0 : Int32) (hz0 : ¬ z0 = (0 : Int32)) (Sz0 : Sta Z Z.heap "java/lang/String" "COMPACT_STRINGS" "Z" (.int z0)) (fm : Value) (hfm : fm.isRef = true) (Sfm : Sta Z Z.heap "jdk/internal/util/Preconditions" "SIOOBE_FORMATTER" "Ljava/util/function/BiFunction;" fm) (r ch : Addr) (kc : ClassId) (x0 x1 : Int32) (l0 : ¬ (255 : Int32) < x0) (l1 : ¬ (255 : Int32) < x1) (h0 : Heap) (n0 : Nat) (O0 : Oln Z n0 h0) (cA : Arv Z h0 ch kc .char (2 : Int32) [.int x0, .int x1] (.int 0)) (n_r : n0 ≤ r) (E0 : Exa Z h0 r "java/lang/String") (F0v : Fld Z h0 r "java/lang/String" "value" "[B" .null) (F0c : Fld Z h0 r "java/lang/String" "coder" "B" (.int (0 : Int32))) :
    OCon l Z (⟨"java/lang/String", "<init>", "([C)V"⟩ : MethodName) jdk_42_method_3_code 2 (none) [] ({ frames := 3, cells := 1, slots := 2, locals := 52 } : Room) #[(.ref r), (.ref ch)] h0 (fun v h L => v = none ∧ Fr n0 L ∧ Keep h0 h [r] ∧ ∃ bs, bs.length = 2 ∧ Str Z h r bs) := by
  refine con (plainFor_of_name pq0) ?_
  intro p e s m below meth c s₁ hx hby hml hZ hown hnm hret hlk X0 e0
  refine entry (eq3f m r ch) ?_
  have M0 := Fr.nil n0
  obtain ⟨scb, sAb, shk, sSz, shz, sHb, sGb⟩ := id cA
  refine s_aloadN X0 hx hby (n := 1) (x := (.ref r)) d2_0 rfl rfl rfl ?_
  refine s_aloadN X0 hx hby (n := 2) (x := (.ref ch)) d2_1 rfl rfl rfl ?_
  refine s_iconst X0 hx hby (n := 3) (v := (0 : Int32)) d2_2 rfl rfl ?_
  refine s_aloadN X0 hx hby (n := 4) (x := (.ref ch)) d2_3 rfl rfl rfl ?_
  refine s_arraylength X0 hx hby hZ (n := 5) e0 sAb (z := (2 : Int32)) sSz shz d2_4 rfl ?_
  refine s_aconstNull X0 hx hby (n := 6) d2_5 rfl ?_
  refine s_callI X0 hx hby hml hZ (n := 9) rfl hown (hw _ (List.mem_of_getElem? (i := 11) rfl)) (hw _ (List.mem_of_getElem? (i := 12) rfl)) (hw _ (List.mem_of_getElem? (i := 6) rfl)) (hw _ (List.mem_of_getElem? (i := 14) rfl)) (by decide) (rmSV_2 l Z a0 hw z0 hz0 Sz0 fm hfm Sfm r ch kc x0 x1 l0 l1 h0 n0 O0 cA n_r E0 F0v F0c) e0 (by decide) 0 (by decide) (by decide) (by decide) pd_22 r [(.ref ch), (.int (0 : Int32)), (.int (2 : Int32)), .null] [] rfl rfl rfl (Nat.le_of_eq rfl) rfl d2_6 rfl ?_
  intro T1 L1 v1 X1 q1c
  obtain ⟨rfl, N1, K1, S1⟩ := q1c
  show OE p e below _ T1 (mkF m 9 #[.val (.ref r), .val (.ref ch)] [])
  have M1 := Fr.app M0 N1
  exact s_ret X1 hx hby hlk hret d2_9 (by decide) (by decide) ⟨rfl, M1, K1, S1⟩
set_option maxRecDepth 65536 in
set_option maxHeartbeats 40000000 in
theorem rmC5_3 (l : Launch) (Z : State) (a0 : Array Value) (hw : ∀ d ∈ tables_1, d.before a0 Z = true) (z0 : Int32) (hz0 : ¬ z0 = (0 : Int32)) (Sz0 : Sta Z Z.heap "java/lang/String" "COMPACT_STRINGS" "Z" (.int z0)) (fm : Value) (hfm : fm.isRef = true) (Sfm : Sta Z Z.heap "jdk/internal/util/Preconditions" "SIOOBE_FORMATTER" "Ljava/util/function/BiFunction;" fm) (ch q : Addr) (kc kq : ClassId) (x0 x1 x2 : Int32) (l0 : ¬ (255 : Int32) < x0) (l1 : ¬ (255 : Int32) < x1) (l2 : ¬ (255 : Int32) < x2) (h0 : Heap) (n0 : Nat) (O0 : Oln Z n0 h0) (cA : Arv Z h0 ch kc .char (3 : Int32) [.int x0, .int x1, .int x2] (.int 0)) (qA : Arv Z h0 q kq .byte (3 : Int32) (List.replicate 3 (.int 0)) (.int 0)) (nec : ch ≠ q) (n_q : n0 ≤ q) :
    OCon l Z (⟨"java/lang/StringUTF16", "compress", "([CI[BII)I"⟩ : MethodName) jdk_52_method_21_code 7 (some (.int)) [] ({ frames := 0, cells := 0, slots := 0, locals := 0 } : Room) #[(.ref ch), (.int (0 : Int32)), (.ref q), (.int (0 : Int32)), (.int (3 : Int32))] h0 (fun v h L => v = some (.int (3 : Int32)) ∧ Fr n0 L ∧ Keep h0 h [q] ∧ ∃ bs, bs.length = 3 ∧ Bys Z h q bs) := by
  refine con (plainFor_of_name pq5) ?_
  intro p e s m below meth c s₁ hx hby hml hZ hown hnm hret hlk X0 e0
  refine entry (eq14f m ch (0 : Int32) q (0 : Int32) (3 : Int32)) ?_
  have M0 := Fr.nil n0
  have K0 := Keep.refl h0 [q]
  refine s_iconst X0 hx hby (n := 1) (v := (0 : Int32)) d6_0 rfl rfl ?_
  refine s_istore X0 hx hby (n := 3) (L' := #[.val (.ref ch), .val (.int (0 : Int32)), .val (.ref q), .val (.int (0 : Int32)), .val (.int (3 : Int32)), .val (.int (0 : Int32)), .unset]) d6_1 rfl rfl ?_
  refine s_iload X0 hx hby (n := 5) (x := (0 : Int32)) d6_3 rfl rfl ?_
  refine s_iload X0 hx hby (n := 7) (x := (3 : Int32)) d6_5 rfl rfl ?_
  refine s_icmpN X0 hx hby (n := 10) d6_7 (by decide) rfl ?_
  refine s_aloadN X0 hx hby (n := 11) (x := (.ref ch)) d6_10 rfl rfl rfl ?_
  refine s_iloadN X0 hx hby (n := 12) (x := (0 : Int32)) d6_11 rfl rfl ?_
  obtain ⟨cl1, Ar1, hk1, Sz1, hz1, Hb1, Gb1⟩ := id cA
  refine s_caloadC X0 hx hby hZ (n := 13) e0 Ar1 0 (by decide) (by decide) (by rw [Sz1]; decide) (v := .int x0) (Hb1 0 (by rw [Sz1]; decide)) d6_12 rfl ?_
  refine s_istore X0 hx hby (n := 15) (L' := #[.val (.ref ch), .val (.int (0 : Int32)), .val (.ref q), .val (.int (0 : Int32)), .val (.int (3 : Int32)), .val (.int (0 : Int32)), .val (.int x0)]) d6_13 rfl rfl ?_
  refine s_iload X0 hx hby (n := 17) (x := x0) d6_15 rfl rfl ?_
  refine s_sipush X0 hx hby (n := 20) (v := (255 : Int32)) d6_17 rfl rfl ?_
  refine s_icmpY X0 hx hby (n := 26) d6_20 (XT.ii_le_t l0) (by decide) (by decide) ?_
  refine s_aloadN X0 hx hby (n := 27) (x := (.ref q)) d6_26 rfl rfl rfl ?_
  refine s_iloadN X0 hx hby (n := 28) (x := (0 : Int32)) d6_27 rfl rfl ?_
  refine s_iload X0 hx hby (n := 30) (x := x0) d6_28 rfl rfl ?_
  refine s_i2b X0 hx hby (n := 31) d6_30 rfl ?_
  obtain ⟨cl2, Ar2, hk2, Sz2, hz2, Hb2, Gb2⟩ := id qA
  refine s_bastoreC X0 hx hby hZ (n := 32) e0 Ar2 0 (by decide) (by decide) (by rw [Sz2]; decide) d6_31 rfl ?_
  intro T2 h2 X2 e2 W2
  have V2 := Arv.set (j := (0 : Int32)) Ar2 hk2 Sz2 hz2 Hb2 Gb2 (fits_nar_byte _) W2 0 rfl (by simp)
  have M2 := Fr.snoc X2 M0 n_q
  have K2 := Keep.wr K0 W2 (Or.inl (List.mem_of_getElem? (i := 0) rfl))
  have OO2 := O0.wr W2 n_q
  have C2 := cA.other W2 nec
  refine s_iincC X2 hx hby (n := 35) (v := (1 : Int32)) (x := (0 : Int32)) (z := (1 : Int32)) (L' := #[.val (.ref ch), .val (.int (1 : Int32)), .val (.ref q), .val (.int (0 : Int32)), .val (.int (3 : Int32)), .val (.int (0 : Int32)), .val (.int x0)]) d6_32 rfl rfl (by decide) rfl rfl ?_
  refine s_iincC X2 hx hby (n := 38) (v := (1 : Int32)) (x := (0 : Int32)) (z := (1 : Int32)) (L' := #[.val (.ref ch), .val (.int (1 : Int32)), .val (.ref q), .val (.int (1 : Int32)), .val (.int (3 : Int32)), .val (.int (0 : Int32)), .val (.int x0)]) d6_35 rfl rfl (by decide) rfl rfl ?_
  refine s_iincC X2 hx hby (n := 41) (v := (1 : Int32)) (x := (0 : Int32)) (z := (1 : Int32)) (L' := #[.val (.ref ch), .val (.int (1 : Int32)), .val (.ref q), .val (.int (1 : Int32)), .val (.int (3 : Int32)), .val (.int (1 : Int32)), .val (.int x0)]) d6_38 rfl rfl (by decide) rfl rfl ?_
  refine s_goto X2 hx hby (n := 3) d6_41 (by decide) (by decide) ?_
  refine s_iload X2 hx hby (n := 5) (x := (1 : Int32)) d6_3 rfl rfl ?_
  refine s_iload X2 hx hby (n := 7) (x := (3 : Int32)) d6_5 rfl rfl ?_
  refine s_icmpN X2 hx hby (n := 10) d6_7 (by decide) rfl ?_
  refine s_aloadN X2 hx hby (n := 11) (x := (.ref ch)) d6_10 rfl rfl rfl ?_
  refine s_iloadN X2 hx hby (n := 12) (x := (1 : Int32)) d6_11 rfl rfl ?_
  obtain ⟨cl3, Ar3, hk3, Sz3, hz3, Hb3, Gb3⟩ := id C2
  refine s_caloadC X2 hx hby hZ (n := 13) e2 Ar3 1 (by decide) (by decide) (by rw [Sz3]; decide) (v := .int x1) (Hb3 1 (by rw [Sz3]; decide)) d6_12 rfl ?_
  refine s_istore X2 hx hby (n := 15) (L' := #[.val (.ref ch), .val (.int (1 : Int32)), .val (.ref q), .val (.int (1 : Int32)), .val (.int (3 : Int32)), .val (.int (1 : Int32)), .val (.int x1)]) d6_13 rfl rfl ?_
  refine s_iload X2 hx hby (n := 17) (x := x1) d6_15 rfl rfl ?_
  refine s_sipush X2 hx hby (n := 20) (v := (255 : Int32)) d6_17 rfl rfl ?_
  refine s_icmpY X2 hx hby (n := 26) d6_20 (XT.ii_le_t l1) (by decide) (by decide) ?_
  refine s_aloadN X2 hx hby (n := 27) (x := (.ref q)) d6_26 rfl rfl rfl ?_
  refine s_iloadN X2 hx hby (n := 28) (x := (1 : Int32)) d6_27 rfl rfl ?_
  refine s_iload X2 hx hby (n := 30) (x := x1) d6_28 rfl rfl ?_
  refine s_i2b X2 hx hby (n := 31) d6_30 rfl ?_
  obtain ⟨cl4, Ar4, hk4, Sz4, hz4, Hb4, Gb4⟩ := id V2
  refine s_bastoreC X2 hx hby hZ (n := 32) e2 Ar4 1 (by decide) (by decide) (by rw [Sz4]; decide) d6_31 rfl ?_
  intro T4 h4 X4 e4 W4
  have V4 := Arv.set (j := (1 : Int32)) Ar4 hk4 Sz4 hz4 Hb4 Gb4 (fits_nar_byte _) W4 1 rfl (by simp)
  have M4 := Fr.snoc X4 M2 n_q
  have K4 := Keep.wr K2 W4 (Or.inl (List.mem_of_getElem? (i := 0) rfl))
  have OO4 := OO2.wr W4 n_q
  have C4 := C2.other W4 nec
  refine s_iincC X4 hx hby (n := 35) (v := (1 : Int32)) (x := (1 : Int32)) (z := (2 : Int32)) (L' := #[.val (.ref ch), .val (.int (2 : Int32)), .val (.ref q), .val (.int (1 : Int32)), .val (.int (3 : Int32)), .val (.int (1 : Int32)), .val (.int x1)]) d6_32 rfl rfl (by decide) rfl rfl ?_
  refine s_iincC X4 hx hby (n := 38) (v := (1 : Int32)) (x := (1 : Int32)) (z := (2 : Int32)) (L' := #[.val (.ref ch), .val (.int (2 : Int32)), .val (.ref q), .val (.int (2 : Int32)), .val (.int (3 : Int32)), .val (.int (1 : Int32)), .val (.int x1)]) d6_35 rfl rfl (by decide) rfl rfl ?_
  refine s_iincC X4 hx hby (n := 41) (v := (1 : Int32)) (x := (1 : Int32)) (z := (2 : Int32)) (L' := #[.val (.ref ch), .val (.int (2 : Int32)), .val (.ref q), .val (.int (2 : Int32)), .val (.int (3 : Int32)), .val (.int (2 : Int32)), .val (.int x1)]) d6_38 rfl rfl (by decide) rfl rfl ?_
  refine s_goto X4 hx hby (n := 3) d6_41 (by decide) (by decide) ?_
  refine s_iload X4 hx hby (n := 5) (x := (2 : Int32)) d6_3 rfl rfl ?_
  refine s_iload X4 hx hby (n := 7) (x := (3 : Int32)) d6_5 rfl rfl ?_
  refine s_icmpN X4 hx hby (n := 10) d6_7 (by decide) rfl ?_
  refine s_aloadN X4 hx hby (n := 11) (x := (.ref ch)) d6_10 rfl rfl rfl ?_
  refine s_iloadN X4 hx hby (n := 12) (x := (2 : Int32)) d6_11 rfl rfl ?_
  obtain ⟨cl5, Ar5, hk5, Sz5, hz5, Hb5, Gb5⟩ := id C4
  refine s_caloadC X4 hx hby hZ (n := 13) e4 Ar5 2 (by decide) (by decide) (by rw [Sz5]; decide) (v := .int x2) (Hb5 2 (by rw [Sz5]; decide)) d6_12 rfl ?_
  refine s_istore X4 hx hby (n := 15) (L' := #[.val (.ref ch), .val (.int (2 : Int32)), .val (.ref q), .val (.int (2 : Int32)), .val (.int (3 : Int32)), .val (.int (2 : Int32)), .val (.int x2)]) d6_13 rfl rfl ?_
  refine s_iload X4 hx hby (n := 17) (x := x2) d6_15 rfl rfl ?_
  refine s_sipush X4 hx hby (n := 20) (v := (255 : Int32)) d6_17 rfl rfl ?_
  refine s_icmpY X4 hx hby (n := 26) d6_20 (XT.ii_le_t l2) (by decide) (by decide) ?_
  refine s_aloadN X4 hx hby (n := 27) (x := (.ref q)) d6_26 rfl rfl rfl ?_
  refine s_iloadN X4 hx hby (n := 28) (x := (2 : Int32)) d6_27 rfl rfl ?_
  refine s_iload X4 hx hby (n := 30) (x := x2) d6_28 rfl rfl ?_
  refine s_i2b X4 hx hby (n := 31) d6_30 rfl ?_
  obtain ⟨cl6, Ar6, hk6, Sz6, hz6, Hb6, Gb6⟩ := id V4
  refine s_bastoreC X4 hx hby hZ (n := 32) e4 Ar6 2 (by decide) (by decide) (by rw [Sz6]; decide) d6_31 rfl ?_
  intro T6 h6 X6 e6 W6
  have V6 := Arv.set (j := (2 : Int32)) Ar6 hk6 Sz6 hz6 Hb6 Gb6 (fits_nar_byte _) W6 2 rfl (by simp)
  have M6 := Fr.snoc X6 M4 n_q
  have K6 := Keep.wr K4 W6 (Or.inl (List.mem_of_getElem? (i := 0) rfl))
  have OO6 := OO4.wr W6 n_q
  have C6 := C4.other W6 nec
  refine s_iincC X6 hx hby (n := 35) (v := (1 : Int32)) (x := (2 : Int32)) (z := (3 : Int32)) (L' := #[.val (.ref ch), .val (.int (3 : Int32)), .val (.ref q), .val (.int (2 : Int32)), .val (.int (3 : Int32)), .val (.int (2 : Int32)), .val (.int x2)]) d6_32 rfl rfl (by decide) rfl rfl ?_
  refine s_iincC X6 hx hby (n := 38) (v := (1 : Int32)) (x := (2 : Int32)) (z := (3 : Int32)) (L' := #[.val (.ref ch), .val (.int (3 : Int32)), .val (.ref q), .val (.int (3 : Int32)), .val (.int (3 : Int32)), .val (.int (2 : Int32)), .val (.int x2)]) d6_35 rfl rfl (by decide) rfl rfl ?_
  refine s_iincC X6 hx hby (n := 41) (v := (1 : Int32)) (x := (2 : Int32)) (z := (3 : Int32)) (L' := #[.val (.ref ch), .val (.int (3 : Int32)), .val (.ref q), .val (.int (3 : Int32)), .val (.int (3 : Int32)), .val (.int (3 : Int32)), .val (.int x2)]) d6_38 rfl rfl (by decide) rfl rfl ?_
  refine s_goto X6 hx hby (n := 3) d6_41 (by decide) (by decide) ?_
  refine s_iload X6 hx hby (n := 5) (x := (3 : Int32)) d6_3 rfl rfl ?_
  refine s_iload X6 hx hby (n := 7) (x := (3 : Int32)) d6_5 rfl rfl ?_
  refine s_icmpY X6 hx hby (n := 44) d6_7 (by decide) (by decide) (by decide) ?_
  refine s_iload X6 hx hby (n := 46) (x := (3 : Int32)) d6_44 rfl rfl ?_
  exact s_retI X6 hx hby hlk hret d6_46 (by decide) (by decide) (by rw [e6]; exact ⟨rfl, M6, K6, [nar .byte (x0.toInt8.toInt32), nar .byte (x1.toInt8.toInt32), nar .byte (x2.toInt8.toInt32)], rfl, ⟨by simp, _, V6⟩⟩)
set_option maxRecDepth 65536 in
set_option maxHeartbeats 40000000 in
theorem rmC3_3 (l : Launch) (Z : State) (a0 : Array Value) (hw : ∀ d ∈ tables_1, d.before a0 Z = true) (z0 : Int32) (hz0 : ¬ z0 = (0 : Int32)) (Sz0 : Sta Z Z.heap "java/lang/String" "COMPACT_STRINGS" "Z" (.int z0)) (fm : Value) (hfm : fm.isRef = true) (Sfm : Sta Z Z.heap "jdk/internal/util/Preconditions" "SIOOBE_FORMATTER" "Ljava/util/function/BiFunction;" fm) (ch : Addr) (kc : ClassId) (x0 x1 x2 : Int32) (l0 : ¬ (255 : Int32) < x0) (l1 : ¬ (255 : Int32) < x1) (l2 : ¬ (255 : Int32) < x2) (h0 : Heap) (n0 : Nat) (O0 : Oln Z n0 h0) (cA : Arv Z h0 ch kc .char (3 : Int32) [.int x0, .int x1, .int x2] (.int 0)) :
    OCon l Z (⟨"java/lang/StringUTF16", "compress", "([CII)[B"⟩ : MethodName) jdk_52_method_16_code 6 (some ((.array (.byte)))) [] ({ frames := 1, cells := 1, slots := 3, locals := 18 } : Room) #[(.ref ch), (.int (0 : Int32)), (.int (3 : Int32))] h0 (fun v h L => ∃ q bs, v = some (.ref q) ∧ bs.length = 3 ∧ Fr n0 L ∧ Keep h0 h [] ∧ Bys Z h q bs) := by
  refine con (plainFor_of_name pq5) ?_
  intro p e s m below meth c s₁ hx hby hml hZ hown hnm hret hlk X0 e0
  refine entry (eq15f m ch (0 : Int32) (3 : Int32)) ?_
  have M0 := Fr.nil n0
  have K0 := Keep.refl h0 []
  refine s_iloadN X0 hx hby (n := 1) (x := (3 : Int32)) d5_0 rfl rfl ?_
  refine s_newP X0 hx hby hZ (n := 3) (hw _ (List.mem_of_getElem? (i := 23) rfl)) (ty := .byte) rfl e0 (num := (3 : Int32)) (by decide) 3 (by decide) (by decide) (by decide) (by decide) d5_1 rfl ?_
  intro T1 h1 cq q gq X1 e1 Q1 A1
  have n_q : n0 ≤ q := by rw [gq]; exact Oln.le O0
  have V1_q := Arv.new A1 (by decide)
  have K1 := K0.ext Q1
  have OO1 := O0.ext Q1
  have V1 : Arv Z h1 q cq .byte (3 : Int32) (List.replicate 3 (.int 0)) (.int 0) := Arv.pad V1_q (pad_rep [] _ 3)
  have nec : ch ≠ q := by rw [gq]; exact Nat.ne_of_lt cA.lt
  have cA2 := cA.ext Q1
  refine s_astoreN X1 hx hby (n := 4) (L' := #[.val (.ref ch), .val (.int (0 : Int32)), .val (.int (3 : Int32)), .val (.ref q), .unset, .unset]) d5_3 rfl rfl rfl ?_
  refine s_aloadN X1 hx hby (n := 5) (x := (.ref ch)) d5_4 rfl rfl rfl ?_
  refine s_iloadN X1 hx hby (n := 6) (x := (0 : Int32)) d5_5 rfl rfl ?_
  refine s_aloadN X1 hx hby (n := 7) (x := (.ref q)) d5_6 rfl rfl rfl ?_
  refine s_iconst X1 hx hby (n := 8) (v := (0 : Int32)) d5_7 rfl rfl ?_
  refine s_iloadN X1 hx hby (n := 9) (x := (3 : Int32)) d5_8 rfl rfl ?_
  refine s_callS X1 hx hby hml hZ (n := 12) hown (hw _ (List.mem_of_getElem? (i := 24) rfl)) (hw _ (List.mem_of_getElem? (i := 25) rfl)) (hw _ (List.mem_of_getElem? (i := 21) rfl)) (hw _ (List.mem_of_getElem? (i := 26) rfl)) (by decide) (rmC5_3 l Z a0 hw z0 hz0 Sz0 fm hfm Sfm ch q kc cq x0 x1 x2 l0 l1 l2 h1 n0 OO1 cA2 V1 nec n_q) e1 (by decide) 0 (by decide) (by decide) (by decide) pd_19 [(.ref ch), (.int (0 : Int32)), (.ref q), (.int (0 : Int32)), (.int (3 : Int32))] [] rfl rfl rfl (Nat.le_of_eq rfl) rfl d5_9 rfl ?_
  intro T2 L2 v2 X2 q2c
  obtain ⟨rfl, N2, K2, bs, hbs, B2⟩ := q2c
  show OE p e below _ T2 (mkF m 12 #[.val (.ref ch), .val (.int (0 : Int32)), .val (.int (3 : Int32)), .val (.ref q), .unset, .unset] [(.int (3 : Int32))])
  have KK2 := K1.trans K2 (allS (Or.inr (by rw [gq]; exact Nat.le_refl _)) all0)
  have M2 := Fr.app M0 N2
  refine s_istore X2 hx hby (n := 14) (L' := #[.val (.ref ch), .val (.int (0 : Int32)), .val (.int (3 : Int32)), .val (.ref q), .val (.int (3 : Int32)), .unset]) d5_12 rfl rfl ?_
  refine s_iload X2 hx hby (n := 16) (x := (3 : Int32)) d5_14 rfl rfl ?_
  refine s_iloadN X2 hx hby (n := 17) (x := (3 : Int32)) d5_16 rfl rfl ?_
  refine s_icmpY X2 hx hby (n := 57) d5_17 (by decide) (by decide) (by decide) ?_
  refine s_aloadN X2 hx hby (n := 58) (x := (.ref q)) d5_57 rfl rfl rfl ?_
  exact s_retA X2 hx hby hlk hret rfl rfl d5_58 (by decide) (by decide) ⟨q, bs, rfl, hbs, M2, KK2, B2⟩
set_option maxRecDepth 65536 in
set_option maxHeartbeats 40000000 in
theorem rmSV_3 (l : Launch) (Z : State) (a0 : Array Value) (hw : ∀ d ∈ tables_1, d.before a0 Z = true) (z0 : Int32) (hz0 : ¬ z0 = (0 : Int32)) (Sz0 : Sta Z Z.heap "java/lang/String" "COMPACT_STRINGS" "Z" (.int z0)) (fm : Value) (hfm : fm.isRef = true) (Sfm : Sta Z Z.heap "jdk/internal/util/Preconditions" "SIOOBE_FORMATTER" "Ljava/util/function/BiFunction;" fm) (r ch : Addr) (kc : ClassId) (x0 x1 x2 : Int32) (l0 : ¬ (255 : Int32) < x0) (l1 : ¬ (255 : Int32) < x1) (l2 : ¬ (255 : Int32) < x2) (h0 : Heap) (n0 : Nat) (O0 : Oln Z n0 h0) (cA : Arv Z h0 ch kc .char (3 : Int32) [.int x0, .int x1, .int x2] (.int 0)) (n_r : n0 ≤ r) (E0 : Exa Z h0 r "java/lang/String") (F0v : Fld Z h0 r "java/lang/String" "value" "[B" .null) (F0c : Fld Z h0 r "java/lang/String" "coder" "B" (.int (0 : Int32))) :
    OCon l Z (⟨"java/lang/String", "<init>", "([CIILjava/lang/Void;)V"⟩ : MethodName) jdk_42_method_149_code 6 (none) [] ({ frames := 2, cells := 1, slots := 3, locals := 35 } : Room) #[(.ref r), (.ref ch), (.int (0 : Int32)), (.int (3 : Int32)), .null] h0 (fun v h L => v = none ∧ Fr n0 L ∧ Keep h0 h [r] ∧ ∃ bs, bs.length = 3 ∧ Str Z h r bs) := by
  refine con (plainFor_of_name pq0) ?_
  intro p e s m below meth c s₁ hx hby hml hZ hown hnm hret hlk X0 e0
  refine entry (eq16f m r ch (0 : Int32) (3 : Int32)) ?_
  have M0 := Fr.nil n0
  have K0 := Keep.refl h0 [r]
  refine s_aloadN X0 hx hby (n := 1) (x := (.ref r)) d3_0 rfl rfl rfl ?_
  refine s_initO X0 hx hby hml hZ (n := 4) hown (hw _ (List.mem_of_getElem? (i := 15) rfl)) (hw _ (List.mem_of_getElem? (i := 16) rfl)) (hw _ (List.mem_of_getElem? (i := 17) rfl)) e0 (by decide) 0 (Nat.le_of_eq rfl) (by decide) rfl d3_1 rfl ?_
  intro T1 X1 e1
  refine s_iloadN X1 hx hby (n := 5) (x := (3 : Int32)) d3_4 rfl rfl ?_
  refine s_ifY X1 hx hby (n := 27) d3_5 (by decide) (by decide) (by decide) ?_
  refine s_getS X1 hx hby hZ (n := 30) hown (hw _ (List.mem_of_getElem? (i := 18) rfl)) e1 (Sz0.ext O0.2) d3_27 rfl ?_
  intro T2 X2 e2
  refine s_ifN X2 hx hby (n := 33) d3_30 (XT.i0_eq_f hz0) rfl ?_
  refine s_aloadN X2 hx hby (n := 34) (x := (.ref ch)) d3_33 rfl rfl rfl ?_
  refine s_iloadN X2 hx hby (n := 35) (x := (0 : Int32)) d3_34 rfl rfl ?_
  refine s_iloadN X2 hx hby (n := 36) (x := (3 : Int32)) d3_35 rfl rfl ?_
  refine s_callS X2 hx hby hml hZ (n := 39) hown (hw _ (List.mem_of_getElem? (i := 19) rfl)) (hw _ (List.mem_of_getElem? (i := 20) rfl)) (hw _ (List.mem_of_getElem? (i := 21) rfl)) (hw _ (List.mem_of_getElem? (i := 22) rfl)) (by decide) (rmC3_3 l Z a0 hw z0 hz0 Sz0 fm hfm Sfm ch kc x0 x1 x2 l0 l1 l2 h0 n0 O0 cA) e2 (by decide) 0 (by decide) (by decide) (by decide) pd_20 [(.ref ch), (.int (0 : Int32)), (.int (3 : Int32))] [] rfl rfl rfl (Nat.le_of_eq rfl) rfl d3_36 rfl ?_
  intro T3 L3 v3 X3 q3c
  obtain ⟨q, bs, rfl, hbs, N3, K3, B3⟩ := q3c
  show OE p e below _ T3 (mkF m 39 #[.val (.ref r), .val (.ref ch), .val (.int (0 : Int32)), .val (.int (3 : Int32)), .val .null, .unset] [(.ref q)])
  have E3 := E0.keep K3
  have F3_value := F0v.keep K3 nin0
  have F3_coder := F0c.keep K3 nin0
  have KK3 := K0.trans K3 all0
  have OO3 := O0.keep K3 all0
  have M3 := Fr.app M0 N3
  obtain ⟨qlt, kq, qA⟩ := id B3
  have ne3 : q ≠ r := (arv_exa E3 (hw _ (List.mem_of_getElem? (i := 5) rfl)) qA).symm
  have qA0 := qA
  rw [hbs] at qA0
  refine s_astore X3 hx hby (n := 41) (L' := #[.val (.ref r), .val (.ref ch), .val (.int (0 : Int32)), .val (.int (3 : Int32)), .val .null, .val (.ref q)]) d3_39 rfl rfl rfl ?_
  refine s_aloadN X3 hx hby (n := 42) (x := (.ref r)) d3_41 rfl rfl rfl ?_
  refine s_aload X3 hx hby (n := 44) (x := (.ref q)) d3_42 rfl rfl rfl ?_
  refine s_iloadN X3 hx hby (n := 45) (x := (3 : Int32)) d3_44 rfl rfl ?_
  refine s_callS X3 hx hby hml hZ (n := 48) hown (hw _ (List.mem_of_getElem? (i := 27) rfl)) (hw _ (List.mem_of_getElem? (i := 28) rfl)) (hw _ (List.mem_of_getElem? (i := 21) rfl)) (hw _ (List.mem_of_getElem? (i := 29) rfl)) (by decide) (rmCAL l Z a0 hw z0 hz0 Sz0 fm hfm Sfm q (3 : Int32) kq (bs.map Value.int) T3.heap n0 OO3 qA0) rfl (by decide) 1 (by decide) (by decide) (by decide) pd_21 [(.ref q), (.int (3 : Int32))] [(.ref r)] rfl rfl rfl (Nat.le_of_eq rfl) rfl d3_45 rfl ?_
  intro T4 L4 v4 X4 q4c
  obtain ⟨rfl, e4, N4⟩ := q4c
  show OE p e below _ T4 (mkF m 48 #[.val (.ref r), .val (.ref ch), .val (.int (0 : Int32)), .val (.int (3 : Int32)), .val .null, .val (.ref q)] [(.int (0 : Int32)), (.ref r)])
  have M4 := Fr.app M3 N4
  refine s_putF X4 hx hby hZ (n := 51) hown (hw _ (List.mem_of_getElem? (i := 30) rfl)) e4 F3_coder E3 (Or.inr ⟨(hw _ (List.mem_of_getElem? (i := 31) rfl)), rfl, hnm⟩) (hw _ (List.mem_of_getElem? (i := 5) rfl)) (ty := .byte) (by decide) rfl rfl d3_48 rfl ?_
  intro T5 h5 X5 e5 W5
  have E5_r := E3.wr W5
  have F5_r_value := Fld.other W5 F3_value (Or.inr (slot_ne (Or.inr (hw _ (List.mem_of_getElem? (i := 33) rfl))) (Or.inr (hw _ (List.mem_of_getElem? (i := 31) rfl))) (by decide) (t := (.array (.byte))) (t' := .byte) (by decide) (by decide)))
  have F5_r_coder := Fld.same W5 F3_coder
  have M5 := Fr.snoc X5 M4 n_r
  have K5 := Keep.wr KK3 W5 (Or.inl (List.mem_of_getElem? (i := 0) rfl))
  have qA5 := qA.other W5 ne3
  refine s_aloadN X5 hx hby (n := 52) (x := (.ref r)) d3_51 rfl rfl rfl ?_
  refine s_aload X5 hx hby (n := 54) (x := (.ref q)) d3_52 rfl rfl rfl ?_
  refine s_putF X5 hx hby hZ (n := 57) hown (hw _ (List.mem_of_getElem? (i := 32) rfl)) e5 F5_r_value E5_r (Or.inr ⟨(hw _ (List.mem_of_getElem? (i := 33) rfl)), rfl, hnm⟩) (hw _ (List.mem_of_getElem? (i := 5) rfl)) (ty := (.array (.byte))) (by decide) rfl rfl d3_54 rfl ?_
  intro T6 h6 X6 e6 W6
  have E6_r := E5_r.wr W6
  have F6_r_value := Fld.same W6 F5_r_value
  have F6_r_coder := Fld.other W6 F5_r_coder (Or.inr (slot_ne (Or.inr (hw _ (List.mem_of_getElem? (i := 31) rfl))) (Or.inr (hw _ (List.mem_of_getElem? (i := 33) rfl))) (by decide) (t := .byte) (t' := (.array (.byte))) (by decide) (by decide)))
  have M6 := Fr.snoc X6 M5 n_r
  have K6 := Keep.wr K5 W6 (Or.inl (List.mem_of_getElem? (i := 0) rfl))
  have qA6 := qA5.other W6 ne3
  exact s_ret X6 hx hby hlk hret d3_57 (by decide) (by decide) (by rw [e6]; exact ⟨rfl, M6, K6, bs, hbs, E6_r, F6_r_coder, q, F6_r_value, qlt, _, qA6⟩)
set_option maxRecDepth 65536 in
set_option maxHeartbeats 40000000 in
theorem rmSC_3 (l : Launch) (Z : State) (a0 : Array Value) (hw : ∀ d ∈ tables_1, d.before a0 Z = true) (z0 : Int32) (hz0 : ¬ z0 = (0 : Int32)) (Sz0 : Sta Z Z.heap "java/lang/String" "COMPACT_STRINGS" "Z" (.int z0)) (fm : Value) (hfm : fm.isRef = true) (Sfm : Sta Z Z.heap "jdk/internal/util/Preconditions" "SIOOBE_FORMATTER" "Ljava/util/function/BiFunction;" fm) (r ch : Addr) (kc : ClassId) (x0 x1 x2 : Int32) (l0 : ¬ (255 : Int32) < x0) (l1 : ¬ (255 : Int32) < x1) (l2 : ¬ (255 : Int32) < x2) (h0 : Heap) (n0 : Nat) (O0 : Oln Z n0 h0) (cA : Arv Z h0 ch kc .char (3 : Int32) [.int x0, .int x1, .int x2] (.int 0)) (n_r : n0 ≤ r) (E0 : Exa Z h0 r "java/lang/String") (F0v : Fld Z h0 r "java/lang/String" "value" "[B" .null) (F0c : Fld Z h0 r "java/lang/String" "coder" "B" (.int (0 : Int32))) :
    OCon l Z (⟨"java/lang/String", "<init>", "([C)V"⟩ : MethodName) jdk_42_method_3_code 2 (none) [] ({ frames := 3, cells := 1, slots := 3, locals := 52 } : Room) #[(.ref r), (.ref ch)] h0 (fun v h L => v = none ∧ Fr n0 L ∧ Keep h0 h [r] ∧ ∃ bs, bs.length = 3 ∧ Str Z h r bs) := by
  refine con (plainFor_of_name pq0) ?_
  intro p e s m below meth c s₁ hx hby hml hZ hown hnm hret hlk X0 e0
  refine entry (eq3f m r ch) ?_
  have M0 := Fr.nil n0
  obtain ⟨scb, sAb, shk, sSz, shz, sHb, sGb⟩ := id cA
  refine s_aloadN X0 hx hby (n := 1) (x := (.ref r)) d2_0 rfl rfl rfl ?_
  refine s_aloadN X0 hx hby (n := 2) (x := (.ref ch)) d2_1 rfl rfl rfl ?_
  refine s_iconst X0 hx hby (n := 3) (v := (0 : Int32)) d2_2 rfl rfl ?_
  refine s_aloadN X0 hx hby (n := 4) (x := (.ref ch)) d2_3 rfl rfl rfl ?_
  refine s_arraylength X0 hx hby hZ (n := 5) e0 sAb (z := (3 : Int32)) sSz shz d2_4 rfl ?_
  refine s_aconstNull X0 hx hby (n := 6) d2_5 rfl ?_
  refine s_callI X0 hx hby hml hZ (n := 9) rfl hown (hw _ (List.mem_of_getElem? (i := 11) rfl)) (hw _ (List.mem_of_getElem? (i := 12) rfl)) (hw _ (List.mem_of_getElem? (i := 6) rfl)) (hw _ (List.mem_of_getElem? (i := 14) rfl)) (by decide) (rmSV_3 l Z a0 hw z0 hz0 Sz0 fm hfm Sfm r ch kc x0 x1 x2 l0 l1 l2 h0 n0 O0 cA n_r E0 F0v F0c) e0 (by decide) 0 (by decide) (by decide) (by decide) pd_22 r [(.ref ch), (.int (0 : Int32)), (.int (3 : Int32)), .null] [] rfl rfl rfl (Nat.le_of_eq rfl) rfl d2_6 rfl ?_
  intro T1 L1 v1 X1 q1c
  obtain ⟨rfl, N1, K1, S1⟩ := q1c
  show OE p e below _ T1 (mkF m 9 #[.val (.ref r), .val (.ref ch)] [])
  have M1 := Fr.app M0 N1
  exact s_ret X1 hx hby hlk hret d2_9 (by decide) (by decide) ⟨rfl, M1, K1, S1⟩
theorem pq6 : plainName "com/example/floe/floe/TableNameToStringPinLaw" = true := by first | (simp [plainName, overriddenIn]; done) | decide +kernel
theorem eq17f (m : MethodId) (x0 : Addr) (x1 : Addr) (x2 : Addr) (x3 : Int32) : entryFrame m #[(.ref x0), (.ref x1), (.ref x2), (.int x3)] 7 = mkF m 0 #[.val (.ref x0), .val (.ref x1), .val (.ref x2), .val (.int x3), .unset, .unset, .unset] [] := by first | (simp [entryFrame, mkF, argsToLocals, Value.category, maxLocals]; done) | rfl
set_option maxRecDepth 65536 in
set_option maxHeartbeats 40000000 in
theorem rmAt (l : Launch) (Z : State) (a0 : Array Value) (hw : ∀ d ∈ tables_1, d.before a0 Z = true) (z0 : Int32) (hz0 : ¬ z0 = (0 : Int32)) (Sz0 : Sta Z Z.heap "java/lang/String" "COMPACT_STRINGS" "Z" (.int z0)) (fm : Value) (hfm : fm.isRef = true) (Sfm : Sta Z Z.heap "jdk/internal/util/Preconditions" "SIOOBE_FORMATTER" "Ljava/util/function/BiFunction;" fm) (r ns tb : Addr) (na nb : List Int32) (i : Nat) (h0 : Heap) (n0 : Nat) (O0 : Oln Z n0 h0) (Sr : Str Z h0 r (na ++ (46 : Int32) :: nb)) (Sa : Str Z h0 ns na) (Sb : Str Z h0 tb nb) (la : na.length < 4) (lb : nb.length < 4) (li : i < 7) :
    OCon l Z (⟨"com/example/floe/floe/TableNameToStringPinLaw", "at", "(Ljava/lang/String;Ljava/lang/String;Ljava/lang/String;I)Z"⟩ : MethodName) method_3_code 7 (some (.boolean)) [] ({ frames := 4, cells := 0, slots := 0, locals := 53 } : Room) #[(.ref r), (.ref ns), (.ref tb), (.int (Int32.ofNat i))] h0 (fun v h L => v = some (.int (1 : Int32)) ∧ h = h0 ∧ Fr n0 L) := by
  refine con (plainFor_of_name pq6) ?_
  intro p e s m below meth c s₁ hx hby hml hZ hown hnm hret hlk X0 e0
  refine entry (eq17f m r ns tb (Int32.ofNat i)) ?_
  have M0 := Fr.nil n0
  refine s_aloadN X0 hx hby (n := 1) (x := (.ref ns)) d32_0 rfl rfl rfl ?_
  refine s_callV X0 hx hby hml hZ (n := 4) hown (hw _ (List.mem_of_getElem? (i := 169) rfl)) (hw _ (List.mem_of_getElem? (i := 87) rfl)) (notFace_of_selects (args := #[]) (mvT hZ (hw _ (List.mem_of_getElem? (i := 89) rfl)))) (hw _ (List.mem_of_getElem? (i := 89) rfl)) (hw _ (List.mem_of_getElem? (i := 88) rfl)) (hw _ (List.mem_of_getElem? (i := 6) rfl)) (hw _ (List.mem_of_getElem? (i := 90) rfl)) (by decide) (rmLen l Z a0 hw z0 hz0 Sz0 fm hfm Sfm ns na h0 n0 O0 Sa) e0 (by decide) 0 (by decide) (by decide) (by decide) pd_8 Sa.1 [] [] rfl rfl rfl (Nat.le_of_eq rfl) rfl d32_1 rfl ?_
  intro T1 L1 v1 X1 q1c
  obtain ⟨rfl, e1, N1⟩ := q1c
  show OE p e below _ T1 (mkF m 4 #[.val (.ref r), .val (.ref ns), .val (.ref tb), .val (.int (Int32.ofNat i)), .unset, .unset, .unset] [(.int (Int32.ofNat (na).length))])
  have M1 := Fr.app M0 N1
  refine s_istore X1 hx hby (n := 6) (L' := #[.val (.ref r), .val (.ref ns), .val (.ref tb), .val (.int (Int32.ofNat i)), .val (.int (Int32.ofNat (na).length)), .unset, .unset]) d32_4 rfl rfl ?_
  refine s_iload X1 hx hby (n := 8) (x := (Int32.ofNat (na).length)) d32_6 rfl rfl ?_
  refine s_iconst X1 hx hby (n := 9) (v := (1 : Int32)) d32_8 rfl rfl ?_
  refine s_iadd X1 hx hby (n := 10) d32_9 rfl ?_
  refine s_aloadN X1 hx hby (n := 11) (x := (.ref tb)) d32_10 rfl rfl rfl ?_
  refine s_callV X1 hx hby hml hZ (n := 14) hown (hw _ (List.mem_of_getElem? (i := 169) rfl)) (hw _ (List.mem_of_getElem? (i := 87) rfl)) (notFace_of_selects (args := #[]) (mvT hZ (hw _ (List.mem_of_getElem? (i := 89) rfl)))) (hw _ (List.mem_of_getElem? (i := 89) rfl)) (hw _ (List.mem_of_getElem? (i := 88) rfl)) (hw _ (List.mem_of_getElem? (i := 6) rfl)) (hw _ (List.mem_of_getElem? (i := 90) rfl)) (by decide) (rmLen l Z a0 hw z0 hz0 Sz0 fm hfm Sfm tb nb h0 n0 O0 Sb) e1 (by decide) 1 (by decide) (by decide) (by decide) pd_8 Sb.1 [] [(.int ((Int32.ofNat (na).length) + (1 : Int32)))] rfl rfl rfl (Nat.le_of_eq rfl) rfl d32_11 rfl ?_
  intro T2 L2 v2 X2 q2c
  obtain ⟨rfl, e2, N2⟩ := q2c
  show OE p e below _ T2 (mkF m 14 #[.val (.ref r), .val (.ref ns), .val (.ref tb), .val (.int (Int32.ofNat i)), .val (.int (Int32.ofNat (na).length)), .unset, .unset] [(.int (Int32.ofNat (nb).length)), (.int ((Int32.ofNat (na).length) + (1 : Int32)))])
  have M2 := Fr.app M1 N2
  refine s_iadd X2 hx hby (n := 15) d32_14 rfl ?_
  refine s_fold (z := (Int32.ofNat (na.length + 1 + nb.length))) (by rw [show (1 : Int32) = Int32.ofNat 1 from rfl, add32, add32]) ?_
  refine s_istore X2 hx hby (n := 17) (L' := #[.val (.ref r), .val (.ref ns), .val (.ref tb), .val (.int (Int32.ofNat i)), .val (.int (Int32.ofNat (na).length)), .val (.int (Int32.ofNat (na.length + 1 + nb.length))), .unset]) d32_15 rfl rfl ?_
  refine s_iloadN X2 hx hby (n := 18) (x := (Int32.ofNat i)) d32_17 rfl rfl ?_
  refine s_iload X2 hx hby (n := 20) (x := (Int32.ofNat (na.length + 1 + nb.length))) d32_18 rfl rfl ?_
  by_cases c20 : (Int32.ofNat i) < (Int32.ofNat (na.length + 1 + nb.length))
  · refine s_icmpY X2 hx hby (n := 25) d32_20 (XT.ii_lt_t c20) (by decide) (by decide) ?_
    have g20 := (lt32 (by omega) (by omega)).mp c20
    refine s_iloadN X2 hx hby (n := 26) (x := (Int32.ofNat i)) d32_25 rfl rfl ?_
    refine s_iload X2 hx hby (n := 28) (x := (Int32.ofNat (na).length)) d32_26 rfl rfl ?_
    by_cases c28 : (Int32.ofNat i) < (Int32.ofNat (na).length)
    · refine s_icmpN X2 hx hby (n := 31) d32_28 (XT.ii_ge_f c28) rfl ?_
      have g28 := (lt32 (by omega) (by omega)).mp c28
      refine s_aloadN X2 hx hby (n := 32) (x := (.ref ns)) d32_31 rfl rfl rfl ?_
      refine s_iloadN X2 hx hby (n := 33) (x := (Int32.ofNat i)) d32_32 rfl rfl ?_
      refine s_callV X2 hx hby hml hZ (n := 36) hown (hw _ (List.mem_of_getElem? (i := 173) rfl)) (hw _ (List.mem_of_getElem? (i := 174) rfl)) (notFace_of_selects (args := #[]) (mvT hZ (hw _ (List.mem_of_getElem? (i := 176) rfl)))) (hw _ (List.mem_of_getElem? (i := 176) rfl)) (hw _ (List.mem_of_getElem? (i := 175) rfl)) (hw _ (List.mem_of_getElem? (i := 6) rfl)) (hw _ (List.mem_of_getElem? (i := 177) rfl)) (by decide) (rmChS l Z a0 hw z0 hz0 Sz0 fm hfm Sfm ns na i h0 n0 O0 Sa g28) e2 (by decide) 0 (by decide) (by decide) (by decide) pd_23 Sa.1 [(.int (Int32.ofNat i))] [] rfl rfl rfl (Nat.le_of_eq rfl) rfl d32_33 rfl ?_
      intro T3 L3 v3 X3 q3c
      obtain ⟨rfl, e3, N3⟩ := q3c
      show OE p e below _ T3 (mkF m 36 #[.val (.ref r), .val (.ref ns), .val (.ref tb), .val (.int (Int32.ofNat i)), .val (.int (Int32.ofNat (na).length)), .val (.int (Int32.ofNat (na.length + 1 + nb.length))), .unset] [(.int (((na).getD (i) 0) &&& (255 : Int32)))])
      have M3 := Fr.app M2 N3
      refine s_istore X3 hx hby (n := 38) (L' := #[.val (.ref r), .val (.ref ns), .val (.ref tb), .val (.int (Int32.ofNat i)), .val (.int (Int32.ofNat (na).length)), .val (.int (Int32.ofNat (na.length + 1 + nb.length))), .val (.int (((na).getD (i) 0) &&& (255 : Int32)))]) d32_36 rfl rfl ?_
      refine s_goto X3 hx hby (n := 66) d32_38 (by decide) (by decide) ?_
      refine s_aloadN X3 hx hby (n := 67) (x := (.ref r)) d32_66 rfl rfl rfl ?_
      refine s_iloadN X3 hx hby (n := 68) (x := (Int32.ofNat i)) d32_67 rfl rfl ?_
      refine s_callV X3 hx hby hml hZ (n := 71) hown (hw _ (List.mem_of_getElem? (i := 173) rfl)) (hw _ (List.mem_of_getElem? (i := 174) rfl)) (notFace_of_selects (args := #[]) (mvT hZ (hw _ (List.mem_of_getElem? (i := 176) rfl)))) (hw _ (List.mem_of_getElem? (i := 176) rfl)) (hw _ (List.mem_of_getElem? (i := 175) rfl)) (hw _ (List.mem_of_getElem? (i := 6) rfl)) (hw _ (List.mem_of_getElem? (i := 177) rfl)) (by decide) (rmChS l Z a0 hw z0 hz0 Sz0 fm hfm Sfm r (na ++ (46 : Int32) :: nb) i h0 n0 O0 Sr (by simp only [List.length_append, List.length_cons]; omega)) e3 (by decide) 0 (by decide) (by decide) (by decide) pd_23 Sr.1 [(.int (Int32.ofNat i))] [] rfl rfl rfl (Nat.le_of_eq rfl) rfl d32_68 rfl ?_
      intro T4 L4 v4 X4 q4c
      obtain ⟨rfl, e4, N4⟩ := q4c
      show OE p e below _ T4 (mkF m 71 #[.val (.ref r), .val (.ref ns), .val (.ref tb), .val (.int (Int32.ofNat i)), .val (.int (Int32.ofNat (na).length)), .val (.int (Int32.ofNat (na.length + 1 + nb.length))), .val (.int (((na).getD (i) 0) &&& (255 : Int32)))] [(.int ((((na ++ (46 : Int32) :: nb)).getD (i) 0) &&& (255 : Int32)))])
      have M4 := Fr.app M3 N4
      refine s_iload X4 hx hby (n := 73) (x := (((na).getD (i) 0) &&& (255 : Int32))) d32_71 rfl rfl ?_
      refine s_icmpN X4 hx hby (n := 76) d32_73 (XT.ii_ne_f (by rw [gd_l _ _ _ _ g28])) rfl ?_
      refine s_iconst X4 hx hby (n := 77) (v := (1 : Int32)) d32_76 rfl rfl ?_
      refine s_goto X4 hx hby (n := 81) d32_77 (by decide) (by decide) ?_
      exact s_retN X4 hx hby hlk hret (t := .boolean) (by simp) (z' := (1 : Int32)) (by decide) d32_81 (by decide) (by decide) ⟨rfl, e4, M4⟩
    · refine s_icmpY X2 hx hby (n := 41) d32_28 (XT.ii_ge_t c28) (by decide) (by decide) ?_
      have g28 := fun z => c28 ((lt32 (by omega) (by omega)).mpr z)
      refine s_iloadN X2 hx hby (n := 42) (x := (Int32.ofNat i)) d32_41 rfl rfl ?_
      refine s_iload X2 hx hby (n := 44) (x := (Int32.ofNat (na).length)) d32_42 rfl rfl ?_
      by_cases c44 : (Int32.ofNat i) = (Int32.ofNat (na).length)
      · refine s_icmpN X2 hx hby (n := 47) d32_44 (XT.ii_ne_f c44) rfl ?_
        have g44 := (eq32 (by omega) (by omega)).mp c44
        refine s_bipush X2 hx hby (n := 49) (v := (46 : Int32)) d32_47 rfl rfl ?_
        refine s_istore X2 hx hby (n := 51) (L' := #[.val (.ref r), .val (.ref ns), .val (.ref tb), .val (.int (Int32.ofNat i)), .val (.int (Int32.ofNat (na).length)), .val (.int (Int32.ofNat (na.length + 1 + nb.length))), .val (.int (46 : Int32))]) d32_49 rfl rfl ?_
        refine s_goto X2 hx hby (n := 66) d32_51 (by decide) (by decide) ?_
        refine s_aloadN X2 hx hby (n := 67) (x := (.ref r)) d32_66 rfl rfl rfl ?_
        refine s_iloadN X2 hx hby (n := 68) (x := (Int32.ofNat i)) d32_67 rfl rfl ?_
        refine s_callV X2 hx hby hml hZ (n := 71) hown (hw _ (List.mem_of_getElem? (i := 173) rfl)) (hw _ (List.mem_of_getElem? (i := 174) rfl)) (notFace_of_selects (args := #[]) (mvT hZ (hw _ (List.mem_of_getElem? (i := 176) rfl)))) (hw _ (List.mem_of_getElem? (i := 176) rfl)) (hw _ (List.mem_of_getElem? (i := 175) rfl)) (hw _ (List.mem_of_getElem? (i := 6) rfl)) (hw _ (List.mem_of_getElem? (i := 177) rfl)) (by decide) (rmChS l Z a0 hw z0 hz0 Sz0 fm hfm Sfm r (na ++ (46 : Int32) :: nb) i h0 n0 O0 Sr (by simp only [List.length_append, List.length_cons]; omega)) e2 (by decide) 0 (by decide) (by decide) (by decide) pd_23 Sr.1 [(.int (Int32.ofNat i))] [] rfl rfl rfl (Nat.le_of_eq rfl) rfl d32_68 rfl ?_
        intro T5 L5 v5 X5 q5c
        obtain ⟨rfl, e5, N5⟩ := q5c
        show OE p e below _ T5 (mkF m 71 #[.val (.ref r), .val (.ref ns), .val (.ref tb), .val (.int (Int32.ofNat i)), .val (.int (Int32.ofNat (na).length)), .val (.int (Int32.ofNat (na.length + 1 + nb.length))), .val (.int (46 : Int32))] [(.int ((((na ++ (46 : Int32) :: nb)).getD (i) 0) &&& (255 : Int32)))])
        have M5 := Fr.app M2 N5
        refine s_iload X5 hx hby (n := 73) (x := (46 : Int32)) d32_71 rfl rfl ?_
        refine s_icmpN X5 hx hby (n := 76) d32_73 (XT.ii_ne_f (by rw [gd_m _ _ _ _ g44]; decide)) rfl ?_
        refine s_iconst X5 hx hby (n := 77) (v := (1 : Int32)) d32_76 rfl rfl ?_
        refine s_goto X5 hx hby (n := 81) d32_77 (by decide) (by decide) ?_
        exact s_retN X5 hx hby hlk hret (t := .boolean) (by simp) (z' := (1 : Int32)) (by decide) d32_81 (by decide) (by decide) ⟨rfl, e5, M5⟩
      · refine s_icmpY X2 hx hby (n := 54) d32_44 (XT.ii_ne_t c44) (by decide) (by decide) ?_
        have g44 : na.length < i := Nat.lt_of_le_of_ne (Nat.le_of_not_lt g28) (fun z => c44 (congrArg Int32.ofNat z.symm))
        refine s_aloadN X2 hx hby (n := 55) (x := (.ref tb)) d32_54 rfl rfl rfl ?_
        refine s_iloadN X2 hx hby (n := 56) (x := (Int32.ofNat i)) d32_55 rfl rfl ?_
        refine s_iload X2 hx hby (n := 58) (x := (Int32.ofNat (na).length)) d32_56 rfl rfl ?_
        refine s_isub X2 hx hby (n := 59) d32_58 rfl ?_
        refine s_iconst X2 hx hby (n := 60) (v := (1 : Int32)) d32_59 rfl rfl ?_
        refine s_isub X2 hx hby (n := 61) d32_60 rfl ?_
        refine s_fold (z := (Int32.ofNat (i - na.length - 1))) (by rw [show (1 : Int32) = Int32.ofNat 1 from rfl, sub32 (by omega), sub32 (by omega)]) ?_
        refine s_callV X2 hx hby hml hZ (n := 64) hown (hw _ (List.mem_of_getElem? (i := 173) rfl)) (hw _ (List.mem_of_getElem? (i := 174) rfl)) (notFace_of_selects (args := #[]) (mvT hZ (hw _ (List.mem_of_getElem? (i := 176) rfl)))) (hw _ (List.mem_of_getElem? (i := 176) rfl)) (hw _ (List.mem_of_getElem? (i := 175) rfl)) (hw _ (List.mem_of_getElem? (i := 6) rfl)) (hw _ (List.mem_of_getElem? (i := 177) rfl)) (by decide) (rmChS l Z a0 hw z0 hz0 Sz0 fm hfm Sfm tb nb (i - na.length - 1) h0 n0 O0 Sb (by omega)) e2 (by decide) 0 (by decide) (by decide) (by decide) pd_23 Sb.1 [(.int (Int32.ofNat (i - na.length - 1)))] [] rfl rfl rfl (Nat.le_of_eq rfl) rfl d32_61 rfl ?_
        intro T6 L6 v6 X6 q6c
        obtain ⟨rfl, e6, N6⟩ := q6c
        show OE p e below _ T6 (mkF m 64 #[.val (.ref r), .val (.ref ns), .val (.ref tb), .val (.int (Int32.ofNat i)), .val (.int (Int32.ofNat (na).length)), .val (.int (Int32.ofNat (na.length + 1 + nb.length))), .unset] [(.int (((nb).getD ((i - na.length - 1)) 0) &&& (255 : Int32)))])
        have M6 := Fr.app M2 N6
        refine s_istore X6 hx hby (n := 66) (L' := #[.val (.ref r), .val (.ref ns), .val (.ref tb), .val (.int (Int32.ofNat i)), .val (.int (Int32.ofNat (na).length)), .val (.int (Int32.ofNat (na.length + 1 + nb.length))), .val (.int (((nb).getD ((i - na.length - 1)) 0) &&& (255 : Int32)))]) d32_64 rfl rfl ?_
        refine s_aloadN X6 hx hby (n := 67) (x := (.ref r)) d32_66 rfl rfl rfl ?_
        refine s_iloadN X6 hx hby (n := 68) (x := (Int32.ofNat i)) d32_67 rfl rfl ?_
        refine s_callV X6 hx hby hml hZ (n := 71) hown (hw _ (List.mem_of_getElem? (i := 173) rfl)) (hw _ (List.mem_of_getElem? (i := 174) rfl)) (notFace_of_selects (args := #[]) (mvT hZ (hw _ (List.mem_of_getElem? (i := 176) rfl)))) (hw _ (List.mem_of_getElem? (i := 176) rfl)) (hw _ (List.mem_of_getElem? (i := 175) rfl)) (hw _ (List.mem_of_getElem? (i := 6) rfl)) (hw _ (List.mem_of_getElem? (i := 177) rfl)) (by decide) (rmChS l Z a0 hw z0 hz0 Sz0 fm hfm Sfm r (na ++ (46 : Int32) :: nb) i h0 n0 O0 Sr (by simp only [List.length_append, List.length_cons]; omega)) e6 (by decide) 0 (by decide) (by decide) (by decide) pd_23 Sr.1 [(.int (Int32.ofNat i))] [] rfl rfl rfl (Nat.le_of_eq rfl) rfl d32_68 rfl ?_
        intro T7 L7 v7 X7 q7c
        obtain ⟨rfl, e7, N7⟩ := q7c
        show OE p e below _ T7 (mkF m 71 #[.val (.ref r), .val (.ref ns), .val (.ref tb), .val (.int (Int32.ofNat i)), .val (.int (Int32.ofNat (na).length)), .val (.int (Int32.ofNat (na.length + 1 + nb.length))), .val (.int (((nb).getD ((i - na.length - 1)) 0) &&& (255 : Int32)))] [(.int ((((na ++ (46 : Int32) :: nb)).getD (i) 0) &&& (255 : Int32)))])
        have M7 := Fr.app M6 N7
        refine s_iload X7 hx hby (n := 73) (x := (((nb).getD ((i - na.length - 1)) 0) &&& (255 : Int32))) d32_71 rfl rfl ?_
        refine s_icmpN X7 hx hby (n := 76) d32_73 (XT.ii_ne_f (by rw [gd_r _ _ _ _ g44])) rfl ?_
        refine s_iconst X7 hx hby (n := 77) (v := (1 : Int32)) d32_76 rfl rfl ?_
        refine s_goto X7 hx hby (n := 81) d32_77 (by decide) (by decide) ?_
        exact s_retN X7 hx hby hlk hret (t := .boolean) (by simp) (z' := (1 : Int32)) (by decide) d32_81 (by decide) (by decide) ⟨rfl, e7, M7⟩
  · refine s_icmpN X2 hx hby (n := 23) d32_20 (XT.ii_lt_f c20) rfl ?_
    refine s_iconst X2 hx hby (n := 24) (v := (1 : Int32)) d32_23 rfl rfl ?_
    exact s_retN X2 hx hby hlk hret (t := .boolean) (by simp) (z' := (1 : Int32)) (by decide) d32_24 (by decide) (by decide) ⟨rfl, e2, M2⟩
theorem pq7 : plainName "java/lang/Record" = true := by first | (simp [plainName, overriddenIn]; done) | decide +kernel
set_option maxRecDepth 65536 in
set_option maxHeartbeats 40000000 in
theorem rmRec (l : Launch) (Z : State) (a0 : Array Value) (hw : ∀ d ∈ tables_1, d.before a0 Z = true) (o : Addr) (h0 : Heap) (n0 : Nat)  :
    OCon l Z (⟨"java/lang/Record", "<init>", "()V"⟩ : MethodName) jdk_30_method_1_code 1 (none) [] ({ frames := 1, cells := 0, slots := 0, locals := 12 } : Room) #[(.ref o)] h0 (fun v h L => v = none ∧ h = h0 ∧ Fr n0 L) := by
  refine con (plainFor_of_name pq7) ?_
  intro p e s m below meth c s₁ hx hby hml hZ hown hnm hret hlk X0 e0
  refine entry (eq0f m o) ?_
  have M0 := Fr.nil n0
  refine s_aloadN X0 hx hby (n := 1) (x := (.ref o)) d9_0 rfl rfl rfl ?_
  refine s_initO X0 hx hby hml hZ (n := 4) hown (hw _ (List.mem_of_getElem? (i := 48) rfl)) (hw _ (List.mem_of_getElem? (i := 16) rfl)) (hw _ (List.mem_of_getElem? (i := 17) rfl)) e0 (by decide) 0 (Nat.le_of_eq rfl) (by decide) rfl d9_1 rfl ?_
  intro T1 X1 e1
  exact s_ret X1 hx hby hlk hret d9_4 (by decide) (by decide) ⟨rfl, e1, M0⟩
theorem pq8 : plainName "com/example/floe/floe/TableName" = true := by first | (simp [plainName, overriddenIn]; done) | decide +kernel
theorem eq18f (m : MethodId) (x0 : Addr) (x1 : Addr) (x2 : Addr) : entryFrame m #[(.ref x0), (.ref x1), (.ref x2)] 3 = mkF m 0 #[.val (.ref x0), .val (.ref x1), .val (.ref x2)] [] := by first | (simp [entryFrame, mkF, argsToLocals, Value.category, maxLocals]; done) | rfl
set_option maxRecDepth 65536 in
set_option maxHeartbeats 40000000 in
theorem rmTN (l : Launch) (Z : State) (a0 : Array Value) (hw : ∀ d ∈ tables_1, d.before a0 Z = true) (o ns tb : Addr) (h0 : Heap) (n0 : Nat) (n_o : n0 ≤ o) (E0 : Exa Z h0 o "com/example/floe/floe/TableName") (F0a : Fld Z h0 o "com/example/floe/floe/TableName" "namespace" "Ljava/lang/String;" .null) (F0b : Fld Z h0 o "com/example/floe/floe/TableName" "table" "Ljava/lang/String;" .null) :
    OCon l Z (⟨"com/example/floe/floe/TableName", "<init>", "(Ljava/lang/String;Ljava/lang/String;)V"⟩ : MethodName) prog_9_method_1_code 3 (none) [] ({ frames := 2, cells := 0, slots := 0, locals := 24 } : Room) #[(.ref o), (.ref ns), (.ref tb)] h0 (fun v h L => v = none ∧ Fr n0 L ∧ Keep h0 h [o] ∧ Exa Z h o "com/example/floe/floe/TableName" ∧ Fld Z h o "com/example/floe/floe/TableName" "namespace" "Ljava/lang/String;" (.ref ns) ∧ Fld Z h o "com/example/floe/floe/TableName" "table" "Ljava/lang/String;" (.ref tb)) := by
  refine con (plainFor_of_name pq8) ?_
  intro p e s m below meth c s₁ hx hby hml hZ hown hnm hret hlk X0 e0
  refine entry (eq18f m o ns tb) ?_
  have M0 := Fr.nil n0
  have K0 := Keep.refl h0 [o]
  refine s_aloadN X0 hx hby (n := 1) (x := (.ref o)) d8_0 rfl rfl rfl ?_
  refine s_callI X0 hx hby hml hZ (n := 4) rfl hown (hw _ (List.mem_of_getElem? (i := 43) rfl)) (hw _ (List.mem_of_getElem? (i := 44) rfl)) (hw _ (List.mem_of_getElem? (i := 46) rfl)) (hw _ (List.mem_of_getElem? (i := 47) rfl)) (by decide) (rmRec l Z a0 hw o h0 n0) e0 (by decide) 0 (by decide) (by decide) (by decide) pd_24 o [] [] rfl rfl rfl (Nat.le_of_eq rfl) rfl d8_1 rfl ?_
  intro T1 L1 v1 X1 q1c
  obtain ⟨rfl, e1, N1⟩ := q1c
  show OE p e below _ T1 (mkF m 4 #[.val (.ref o), .val (.ref ns), .val (.ref tb)] [])
  have M1 := Fr.app M0 N1
  refine s_aloadN X1 hx hby (n := 5) (x := (.ref o)) d8_4 rfl rfl rfl ?_
  refine s_aloadN X1 hx hby (n := 6) (x := (.ref ns)) d8_5 rfl rfl rfl ?_
  refine s_putF X1 hx hby hZ (n := 9) hown (hw _ (List.mem_of_getElem? (i := 49) rfl)) e1 F0a E0 (Or.inr ⟨(hw _ (List.mem_of_getElem? (i := 50) rfl)), rfl, hnm⟩) (hw _ (List.mem_of_getElem? (i := 38) rfl)) (ty := (.object "java/lang/String")) (by decide) rfl rfl d8_6 rfl ?_
  intro T2 h2 X2 e2 W2
  have E2_o := E0.wr W2
  have F2_o_namespace := Fld.same W2 F0a
  have F2_o_table := Fld.other W2 F0b (Or.inr (slot_ne (Or.inr (hw _ (List.mem_of_getElem? (i := 52) rfl))) (Or.inr (hw _ (List.mem_of_getElem? (i := 50) rfl))) (by decide) (t := (.object "java/lang/String")) (t' := (.object "java/lang/String")) (by decide) (by decide)))
  have M2 := Fr.snoc X2 M1 n_o
  have K2 := Keep.wr K0 W2 (Or.inl (List.mem_of_getElem? (i := 0) rfl))
  refine s_aloadN X2 hx hby (n := 10) (x := (.ref o)) d8_9 rfl rfl rfl ?_
  refine s_aloadN X2 hx hby (n := 11) (x := (.ref tb)) d8_10 rfl rfl rfl ?_
  refine s_putF X2 hx hby hZ (n := 14) hown (hw _ (List.mem_of_getElem? (i := 51) rfl)) e2 F2_o_table E2_o (Or.inr ⟨(hw _ (List.mem_of_getElem? (i := 52) rfl)), rfl, hnm⟩) (hw _ (List.mem_of_getElem? (i := 38) rfl)) (ty := (.object "java/lang/String")) (by decide) rfl rfl d8_11 rfl ?_
  intro T3 h3 X3 e3 W3
  have E3_o := E2_o.wr W3
  have F3_o_namespace := Fld.other W3 F2_o_namespace (Or.inr (slot_ne (Or.inr (hw _ (List.mem_of_getElem? (i := 50) rfl))) (Or.inr (hw _ (List.mem_of_getElem? (i := 52) rfl))) (by decide) (t := (.object "java/lang/String")) (t' := (.object "java/lang/String")) (by decide) (by decide)))
  have F3_o_table := Fld.same W3 F2_o_table
  have M3 := Fr.snoc X3 M2 n_o
  have K3 := Keep.wr K2 W3 (Or.inl (List.mem_of_getElem? (i := 0) rfl))
  exact s_ret X3 hx hby hlk hret d8_14 (by decide) (by decide) (by rw [e3]; exact ⟨rfl, M3, K3, E3_o, F3_o_namespace, F3_o_table⟩)
theorem eq19f (m : MethodId) (x0 : Int32) (x1 : Int32) : entryFrame m #[(.int x0), (.int x1)] 5 = mkF m 0 #[.val (.int x0), .val (.int x1), .unset, .unset, .unset] [] := by first | (simp [entryFrame, mkF, argsToLocals, Value.category, maxLocals]; done) | rfl
set_option maxRecDepth 65536 in
set_option maxHeartbeats 40000000 in
theorem rmMk (l : Launch) (Z : State) (a0 : Array Value) (hw : ∀ d ∈ tables_1, d.before a0 Z = true) (z0 : Int32) (hz0 : ¬ z0 = (0 : Int32)) (Sz0 : Sta Z Z.heap "java/lang/String" "COMPACT_STRINGS" "Z" (.int z0)) (fm : Value) (hfm : fm.isRef = true) (Sfm : Sta Z Z.heap "jdk/internal/util/Preconditions" "SIOOBE_FORMATTER" "Ljava/util/function/BiFunction;" fm) (p0 p1 : Int32) (h0 : Heap) (n0 : Nat) (O0 : Oln Z n0 h0) (hp : p1 = 0 ∨ p1 = 1 ∨ p1 = 2 ∨ p1 = 3) (hh : Jvm.Lit.constHeld Z "com/example/floe/floe/TableNameToStringPinLaw" 7) (hcw : Jvm.Lit.compactW.before a0 Z = true) :
    OConV l Z (⟨"com/example/floe/floe/TableNameToStringPinLaw", "make", "(II)Ljava/lang/String;"⟩ : MethodName) method_2_code 5 (some (.object "java/lang/String")) [] ({ frames := 4, cells := 3, slots := 10, locals := 66 } : Room) #[(.int p0), (.int p1)] h0 (fun vm => LS Z "com/example/floe/floe/TableNameToStringPinLaw" 7 vm h0) (fun v h L vm => ∃ r bs, v = some (.ref r) ∧ Int32.ofNat bs.length = p1 ∧ bs.length < 4 ∧ Fr n0 L ∧ Keep h0 h [] ∧ Str Z h r bs ∧ LS Z "com/example/floe/floe/TableNameToStringPinLaw" 7 vm h) := by
  refine conV (plainFor_of_name pq6) ?_
  intro p e s m below meth c s₁ hx hby hml hZ hown hnm hret hlk X0 e0 e00 hV hS0
  refine entry (eq19f m p0 p1) ?_
  have M0 := Fr.nil n0
  have K0 := Keep.refl h0 []
  refine s_iloadN X0 hx hby (n := 1) (x := p0) d1_0 rfl rfl ?_
  refine s_sipush X0 hx hby (n := 4) (v := (255 : Int32)) d1_1 rfl rfl ?_
  refine s_iand X0 hx hby (n := 5) d1_4 rfl ?_
  refine s_i2c X0 hx hby (n := 6) d1_5 rfl ?_
  refine s_fold (z := (p0 &&& (255 : Int32))) (i2c_mask _) ?_
  refine s_istoreN X0 hx hby (n := 7) (L' := #[.val (.int p0), .val (.int p1), .val (.int (p0 &&& (255 : Int32))), .unset, .unset]) d1_6 rfl rfl ?_
  refine s_iloadN X0 hx hby (n := 8) (x := p0) d1_7 rfl rfl ?_
  refine s_bipush X0 hx hby (n := 10) (v := (8 : Int32)) d1_8 rfl rfl ?_
  refine s_iushr X0 hx hby (n := 11) d1_10 rfl ?_
  refine s_sipush X0 hx hby (n := 14) (v := (255 : Int32)) d1_11 rfl rfl ?_
  refine s_iand X0 hx hby (n := 15) d1_14 rfl ?_
  refine s_i2c X0 hx hby (n := 16) d1_15 rfl ?_
  refine s_fold (z := ((XT.ushr p0 (8 : Int32)) &&& (255 : Int32))) (i2c_mask _) ?_
  refine s_istoreN X0 hx hby (n := 17) (L' := #[.val (.int p0), .val (.int p1), .val (.int (p0 &&& (255 : Int32))), .val (.int ((XT.ushr p0 (8 : Int32)) &&& (255 : Int32))), .unset]) d1_16 rfl rfl ?_
  refine s_iloadN X0 hx hby (n := 18) (x := p0) d1_17 rfl rfl ?_
  refine s_bipush X0 hx hby (n := 20) (v := (16 : Int32)) d1_18 rfl rfl ?_
  refine s_iushr X0 hx hby (n := 21) d1_20 rfl ?_
  refine s_sipush X0 hx hby (n := 24) (v := (255 : Int32)) d1_21 rfl rfl ?_
  refine s_iand X0 hx hby (n := 25) d1_24 rfl ?_
  refine s_i2c X0 hx hby (n := 26) d1_25 rfl ?_
  refine s_fold (z := ((XT.ushr p0 (16 : Int32)) &&& (255 : Int32))) (i2c_mask _) ?_
  refine s_istore X0 hx hby (n := 28) (L' := #[.val (.int p0), .val (.int p1), .val (.int (p0 &&& (255 : Int32))), .val (.int ((XT.ushr p0 (8 : Int32)) &&& (255 : Int32))), .val (.int ((XT.ushr p0 (16 : Int32)) &&& (255 : Int32)))]) d1_26 rfl rfl ?_
  refine s_iloadN X0 hx hby (n := 29) (x := p1) d1_28 rfl rfl ?_
  by_cases c29 : p1 = (0 : Int32)
  · refine s_ifN X0 hx hby (n := 32) d1_29 (XT.i0_ne_f c29) rfl ?_
    rcases hV with I0 | ⟨I0, al, Ll, Sl⟩
    · skip
      refine v_ldc X0 hx hby hZ (n := 34) hown (hw _ (List.mem_of_getElem? (i := 34) rfl)) (XT.wks hw Bundle.stringAtoms) e0 hS0 (by rw [e00]; exact Nat.le_refl _) (Fr.nil _) (by rw [e00]; exact O0.2) I0 (by simp) hh hcw (vs := []) (z := (0 : Int32)) ⟨by decide +kernel, by rfl⟩ (by decide) (by decide) 0 (by decide +kernel) (by decide) (by decide) (by decide) d1_32 rfl ?_
      intro T1 h1 a1 b1 kb1 k1_1 X1 e1 Q1 hS1 hk1 hZ hown Es1 Fc1 Fv1 Ab1 I1 Lt1
      show OE p e below _ T1 (mkF m 34 #[.val (.int p0), .val (.int p1), .val (.int (p0 &&& (255 : Int32))), .val (.int ((XT.ushr p0 (8 : Int32)) &&& (255 : Int32))), .val (.int ((XT.ushr p0 (16 : Int32)) &&& (255 : Int32)))] [(.ref a1)])
      have S1 : Str Z h1 a1 [] := ⟨Es1, Fc1, b1, Fv1, by decide, kb1, Ab1⟩
      have K1 := K0.ext Q1
      exact v_retA X1 hx hby hlk hret rfl rfl d1_34 hS1 (by rw [e1]; exact hk1) (by decide) (by decide) (by rw [e1]; exact ⟨a1, [], rfl, c29.symm, by decide, Fr.nil _, K1, S1, Or.inr ⟨I1, a1, Lt1, S1⟩⟩)
    · skip
      refine v_ldcAgain X0 hx hby hZ (n := 34) hown (hw _ (List.mem_of_getElem? (i := 34) rfl)) (a := al) Ll d1_32 rfl ?_
      show OE p e below _ s₁ (mkF m 34 #[.val (.int p0), .val (.int p1), .val (.int (p0 &&& (255 : Int32))), .val (.int ((XT.ushr p0 (8 : Int32)) &&& (255 : Int32))), .val (.int ((XT.ushr p0 (16 : Int32)) &&& (255 : Int32)))] [(.ref al)])
      exact v_retA X0 hx hby hlk hret rfl rfl d1_34 hS0 (by rw [e0, e00]; exact Nat.le_refl _) (by decide) (by decide) (by rw [e0]; exact ⟨al, [], rfl, c29.symm, by decide, Fr.nil _, K0, Sl, LS.warm (Or.inr ⟨I0, al, Ll, Sl⟩) X0.warmed⟩)
  · refine s_ifY X0 hx hby (n := 35) d1_29 (XT.i0_ne_t c29) (by decide) (by decide) ?_
    refine s_iloadN X0 hx hby (n := 36) (x := p1) d1_35 rfl rfl ?_
    refine s_iconst X0 hx hby (n := 37) (v := (1 : Int32)) d1_36 rfl rfl ?_
    by_cases c37 : p1 = (1 : Int32)
    · refine s_icmpN X0 hx hby (n := 40) d1_37 (XT.ii_ne_f c37) rfl ?_
      refine s_iloadN X0 hx hby (n := 41) (x := (p0 &&& (255 : Int32))) d1_40 rfl rfl ?_
      refine s_callS X0 hx hby hml hZ (n := 44) hown (hw _ (List.mem_of_getElem? (i := 195) rfl)) (hw _ (List.mem_of_getElem? (i := 196) rfl)) (hw _ (List.mem_of_getElem? (i := 6) rfl)) (hw _ (List.mem_of_getElem? (i := 197) rfl)) (by decide) (rmVO l Z a0 hw z0 hz0 Sz0 fm hfm Sfm (p0 &&& (255 : Int32)) (le255 _) h0 n0 O0) e0 (by decide) 0 (by decide) (by decide) (by decide) pd_25 [(.int (p0 &&& (255 : Int32)))] [] rfl rfl rfl (Nat.le_of_eq rfl) rfl d1_41 rfl ?_
      intro T2 L2 v2 X2 q2c
      obtain ⟨r, bs, rfl, hbs, N2, K2, S2⟩ := q2c
      show OE p e below _ T2 (mkF m 44 #[.val (.int p0), .val (.int p1), .val (.int (p0 &&& (255 : Int32))), .val (.int ((XT.ushr p0 (8 : Int32)) &&& (255 : Int32))), .val (.int ((XT.ushr p0 (16 : Int32)) &&& (255 : Int32)))] [(.ref r)])
      have M2 := Fr.app M0 N2
      exact v_retA X2 hx hby hlk hret rfl rfl d1_44 hS0 (by rw [e00]; exact K2.1) (by decide) (by decide) ⟨r, bs, rfl, by rw [hbs]; exact c37.symm, by rw [hbs]; decide, M2, K2, S2, (LS.warm hV X2.warmed).keep K2⟩
    · refine s_icmpY X0 hx hby (n := 45) d1_37 (XT.ii_ne_t c37) (by decide) (by decide) ?_
      refine s_iloadN X0 hx hby (n := 46) (x := p1) d1_45 rfl rfl ?_
      refine s_iconst X0 hx hby (n := 47) (v := (2 : Int32)) d1_46 rfl rfl ?_
      by_cases c47 : p1 = (2 : Int32)
      · refine s_icmpN X0 hx hby (n := 50) d1_47 (XT.ii_ne_f c47) rfl ?_
        have ZL3 := Oln.le O0
        refine s_newO X0 hx hby hZ (n := 53) hown (hw _ (List.mem_of_getElem? (i := 4) rfl)) (hw _ (List.mem_of_getElem? (i := 5) rfl)) (hw _ (List.mem_of_getElem? (i := 6) rfl)) e0 (by decide) (by decide) d1_50 rfl ?_
        intro T3 h3 r gr X3 e3 Q3 E3_r D3
        have K3 := K0.ext Q3
        have F3_r_coder : Fld Z h3 r "java/lang/String" "coder" "B" (.int (0 : Int32)) := D3 (Or.inr (hw _ (List.mem_of_getElem? (i := 31) rfl))) (ty := .byte) (by decide)
        have F3_r_value : Fld Z h3 r "java/lang/String" "value" "[B" .null := D3 (Or.inr (hw _ (List.mem_of_getElem? (i := 33) rfl))) (ty := (.array (.byte))) (by decide)
        have n_r : n0 ≤ r := by rw [gr]; exact ZL3
        have Z3 : n0 ≤ h3.size := Nat.le_trans ZL3 Q3.1
        have OO3 := O0.ext Q3
        refine s_dup X3 hx hby (n := 54) d1_53 rfl rfl ?_
        refine s_iconst X3 hx hby (n := 55) (v := (2 : Int32)) d1_54 rfl rfl ?_
        refine s_newP X3 hx hby hZ (n := 57) (hw _ (List.mem_of_getElem? (i := 7) rfl)) (ty := .char) rfl e3 (num := (2 : Int32)) (by decide) 2 (by decide) (by decide) (by decide) (by decide) d1_55 rfl ?_
        intro T4 h4 cch ch gch X4 e4 Q4 A4
        have n_ch : n0 ≤ ch := by rw [gch]; exact Oln.le OO3
        have V4_ch := Arv.new A4 (by decide)
        have E4_r := E3_r.ext Q4
        have F4_r_coder := F3_r_coder.ext Q4
        have F4_r_value := F3_r_value.ext Q4
        have K4 := K3.ext Q4
        have OO4 := OO3.ext Q4
        have V4 : Arv Z h4 ch cch .char (2 : Int32) (List.replicate 2 (.int 0)) (.int 0) := Arv.pad V4_ch (pad_rep [] _ 2)
        have ner : r ≠ ch := arv_exa E4_r (hw _ (List.mem_of_getElem? (i := 5) rfl)) V4
        have gch0 : h0.size ≤ ch := by rw [gch]; exact K3.1
        refine s_dup X4 hx hby (n := 58) d1_57 rfl rfl ?_
        refine s_iconst X4 hx hby (n := 59) (v := (0 : Int32)) d1_58 rfl rfl ?_
        refine s_iloadN X4 hx hby (n := 60) (x := (p0 &&& (255 : Int32))) d1_59 rfl rfl ?_
        obtain ⟨cl5, Ar5, hk5, Sz5, hz5, Hb5, Gb5⟩ := id V4
        refine s_castoreC X4 hx hby hZ (n := 61) e4 Ar5 0 (by decide) (by decide) (by rw [Sz5]; decide) d1_60 rfl ?_
        intro T5 h5 X5 e5 W5
        have V5 := Arv.set (j := (0 : Int32)) Ar5 hk5 Sz5 hz5 Hb5 Gb5 (fits_nar_char _) W5 0 rfl (by simp)
        have M5 := Fr.snoc X5 M0 n_ch
        have K5 := Keep.wr K4 W5 (Or.inr gch0)
        have OO5 := OO4.wr W5 n_ch
        have E5_r := E4_r.wr W5
        have F5_value := F4_r_value.other W5 (Or.inl ner)
        have F5_coder := F4_r_coder.other W5 (Or.inl ner)
        refine s_dup X5 hx hby (n := 62) d1_61 rfl rfl ?_
        refine s_iconst X5 hx hby (n := 63) (v := (1 : Int32)) d1_62 rfl rfl ?_
        refine s_iloadN X5 hx hby (n := 64) (x := ((XT.ushr p0 (8 : Int32)) &&& (255 : Int32))) d1_63 rfl rfl ?_
        obtain ⟨cl6, Ar6, hk6, Sz6, hz6, Hb6, Gb6⟩ := id V5
        refine s_castoreC X5 hx hby hZ (n := 65) e5 Ar6 1 (by decide) (by decide) (by rw [Sz6]; decide) d1_64 rfl ?_
        intro T6 h6 X6 e6 W6
        have V6 := Arv.set (j := (1 : Int32)) Ar6 hk6 Sz6 hz6 Hb6 Gb6 (fits_nar_char _) W6 1 rfl (by simp)
        have M6 := Fr.snoc X6 M5 n_ch
        have K6 := Keep.wr K5 W6 (Or.inr gch0)
        have OO6 := OO5.wr W6 n_ch
        have E6_r := E5_r.wr W6
        have F6_value := F5_value.other W6 (Or.inl ner)
        have F6_coder := F5_coder.other W6 (Or.inl ner)
        refine s_callI X6 hx hby hml hZ (n := 68) rfl hown (hw _ (List.mem_of_getElem? (i := 8) rfl)) (hw _ (List.mem_of_getElem? (i := 9) rfl)) (hw _ (List.mem_of_getElem? (i := 6) rfl)) (hw _ (List.mem_of_getElem? (i := 10) rfl)) (by decide) (rmSC_2 l Z a0 hw z0 hz0 Sz0 fm hfm Sfm r ch cch (nar .char (p0 &&& (255 : Int32))) (nar .char ((XT.ushr p0 (8 : Int32)) &&& (255 : Int32))) (le255n _) (le255n _) h6 n0 OO6 V6 n_r E6_r F6_value F6_coder) e6 (by decide) 1 (by decide) (by decide) (by decide) pd_26 r [(.ref ch)] [(.ref r)] rfl rfl rfl (Nat.le_of_eq rfl) rfl d1_65 rfl ?_
        intro T7 L7 v7 X7 q7c
        obtain ⟨rfl, N7, K7, bs, hbs, S7⟩ := q7c
        show OE p e below _ T7 (mkF m 68 #[.val (.int p0), .val (.int p1), .val (.int (p0 &&& (255 : Int32))), .val (.int ((XT.ushr p0 (8 : Int32)) &&& (255 : Int32))), .val (.int ((XT.ushr p0 (16 : Int32)) &&& (255 : Int32)))] [(.ref r)])
        have KK7 := K6.trans K7 (allS (Or.inr (by rw [gr]; exact Nat.le_refl _)) all0)
        have M7 := Fr.app M6 N7
        exact v_retA X7 hx hby hlk hret rfl rfl d1_68 hS0 (by rw [e00]; exact KK7.1) (by decide) (by decide) ⟨r, bs, rfl, by rw [hbs]; exact c47.symm, by rw [hbs]; decide, M7, KK7, S7, (LS.warm hV X7.warmed).keep KK7⟩
      · refine s_icmpY X0 hx hby (n := 69) d1_47 (XT.ii_ne_t c47) (by decide) (by decide) ?_
        have ZL8 := Oln.le O0
        refine s_newO X0 hx hby hZ (n := 72) hown (hw _ (List.mem_of_getElem? (i := 4) rfl)) (hw _ (List.mem_of_getElem? (i := 5) rfl)) (hw _ (List.mem_of_getElem? (i := 6) rfl)) e0 (by decide) (by decide) d1_69 rfl ?_
        intro T8 h8 r gr X8 e8 Q8 E8_r D8
        have K8 := K0.ext Q8
        have F8_r_coder : Fld Z h8 r "java/lang/String" "coder" "B" (.int (0 : Int32)) := D8 (Or.inr (hw _ (List.mem_of_getElem? (i := 31) rfl))) (ty := .byte) (by decide)
        have F8_r_value : Fld Z h8 r "java/lang/String" "value" "[B" .null := D8 (Or.inr (hw _ (List.mem_of_getElem? (i := 33) rfl))) (ty := (.array (.byte))) (by decide)
        have n_r : n0 ≤ r := by rw [gr]; exact ZL8
        have Z8 : n0 ≤ h8.size := Nat.le_trans ZL8 Q8.1
        have OO8 := O0.ext Q8
        refine s_dup X8 hx hby (n := 73) d1_72 rfl rfl ?_
        refine s_iconst X8 hx hby (n := 74) (v := (3 : Int32)) d1_73 rfl rfl ?_
        refine s_newP X8 hx hby hZ (n := 76) (hw _ (List.mem_of_getElem? (i := 7) rfl)) (ty := .char) rfl e8 (num := (3 : Int32)) (by decide) 3 (by decide) (by decide) (by decide) (by decide) d1_74 rfl ?_
        intro T9 h9 cch ch gch X9 e9 Q9 A9
        have n_ch : n0 ≤ ch := by rw [gch]; exact Oln.le OO8
        have V9_ch := Arv.new A9 (by decide)
        have E9_r := E8_r.ext Q9
        have F9_r_coder := F8_r_coder.ext Q9
        have F9_r_value := F8_r_value.ext Q9
        have K9 := K8.ext Q9
        have OO9 := OO8.ext Q9
        have V9 : Arv Z h9 ch cch .char (3 : Int32) (List.replicate 3 (.int 0)) (.int 0) := Arv.pad V9_ch (pad_rep [] _ 3)
        have ner : r ≠ ch := arv_exa E9_r (hw _ (List.mem_of_getElem? (i := 5) rfl)) V9
        have gch0 : h0.size ≤ ch := by rw [gch]; exact K8.1
        refine s_dup X9 hx hby (n := 77) d1_76 rfl rfl ?_
        refine s_iconst X9 hx hby (n := 78) (v := (0 : Int32)) d1_77 rfl rfl ?_
        refine s_iloadN X9 hx hby (n := 79) (x := (p0 &&& (255 : Int32))) d1_78 rfl rfl ?_
        obtain ⟨cl10, Ar10, hk10, Sz10, hz10, Hb10, Gb10⟩ := id V9
        refine s_castoreC X9 hx hby hZ (n := 80) e9 Ar10 0 (by decide) (by decide) (by rw [Sz10]; decide) d1_79 rfl ?_
        intro T10 h10 X10 e10 W10
        have V10 := Arv.set (j := (0 : Int32)) Ar10 hk10 Sz10 hz10 Hb10 Gb10 (fits_nar_char _) W10 0 rfl (by simp)
        have M10 := Fr.snoc X10 M0 n_ch
        have K10 := Keep.wr K9 W10 (Or.inr gch0)
        have OO10 := OO9.wr W10 n_ch
        have E10_r := E9_r.wr W10
        have F10_value := F9_r_value.other W10 (Or.inl ner)
        have F10_coder := F9_r_coder.other W10 (Or.inl ner)
        refine s_dup X10 hx hby (n := 81) d1_80 rfl rfl ?_
        refine s_iconst X10 hx hby (n := 82) (v := (1 : Int32)) d1_81 rfl rfl ?_
        refine s_iloadN X10 hx hby (n := 83) (x := ((XT.ushr p0 (8 : Int32)) &&& (255 : Int32))) d1_82 rfl rfl ?_
        obtain ⟨cl11, Ar11, hk11, Sz11, hz11, Hb11, Gb11⟩ := id V10
        refine s_castoreC X10 hx hby hZ (n := 84) e10 Ar11 1 (by decide) (by decide) (by rw [Sz11]; decide) d1_83 rfl ?_
        intro T11 h11 X11 e11 W11
        have V11 := Arv.set (j := (1 : Int32)) Ar11 hk11 Sz11 hz11 Hb11 Gb11 (fits_nar_char _) W11 1 rfl (by simp)
        have M11 := Fr.snoc X11 M10 n_ch
        have K11 := Keep.wr K10 W11 (Or.inr gch0)
        have OO11 := OO10.wr W11 n_ch
        have E11_r := E10_r.wr W11
        have F11_value := F10_value.other W11 (Or.inl ner)
        have F11_coder := F10_coder.other W11 (Or.inl ner)
        refine s_dup X11 hx hby (n := 85) d1_84 rfl rfl ?_
        refine s_iconst X11 hx hby (n := 86) (v := (2 : Int32)) d1_85 rfl rfl ?_
        refine s_iload X11 hx hby (n := 88) (x := ((XT.ushr p0 (16 : Int32)) &&& (255 : Int32))) d1_86 rfl rfl ?_
        obtain ⟨cl12, Ar12, hk12, Sz12, hz12, Hb12, Gb12⟩ := id V11
        refine s_castoreC X11 hx hby hZ (n := 89) e11 Ar12 2 (by decide) (by decide) (by rw [Sz12]; decide) d1_88 rfl ?_
        intro T12 h12 X12 e12 W12
        have V12 := Arv.set (j := (2 : Int32)) Ar12 hk12 Sz12 hz12 Hb12 Gb12 (fits_nar_char _) W12 2 rfl (by simp)
        have M12 := Fr.snoc X12 M11 n_ch
        have K12 := Keep.wr K11 W12 (Or.inr gch0)
        have OO12 := OO11.wr W12 n_ch
        have E12_r := E11_r.wr W12
        have F12_value := F11_value.other W12 (Or.inl ner)
        have F12_coder := F11_coder.other W12 (Or.inl ner)
        refine s_callI X12 hx hby hml hZ (n := 92) rfl hown (hw _ (List.mem_of_getElem? (i := 8) rfl)) (hw _ (List.mem_of_getElem? (i := 9) rfl)) (hw _ (List.mem_of_getElem? (i := 6) rfl)) (hw _ (List.mem_of_getElem? (i := 10) rfl)) (by decide) (rmSC_3 l Z a0 hw z0 hz0 Sz0 fm hfm Sfm r ch cch (nar .char (p0 &&& (255 : Int32))) (nar .char ((XT.ushr p0 (8 : Int32)) &&& (255 : Int32))) (nar .char ((XT.ushr p0 (16 : Int32)) &&& (255 : Int32))) (le255n _) (le255n _) (le255n _) h12 n0 OO12 V12 n_r E12_r F12_value F12_coder) e12 (by decide) 1 (by decide) (by decide) (by decide) pd_26 r [(.ref ch)] [(.ref r)] rfl rfl rfl (Nat.le_of_eq rfl) rfl d1_89 rfl ?_
        intro T13 L13 v13 X13 q13c
        obtain ⟨rfl, N13, K13, bs, hbs, S13⟩ := q13c
        show OE p e below _ T13 (mkF m 92 #[.val (.int p0), .val (.int p1), .val (.int (p0 &&& (255 : Int32))), .val (.int ((XT.ushr p0 (8 : Int32)) &&& (255 : Int32))), .val (.int ((XT.ushr p0 (16 : Int32)) &&& (255 : Int32)))] [(.ref r)])
        have KK13 := K12.trans K13 (allS (Or.inr (by rw [gr]; exact Nat.le_refl _)) all0)
        have M13 := Fr.app M12 N13
        exact v_retA X13 hx hby hlk hret rfl rfl d1_92 hS0 (by rw [e00]; exact KK13.1) (by decide) (by decide) ⟨r, bs, rfl, by rw [hbs]; exact (by rcases hp with z | z | z | z <;> first | exact absurd z c29 | exact absurd z c37 | exact absurd z c47 | exact z.symm), by rw [hbs]; decide, M13, KK13, S13, (LS.warm hV X13.warmed).keep KK13⟩
set_option maxRecDepth 65536 in
set_option maxHeartbeats 40000000 in
theorem rmTnS (l : Launch) (Z : State) (a0 : Array Value) (hw : ∀ d ∈ tables_1, d.before a0 Z = true) (z0 : Int32) (hz0 : ¬ z0 = (0 : Int32)) (Sz0 : Sta Z Z.heap "java/lang/String" "COMPACT_STRINGS" "Z" (.int z0)) (fm : Value) (hfm : fm.isRef = true) (Sfm : Sta Z Z.heap "jdk/internal/util/Preconditions" "SIOOBE_FORMATTER" "Ljava/util/function/BiFunction;" fm) (t ns tb : Addr) (na nb : List Int32) (h0 : Heap) (n0 : Nat) (O0 : Oln Z n0 h0) (hn0 : n0 = h0.size) (Fa : Fld Z h0 t "com/example/floe/floe/TableName" "namespace" "Ljava/lang/String;" (.ref ns)) (Fb : Fld Z h0 t "com/example/floe/floe/TableName" "table" "Ljava/lang/String;" (.ref tb)) (Sa : Str Z h0 ns na) (Sb : Str Z h0 tb nb) (la : na.length < 4) (lb : nb.length < 4) (hh : Jvm.Lit.constHeld Z "com/example/floe/floe/TableName" 82) (hcw : Jvm.Lit.compactW.before a0 Z = true) :
    OConV l Z (⟨"com/example/floe/floe/TableName", "toString", "()Ljava/lang/String;"⟩ : MethodName) prog_9_method_5_code 1 (some (.object "java/lang/String")) [] ({ frames := 6, cells := 6, slots := 48, locals := 95 } : Room) #[(.ref t)] h0 (fun vm => ∃ Ts, "." ∉ Ts ∧ IB Z vm Ts) (fun v h L vm => ∃ r, v = some (.ref r) ∧ Fr n0 L ∧ Keep h0 h [] ∧ Str Z h r (na ++ (46 : Int32) :: nb)) := by
  refine conV (plainFor_of_name pq8) ?_
  intro p e s m below meth c s₁ hx hby hml hZ hown hnm hret hlk X0 e0 e00 hV hS0
  refine entry (eq0f m t) ?_
  have M0 := Fr.nil n0
  obtain ⟨Ts, hdot, I0⟩ := hV
  have K0 := Keep.refl h0 []
  have ZL1 := Oln.le O0
  refine s_newO X0 hx hby hZ (n := 3) hown (hw _ (List.mem_of_getElem? (i := 58) rfl)) (hw _ (List.mem_of_getElem? (i := 59) rfl)) (hw _ (List.mem_of_getElem? (i := 60) rfl)) e0 (by decide) (by decide) d10_0 rfl ?_
  intro T1 h1 o go X1 e1 Q1 E1_o D1
  have K1 := K0.ext Q1
  have F1_o_value : Fld Z h1 o "java/lang/AbstractStringBuilder" "value" "[B" .null := D1 (Or.inl (hw _ (List.mem_of_getElem? (i := 73) rfl))) (ty := (.array (.byte))) (by decide)
  have F1_o_coder : Fld Z h1 o "java/lang/AbstractStringBuilder" "coder" "B" (.int (0 : Int32)) := D1 (Or.inl (hw _ (List.mem_of_getElem? (i := 75) rfl))) (ty := .byte) (by decide)
  have F1_o_count : Fld Z h1 o "java/lang/AbstractStringBuilder" "count" "I" (.int (0 : Int32)) := D1 (Or.inl (hw _ (List.mem_of_getElem? (i := 97) rfl))) (ty := .int) (by decide)
  have n_o : n0 ≤ o := by rw [go]; exact ZL1
  have Z1 : n0 ≤ h1.size := Nat.le_trans ZL1 Q1.1
  have OO1 := O0.ext Q1
  have hge : ∀ x, n0 ≤ x → h0.size ≤ x := fun x q => hn0 ▸ q
  refine s_dup X1 hx hby (n := 4) d10_3 rfl rfl ?_
  refine s_callI X1 hx hby hml hZ (n := 7) rfl hown (hw _ (List.mem_of_getElem? (i := 61) rfl)) (hw _ (List.mem_of_getElem? (i := 62) rfl)) (hw _ (List.mem_of_getElem? (i := 60) rfl)) (hw _ (List.mem_of_getElem? (i := 63) rfl)) (by decide) (rmSBi l Z a0 hw z0 hz0 Sz0 fm hfm Sfm o h1 n0 OO1 n_o E1_o F1_o_value F1_o_coder F1_o_count) e1 (by decide) 1 (by decide) (by decide) (by decide) pd_24 o [] [(.ref o)] rfl rfl rfl (Nat.le_of_eq rfl) rfl d10_4 rfl ?_
  intro T2 L2 v2 X2 q2c
  obtain ⟨rfl, N2, K2, d, n_d, S2⟩ := q2c
  show OE p e below _ T2 (mkF m 7 #[.val (.ref t)] [(.ref o)])
  have KK2 := K1.trans K2 (allS (Or.inr (hge _ n_o)) all0)
  have OO2 := OO1.keep K2 (allS n_o all0)
  have M2 := Fr.app M0 N2
  refine s_aloadN X2 hx hby (n := 8) (x := (.ref t)) d10_7 rfl rfl rfl ?_
  refine s_getF X2 hx hby hZ (n := 11) hown (hw _ (List.mem_of_getElem? (i := 49) rfl)) rfl (Fa.keep KK2 nin0) d10_8 rfl ?_
  intro T3 X3 e3
  refine s_callV X3 hx hby hml hZ (n := 14) hown (hw _ (List.mem_of_getElem? (i := 76) rfl)) (hw _ (List.mem_of_getElem? (i := 77) rfl)) (notFace_of_selects (args := #[]) (mvT hZ (hw _ (List.mem_of_getElem? (i := 79) rfl)))) (hw _ (List.mem_of_getElem? (i := 79) rfl)) (hw _ (List.mem_of_getElem? (i := 78) rfl)) (hw _ (List.mem_of_getElem? (i := 60) rfl)) (hw _ (List.mem_of_getElem? (i := 80) rfl)) (by decide) (rmAp l Z a0 hw z0 hz0 Sz0 fm hfm Sfm o d ns [] na T2.heap n0 OO2 S2 (Sa.keep KK2) (by simp; omega) n_o n_d) e3 (by decide) 0 (by decide) (by decide) (by decide) pd_27 S2.1 [(.ref ns)] [] rfl rfl rfl (Nat.le_of_eq rfl) rfl d10_11 rfl ?_
  intro T4 L4 v4 X4 q4c
  obtain ⟨rfl, N4, K4, S4⟩ := q4c
  show OE p e below _ T4 (mkF m 14 #[.val (.ref t)] [(.ref o)])
  have KK4 := KK2.trans K4 (allS (Or.inr (hge _ n_o)) (allS (Or.inr (hge _ n_d)) all0))
  have OO4 := OO2.keep K4 (allS n_o (allS n_d all0))
  have M4 := Fr.app M2 N4
  refine v_ldc X4 hx hby hZ (n := 16) hown (hw _ (List.mem_of_getElem? (i := 123) rfl)) (XT.wks hw Bundle.stringAtoms) rfl hS0 (by rw [e00]; exact KK4.1) (by rw [e00, ← hn0]; exact M4) (by rw [e00]; exact O0.2) I0 hdot hh hcw (vs := [.int (46 : Int32)]) (z := (1 : Int32)) ⟨by decide +kernel, by rfl⟩ (by decide) (by decide) 4 (by decide +kernel) (by decide) (by decide) (by decide) d10_14 rfl ?_
  intro T5 h5 a5 b5 kb5 k1_5 X5 e5 Q5 hS5 hk5 hZ hown Es5 Fc5 Fv5 Ab5 I5 Lt5
  show OE p e below _ T5 (mkF m 16 #[.val (.ref t)] [(.ref a5), (.ref o)])
  have Sd : Str Z h5 a5 [46] := ⟨Es5, Fc5, b5, Fv5, by decide, kb5, Ab5⟩
  have S5 := S4.ext Q5
  have K5 := KK4.ext Q5
  have OO5 := OO4.ext Q5
  have hkq : k1_5 ≤ h5.size := hk5
  refine s_callV X5 hx hby hml hZ (n := 19) hown (hw _ (List.mem_of_getElem? (i := 76) rfl)) (hw _ (List.mem_of_getElem? (i := 77) rfl)) (notFace_of_selects (args := #[]) (mvT hZ (hw _ (List.mem_of_getElem? (i := 79) rfl)))) (hw _ (List.mem_of_getElem? (i := 79) rfl)) (hw _ (List.mem_of_getElem? (i := 78) rfl)) (hw _ (List.mem_of_getElem? (i := 60) rfl)) (hw _ (List.mem_of_getElem? (i := 80) rfl)) (by decide) (rmAp l Z a0 hw z0 hz0 Sz0 fm hfm Sfm o d a5 ([] ++ na) [46] h5 n0 OO5 S5 Sd (by simp; omega) n_o n_d) e5 (by decide) 0 (by decide) (by decide) (by decide) pd_27 S5.1 [(.ref a5)] [] rfl rfl rfl (Nat.le_of_eq rfl) rfl d10_16 rfl ?_
  intro T6 L6 v6 X6 q6c
  obtain ⟨rfl, N6, K6, S6⟩ := q6c
  show OE p e below _ T6 (mkF m 19 #[.val (.ref t)] [(.ref o)])
  have KK6 := K5.trans K6 (allS (Or.inr (hge _ n_o)) (allS (Or.inr (hge _ n_d)) all0))
  have OO6 := OO5.keep K6 (allS n_o (allS n_d all0))
  have M6 := Fr.app M4 N6
  refine s_aloadN X6 hx hby (n := 20) (x := (.ref t)) d10_19 rfl rfl rfl ?_
  refine s_getF X6 hx hby hZ (n := 23) hown (hw _ (List.mem_of_getElem? (i := 51) rfl)) rfl (Fb.keep KK6 nin0) d10_20 rfl ?_
  intro T7 X7 e7
  refine s_callV X7 hx hby hml hZ (n := 26) hown (hw _ (List.mem_of_getElem? (i := 76) rfl)) (hw _ (List.mem_of_getElem? (i := 77) rfl)) (notFace_of_selects (args := #[]) (mvT hZ (hw _ (List.mem_of_getElem? (i := 79) rfl)))) (hw _ (List.mem_of_getElem? (i := 79) rfl)) (hw _ (List.mem_of_getElem? (i := 78) rfl)) (hw _ (List.mem_of_getElem? (i := 60) rfl)) (hw _ (List.mem_of_getElem? (i := 80) rfl)) (by decide) (rmAp l Z a0 hw z0 hz0 Sz0 fm hfm Sfm o d tb (([] ++ na) ++ [46]) nb T6.heap n0 OO6 S6 (Sb.keep KK6) (by simp; omega) n_o n_d) e7 (by decide) 0 (by decide) (by decide) (by decide) pd_27 S6.1 [(.ref tb)] [] rfl rfl rfl (Nat.le_of_eq rfl) rfl d10_23 rfl ?_
  intro T8 L8 v8 X8 q8c
  obtain ⟨rfl, N8, K8, S8⟩ := q8c
  show OE p e below _ T8 (mkF m 26 #[.val (.ref t)] [(.ref o)])
  have KK8 := KK6.trans K8 (allS (Or.inr (hge _ n_o)) (allS (Or.inr (hge _ n_d)) all0))
  have OO8 := OO6.keep K8 (allS n_o (allS n_d all0))
  have M8 := Fr.app M6 N8
  refine s_callV X8 hx hby hml hZ (n := 29) hown (hw _ (List.mem_of_getElem? (i := 124) rfl)) (hw _ (List.mem_of_getElem? (i := 125) rfl)) (notFace_of_selects (args := #[]) (mvT hZ (hw _ (List.mem_of_getElem? (i := 127) rfl)))) (hw _ (List.mem_of_getElem? (i := 127) rfl)) (hw _ (List.mem_of_getElem? (i := 126) rfl)) (hw _ (List.mem_of_getElem? (i := 60) rfl)) (hw _ (List.mem_of_getElem? (i := 128) rfl)) (by decide) (rmTS l Z a0 hw z0 hz0 Sz0 fm hfm Sfm o d ((([] ++ na) ++ [46]) ++ nb) T8.heap n0 OO8 S8) rfl (by decide) 0 (by decide) (by decide) (by decide) pd_28 S8.1 [] [] rfl rfl rfl (Nat.le_of_eq rfl) rfl d10_26 rfl ?_
  intro T9 L9 v9 X9 q9c
  obtain ⟨r, rfl, N9, K9, S9⟩ := q9c
  show OE p e below _ T9 (mkF m 29 #[.val (.ref t)] [(.ref r)])
  have KK9 := KK8.trans K9 all0
  have M9 := Fr.app M8 N9
  have eqs : ((([] ++ na) ++ [46]) ++ nb) = na ++ (46 : Int32) :: nb := by simp
  rw [eqs] at S9
  exact v_retA X9 hx hby hlk hret rfl rfl d10_29 hS5 (Nat.le_trans hkq (Nat.le_trans K6.1 (Nat.le_trans K8.1 K9.1))) (by decide) (by decide) ⟨r, rfl, M9, KK9, S9⟩
theorem ef0 (m : MethodId) (x0 : Int32) (x1 : Int32) (x2 : Int32) : entryFrame m #[(.int x0), (.int x1), (.int x2)] maxLocals = mkF m 0 #[.val (.int x0), .val (.int x1), .val (.int x2), .unset, .unset, .unset, .unset, .unset] [] := by first | (simp [entryFrame, mkF, argsToLocals, Value.category, maxLocals]; done) | rfl
theorem pn0 : plainName "com/example/floe/floe/TableNameToStringPinLaw" = true := by first | (simp [plainName, overriddenIn]; done) | decide +kernel
set_option maxRecDepth 65536 in
set_option maxHeartbeats 40000000 in
theorem rm0 (l : Launch) (Z : State) (a0 : Array Value) (hw : ∀ d ∈ tables_1, d.before a0 Z = true) (z0 : Int32) (hz0 : ¬ z0 = (0 : Int32)) (Sz0 : Sta Z Z.heap "java/lang/String" "COMPACT_STRINGS" "Z" (.int z0)) (fm : Value) (hfm : fm.isRef = true) (Sfm : Sta Z Z.heap "jdk/internal/util/Preconditions" "SIOOBE_FORMATTER" "Ljava/util/function/BiFunction;" fm) (p0 p1 p2 : Int32) (h0 : Heap) (n0 : Nat) (O0 : Oln Z n0 h0) (hh7 : Jvm.Lit.constHeld Z "com/example/floe/floe/TableNameToStringPinLaw" 7) (hh82 : Jvm.Lit.constHeld Z "com/example/floe/floe/TableName" 82) (hcw : Jvm.Lit.compactW.before a0 Z = true) :
    OConV l Z x code maxLocals ret tables_1 room_1 #[(.int p0), (.int p1), (.int p2)] h0 (fun vm => IB Z vm []) (fun v h L vm => v = some (.int (1 : Int32)) ∧ Fr n0 L) := by
  refine conV (plainFor_of_name pn0) ?_
  intro p e s m below meth c s₁ hx hby hml hZ hown hnm hret hlk X0 e0 e00 hV hS0
  refine entry (ef0 m p0 p1 p2) ?_
  have M0 := Fr.nil n0
  refine s_iloadN X0 hx hby (n := 1) (x := p2) at_0 rfl rfl ?_
  refine s_iconst X0 hx hby (n := 2) (v := (3 : Int32)) at_1 rfl rfl ?_
  refine s_iand X0 hx hby (n := 3) at_2 rfl ?_
  refine s_istoreN X0 hx hby (n := 4) (L' := #[.val (.int p0), .val (.int p1), .val (.int p2), .val (.int (p2 &&& (3 : Int32))), .unset, .unset, .unset, .unset]) at_3 rfl rfl ?_
  refine s_iloadN X0 hx hby (n := 5) (x := p2) at_4 rfl rfl ?_
  refine s_iconst X0 hx hby (n := 6) (v := (2 : Int32)) at_5 rfl rfl ?_
  refine s_iushr X0 hx hby (n := 7) at_6 rfl ?_
  refine s_iconst X0 hx hby (n := 8) (v := (3 : Int32)) at_7 rfl rfl ?_
  refine s_iand X0 hx hby (n := 9) at_8 rfl ?_
  refine s_istore X0 hx hby (n := 11) (L' := #[.val (.int p0), .val (.int p1), .val (.int p2), .val (.int (p2 &&& (3 : Int32))), .val (.int ((XT.ushr p2 (2 : Int32)) &&& (3 : Int32))), .unset, .unset, .unset]) at_9 rfl rfl ?_
  refine s_iloadN X0 hx hby (n := 12) (x := p0) at_11 rfl rfl ?_
  refine s_iloadN X0 hx hby (n := 13) (x := (p2 &&& (3 : Int32))) at_12 rfl rfl ?_
  refine v_callS X0 hx hby hml hZ (n := 16) hown (hw _ (List.mem_of_getElem? (i := 0) rfl)) (hw _ (List.mem_of_getElem? (i := 1) rfl)) (hw _ (List.mem_of_getElem? (i := 2) rfl)) (hw _ (List.mem_of_getElem? (i := 3) rfl)) (by decide) (rmMk l Z a0 hw z0 hz0 Sz0 fm hfm Sfm p0 (p2 &&& (3 : Int32)) h0 n0 O0 (and3 _) hh7 hcw) (fun vm₁ hW => Or.inl (IB.warm hV hW)) hS0 (by rw [e00]; exact Nat.le_refl _) e0 (by decide) 0 (by decide) (by decide) (by decide) pd_29  [(.int p0), (.int (p2 &&& (3 : Int32)))] [] rfl rfl rfl (Nat.le_of_eq rfl) rfl at_13 rfl ?_
  intro T1 L1 v1 X1 hS1 hZ hown q1c
  obtain ⟨ns, na, rfl, hl_ns, lt_ns, N1, K1, Sns, LS1⟩ := q1c
  show OE p e below _ T1 (mkF m 16 #[.val (.int p0), .val (.int p1), .val (.int p2), .val (.int (p2 &&& (3 : Int32))), .val (.int ((XT.ushr p2 (2 : Int32)) &&& (3 : Int32))), .unset, .unset, .unset] [(.ref ns)])
  have M1 := Fr.app M0 N1
  have OO1 := O0.keep K1 all0
  refine s_astore X1 hx hby (n := 18) (L' := #[.val (.int p0), .val (.int p1), .val (.int p2), .val (.int (p2 &&& (3 : Int32))), .val (.int ((XT.ushr p2 (2 : Int32)) &&& (3 : Int32))), .val (.ref ns), .unset, .unset]) at_16 rfl rfl rfl ?_
  refine s_iloadN X1 hx hby (n := 19) (x := p1) at_18 rfl rfl ?_
  refine s_iload X1 hx hby (n := 21) (x := ((XT.ushr p2 (2 : Int32)) &&& (3 : Int32))) at_19 rfl rfl ?_
  refine v_callS X1 hx hby hml hZ (n := 24) hown (hw _ (List.mem_of_getElem? (i := 0) rfl)) (hw _ (List.mem_of_getElem? (i := 1) rfl)) (hw _ (List.mem_of_getElem? (i := 2) rfl)) (hw _ (List.mem_of_getElem? (i := 3) rfl)) (by decide) (rmMk l Z a0 hw z0 hz0 Sz0 fm hfm Sfm p1 ((XT.ushr p2 (2 : Int32)) &&& (3 : Int32)) T1.heap n0 OO1 (and3 _) hh7 hcw) (fun vm₁ hW => LS.warm LS1 hW) hS1 (Nat.le_refl _) rfl (by decide) 0 (by decide) (by decide) (by decide) pd_29  [(.int p1), (.int ((XT.ushr p2 (2 : Int32)) &&& (3 : Int32)))] [] rfl rfl rfl (Nat.le_of_eq rfl) rfl at_21 rfl ?_
  intro T2 L2 v2 X2 hS2 hZ hown q2c
  obtain ⟨tb, nb, rfl, hl_tb, lt_tb, N2, K2, Stb, LS2⟩ := q2c
  show OE p e below _ T2 (mkF m 24 #[.val (.int p0), .val (.int p1), .val (.int p2), .val (.int (p2 &&& (3 : Int32))), .val (.int ((XT.ushr p2 (2 : Int32)) &&& (3 : Int32))), .val (.ref ns), .unset, .unset] [(.ref tb)])
  have M2 := Fr.app M1 N2
  have OO2 := OO1.keep K2 all0
  have Sns2 := Sns.keep K2
  have KB := Keep.refl T2.heap []
  refine s_astore X2 hx hby (n := 26) (L' := #[.val (.int p0), .val (.int p1), .val (.int p2), .val (.int (p2 &&& (3 : Int32))), .val (.int ((XT.ushr p2 (2 : Int32)) &&& (3 : Int32))), .val (.ref ns), .val (.ref tb), .unset]) at_24 rfl rfl rfl ?_
  have ZL3 := Oln.le OO2
  refine s_newO X2 hx hby hZ (n := 29) hown (hw _ (List.mem_of_getElem? (i := 37) rfl)) (hw _ (List.mem_of_getElem? (i := 38) rfl)) (hw _ (List.mem_of_getElem? (i := 39) rfl)) rfl (by decide) (by decide) at_26 rfl ?_
  intro T3 h3 t gt X3 e3 Q3 E3_t D3
  have K3 := KB.ext Q3
  have F3_t_namespace : Fld Z h3 t "com/example/floe/floe/TableName" "namespace" "Ljava/lang/String;" .null := D3 (Or.inr (hw _ (List.mem_of_getElem? (i := 50) rfl))) (ty := (.object "java/lang/String")) (by decide)
  have F3_t_table : Fld Z h3 t "com/example/floe/floe/TableName" "table" "Ljava/lang/String;" .null := D3 (Or.inr (hw _ (List.mem_of_getElem? (i := 52) rfl))) (ty := (.object "java/lang/String")) (by decide)
  have n_t : n0 ≤ t := by rw [gt]; exact ZL3
  have Z3 : n0 ≤ h3.size := Nat.le_trans ZL3 Q3.1
  have OO3 := OO2.ext Q3
  refine s_dup X3 hx hby (n := 30) at_29 rfl rfl ?_
  refine s_aload X3 hx hby (n := 32) (x := (.ref ns)) at_30 rfl rfl rfl ?_
  refine s_aload X3 hx hby (n := 34) (x := (.ref tb)) at_32 rfl rfl rfl ?_
  refine s_callI X3 hx hby hml hZ (n := 37) rfl hown (hw _ (List.mem_of_getElem? (i := 40) rfl)) (hw _ (List.mem_of_getElem? (i := 41) rfl)) (hw _ (List.mem_of_getElem? (i := 39) rfl)) (hw _ (List.mem_of_getElem? (i := 42) rfl)) (by decide) (rmTN l Z a0 hw t ns tb h3 n0 n_t E3_t F3_t_namespace F3_t_table) e3 (by decide) 1 (by decide) (by decide) (by decide) pd_30 t [(.ref ns), (.ref tb)] [(.ref t)] rfl rfl rfl (Nat.le_of_eq rfl) rfl at_34 rfl ?_
  intro T4 L4 v4 X4 q4c
  obtain ⟨rfl, N4, K4, Et, Fa, Fb⟩ := q4c
  show OE p e below _ T4 (mkF m 37 #[.val (.int p0), .val (.int p1), .val (.int p2), .val (.int (p2 &&& (3 : Int32))), .val (.int ((XT.ushr p2 (2 : Int32)) &&& (3 : Int32))), .val (.ref ns), .val (.ref tb), .unset] [(.ref t)])
  have KT := K3.trans K4 (allS (Or.inr (by rw [gt]; exact Nat.le_refl _)) all0)
  have OO4 := OO3.keep K4 (allS n_t all0)
  have M4 := Fr.app M2 N4
  have Sns3 := Sns2.keep KT
  have Stb3 := Stb.keep KT
  refine v_callV X4 hx hby hml hZ (n := 40) hown (hw _ (List.mem_of_getElem? (i := 53) rfl)) (hw _ (List.mem_of_getElem? (i := 54) rfl)) (notFace_of_selects (args := #[]) (mvT hZ (hw _ (List.mem_of_getElem? (i := 56) rfl)))) (hw _ (List.mem_of_getElem? (i := 56) rfl)) (hw _ (List.mem_of_getElem? (i := 55) rfl)) (hw _ (List.mem_of_getElem? (i := 39) rfl)) (hw _ (List.mem_of_getElem? (i := 57) rfl)) (by decide) (rmTnS l Z a0 hw z0 hz0 Sz0 fm hfm Sfm t ns tb na nb T4.heap T4.heap.size OO4.top rfl Fa Fb Sns3 Stb3 lt_ns lt_tb hh82 hcw) (fun vm₁ hW => (LS.warm LS2 hW).ib) hS2 KT.1 rfl (by decide) 0 (by decide) (by decide) (by decide) pd_28 Et [] [] rfl rfl rfl (Nat.le_of_eq rfl) rfl at_37 rfl ?_
  intro T5 L5 v5 X5 hS5 hZ hown q5c
  obtain ⟨r, rfl, N5, K5, Sr⟩ := q5c
  show OE p e below _ T5 (mkF m 40 #[.val (.int p0), .val (.int p1), .val (.int p2), .val (.int (p2 &&& (3 : Int32))), .val (.int ((XT.ushr p2 (2 : Int32)) &&& (3 : Int32))), .val (.ref ns), .val (.ref tb), .unset] [(.ref r)])
  have N5' := fr_mono N5 OO4.le
  have M5 := Fr.app M4 N5'
  have OO5 := OO4.keep K5 all0
  have Sns4 := Sns3.keep K5
  have Stb4 := Stb3.keep K5
  have hkE := Nat.le_refl T5.heap.size
  refine s_astore X5 hx hby (n := 42) (L' := #[.val (.int p0), .val (.int p1), .val (.int p2), .val (.int (p2 &&& (3 : Int32))), .val (.int ((XT.ushr p2 (2 : Int32)) &&& (3 : Int32))), .val (.ref ns), .val (.ref tb), .val (.ref r)]) at_40 rfl rfl rfl ?_
  refine s_aload X5 hx hby (n := 44) (x := (.ref r)) at_42 rfl rfl rfl ?_
  refine s_nullN X5 hx hby (n := 47) at_44 rfl (by simp) rfl ?_
  refine s_aload X5 hx hby (n := 49) (x := (.ref r)) at_47 rfl rfl rfl ?_
  refine s_callV X5 hx hby hml hZ (n := 52) hown (hw _ (List.mem_of_getElem? (i := 169) rfl)) (hw _ (List.mem_of_getElem? (i := 87) rfl)) (notFace_of_selects (args := #[]) (mvT hZ (hw _ (List.mem_of_getElem? (i := 89) rfl)))) (hw _ (List.mem_of_getElem? (i := 89) rfl)) (hw _ (List.mem_of_getElem? (i := 88) rfl)) (hw _ (List.mem_of_getElem? (i := 6) rfl)) (hw _ (List.mem_of_getElem? (i := 90) rfl)) (by decide) (rmLen l Z a0 hw z0 hz0 Sz0 fm hfm Sfm r (na ++ (46 : Int32) :: nb) T5.heap n0 OO5 Sr) rfl (by decide) 0 (by decide) (by decide) (by decide) pd_8 Sr.1 [] [] rfl rfl rfl (Nat.le_of_eq rfl) rfl at_49 rfl ?_
  intro T6 L6 v6 X6 q6c
  obtain ⟨rfl, e6, N6⟩ := q6c
  show OE p e below _ T6 (mkF m 52 #[.val (.int p0), .val (.int p1), .val (.int p2), .val (.int (p2 &&& (3 : Int32))), .val (.int ((XT.ushr p2 (2 : Int32)) &&& (3 : Int32))), .val (.ref ns), .val (.ref tb), .val (.ref r)] [(.int (Int32.ofNat ((na ++ (46 : Int32) :: nb)).length))])
  have M6 := Fr.app M5 N6
  refine s_iloadN X6 hx hby (n := 53) (x := (p2 &&& (3 : Int32))) at_52 rfl rfl ?_
  refine s_iconst X6 hx hby (n := 54) (v := (1 : Int32)) at_53 rfl rfl ?_
  refine s_iadd X6 hx hby (n := 55) at_54 rfl ?_
  refine s_iload X6 hx hby (n := 57) (x := ((XT.ushr p2 (2 : Int32)) &&& (3 : Int32))) at_55 rfl rfl ?_
  refine s_iadd X6 hx hby (n := 58) at_57 rfl ?_
  refine s_icmpY X6 hx hby (n := 63) at_58 (XT.ii_eq_t (by rw [← hl_ns, ← hl_tb, show (1 : Int32) = Int32.ofNat 1 from rfl, add32, add32, List.length_append, List.length_cons]; congr 1; omega)) (by decide) (by decide) ?_
  refine s_aload X6 hx hby (n := 65) (x := (.ref r)) at_63 rfl rfl rfl ?_
  refine s_aload X6 hx hby (n := 67) (x := (.ref ns)) at_65 rfl rfl rfl ?_
  refine s_aload X6 hx hby (n := 69) (x := (.ref tb)) at_67 rfl rfl rfl ?_
  refine s_iconst X6 hx hby (n := 70) (v := (0 : Int32)) at_69 rfl rfl ?_
  refine s_callS X6 hx hby hml hZ (n := 73) hown (hw _ (List.mem_of_getElem? (i := 170) rfl)) (hw _ (List.mem_of_getElem? (i := 171) rfl)) (hw _ (List.mem_of_getElem? (i := 2) rfl)) (hw _ (List.mem_of_getElem? (i := 172) rfl)) (by decide) (rmAt l Z a0 hw z0 hz0 Sz0 fm hfm Sfm r ns tb na nb 0 T5.heap n0 OO5 Sr Sns4 Stb4 lt_ns lt_tb (by decide)) e6 (by decide) 0 (by decide) (by decide) (by decide) pd_31 [(.ref r), (.ref ns), (.ref tb), (.int (0 : Int32))] [] rfl rfl rfl (Nat.le_of_eq rfl) rfl at_70 rfl ?_
  intro T7 L7 v7 X7 q7c
  obtain ⟨rfl, e7, N7⟩ := q7c
  show OE p e below _ T7 (mkF m 73 #[.val (.int p0), .val (.int p1), .val (.int p2), .val (.int (p2 &&& (3 : Int32))), .val (.int ((XT.ushr p2 (2 : Int32)) &&& (3 : Int32))), .val (.ref ns), .val (.ref tb), .val (.ref r)] [(.int (1 : Int32))])
  have M7 := Fr.app M6 N7
  refine s_ifN X7 hx hby (n := 76) at_73 (by decide) rfl ?_
  refine s_aload X7 hx hby (n := 78) (x := (.ref r)) at_76 rfl rfl rfl ?_
  refine s_aload X7 hx hby (n := 80) (x := (.ref ns)) at_78 rfl rfl rfl ?_
  refine s_aload X7 hx hby (n := 82) (x := (.ref tb)) at_80 rfl rfl rfl ?_
  refine s_iconst X7 hx hby (n := 83) (v := (1 : Int32)) at_82 rfl rfl ?_
  refine s_callS X7 hx hby hml hZ (n := 86) hown (hw _ (List.mem_of_getElem? (i := 170) rfl)) (hw _ (List.mem_of_getElem? (i := 171) rfl)) (hw _ (List.mem_of_getElem? (i := 2) rfl)) (hw _ (List.mem_of_getElem? (i := 172) rfl)) (by decide) (rmAt l Z a0 hw z0 hz0 Sz0 fm hfm Sfm r ns tb na nb 1 T5.heap n0 OO5 Sr Sns4 Stb4 lt_ns lt_tb (by decide)) e7 (by decide) 0 (by decide) (by decide) (by decide) pd_31 [(.ref r), (.ref ns), (.ref tb), (.int (1 : Int32))] [] rfl rfl rfl (Nat.le_of_eq rfl) rfl at_83 rfl ?_
  intro T8 L8 v8 X8 q8c
  obtain ⟨rfl, e8, N8⟩ := q8c
  show OE p e below _ T8 (mkF m 86 #[.val (.int p0), .val (.int p1), .val (.int p2), .val (.int (p2 &&& (3 : Int32))), .val (.int ((XT.ushr p2 (2 : Int32)) &&& (3 : Int32))), .val (.ref ns), .val (.ref tb), .val (.ref r)] [(.int (1 : Int32))])
  have M8 := Fr.app M7 N8
  refine s_ifN X8 hx hby (n := 89) at_86 (by decide) rfl ?_
  refine s_aload X8 hx hby (n := 91) (x := (.ref r)) at_89 rfl rfl rfl ?_
  refine s_aload X8 hx hby (n := 93) (x := (.ref ns)) at_91 rfl rfl rfl ?_
  refine s_aload X8 hx hby (n := 95) (x := (.ref tb)) at_93 rfl rfl rfl ?_
  refine s_iconst X8 hx hby (n := 96) (v := (2 : Int32)) at_95 rfl rfl ?_
  refine s_callS X8 hx hby hml hZ (n := 99) hown (hw _ (List.mem_of_getElem? (i := 170) rfl)) (hw _ (List.mem_of_getElem? (i := 171) rfl)) (hw _ (List.mem_of_getElem? (i := 2) rfl)) (hw _ (List.mem_of_getElem? (i := 172) rfl)) (by decide) (rmAt l Z a0 hw z0 hz0 Sz0 fm hfm Sfm r ns tb na nb 2 T5.heap n0 OO5 Sr Sns4 Stb4 lt_ns lt_tb (by decide)) e8 (by decide) 0 (by decide) (by decide) (by decide) pd_31 [(.ref r), (.ref ns), (.ref tb), (.int (2 : Int32))] [] rfl rfl rfl (Nat.le_of_eq rfl) rfl at_96 rfl ?_
  intro T9 L9 v9 X9 q9c
  obtain ⟨rfl, e9, N9⟩ := q9c
  show OE p e below _ T9 (mkF m 99 #[.val (.int p0), .val (.int p1), .val (.int p2), .val (.int (p2 &&& (3 : Int32))), .val (.int ((XT.ushr p2 (2 : Int32)) &&& (3 : Int32))), .val (.ref ns), .val (.ref tb), .val (.ref r)] [(.int (1 : Int32))])
  have M9 := Fr.app M8 N9
  refine s_ifN X9 hx hby (n := 102) at_99 (by decide) rfl ?_
  refine s_aload X9 hx hby (n := 104) (x := (.ref r)) at_102 rfl rfl rfl ?_
  refine s_aload X9 hx hby (n := 106) (x := (.ref ns)) at_104 rfl rfl rfl ?_
  refine s_aload X9 hx hby (n := 108) (x := (.ref tb)) at_106 rfl rfl rfl ?_
  refine s_iconst X9 hx hby (n := 109) (v := (3 : Int32)) at_108 rfl rfl ?_
  refine s_callS X9 hx hby hml hZ (n := 112) hown (hw _ (List.mem_of_getElem? (i := 170) rfl)) (hw _ (List.mem_of_getElem? (i := 171) rfl)) (hw _ (List.mem_of_getElem? (i := 2) rfl)) (hw _ (List.mem_of_getElem? (i := 172) rfl)) (by decide) (rmAt l Z a0 hw z0 hz0 Sz0 fm hfm Sfm r ns tb na nb 3 T5.heap n0 OO5 Sr Sns4 Stb4 lt_ns lt_tb (by decide)) e9 (by decide) 0 (by decide) (by decide) (by decide) pd_31 [(.ref r), (.ref ns), (.ref tb), (.int (3 : Int32))] [] rfl rfl rfl (Nat.le_of_eq rfl) rfl at_109 rfl ?_
  intro T10 L10 v10 X10 q10c
  obtain ⟨rfl, e10, N10⟩ := q10c
  show OE p e below _ T10 (mkF m 112 #[.val (.int p0), .val (.int p1), .val (.int p2), .val (.int (p2 &&& (3 : Int32))), .val (.int ((XT.ushr p2 (2 : Int32)) &&& (3 : Int32))), .val (.ref ns), .val (.ref tb), .val (.ref r)] [(.int (1 : Int32))])
  have M10 := Fr.app M9 N10
  refine s_ifN X10 hx hby (n := 115) at_112 (by decide) rfl ?_
  refine s_aload X10 hx hby (n := 117) (x := (.ref r)) at_115 rfl rfl rfl ?_
  refine s_aload X10 hx hby (n := 119) (x := (.ref ns)) at_117 rfl rfl rfl ?_
  refine s_aload X10 hx hby (n := 121) (x := (.ref tb)) at_119 rfl rfl rfl ?_
  refine s_iconst X10 hx hby (n := 122) (v := (4 : Int32)) at_121 rfl rfl ?_
  refine s_callS X10 hx hby hml hZ (n := 125) hown (hw _ (List.mem_of_getElem? (i := 170) rfl)) (hw _ (List.mem_of_getElem? (i := 171) rfl)) (hw _ (List.mem_of_getElem? (i := 2) rfl)) (hw _ (List.mem_of_getElem? (i := 172) rfl)) (by decide) (rmAt l Z a0 hw z0 hz0 Sz0 fm hfm Sfm r ns tb na nb 4 T5.heap n0 OO5 Sr Sns4 Stb4 lt_ns lt_tb (by decide)) e10 (by decide) 0 (by decide) (by decide) (by decide) pd_31 [(.ref r), (.ref ns), (.ref tb), (.int (4 : Int32))] [] rfl rfl rfl (Nat.le_of_eq rfl) rfl at_122 rfl ?_
  intro T11 L11 v11 X11 q11c
  obtain ⟨rfl, e11, N11⟩ := q11c
  show OE p e below _ T11 (mkF m 125 #[.val (.int p0), .val (.int p1), .val (.int p2), .val (.int (p2 &&& (3 : Int32))), .val (.int ((XT.ushr p2 (2 : Int32)) &&& (3 : Int32))), .val (.ref ns), .val (.ref tb), .val (.ref r)] [(.int (1 : Int32))])
  have M11 := Fr.app M10 N11
  refine s_ifN X11 hx hby (n := 128) at_125 (by decide) rfl ?_
  refine s_aload X11 hx hby (n := 130) (x := (.ref r)) at_128 rfl rfl rfl ?_
  refine s_aload X11 hx hby (n := 132) (x := (.ref ns)) at_130 rfl rfl rfl ?_
  refine s_aload X11 hx hby (n := 134) (x := (.ref tb)) at_132 rfl rfl rfl ?_
  refine s_iconst X11 hx hby (n := 135) (v := (5 : Int32)) at_134 rfl rfl ?_
  refine s_callS X11 hx hby hml hZ (n := 138) hown (hw _ (List.mem_of_getElem? (i := 170) rfl)) (hw _ (List.mem_of_getElem? (i := 171) rfl)) (hw _ (List.mem_of_getElem? (i := 2) rfl)) (hw _ (List.mem_of_getElem? (i := 172) rfl)) (by decide) (rmAt l Z a0 hw z0 hz0 Sz0 fm hfm Sfm r ns tb na nb 5 T5.heap n0 OO5 Sr Sns4 Stb4 lt_ns lt_tb (by decide)) e11 (by decide) 0 (by decide) (by decide) (by decide) pd_31 [(.ref r), (.ref ns), (.ref tb), (.int (5 : Int32))] [] rfl rfl rfl (Nat.le_of_eq rfl) rfl at_135 rfl ?_
  intro T12 L12 v12 X12 q12c
  obtain ⟨rfl, e12, N12⟩ := q12c
  show OE p e below _ T12 (mkF m 138 #[.val (.int p0), .val (.int p1), .val (.int p2), .val (.int (p2 &&& (3 : Int32))), .val (.int ((XT.ushr p2 (2 : Int32)) &&& (3 : Int32))), .val (.ref ns), .val (.ref tb), .val (.ref r)] [(.int (1 : Int32))])
  have M12 := Fr.app M11 N12
  refine s_ifN X12 hx hby (n := 141) at_138 (by decide) rfl ?_
  refine s_aload X12 hx hby (n := 143) (x := (.ref r)) at_141 rfl rfl rfl ?_
  refine s_aload X12 hx hby (n := 145) (x := (.ref ns)) at_143 rfl rfl rfl ?_
  refine s_aload X12 hx hby (n := 147) (x := (.ref tb)) at_145 rfl rfl rfl ?_
  refine s_bipush X12 hx hby (n := 149) (v := (6 : Int32)) at_147 rfl rfl ?_
  refine s_callS X12 hx hby hml hZ (n := 152) hown (hw _ (List.mem_of_getElem? (i := 170) rfl)) (hw _ (List.mem_of_getElem? (i := 171) rfl)) (hw _ (List.mem_of_getElem? (i := 2) rfl)) (hw _ (List.mem_of_getElem? (i := 172) rfl)) (by decide) (rmAt l Z a0 hw z0 hz0 Sz0 fm hfm Sfm r ns tb na nb 6 T5.heap n0 OO5 Sr Sns4 Stb4 lt_ns lt_tb (by decide)) e12 (by decide) 0 (by decide) (by decide) (by decide) pd_31 [(.ref r), (.ref ns), (.ref tb), (.int (6 : Int32))] [] rfl rfl rfl (Nat.le_of_eq rfl) rfl at_149 rfl ?_
  intro T13 L13 v13 X13 q13c
  obtain ⟨rfl, e13, N13⟩ := q13c
  show OE p e below _ T13 (mkF m 152 #[.val (.int p0), .val (.int p1), .val (.int p2), .val (.int (p2 &&& (3 : Int32))), .val (.int ((XT.ushr p2 (2 : Int32)) &&& (3 : Int32))), .val (.ref ns), .val (.ref tb), .val (.ref r)] [(.int (1 : Int32))])
  have M13 := Fr.app M12 N13
  refine s_ifN X13 hx hby (n := 155) at_152 (by decide) rfl ?_
  refine s_iconst X13 hx hby (n := 156) (v := (1 : Int32)) at_155 rfl rfl ?_
  refine s_goto X13 hx hby (n := 160) at_156 (by decide) (by decide) ?_
  exact v_retN X13 hx hby hlk hret (t := .boolean) (by simp) (z' := (1 : Int32)) (by decide) at_160 hS5 (by rw [e13]; exact hkE) (by decide) (by decide) ⟨rfl, M13⟩
theorem own_nz {Z : State} {args : Array Value} {t : Term} {z : Int32} (ev : t.eval args Z none [] Z = some (.int z)) (h : (Jvm.Cond.not (.eq t (.int 0))).value args Z none Z [] = some true) : ¬ z = (0 : Int32) := by
  have q := not_v h
  intro e; subst e
  simp [Cond.value, ev, Term.int_eval] at q
set_option maxRecDepth 65536 in
set_option maxHeartbeats 40000000 in
theorem comes_1 {Post : Tables → Env → Array Value → State → Outcome → State → Prop} (hpost : ∀ tb e args s v u, (limb_1_1.after args s (.returned v) u = true ∧ limb_1_2.after args s (.returned v) u = true ∧ True) → ReturnedEndW s (.returned v) u (Jvm.fieldLocs frame_1_writes args s ++ Jvm.arrayLocs frame_1_arrays args s ++ Jvm.staticLocs frame_1_statics s) room_1.cells room_1.slots → Post tb e args s (.returned v) u) :
    ArmFor flags0 classFile x code maxLocals ret World_1 tables_1 room_1 Calls_1 rest_1 Pre_1 Post := by
  intro l hfl _ _ p e ha hc hk s m args below hf hA hF happ hP
  obtain ⟨hcalls, hrest, hpre⟩ := hP
  obtain ⟨-, -, -, hnamed, -, -, -, hat⟩ := (Spec.applies_iff hf).mp happ
  obtain ⟨hg, hn⟩ := and_e (Cond.before_iff.mp (show (Jvm.Cond.and given_1 narrow_1).before args s = true from hpre))
  obtain ⟨hcount, g0⟩ := and_e hg
  obtain ⟨q0, g1⟩ := and_e g0
  obtain ⟨q1, g2⟩ := and_e g1
  obtain ⟨w0, w1, w2, rfl⟩ : ∃ w0 w1 w2 : Value, args = #[w0, w1, w2] := by
    have hs : args.size = 3 := by simpa [Cond.value, given_1] using hcount
    obtain ⟨L⟩ := args
    match L, hs with
    | [w0, w1, w2], _ => exact ⟨w0, w1, w2, rfl⟩
  have hw := fun d (hd : d ∈ tables_1) => atoms_spec (ws := Jvm.Cond.code x code maxLocals ret :: tables_1) hat d (List.mem_cons_of_mem _ hd)
  have hfit : Fit s := fun {y c} hc i hi => by
    obtain ⟨ha, rfl⟩ := Array.getElem?_eq_some_iff.mp hc
    have q := List.all_eq_true.mp ((Array.all_eq_true_iff_forall_mem.mp hF) _ (Array.getElem_mem ha)) i (List.mem_range.mpr hi)
    simpa [Array.getElem?_eq_getElem hi] using q
  obtain ⟨i0, r0⟩ := is_v q0
  obtain rfl : w0 = (.int i0) := Option.some.inj r0
  obtain ⟨i1, r1⟩ := is_v q1
  obtain rfl : w1 = (.int i1) := Option.some.inj r1
  obtain ⟨i2, r2⟩ := is_v g2
  obtain rfl : w2 = (.int i2) := Option.some.inj r2
  have hsets := (atoms_of jdkStatics_1 (show (jdkStatics_1.foldr Jvm.Cond.and restOwn_1).before _ s = true from hrest)).1
  obtain ⟨z0, ev0⟩ := is_v (Cond.before_iff.mp (hsets _ (List.mem_of_getElem? (i := 1) rfl)))
  have Sz0 := Sta.start ev0 (Or.inl (hsets _ (List.mem_of_getElem? (i := 0) rfl)))
  have hcw := hsets _ (List.mem_of_getElem? (i := 2) rfl)
  have hz0 : ¬ z0 = (0 : Int32) := own_nz ev0 (Cond.before_iff.mp hcw)
  obtain ⟨fm, evf, hfm⟩ := isR_v (Cond.before_iff.mp (hsets _ (List.mem_of_getElem? (i := 8) rfl)))
  have Sfm := Sta.start evf (Or.inl (hsets _ (List.mem_of_getElem? (i := 7) rfl)))
  have hh7 : Jvm.Lit.constHeld s "com/example/floe/floe/TableNameToStringPinLaw" 7 := hcalls.1 ("com/example/floe/floe/TableNameToStringPinLaw", 7) (List.mem_of_getElem? (i := 1) rfl)
  have hh82 : Jvm.Lit.constHeld s "com/example/floe/floe/TableName" 82 := hcalls.1 ("com/example/floe/floe/TableName", 82) (List.mem_of_getElem? (i := 0) rfl)
  obtain ⟨n, o, h1, h2, h3, _, L, rfl, ⟨rfl, N⟩, hq⟩ := rm0 l s _ hw z0 hz0 Sz0 fm hfm Sfm i0 i1 i2 s.heap s.heap.size (Oln.start s) hh7 hh82 hcw p e ha hc hk s m _ below hf ((Spec.applies_iff_loose hf).mp happ).1 ⟨rfl, State.Warmed39.refl s, rfl, IB.start⟩ trivial
  refine ⟨n, _, h1, h2, h3, hpost _ _ _ _ _ _ ⟨Cond.after_iff.mpr rfl, Cond.after_iff.mpr (eq_i res_at (Term.int_eval (1)) rfl), trivial⟩ ⟨hq.1, hq.2.1, hq.2.2.1, (hq.2.2.2.sift fun y hy => Or.inr (N y hy)).mono (by decide) (by decide)⟩⟩
theorem main_1_1 : Claimed_1_1 := comes_1 fun _ _ _ _ _ _ h hF => ⟨h.1, hF⟩
theorem main_1_2 : Claimed_1_2 := comes_1 fun _ _ _ _ _ _ h hF => ⟨h.2.1, hF⟩
end Jvm.Pilot.@@N@@
namespace Jvm.Pilot.@@N@@
open Jvm Jvm.ClassFile Sem Op Lib Jvm.Free Jvm.Stand Jvm.Pilot.@@N@@.Jvm.D
/-! MADE BY PROGRAM (witnessworld.py) out of the Statement's table words and the real class files: 27 classes; the members and pool entries that the words name. The judged class is class 1, her method 3. -/
namespace start1
open Jvm.ClassFile
def u (s : String) : CpInfo := .utf8 (stringToUtf16 s)
/-- a pool by its gaps: so many unusable entries, then the entry; so many at the end -/
def gap : Nat → List CpInfo → List CpInfo
  | 0, r => r
  | n + 1, r => .unusable :: gap n r
def poolList (es : List (Nat × CpInfo)) (last : Nat) : List CpInfo := es.foldr (fun e r => gap e.1 (e.2 :: r)) (gap last [])
def pool (es : List (Nat × CpInfo)) (last : Nat) : Array CpInfo := ⟨poolList es last⟩
def fileOf (pool : Array CpInfo) (this : Nat) (attrs : Array Attribute := #[]) (ms : Array MethodInfo := #[]) (fl : Nat := 33) (sup : Nat := 0) (ifs : Array Nat := #[]) (fds : Array FieldInfo := #[]) : ClassFile where
  minorVersion := 0
  majorVersion := 65
  constantPool := pool
  accessFlags := fl
  thisClass := this
  superClass := sup
  interfaces := ifs
  fields := fds
  methods := ms
  attributes := attrs
def plain (name : String) (sup : Option ClassId) : Class where
  name := name
  kind := .ordinary
  loader := none
  accessFlags := 33
  super := sup
  interfaces := #[]
  cf := none
  fields := #[]
  methods := #[]
  instanceTypes := #[]
  staticTypes := #[]
  resolved := #[]
  callSites := []
  init := .initialized
  statics := none
  mirror := none

def pool0 : Array CpInfo := pool [(5, u "<init>"), (0, u "()V"), (1, .class_ 10), (1, u "java/lang/Object")] 113

def k0c0 : Code := { maxStack := 0, maxLocals := 1, code := object_method_1_code, exceptionTable := #[], attributes := #[] }
def k0m0 : Method := { name := "<init>", desc := "()V", sig := { parameters := [], returnType := none }, accessFlags := 1, code := some k0c0 }
/-- java/lang/Object -/
def k0 : Class := { plain "java/lang/Object" none with
  accessFlags := 33
  interfaces := #[]
  cf := some (fileOf pool0 8 #[] #[{ accessFlags := 1, nameIndex := 5, descriptorIndex := 6, attributes := #[] }] 33 0 #[] #[])
  fields := #[]
  methods := #[k0m0]
  instanceTypes := #[]
  staticTypes := #[]
  resolved := Array.replicate 124 none
  statics := none }

def pool1 : Array CpInfo := pool [(2, .class_ 4), (1, u "java/lang/Object"), (0, u "<init>"), (0, u "()V"), (0, .string 8), (0, u ""), (0, .methodref 10 11), (0, .class_ 12), (0, .nameAndType 13 14), (0, u "java/lang/String"), (0, u "valueOf"), (0, u "(C)Ljava/lang/String;"), (0, .methodref 10 16), (0, .nameAndType 5 17), (0, u "([C)V"), (0, .methodref 10 19), (0, .nameAndType 20 21), (0, u "length"), (0, u "()I"), (0, .methodref 10 23), (0, .nameAndType 24 25), (0, u "charAt"), (0, u "(I)C"), (0, .methodref 27 28), (0, .class_ 29), (0, .nameAndType 30 31), (0, u "com/example/floe/floe/TableNameToStringPinLaw"), (0, u "make"), (0, u "(II)Ljava/lang/String;"), (0, .class_ 33), (0, u "com/example/floe/floe/TableName"), (0, .methodref 32 35), (0, .nameAndType 5 36), (0, u "(Ljava/lang/String;Ljava/lang/String;)V"), (0, .methodref 32 38), (0, .nameAndType 39 40), (0, u "toString"), (0, u "()Ljava/lang/String;"), (0, .methodref 27 42), (0, .nameAndType 43 44), (0, u "at"), (0, u "(Ljava/lang/String;Ljava/lang/String;Ljava/lang/String;I)Z"), (3, u "law"), (0, u "(III)Z")] 2

def k1m0 : Method := { name := "<init>", desc := "()V", sig := { parameters := [], returnType := none }, accessFlags := 1, code := none }
def k1c1 : Code := { maxStack := 6, maxLocals := 5, code := method_2_code, exceptionTable := #[], attributes := #[] }
def k1m1 : Method := { name := "make", desc := "(II)Ljava/lang/String;", sig := { parameters := [.int, .int], returnType := some (.object "java/lang/String") }, accessFlags := 10, code := some k1c1 }
def k1c2 : Code := { maxStack := 3, maxLocals := 7, code := method_3_code, exceptionTable := #[], attributes := #[] }
def k1m2 : Method := { name := "at", desc := "(Ljava/lang/String;Ljava/lang/String;Ljava/lang/String;I)Z", sig := { parameters := [(.object "java/lang/String"), (.object "java/lang/String"), (.object "java/lang/String"), .int], returnType := some .boolean }, accessFlags := 10, code := some k1c2 }
def k1c3 : Code := { maxStack := 4, maxLocals := 8, code := code, exceptionTable := #[], attributes := #[] }
def k1m3 : Method := { name := "law", desc := "(III)Z", sig := { parameters := [.int, .int, .int], returnType := some .boolean }, accessFlags := 9, code := some k1c3 }
/-- com/example/floe/floe/TableNameToStringPinLaw -/
def k1 : Class := { plain "com/example/floe/floe/TableNameToStringPinLaw" (some 0) with
  accessFlags := 49
  interfaces := #[]
  cf := some (fileOf pool1 27 #[] #[{ accessFlags := 1, nameIndex := 5, descriptorIndex := 6, attributes := #[] }, { accessFlags := 10, nameIndex := 30, descriptorIndex := 31, attributes := #[] }, { accessFlags := 10, nameIndex := 43, descriptorIndex := 44, attributes := #[] }, { accessFlags := 9, nameIndex := 48, descriptorIndex := 49, attributes := #[] }] 49 2 #[] #[])
  fields := #[]
  methods := #[k1m0, k1m1, k1m2, k1m3]
  instanceTypes := #[]
  staticTypes := #[]
  resolved := Array.replicate 52 none
  statics := none }

def pool2 : Array CpInfo := pool [(1, .class_ 2), (0, u "java/io/Serializable"), (0, .class_ 4), (0, u "java/lang/Object")] 2

/-- java/io/Serializable -/
def k2 : Class := { plain "java/io/Serializable" (some 0) with
  accessFlags := 1537
  interfaces := #[]
  cf := some (fileOf pool2 1 #[] #[] 1537 3 #[] #[])
  fields := #[]
  methods := #[]
  instanceTypes := #[]
  staticTypes := #[]
  resolved := Array.replicate 7 none
  statics := none }

def pool3 : Array CpInfo := pool [(1, .class_ 2), (0, u "java/lang/Comparable"), (0, .class_ 4), (0, u "java/lang/Object")] 7

/-- java/lang/Comparable -/
def k3 : Class := { plain "java/lang/Comparable" (some 0) with
  accessFlags := 1537
  interfaces := #[]
  cf := some (fileOf pool3 1 #[] #[] 1537 3 #[] #[])
  fields := #[]
  methods := #[]
  instanceTypes := #[]
  staticTypes := #[]
  resolved := Array.replicate 12 none
  statics := none }

def pool4 : Array CpInfo := pool [(2, .class_ 4), (1, u "java/lang/CharSequence"), (42, .class_ 48), (0, u "java/lang/CharSequence$1CodePointIterator"), (10, .class_ 60), (0, u "java/lang/CharSequence$1CharIterator"), (5, .class_ 67), (0, u "java/lang/Object")] 63

/-- java/lang/CharSequence -/
def k4 : Class := { plain "java/lang/CharSequence" (some 0) with
  accessFlags := 1537
  interfaces := #[]
  cf := some (fileOf pool4 2 #[.nestMembers #[47, 59]] #[] 1537 66 #[] #[])
  fields := #[]
  methods := #[]
  instanceTypes := #[]
  staticTypes := #[]
  resolved := Array.replicate 131 none
  statics := none }

def pool5 : Array CpInfo := pool [(1, .class_ 2), (0, u "java/lang/constant/Constable"), (0, .class_ 4), (0, u "java/lang/Object")] 6

/-- java/lang/constant/Constable -/
def k5 : Class := { plain "java/lang/constant/Constable" (some 0) with
  accessFlags := 1537
  interfaces := #[]
  cf := some (fileOf pool5 1 #[] #[] 1537 3 #[] #[])
  fields := #[]
  methods := #[]
  instanceTypes := #[]
  staticTypes := #[]
  resolved := Array.replicate 11 none
  statics := none }

def pool6 : Array CpInfo := pool [(1, .class_ 2), (0, u "java/lang/constant/ConstantDesc"), (0, .class_ 4), (0, u "java/lang/Object")] 32

/-- java/lang/constant/ConstantDesc -/
def k6 : Class := { plain "java/lang/constant/ConstantDesc" (some 0) with
  accessFlags := 1537
  interfaces := #[]
  cf := some (fileOf pool6 1 #[] #[] 1537 3 #[] #[])
  fields := #[]
  methods := #[]
  instanceTypes := #[]
  staticTypes := #[]
  resolved := Array.replicate 37 none
  statics := none }

def pool7 : Array CpInfo := pool [(1, .methodref 2 3), (0, .class_ 4), (0, .nameAndType 5 6), (0, u "java/lang/Object"), (0, u "<init>"), (0, u "()V"), (2, .fieldref 10 11), (0, .class_ 12), (0, .nameAndType 13 14), (0, u "java/lang/String"), (0, u "value"), (0, u "[B"), (0, .fieldref 10 16), (0, .nameAndType 17 18), (0, u "coder"), (0, u "B"), (2, u "hash"), (0, u "I"), (2, u "hashIsZero"), (0, u "Z"), (0, .methodref 10 28), (0, .nameAndType 5 29), (0, u "([CIILjava/lang/Void;)V"), (8, .fieldref 10 39), (0, .nameAndType 40 26), (0, u "COMPACT_STRINGS"), (1, .class_ 44), (1, u "java/lang/StringUTF16"), (0, u "compress"), (1, .methodref 42 48), (0, .nameAndType 49 50), (0, u "coderFromArrayLen"), (0, u "([BI)B"), (2, u "toBytes"), (0, .methodref 55 56), (0, .class_ 57), (0, .nameAndType 58 59), (0, u "java/util/Arrays"), (0, u "copyOfRange"), (0, u "([BII)[B"), (47, .class_ 109), (1, u "java/lang/StringLatin1"), (32, u "()Z"), (34, .methodref 42 178), (0, .nameAndType 45 179), (0, u "([CII)[B"), (13, .class_ 195), (1, u "java/lang/System"), (13, .methodref 10 210), (0, .nameAndType 5 211), (0, u "([BB)V"), (0, .methodref 193 213), (0, .nameAndType 214 215), (0, u "arraycopy"), (0, u "(Ljava/lang/Object;ILjava/lang/Object;II)V"), (118, u "()I"), (0, .methodref 10 336), (0, .nameAndType 17 337), (0, u "()B"), (2, u "()[B"), (22, u "([BI)C"), (5, u "(C)Z"), (21, u "(II)V"), (35, u "(I)C"), (61, .methodref 10 490), (0, .nameAndType 5 491), (0, u "(Ljava/lang/AbstractStringBuilder;Ljava/lang/Void;)V"), (0, .methodref 10 493), (0, .nameAndType 494 142), (0, u "isLatin1"), (0, .methodref 107 496), (0, .nameAndType 497 363), (0, u "charAt"), (3, u "checkIndex"), (4, .nameAndType 507 334), (0, u "length"), (24, u "getBytes"), (16, .methodref 550 506), (0, .class_ 551), (0, u "java/lang/AbstractStringBuilder"), (0, .methodref 550 553), (0, .nameAndType 554 340), (0, u "getValue"), (20, .class_ 576), (0, u "java/lang/CharSequence"), (22, u "CASE_INSENSITIVE_ORDER"), (0, u "Ljava/util/Comparator;"), (181, u "valueOf"), (0, u "(C)Ljava/lang/String;"), (37, u "([BIB)V"), (188, u "([C)V"), (4, .methodref 107 1016), (0, .nameAndType 1017 369), (0, u "canEncode"), (0, .methodref 107 1019), (0, .nameAndType 53 1020), (0, u "(C)[B"), (26, .methodref 550 493), (5, .fieldref 1054 1055), (0, .class_ 1056), (0, .nameAndType 1057 1058), (0, u "jdk/internal/util/Preconditions"), (0, u "SIOOBE_FORMATTER"), (0, u "Ljava/util/function/BiFunction;"), (0, .methodref 1054 1060), (0, .nameAndType 501 1061), (0, u "(IILjava/util/function/BiFunction;)I"), (39, u "serialPersistentFields"), (0, u "[Ljava/io/ObjectStreamField;"), (0, .class_ 1104), (0, u "java/lang/String$CaseInsensitiveComparator"), (1, .class_ 1107), (0, u "java/io/Serializable"), (0, .class_ 1109), (0, u "java/lang/Comparable"), (0, .class_ 1111), (0, u "java/lang/constant/Constable"), (0, .class_ 1113), (0, u "java/lang/constant/ConstantDesc"), (2, u "serialVersionUID"), (0, u "J"), (3, u "REPL"), (0, u "C"), (2, u "LATIN1"), (1, u "UTF16"), (105, u "(Ljava/lang/StringBuilder;)V")] 217

def k7m0 : Method := { name := "<init>", desc := "()V", sig := { parameters := [], returnType := none }, accessFlags := 1, code := none }
def k7c1 : Code := { maxStack := 5, maxLocals := 2, code := jdk_42_method_3_code, exceptionTable := #[], attributes := #[] }
def k7m1 : Method := { name := "<init>", desc := "([C)V", sig := { parameters := [(.array .char)], returnType := none }, accessFlags := 1, code := some k7c1 }
def k7c2 : Code := { maxStack := 3, maxLocals := 2, code := jdk_42_method_53_code, exceptionTable := #[], attributes := #[] }
def k7m2 : Method := { name := "<init>", desc := "(Ljava/lang/StringBuilder;)V", sig := { parameters := [(.object "java/lang/StringBuilder")], returnType := none }, accessFlags := 1, code := some k7c2 }
def k7c3 : Code := { maxStack := 2, maxLocals := 1, code := jdk_42_method_54_code, exceptionTable := #[], attributes := #[] }
def k7m3 : Method := { name := "length", desc := "()I", sig := { parameters := [], returnType := some .int }, accessFlags := 1, code := some k7c3 }
def k7c4 : Code := { maxStack := 2, maxLocals := 2, code := jdk_42_method_56_code, exceptionTable := #[], attributes := #[] }
def k7m4 : Method := { name := "charAt", desc := "(I)C", sig := { parameters := [.int], returnType := some .char }, accessFlags := 1, code := some k7c4 }
def k7c5 : Code := { maxStack := 4, maxLocals := 1, code := jdk_42_method_139_code, exceptionTable := #[], attributes := #[] }
def k7m5 : Method := { name := "valueOf", desc := "(C)Ljava/lang/String;", sig := { parameters := [.char], returnType := some (.object "java/lang/String") }, accessFlags := 9, code := some k7c5 }
def k7c6 : Code := { maxStack := 5, maxLocals := 4, code := jdk_42_method_147_code, exceptionTable := #[], attributes := #[] }
def k7m6 : Method := { name := "getBytes", desc := "([BIB)V", sig := { parameters := [(.array .byte), .int, .byte], returnType := none }, accessFlags := 0, code := some k7c6 }
def k7c7 : Code := { maxStack := 4, maxLocals := 6, code := jdk_42_method_149_code, exceptionTable := #[], attributes := #[] }
def k7m7 : Method := { name := "<init>", desc := "([CIILjava/lang/Void;)V", sig := { parameters := [(.array .char), .int, .int, (.object "java/lang/Void")], returnType := none }, accessFlags := 2, code := some k7c7 }
def k7c8 : Code := { maxStack := 5, maxLocals := 5, code := jdk_42_method_150_code, exceptionTable := #[], attributes := #[] }
def k7m8 : Method := { name := "<init>", desc := "(Ljava/lang/AbstractStringBuilder;Ljava/lang/Void;)V", sig := { parameters := [(.object "java/lang/AbstractStringBuilder"), (.object "java/lang/Void")], returnType := none }, accessFlags := 0, code := some k7c8 }
def k7c9 : Code := { maxStack := 2, maxLocals := 3, code := jdk_42_method_151_code, exceptionTable := #[], attributes := #[] }
def k7m9 : Method := { name := "<init>", desc := "([BB)V", sig := { parameters := [(.array .byte), .byte], returnType := none }, accessFlags := 0, code := some k7c9 }
def k7c10 : Code := { maxStack := 1, maxLocals := 1, code := jdk_42_method_152_code, exceptionTable := #[], attributes := #[] }
def k7m10 : Method := { name := "coder", desc := "()B", sig := { parameters := [], returnType := some .byte }, accessFlags := 0, code := some k7c10 }
def k7c11 : Code := { maxStack := 1, maxLocals := 1, code := jdk_42_method_154_code, exceptionTable := #[], attributes := #[] }
def k7m11 : Method := { name := "isLatin1", desc := "()Z", sig := { parameters := [], returnType := some .boolean }, accessFlags := 0, code := some k7c11 }
def k7c12 : Code := { maxStack := 3, maxLocals := 2, code := jdk_42_method_155_code, exceptionTable := #[], attributes := #[] }
def k7m12 : Method := { name := "checkIndex", desc := "(II)V", sig := { parameters := [.int, .int], returnType := none }, accessFlags := 8, code := some k7c12 }
/-- java/lang/String -/
def k7 : Class := { plain "java/lang/String" (some 0) with
  accessFlags := 49
  interfaces := #[2, 3, 4, 5, 6]
  cf := some (fileOf pool7 10 #[.nestMembers #[1103]] #[{ accessFlags := 1, nameIndex := 5, descriptorIndex := 6, attributes := #[] }, { accessFlags := 1, nameIndex := 5, descriptorIndex := 1010, attributes := #[] }, { accessFlags := 1, nameIndex := 5, descriptorIndex := 1233, attributes := #[] }, { accessFlags := 1, nameIndex := 507, descriptorIndex := 334, attributes := #[] }, { accessFlags := 1, nameIndex := 497, descriptorIndex := 427, attributes := #[] }, { accessFlags := 9, nameIndex := 782, descriptorIndex := 783, attributes := #[] }, { accessFlags := 0, nameIndex := 532, descriptorIndex := 821, attributes := #[] }, { accessFlags := 2, nameIndex := 5, descriptorIndex := 29, attributes := #[] }, { accessFlags := 0, nameIndex := 5, descriptorIndex := 491, attributes := #[] }, { accessFlags := 0, nameIndex := 5, descriptorIndex := 211, attributes := #[] }, { accessFlags := 0, nameIndex := 17, descriptorIndex := 337, attributes := #[] }, { accessFlags := 0, nameIndex := 494, descriptorIndex := 142, attributes := #[] }, { accessFlags := 8, nameIndex := 501, descriptorIndex := 391, attributes := #[] }] 49 2 #[1106, 1108, 575, 1110, 1112] #[{ accessFlags := 18, nameIndex := 13, descriptorIndex := 14, attributes := #[] }, { accessFlags := 18, nameIndex := 17, descriptorIndex := 18, attributes := #[] }, { accessFlags := 2, nameIndex := 21, descriptorIndex := 22, attributes := #[] }, { accessFlags := 2, nameIndex := 25, descriptorIndex := 26, attributes := #[] }, { accessFlags := 26, nameIndex := 1116, descriptorIndex := 1117, attributes := #[] }, { accessFlags := 24, nameIndex := 40, descriptorIndex := 26, attributes := #[] }, { accessFlags := 26, nameIndex := 1101, descriptorIndex := 1102, attributes := #[] }, { accessFlags := 26, nameIndex := 1121, descriptorIndex := 1122, attributes := #[] }, { accessFlags := 25, nameIndex := 599, descriptorIndex := 600, attributes := #[] }, { accessFlags := 24, nameIndex := 1125, descriptorIndex := 18, attributes := #[] }, { accessFlags := 24, nameIndex := 1127, descriptorIndex := 18, attributes := #[] }])
  fields := #[{ name := "value", type := (.array .byte), accessFlags := 18, slot := 0, constantValue := 0 }, { name := "coder", type := .byte, accessFlags := 18, slot := 1, constantValue := 0 }, { name := "hash", type := .int, accessFlags := 2, slot := 2, constantValue := 0 }, { name := "hashIsZero", type := .boolean, accessFlags := 2, slot := 3, constantValue := 0 }, { name := "serialVersionUID", type := .long, accessFlags := 26, slot := 0, constantValue := 0 }, { name := "COMPACT_STRINGS", type := .boolean, accessFlags := 24, slot := 1, constantValue := 0 }, { name := "serialPersistentFields", type := (.array (.object "java/io/ObjectStreamField")), accessFlags := 26, slot := 2, constantValue := 0 }, { name := "REPL", type := .char, accessFlags := 26, slot := 3, constantValue := 0 }, { name := "CASE_INSENSITIVE_ORDER", type := (.object "java/util/Comparator"), accessFlags := 25, slot := 4, constantValue := 0 }, { name := "LATIN1", type := .byte, accessFlags := 24, slot := 5, constantValue := 0 }, { name := "UTF16", type := .byte, accessFlags := 24, slot := 6, constantValue := 0 }]
  methods := #[k7m0, k7m1, k7m2, k7m3, k7m4, k7m5, k7m6, k7m7, k7m8, k7m9, k7m10, k7m11, k7m12]
  instanceTypes := #[(.array .byte), .byte, .int, .boolean]
  staticTypes := #[.long, .boolean, (.array (.object "java/io/ObjectStreamField")), .char, (.object "java/util/Comparator"), .byte, .byte]
  resolved := Array.replicate 1451 none
  statics := some 0 }

def pool8 : Array CpInfo := pool [(6, .class_ 8), (1, u "java/lang/Object"), (0, u "<init>"), (0, u "()V"), (1, .class_ 14), (1, u "java/lang/StringUTF16"), (31, u "$assertionsDisabled"), (0, u "Z"), (13, u "HI_BYTE_SHIFT"), (0, u "I"), (2, u "LO_BYTE_SHIFT"), (49, .methodref 12 116), (0, .nameAndType 117 118), (0, u "compress"), (0, u "([CI[BII)I"), (3, u "([CII)[B"), (138, u "coderFromArrayLen"), (0, u "([BI)B"), (106, .class_ 371), (1, u "java/lang/StringUTF16$LinesSpliterator"), (58, u "MAX_LENGTH"), (196, .class_ 628), (0, u "java/lang/StringUTF16$CodePointsSpliterator"), (0, .class_ 630), (0, u "java/lang/StringUTF16$CharsSpliterator")] 4

def k8m0 : Method := { name := "<init>", desc := "()V", sig := { parameters := [], returnType := none }, accessFlags := 0, code := none }
def k8c1 : Code := { maxStack := 2, maxLocals := 2, code := jdk_52_method_15_code, exceptionTable := #[], attributes := #[] }
def k8m1 : Method := { name := "coderFromArrayLen", desc := "([BI)B", sig := { parameters := [(.array .byte), .int], returnType := some .byte }, accessFlags := 8, code := some k8c1 }
def k8c2 : Code := { maxStack := 5, maxLocals := 6, code := jdk_52_method_16_code, exceptionTable := #[], attributes := #[] }
def k8m2 : Method := { name := "compress", desc := "([CII)[B", sig := { parameters := [(.array .char), .int, .int], returnType := some (.array .byte) }, accessFlags := 9, code := some k8c2 }
def k8c3 : Code := { maxStack := 3, maxLocals := 7, code := jdk_52_method_21_code, exceptionTable := #[], attributes := #[] }
def k8m3 : Method := { name := "compress", desc := "([CI[BII)I", sig := { parameters := [(.array .char), .int, (.array .byte), .int, .int], returnType := some .int }, accessFlags := 9, code := some k8c3 }
/-- java/lang/StringUTF16 -/
def k8 : Class := { plain "java/lang/StringUTF16" (some 0) with
  accessFlags := 48
  interfaces := #[]
  cf := some (fileOf pool8 12 #[.nestMembers #[627, 629, 369]] #[{ accessFlags := 0, nameIndex := 9, descriptorIndex := 10, attributes := #[] }, { accessFlags := 8, nameIndex := 261, descriptorIndex := 262, attributes := #[] }, { accessFlags := 9, nameIndex := 117, descriptorIndex := 122, attributes := #[] }, { accessFlags := 9, nameIndex := 117, descriptorIndex := 118, attributes := #[] }] 48 6 #[] #[{ accessFlags := 26, nameIndex := 61, descriptorIndex := 62, attributes := #[] }, { accessFlags := 26, nameIndex := 65, descriptorIndex := 62, attributes := #[] }, { accessFlags := 24, nameIndex := 430, descriptorIndex := 62, attributes := #[] }, { accessFlags := 4120, nameIndex := 46, descriptorIndex := 47, attributes := #[] }])
  fields := #[{ name := "HI_BYTE_SHIFT", type := .int, accessFlags := 26, slot := 0, constantValue := 0 }, { name := "LO_BYTE_SHIFT", type := .int, accessFlags := 26, slot := 1, constantValue := 0 }, { name := "MAX_LENGTH", type := .int, accessFlags := 24, slot := 2, constantValue := 0 }, { name := "$assertionsDisabled", type := .boolean, accessFlags := 4120, slot := 3, constantValue := 0 }]
  methods := #[k8m0, k8m1, k8m2, k8m3]
  instanceTypes := #[]
  staticTypes := #[.int, .int, .int, .boolean]
  resolved := Array.replicate 635 none
  statics := none }

def pool9 : Array CpInfo := pool [(1, .methodref 2 3), (0, .class_ 4), (0, .nameAndType 5 6), (0, u "java/lang/Object"), (0, u "<init>"), (0, u "()V"), (0, .class_ 8), (0, u "java/lang/Record")] 13

def k9c0 : Code := { maxStack := 1, maxLocals := 1, code := jdk_30_method_1_code, exceptionTable := #[], attributes := #[] }
def k9m0 : Method := { name := "<init>", desc := "()V", sig := { parameters := [], returnType := none }, accessFlags := 4, code := some k9c0 }
/-- java/lang/Record -/
def k9 : Class := { plain "java/lang/Record" (some 0) with
  accessFlags := 1057
  interfaces := #[]
  cf := some (fileOf pool9 7 #[] #[{ accessFlags := 4, nameIndex := 5, descriptorIndex := 6, attributes := #[] }] 1057 2 #[] #[])
  fields := #[]
  methods := #[k9m0]
  instanceTypes := #[]
  staticTypes := #[]
  resolved := Array.replicate 22 none
  statics := none }

def pool10 : Array CpInfo := pool [(1, .methodref 2 3), (0, .class_ 4), (0, .nameAndType 5 6), (0, u "java/lang/Record"), (0, u "<init>"), (0, u "()V"), (0, .fieldref 8 9), (0, .class_ 10), (0, .nameAndType 11 12), (0, u "com/example/floe/floe/TableName"), (0, u "namespace"), (0, u "Ljava/lang/String;"), (0, .fieldref 8 14), (0, .nameAndType 15 12), (0, u "table"), (19, .class_ 36), (0, u "java/lang/StringBuilder"), (0, .methodref 35 3), (2, .methodref 35 41), (0, .nameAndType 42 43), (0, u "append"), (0, u "(Ljava/lang/String;)Ljava/lang/StringBuilder;"), (8, .methodref 35 53), (0, .nameAndType 54 55), (0, u "toString"), (0, u "()Ljava/lang/String;"), (5, u "(Ljava/lang/String;Ljava/lang/String;)V"), (6, u "PART"), (0, u "Ljava/util/regex/Pattern;"), (12, .string 83), (0, u ".")] 44

def k10c0 : Code := { maxStack := 2, maxLocals := 3, code := prog_9_method_1_code, exceptionTable := #[], attributes := #[] }
def k10m0 : Method := { name := "<init>", desc := "(Ljava/lang/String;Ljava/lang/String;)V", sig := { parameters := [(.object "java/lang/String"), (.object "java/lang/String")], returnType := none }, accessFlags := 0, code := some k10c0 }
def k10c1 : Code := { maxStack := 2, maxLocals := 1, code := prog_9_method_5_code, exceptionTable := #[], attributes := #[] }
def k10m1 : Method := { name := "toString", desc := "()Ljava/lang/String;", sig := { parameters := [], returnType := some (.object "java/lang/String") }, accessFlags := 1, code := some k10c1 }
/-- com/example/floe/floe/TableName -/
def k10 : Class := { plain "com/example/floe/floe/TableName" (some 9) with
  accessFlags := 48
  interfaces := #[]
  cf := some (fileOf pool10 8 #[] #[{ accessFlags := 0, nameIndex := 5, descriptorIndex := 61, attributes := #[] }, { accessFlags := 1, nameIndex := 54, descriptorIndex := 55, attributes := #[] }] 48 2 #[] #[{ accessFlags := 18, nameIndex := 11, descriptorIndex := 12, attributes := #[] }, { accessFlags := 18, nameIndex := 15, descriptorIndex := 12, attributes := #[] }, { accessFlags := 26, nameIndex := 68, descriptorIndex := 69, attributes := #[] }])
  fields := #[{ name := "namespace", type := (.object "java/lang/String"), accessFlags := 18, slot := 0, constantValue := 0 }, { name := "table", type := (.object "java/lang/String"), accessFlags := 18, slot := 1, constantValue := 0 }, { name := "PART", type := (.object "java/util/regex/Pattern"), accessFlags := 26, slot := 0, constantValue := 0 }]
  methods := #[k10m0, k10m1]
  instanceTypes := #[(.object "java/lang/String"), (.object "java/lang/String")]
  staticTypes := #[(.object "java/util/regex/Pattern")]
  resolved := Array.replicate 128 none
  statics := none }

def pool11 : Array CpInfo := pool [(1, .class_ 2), (0, u "java/lang/Appendable"), (0, .class_ 4), (0, u "java/lang/Object")] 9

/-- java/lang/Appendable -/
def k11 : Class := { plain "java/lang/Appendable" (some 0) with
  accessFlags := 1537
  interfaces := #[]
  cf := some (fileOf pool11 1 #[] #[] 1537 3 #[] #[])
  fields := #[]
  methods := #[]
  instanceTypes := #[]
  staticTypes := #[]
  resolved := Array.replicate 14 none
  statics := none }

def pool12 : Array CpInfo := pool [(1, .class_ 2), (0, u "java/lang/String"), (0, .methodref 4 5), (0, .class_ 6), (0, .nameAndType 7 8), (0, u "java/lang/Object"), (0, u "<init>"), (0, u "()V"), (1, .class_ 12), (1, u "java/lang/AbstractStringBuilder"), (0, u "EMPTYVALUE"), (0, u "[B"), (0, .fieldref 10 16), (0, .nameAndType 17 14), (0, u "value"), (0, .fieldref 1 19), (0, .nameAndType 20 21), (0, u "COMPACT_STRINGS"), (0, u "Z"), (0, .fieldref 10 23), (0, .nameAndType 24 25), (0, u "coder"), (0, u "B"), (6, .methodref 1 33), (0, .nameAndType 34 35), (0, u "length"), (0, u "()I"), (4, .methodref 1 41), (0, .nameAndType 24 42), (0, u "()B"), (2, u "append"), (0, u "(Ljava/lang/String;)Ljava/lang/AbstractStringBuilder;"), (1, .class_ 49), (0, u "java/lang/CharSequence"), (19, u "(Ljava/lang/String;)V"), (5, u "maybeLatin1"), (3, .fieldref 10 80), (0, .nameAndType 81 82), (0, u "count"), (0, u "I"), (2, u "isLatin1"), (0, u "()Z"), (13, .methodref 10 101), (0, .nameAndType 102 103), (0, u "ensureCapacityInternal"), (0, u "(I)V"), (104, .methodref 10 209), (0, .nameAndType 210 211), (0, u "putStringAt"), (0, u "(ILjava/lang/String;)V"), (5, u "inflateIfNeededFor"), (2, .nameAndType 221 222), (0, u "getBytes"), (0, u "([BIB)V"), (174, .methodref 10 398), (0, .nameAndType 217 69), (0, .methodref 1 220), (3, u "()[B"), (40, .class_ 445), (0, u "java/lang/Appendable"), (106, u "getValue")] 56

def k12m0 : Method := { name := "<init>", desc := "()V", sig := { parameters := [], returnType := none }, accessFlags := 0, code := none }
def k12c1 : Code := { maxStack := 2, maxLocals := 2, code := jdk_68_method_2_code, exceptionTable := #[], attributes := #[] }
def k12m1 : Method := { name := "<init>", desc := "(I)V", sig := { parameters := [.int], returnType := none }, accessFlags := 0, code := some k12c1 }
def k12c2 : Code := { maxStack := 1, maxLocals := 1, code := jdk_68_method_6_code, exceptionTable := #[], attributes := #[] }
def k12m2 : Method := { name := "length", desc := "()I", sig := { parameters := [], returnType := some .int }, accessFlags := 1, code := some k12c2 }
def k12c3 : Code := { maxStack := 4, maxLocals := 3, code := jdk_68_method_9_code, exceptionTable := #[], attributes := #[] }
def k12m3 : Method := { name := "ensureCapacityInternal", desc := "(I)V", sig := { parameters := [.int], returnType := none }, accessFlags := 2, code := some k12c3 }
def k12c4 : Code := { maxStack := 3, maxLocals := 3, code := jdk_68_method_22_code, exceptionTable := #[], attributes := #[] }
def k12m4 : Method := { name := "append", desc := "(Ljava/lang/String;)Ljava/lang/AbstractStringBuilder;", sig := { parameters := [(.object "java/lang/String")], returnType := some (.object "java/lang/AbstractStringBuilder") }, accessFlags := 1, code := some k12c4 }
def k12c5 : Code := { maxStack := 1, maxLocals := 1, code := jdk_68_method_64_code, exceptionTable := #[], attributes := #[] }
def k12m5 : Method := { name := "getValue", desc := "()[B", sig := { parameters := [], returnType := some (.array .byte) }, accessFlags := 16, code := some k12c5 }
def k12c6 : Code := { maxStack := 1, maxLocals := 1, code := jdk_68_method_68_code, exceptionTable := #[], attributes := #[] }
def k12m6 : Method := { name := "isLatin1", desc := "()Z", sig := { parameters := [], returnType := some .boolean }, accessFlags := 16, code := some k12c6 }
def k12c7 : Code := { maxStack := 2, maxLocals := 2, code := jdk_68_method_71_code, exceptionTable := #[], attributes := #[] }
def k12m7 : Method := { name := "inflateIfNeededFor", desc := "(Ljava/lang/String;)V", sig := { parameters := [(.object "java/lang/String")], returnType := none }, accessFlags := 2, code := some k12c7 }
def k12c8 : Code := { maxStack := 4, maxLocals := 3, code := jdk_68_method_73_code, exceptionTable := #[], attributes := #[] }
def k12m8 : Method := { name := "putStringAt", desc := "(ILjava/lang/String;)V", sig := { parameters := [.int, (.object "java/lang/String")], returnType := none }, accessFlags := 2, code := some k12c8 }
/-- java/lang/AbstractStringBuilder -/
def k12 : Class := { plain "java/lang/AbstractStringBuilder" (some 0) with
  accessFlags := 1056
  interfaces := #[11, 4]
  cf := some (fileOf pool12 10 #[] #[{ accessFlags := 0, nameIndex := 7, descriptorIndex := 8, attributes := #[] }, { accessFlags := 0, nameIndex := 7, descriptorIndex := 103, attributes := #[] }, { accessFlags := 1, nameIndex := 34, descriptorIndex := 35, attributes := #[] }, { accessFlags := 2, nameIndex := 102, descriptorIndex := 103, attributes := #[] }, { accessFlags := 1, nameIndex := 45, descriptorIndex := 46, attributes := #[] }, { accessFlags := 16, nameIndex := 552, descriptorIndex := 403, attributes := #[] }, { accessFlags := 16, nameIndex := 85, descriptorIndex := 86, attributes := #[] }, { accessFlags := 2, nameIndex := 217, descriptorIndex := 69, attributes := #[] }, { accessFlags := 2, nameIndex := 210, descriptorIndex := 211, attributes := #[] }] 1056 4 #[444, 48] #[{ accessFlags := 0, nameIndex := 17, descriptorIndex := 14, attributes := #[] }, { accessFlags := 0, nameIndex := 24, descriptorIndex := 25, attributes := #[] }, { accessFlags := 0, nameIndex := 75, descriptorIndex := 21, attributes := #[] }, { accessFlags := 0, nameIndex := 81, descriptorIndex := 82, attributes := #[] }, { accessFlags := 26, nameIndex := 13, descriptorIndex := 14, attributes := #[] }])
  fields := #[{ name := "value", type := (.array .byte), accessFlags := 0, slot := 0, constantValue := 0 }, { name := "coder", type := .byte, accessFlags := 0, slot := 1, constantValue := 0 }, { name := "maybeLatin1", type := .boolean, accessFlags := 0, slot := 2, constantValue := 0 }, { name := "count", type := .int, accessFlags := 0, slot := 3, constantValue := 0 }, { name := "EMPTYVALUE", type := (.array .byte), accessFlags := 26, slot := 0, constantValue := 0 }]
  methods := #[k12m0, k12m1, k12m2, k12m3, k12m4, k12m5, k12m6, k12m7, k12m8]
  instanceTypes := #[(.array .byte), .byte, .boolean, .int]
  staticTypes := #[(.array .byte)]
  resolved := Array.replicate 609 none
  statics := none }

def pool13 : Array CpInfo := pool [(1, .methodref 2 3), (0, .class_ 4), (0, .nameAndType 5 6), (0, u "java/lang/AbstractStringBuilder"), (0, u "<init>"), (0, u "(I)V"), (11, .class_ 20), (1, u "java/lang/String"), (3, .class_ 26), (1, u "java/lang/StringBuilder"), (0, u "append"), (0, u "(Ljava/lang/String;)Ljava/lang/StringBuilder;"), (0, .methodref 2 30), (0, .nameAndType 27 31), (0, u "(Ljava/lang/String;)Ljava/lang/AbstractStringBuilder;"), (105, .methodref 18 138), (0, .nameAndType 5 139), (0, u "(Ljava/lang/StringBuilder;)V"), (5, u "()V"), (10, u "()I"), (186, .methodref 2 344), (0, .nameAndType 345 156), (0, u "length"), (3, .class_ 350), (0, u "java/lang/Appendable"), (0, .class_ 352), (0, u "java/io/Serializable"), (0, .class_ 354), (0, u "java/lang/Comparable"), (0, .class_ 356), (0, u "java/lang/CharSequence"), (0, u "serialVersionUID"), (0, u "J"), (40, u "toString"), (0, u "()Ljava/lang/String;")] 21

def k13c0 : Code := { maxStack := 2, maxLocals := 1, code := jdk_67_method_1_code, exceptionTable := #[], attributes := #[] }
def k13m0 : Method := { name := "<init>", desc := "()V", sig := { parameters := [], returnType := none }, accessFlags := 1, code := some k13c0 }
def k13c1 : Code := { maxStack := 2, maxLocals := 2, code := jdk_67_method_7_code, exceptionTable := #[], attributes := #[] }
def k13m1 : Method := { name := "append", desc := "(Ljava/lang/String;)Ljava/lang/StringBuilder;", sig := { parameters := [(.object "java/lang/String")], returnType := some (.object "java/lang/StringBuilder") }, accessFlags := 1, code := some k13c1 }
def k13c2 : Code := { maxStack := 3, maxLocals := 1, code := jdk_67_method_42_code, exceptionTable := #[], attributes := #[] }
def k13m2 : Method := { name := "toString", desc := "()Ljava/lang/String;", sig := { parameters := [], returnType := some (.object "java/lang/String") }, accessFlags := 1, code := some k13c2 }
def k13c3 : Code := { maxStack := 1, maxLocals := 1, code := jdk_67_method_93_code, exceptionTable := #[], attributes := #[] }
def k13m3 : Method := { name := "length", desc := "()I", sig := { parameters := [], returnType := some .int }, accessFlags := 4161, code := some k13c3 }
/-- java/lang/StringBuilder -/
def k13 : Class := { plain "java/lang/StringBuilder" (some 12) with
  accessFlags := 49
  interfaces := #[11, 2, 3, 4]
  cf := some (fileOf pool13 24 #[] #[{ accessFlags := 1, nameIndex := 5, descriptorIndex := 145, attributes := #[] }, { accessFlags := 1, nameIndex := 27, descriptorIndex := 28, attributes := #[] }, { accessFlags := 1, nameIndex := 399, descriptorIndex := 400, attributes := #[] }, { accessFlags := 4161, nameIndex := 345, descriptorIndex := 156, attributes := #[] }] 49 2 #[349, 351, 353, 355] #[{ accessFlags := 24, nameIndex := 357, descriptorIndex := 358, attributes := #[] }])
  fields := #[{ name := "serialVersionUID", type := .long, accessFlags := 24, slot := 0, constantValue := 0 }]
  methods := #[k13m0, k13m1, k13m2, k13m3]
  instanceTypes := #[(.array .byte), .byte, .boolean, .int]
  staticTypes := #[.long]
  resolved := Array.replicate 422 none
  statics := none }

def pool14 : Array CpInfo := pool [(2, .class_ 4), (1, u "java/lang/Object"), (0, u "<init>"), (0, u "()V"), (1, .class_ 10), (1, u "java/lang/System"), (0, u "allowSecurityManager"), (0, u "I"), (16, u "cons"), (0, u "Ljava/io/Console;"), (77, .class_ 110), (1, u "java/lang/System$CallersHolder"), (43, u "initialErrStream"), (0, u "Ljava/io/PrintStream;"), (19, u "security"), (0, u "Ljava/lang/SecurityManager;"), (31, .class_ 209), (0, u "java/lang/System$1"), (7, u "props"), (0, u "Ljava/util/Properties;"), (2, u "lineSeparator"), (0, u "Ljava/lang/String;"), (96, .class_ 321), (1, u "java/lang/System$LoggerFinder"), (5, .class_ 328), (0, u "java/lang/System$Logger"), (67, u "err"), (2, u "out"), (91, u "notSupportedJnuEncoding"), (15, u "in"), (17, u "initialIn"), (0, u "Ljava/io/InputStream;"), (35, u "bootLayer"), (0, u "Ljava/lang/ModuleLayer;"), (99, .class_ 664), (0, u "java/lang/System$2"), (9, u "NEVER"), (2, u "MAYBE"), (49, u "arraycopy"), (0, u "(Ljava/lang/Object;ILjava/lang/Object;II)V"), (72, .class_ 802), (0, u "java/lang/System$Logger$Level")] 31

def k14m0 : Method := { name := "<init>", desc := "()V", sig := { parameters := [], returnType := none }, accessFlags := 2, code := none }
def k14m1 : Method := { name := "arraycopy", desc := "(Ljava/lang/Object;ILjava/lang/Object;II)V", sig := { parameters := [(.object "java/lang/Object"), .int, (.object "java/lang/Object"), .int, .int], returnType := none }, accessFlags := 265, code := none }
/-- java/lang/System -/
def k14 : Class := { plain "java/lang/System" (some 0) with
  accessFlags := 49
  interfaces := #[]
  cf := some (fileOf pool14 8 #[.nestMembers #[319, 327, 801, 108, 663, 208]] #[{ accessFlags := 2, nameIndex := 5, descriptorIndex := 6, attributes := #[] }, { accessFlags := 265, nameIndex := 727, descriptorIndex := 728, attributes := #[] }] 49 2 #[] #[{ accessFlags := 25, nameIndex := 507, descriptorIndex := 526, attributes := #[] }, { accessFlags := 25, nameIndex := 399, descriptorIndex := 155, attributes := #[] }, { accessFlags := 25, nameIndex := 396, descriptorIndex := 155, attributes := #[] }, { accessFlags := 10, nameIndex := 525, descriptorIndex := 526, attributes := #[] }, { accessFlags := 26, nameIndex := 674, descriptorIndex := 12, attributes := #[] }, { accessFlags := 26, nameIndex := 677, descriptorIndex := 12, attributes := #[] }, { accessFlags := 10, nameIndex := 11, descriptorIndex := 12, attributes := #[] }, { accessFlags := 74, nameIndex := 175, descriptorIndex := 176, attributes := #[] }, { accessFlags := 10, nameIndex := 491, descriptorIndex := 222, attributes := #[] }, { accessFlags := 74, nameIndex := 29, descriptorIndex := 30, attributes := #[] }, { accessFlags := 74, nameIndex := 154, descriptorIndex := 155, attributes := #[] }, { accessFlags := 10, nameIndex := 217, descriptorIndex := 218, attributes := #[] }, { accessFlags := 10, nameIndex := 221, descriptorIndex := 222, attributes := #[] }, { accessFlags := 8, nameIndex := 562, descriptorIndex := 563, attributes := #[] }])
  fields := #[{ name := "in", type := (.object "java/io/InputStream"), accessFlags := 25, slot := 0, constantValue := 0 }, { name := "out", type := (.object "java/io/PrintStream"), accessFlags := 25, slot := 1, constantValue := 0 }, { name := "err", type := (.object "java/io/PrintStream"), accessFlags := 25, slot := 2, constantValue := 0 }, { name := "initialIn", type := (.object "java/io/InputStream"), accessFlags := 10, slot := 3, constantValue := 0 }, { name := "NEVER", type := .int, accessFlags := 26, slot := 4, constantValue := 0 }, { name := "MAYBE", type := .int, accessFlags := 26, slot := 5, constantValue := 0 }, { name := "allowSecurityManager", type := .int, accessFlags := 10, slot := 6, constantValue := 0 }, { name := "security", type := (.object "java/lang/SecurityManager"), accessFlags := 74, slot := 7, constantValue := 0 }, { name := "notSupportedJnuEncoding", type := (.object "java/lang/String"), accessFlags := 10, slot := 8, constantValue := 0 }, { name := "cons", type := (.object "java/io/Console"), accessFlags := 74, slot := 9, constantValue := 0 }, { name := "initialErrStream", type := (.object "java/io/PrintStream"), accessFlags := 74, slot := 10, constantValue := 0 }, { name := "props", type := (.object "java/util/Properties"), accessFlags := 10, slot := 11, constantValue := 0 }, { name := "lineSeparator", type := (.object "java/lang/String"), accessFlags := 10, slot := 12, constantValue := 0 }, { name := "bootLayer", type := (.object "java/lang/ModuleLayer"), accessFlags := 8, slot := 13, constantValue := 0 }]
  methods := #[k14m0, k14m1]
  instanceTypes := #[]
  staticTypes := #[(.object "java/io/InputStream"), (.object "java/io/PrintStream"), (.object "java/io/PrintStream"), (.object "java/io/InputStream"), .int, .int, .int, (.object "java/lang/SecurityManager"), (.object "java/lang/String"), (.object "java/io/Console"), (.object "java/io/PrintStream"), (.object "java/util/Properties"), (.object "java/lang/String"), (.object "java/lang/ModuleLayer")]
  resolved := Array.replicate 834 none
  statics := none }

def pool15 : Array CpInfo := pool [(2, .class_ 4), (1, u "java/lang/Object"), (0, u "<init>"), (0, u "()V"), (7, .class_ 16), (1, u "java/util/Arrays"), (57, .class_ 76), (1, u "java/util/Arrays$NaturalOrder"), (36, .class_ 115), (1, u "java/util/Arrays$LegacyMergeSort"), (1, u "Z"), (21, u "copyOfRange"), (10, .methodref 151 152), (0, .class_ 153), (0, .nameAndType 154 155), (0, u "java/lang/System"), (0, u "arraycopy"), (0, u "(Ljava/lang/Object;ILjava/lang/Object;II)V"), (148, .methodref 305 306), (0, .class_ 307), (0, .nameAndType 308 309), (0, u "java/lang/Math"), (0, u "min"), (0, u "(II)I"), (29, .methodref 14 340), (0, .nameAndType 341 342), (0, u "copyOfRangeByte"), (0, u "([BII)[B"), (0, .methodref 14 344), (0, .nameAndType 345 346), (0, u "checkLength"), (0, u "(II)V"), (28, .class_ 376), (0, u "java/util/Arrays$ArrayList"), (68, u "$assertionsDisabled"), (269, u "MIN_ARRAY_SORT_GRAN"), (0, u "I"), (2, u "INSERTIONSORT_THRESHOLD"), (255, .class_ 976), (0, u "java/util/Arrays$ArrayItr")] 52

def k15m0 : Method := { name := "<init>", desc := "()V", sig := { parameters := [], returnType := none }, accessFlags := 2, code := none }
def k15c1 : Code := { maxStack := 4, maxLocals := 2, code := jdk_65_method_131_code, exceptionTable := #[], attributes := #[] }
def k15m1 : Method := { name := "checkLength", desc := "(II)V", sig := { parameters := [.int, .int], returnType := none }, accessFlags := 10, code := some k15c1 }
def k15c2 : Code := { maxStack := 3, maxLocals := 3, code := jdk_65_method_132_code, exceptionTable := #[], attributes := #[] }
def k15m2 : Method := { name := "copyOfRange", desc := "([BII)[B", sig := { parameters := [(.array .byte), .int, .int], returnType := some (.array .byte) }, accessFlags := 9, code := some k15c2 }
def k15c3 : Code := { maxStack := 6, maxLocals := 5, code := jdk_65_method_133_code, exceptionTable := #[], attributes := #[] }
def k15m3 : Method := { name := "copyOfRangeByte", desc := "([BII)[B", sig := { parameters := [(.array .byte), .int, .int], returnType := some (.array .byte) }, accessFlags := 10, code := some k15c3 }
/-- java/util/Arrays -/
def k15 : Class := { plain "java/util/Arrays" (some 0) with
  accessFlags := 49
  interfaces := #[]
  cf := some (fileOf pool15 14 #[.nestMembers #[975, 375, 113, 74]] #[{ accessFlags := 2, nameIndex := 5, descriptorIndex := 6, attributes := #[] }, { accessFlags := 10, nameIndex := 345, descriptorIndex := 346, attributes := #[] }, { accessFlags := 9, nameIndex := 139, descriptorIndex := 342, attributes := #[] }, { accessFlags := 10, nameIndex := 341, descriptorIndex := 342, attributes := #[] }] 49 2 #[] #[{ accessFlags := 26, nameIndex := 715, descriptorIndex := 716, attributes := #[] }, { accessFlags := 26, nameIndex := 719, descriptorIndex := 716, attributes := #[] }, { accessFlags := 4120, nameIndex := 445, descriptorIndex := 117, attributes := #[] }])
  fields := #[{ name := "MIN_ARRAY_SORT_GRAN", type := .int, accessFlags := 26, slot := 0, constantValue := 0 }, { name := "INSERTIONSORT_THRESHOLD", type := .int, accessFlags := 26, slot := 1, constantValue := 0 }, { name := "$assertionsDisabled", type := .boolean, accessFlags := 4120, slot := 2, constantValue := 0 }]
  methods := #[k15m0, k15m1, k15m2, k15m3]
  instanceTypes := #[]
  staticTypes := #[.int, .int, .boolean]
  resolved := Array.replicate 1029 none
  statics := none }

def pool16 : Array CpInfo := pool [(1, .class_ 2), (0, u "java/lang/Math"), (1, .class_ 6), (1, u "java/lang/Object"), (0, u "<init>"), (0, u "()V"), (89, .class_ 100), (1, u "java/lang/Math$RandomNumberGeneratorHolder"), (71, u "negativeZeroFloatBits"), (0, u "J"), (2, u "negativeZeroDoubleBits"), (24, u "min"), (43, u "$assertionsDisabled"), (0, u "Z"), (88, u "(II)I"), (2, u "twoToTheDoubleScaleDown"), (0, u "D"), (4, u "twoToTheDoubleScaleUp"), (9, u "E"), (3, u "PI"), (2, u "TAU"), (2, u "DEGREES_TO_RADIANS"), (0, u "RADIANS_TO_DEGREES")] 94

def k16m0 : Method := { name := "<init>", desc := "()V", sig := { parameters := [], returnType := none }, accessFlags := 2, code := none }
def k16c1 : Code := { maxStack := 2, maxLocals := 2, code := jdk_29_method_69_code, exceptionTable := #[], attributes := #[] }
def k16m1 : Method := { name := "min", desc := "(II)I", sig := { parameters := [.int, .int], returnType := some .int }, accessFlags := 9, code := some k16c1 }
/-- java/lang/Math -/
def k16 : Class := { plain "java/lang/Math" (some 0) with
  accessFlags := 49
  interfaces := #[]
  cf := some (fileOf pool16 1 #[.nestMembers #[98]] #[{ accessFlags := 2, nameIndex := 7, descriptorIndex := 8, attributes := #[] }, { accessFlags := 9, nameIndex := 201, descriptorIndex := 335, attributes := #[] }] 49 4 #[] #[{ accessFlags := 25, nameIndex := 354, descriptorIndex := 339, attributes := #[] }, { accessFlags := 25, nameIndex := 358, descriptorIndex := 339, attributes := #[] }, { accessFlags := 25, nameIndex := 361, descriptorIndex := 339, attributes := #[] }, { accessFlags := 26, nameIndex := 364, descriptorIndex := 339, attributes := #[] }, { accessFlags := 26, nameIndex := 365, descriptorIndex := 339, attributes := #[] }, { accessFlags := 26, nameIndex := 172, descriptorIndex := 173, attributes := #[] }, { accessFlags := 26, nameIndex := 176, descriptorIndex := 173, attributes := #[] }, { accessFlags := 8, nameIndex := 344, descriptorIndex := 339, attributes := #[] }, { accessFlags := 8, nameIndex := 338, descriptorIndex := 339, attributes := #[] }, { accessFlags := 4120, nameIndex := 245, descriptorIndex := 246, attributes := #[] }])
  fields := #[{ name := "E", type := .double, accessFlags := 25, slot := 0, constantValue := 0 }, { name := "PI", type := .double, accessFlags := 25, slot := 1, constantValue := 0 }, { name := "TAU", type := .double, accessFlags := 25, slot := 2, constantValue := 0 }, { name := "DEGREES_TO_RADIANS", type := .double, accessFlags := 26, slot := 3, constantValue := 0 }, { name := "RADIANS_TO_DEGREES", type := .double, accessFlags := 26, slot := 4, constantValue := 0 }, { name := "negativeZeroFloatBits", type := .long, accessFlags := 26, slot := 5, constantValue := 0 }, { name := "negativeZeroDoubleBits", type := .long, accessFlags := 26, slot := 6, constantValue := 0 }, { name := "twoToTheDoubleScaleUp", type := .double, accessFlags := 8, slot := 7, constantValue := 0 }, { name := "twoToTheDoubleScaleDown", type := .double, accessFlags := 8, slot := 8, constantValue := 0 }, { name := "$assertionsDisabled", type := .boolean, accessFlags := 4120, slot := 9, constantValue := 0 }]
  methods := #[k16m0, k16m1]
  instanceTypes := #[]
  staticTypes := #[.double, .double, .double, .double, .double, .long, .long, .double, .double, .boolean]
  resolved := Array.replicate 460 none
  statics := none }

def pool17 : Array CpInfo := pool [(1, .class_ 2), (0, u "java/lang/String"), (1, .class_ 6), (1, u "java/lang/Object"), (0, u "<init>"), (0, u "()V"), (0, .methodref 1 10), (0, .nameAndType 11 12), (0, u "checkIndex"), (0, u "(II)V"), (1, .class_ 16), (1, u "java/lang/StringLatin1"), (36, u "([BI)C"), (36, u "canEncode"), (14, u "(C)Z"), (15, u "$assertionsDisabled"), (0, u "Z"), (98, .class_ 223), (1, u "java/lang/StringLatin1$LinesSpliterator"), (28, u "charAt"), (127, u "toBytes"), (1, u "(C)[B"), (7, .class_ 391), (0, u "java/lang/StringLatin1$CharsSpliterator")] 3

def k17m0 : Method := { name := "<init>", desc := "()V", sig := { parameters := [], returnType := none }, accessFlags := 0, code := none }
def k17c1 : Code := { maxStack := 2, maxLocals := 2, code := jdk_43_method_2_code, exceptionTable := #[], attributes := #[] }
def k17m1 : Method := { name := "charAt", desc := "([BI)C", sig := { parameters := [(.array .byte), .int], returnType := some .char }, accessFlags := 9, code := some k17c1 }
def k17c2 : Code := { maxStack := 2, maxLocals := 1, code := jdk_43_method_3_code, exceptionTable := #[], attributes := #[] }
def k17m2 : Method := { name := "canEncode", desc := "(C)Z", sig := { parameters := [.char], returnType := some .boolean }, accessFlags := 9, code := some k17c2 }
def k17c3 : Code := { maxStack := 4, maxLocals := 1, code := jdk_43_method_46_code, exceptionTable := #[], attributes := #[] }
def k17m3 : Method := { name := "toBytes", desc := "(C)[B", sig := { parameters := [.char], returnType := some (.array .byte) }, accessFlags := 9, code := some k17c3 }
/-- java/lang/StringLatin1 -/
def k17 : Class := { plain "java/lang/StringLatin1" (some 0) with
  accessFlags := 48
  interfaces := #[]
  cf := some (fileOf pool17 14 #[.nestMembers #[390, 221]] #[{ accessFlags := 0, nameIndex := 7, descriptorIndex := 8, attributes := #[] }, { accessFlags := 9, nameIndex := 252, descriptorIndex := 53, attributes := #[] }, { accessFlags := 9, nameIndex := 90, descriptorIndex := 105, attributes := #[] }, { accessFlags := 9, nameIndex := 380, descriptorIndex := 382, attributes := #[] }] 48 4 #[] #[{ accessFlags := 4120, nameIndex := 121, descriptorIndex := 122, attributes := #[] }])
  fields := #[{ name := "$assertionsDisabled", type := .boolean, accessFlags := 4120, slot := 0, constantValue := 0 }]
  methods := #[k17m0, k17m1, k17m2, k17m3]
  instanceTypes := #[]
  staticTypes := #[.boolean]
  resolved := Array.replicate 395 none
  statics := none }

def pool18 : Array CpInfo := pool [(2, .class_ 4), (1, u "java/lang/Object"), (0, u "<init>"), (0, u "()V"), (17, .class_ 26), (1, u "jdk/internal/util/Preconditions"), (6, u "checkIndex"), (21, .class_ 56), (0, u "jdk/internal/util/Preconditions$4"), (57, .class_ 115), (0, u "jdk/internal/util/Preconditions$1"), (7, u "SIOOBE_FORMATTER"), (0, u "Ljava/util/function/BiFunction;"), (0, .class_ 126), (0, u "jdk/internal/util/Preconditions$2"), (3, u "AIOOBE_FORMATTER"), (0, .class_ 132), (0, u "jdk/internal/util/Preconditions$3"), (3, u "IOOBE_FORMATTER"), (41, u "(IILjava/util/function/BiFunction;)I")] 15

def k18m0 : Method := { name := "<init>", desc := "()V", sig := { parameters := [], returnType := none }, accessFlags := 1, code := none }
def k18c1 : Code := { maxStack := 3, maxLocals := 3, code := jdk_41_method_11_code, exceptionTable := #[], attributes := #[] }
def k18m1 : Method := { name := "checkIndex", desc := "(IILjava/util/function/BiFunction;)I", sig := { parameters := [.int, .int, (.object "java/util/function/BiFunction")], returnType := some .int }, accessFlags := 9, code := some k18c1 }
/-- jdk/internal/util/Preconditions -/
def k18 : Class := { plain "jdk/internal/util/Preconditions" (some 0) with
  accessFlags := 33
  interfaces := #[]
  cf := some (fileOf pool18 24 #[.nestMembers #[55, 131, 125, 114]] #[{ accessFlags := 1, nameIndex := 5, descriptorIndex := 6, attributes := #[] }, { accessFlags := 9, nameIndex := 33, descriptorIndex := 178, attributes := #[] }] 33 2 #[] #[{ accessFlags := 25, nameIndex := 123, descriptorIndex := 124, attributes := #[] }, { accessFlags := 25, nameIndex := 130, descriptorIndex := 124, attributes := #[] }, { accessFlags := 25, nameIndex := 136, descriptorIndex := 124, attributes := #[] }])
  fields := #[{ name := "SIOOBE_FORMATTER", type := (.object "java/util/function/BiFunction"), accessFlags := 25, slot := 0, constantValue := 0 }, { name := "AIOOBE_FORMATTER", type := (.object "java/util/function/BiFunction"), accessFlags := 25, slot := 1, constantValue := 0 }, { name := "IOOBE_FORMATTER", type := (.object "java/util/function/BiFunction"), accessFlags := 25, slot := 2, constantValue := 0 }]
  methods := #[k18m0, k18m1]
  instanceTypes := #[]
  staticTypes := #[(.object "java/util/function/BiFunction"), (.object "java/util/function/BiFunction"), (.object "java/util/function/BiFunction")]
  resolved := Array.replicate 194 none
  statics := some 1 }

def pool19 : Array CpInfo := pool [(9, u "<init>"), (6, .class_ 18), (1, u "java/lang/Object"), (0, u "()V"), (1, .class_ 23), (1, u "jdk/internal/util/ArraysSupport"), (0, u "LOG2_ARRAY_LONG_INDEX_SCALE"), (0, u "I"), (2, u "U"), (0, u "Ljdk/internal/misc/Unsafe;"), (8, u "BIG_ENDIAN"), (0, u "Z"), (8, u "LOG2_BYTE_BIT_SIZE"), (4, u "LOG2_ARRAY_INT_INDEX_SCALE"), (54, u "JLA"), (0, u "Ljdk/internal/access/JavaLangAccess;"), (11, u "LOG2_ARRAY_BOOLEAN_INDEX_SCALE"), (9, u "LOG2_ARRAY_BYTE_INDEX_SCALE"), (5, u "LOG2_ARRAY_CHAR_INDEX_SCALE"), (5, u "LOG2_ARRAY_SHORT_INDEX_SCALE"), (18, u "LOG2_ARRAY_FLOAT_INDEX_SCALE"), (24, u "LOG2_ARRAY_DOUBLE_INDEX_SCALE"), (89, u "T_BOOLEAN"), (2, u "T_CHAR"), (1, u "T_FLOAT"), (1, u "T_DOUBLE"), (1, u "T_BYTE"), (1, u "T_SHORT"), (1, u "T_INT"), (1, u "T_LONG"), (1, u "SOFT_MAX_ARRAY_LENGTH")] 83

def k19m0 : Method := { name := "<init>", desc := "()V", sig := { parameters := [], returnType := none }, accessFlags := 2, code := none }
/-- jdk/internal/util/ArraysSupport -/
def k19 : Class := { plain "jdk/internal/util/ArraysSupport" (some 0) with
  accessFlags := 33
  interfaces := #[]
  cf := some (fileOf pool19 21 #[] #[{ accessFlags := 2, nameIndex := 9, descriptorIndex := 19, attributes := #[] }] 33 16 #[] #[{ accessFlags := 24, nameIndex := 28, descriptorIndex := 29, attributes := #[] }, { accessFlags := 26, nameIndex := 38, descriptorIndex := 39, attributes := #[] }, { accessFlags := 25, nameIndex := 121, descriptorIndex := 25, attributes := #[] }, { accessFlags := 25, nameIndex := 131, descriptorIndex := 25, attributes := #[] }, { accessFlags := 25, nameIndex := 137, descriptorIndex := 25, attributes := #[] }, { accessFlags := 25, nameIndex := 143, descriptorIndex := 25, attributes := #[] }, { accessFlags := 25, nameIndex := 53, descriptorIndex := 25, attributes := #[] }, { accessFlags := 25, nameIndex := 24, descriptorIndex := 25, attributes := #[] }, { accessFlags := 25, nameIndex := 162, descriptorIndex := 25, attributes := #[] }, { accessFlags := 25, nameIndex := 187, descriptorIndex := 25, attributes := #[] }, { accessFlags := 26, nameIndex := 48, descriptorIndex := 25, attributes := #[] }, { accessFlags := 25, nameIndex := 277, descriptorIndex := 25, attributes := #[] }, { accessFlags := 25, nameIndex := 280, descriptorIndex := 25, attributes := #[] }, { accessFlags := 25, nameIndex := 282, descriptorIndex := 25, attributes := #[] }, { accessFlags := 25, nameIndex := 284, descriptorIndex := 25, attributes := #[] }, { accessFlags := 25, nameIndex := 286, descriptorIndex := 25, attributes := #[] }, { accessFlags := 25, nameIndex := 288, descriptorIndex := 25, attributes := #[] }, { accessFlags := 25, nameIndex := 290, descriptorIndex := 25, attributes := #[] }, { accessFlags := 25, nameIndex := 292, descriptorIndex := 25, attributes := #[] }, { accessFlags := 26, nameIndex := 108, descriptorIndex := 109, attributes := #[] }, { accessFlags := 25, nameIndex := 294, descriptorIndex := 25, attributes := #[] }])
  fields := #[{ name := "U", type := (.object "jdk/internal/misc/Unsafe"), accessFlags := 24, slot := 0, constantValue := 0 }, { name := "BIG_ENDIAN", type := .boolean, accessFlags := 26, slot := 1, constantValue := 0 }, { name := "LOG2_ARRAY_BOOLEAN_INDEX_SCALE", type := .int, accessFlags := 25, slot := 2, constantValue := 0 }, { name := "LOG2_ARRAY_BYTE_INDEX_SCALE", type := .int, accessFlags := 25, slot := 3, constantValue := 0 }, { name := "LOG2_ARRAY_CHAR_INDEX_SCALE", type := .int, accessFlags := 25, slot := 4, constantValue := 0 }, { name := "LOG2_ARRAY_SHORT_INDEX_SCALE", type := .int, accessFlags := 25, slot := 5, constantValue := 0 }, { name := "LOG2_ARRAY_INT_INDEX_SCALE", type := .int, accessFlags := 25, slot := 6, constantValue := 0 }, { name := "LOG2_ARRAY_LONG_INDEX_SCALE", type := .int, accessFlags := 25, slot := 7, constantValue := 0 }, { name := "LOG2_ARRAY_FLOAT_INDEX_SCALE", type := .int, accessFlags := 25, slot := 8, constantValue := 0 }, { name := "LOG2_ARRAY_DOUBLE_INDEX_SCALE", type := .int, accessFlags := 25, slot := 9, constantValue := 0 }, { name := "LOG2_BYTE_BIT_SIZE", type := .int, accessFlags := 26, slot := 10, constantValue := 0 }, { name := "T_BOOLEAN", type := .int, accessFlags := 25, slot := 11, constantValue := 0 }, { name := "T_CHAR", type := .int, accessFlags := 25, slot := 12, constantValue := 0 }, { name := "T_FLOAT", type := .int, accessFlags := 25, slot := 13, constantValue := 0 }, { name := "T_DOUBLE", type := .int, accessFlags := 25, slot := 14, constantValue := 0 }, { name := "T_BYTE", type := .int, accessFlags := 25, slot := 15, constantValue := 0 }, { name := "T_SHORT", type := .int, accessFlags := 25, slot := 16, constantValue := 0 }, { name := "T_INT", type := .int, accessFlags := 25, slot := 17, constantValue := 0 }, { name := "T_LONG", type := .int, accessFlags := 25, slot := 18, constantValue := 0 }, { name := "JLA", type := (.object "jdk/internal/access/JavaLangAccess"), accessFlags := 26, slot := 19, constantValue := 0 }, { name := "SOFT_MAX_ARRAY_LENGTH", type := .int, accessFlags := 25, slot := 20, constantValue := 0 }]
  methods := #[k19m0]
  instanceTypes := #[]
  staticTypes := #[(.object "jdk/internal/misc/Unsafe"), .boolean, .int, .int, .int, .int, .int, .int, .int, .int, .int, .int, .int, .int, .int, .int, .int, .int, .int, (.object "jdk/internal/access/JavaLangAccess"), .int]
  resolved := Array.replicate 378 none
  statics := none }

def pool20 : Array CpInfo := pool [(1, u "java/lang/Cloneable"), (0, .class_ 1), (0, u "java/lang/Object"), (0, .class_ 3)] 3

/-- java/lang/Cloneable -/
def k20 : Class := { plain "java/lang/Cloneable" (some 0) with
  accessFlags := 1537
  interfaces := #[]
  cf := some (fileOf pool20 2 #[] #[] 1537 4 #[] #[])
  fields := #[]
  methods := #[]
  instanceTypes := #[]
  staticTypes := #[]
  resolved := Array.replicate 8 none
  statics := none }

/-- the primitive byte -/
def k21 : Class := { plain "byte" none with kind := .primitive 'B', accessFlags := 0x411 }
/-- [B -/
def k22 : Class := { plain "[B" (some 0) with kind := .array 21 .byte, interfaces := #[20, 2], accessFlags := 1041 }

/-- the primitive char -/
def k23 : Class := { plain "char" none with kind := .primitive 'C', accessFlags := 0x411 }
/-- [C -/
def k24 : Class := { plain "[C" (some 0) with kind := .array 23 .char, interfaces := #[20, 2], accessFlags := 1041 }

/-- the primitive int -/
def k25 : Class := { plain "int" none with kind := .primitive 'I', accessFlags := 0x411 }
/-- [I -/
def k26 : Class := { plain "[I" (some 0) with kind := .array 25 .int, interfaces := #[20, 2], accessFlags := 1041 }

def heap : Heap := #[{ cls := 7, slots := #[.long 0, .int 1, .null, .int 0, .null, .int 0, .int 0], vm := .statics 7 },
  { cls := 18, slots := #[.null, .null, .null], vm := .statics 18 }]
def classes : Array Class := #[k0, k1, k2, k3, k4, k5, k6, k7, k8, k9, k10, k11, k12, k13, k14, k15, k16, k17, k18, k19, k20, k21, k22, k23, k24, k25, k26]
def interned : List (Array UInt16 × Addr) := []
def slotsUsed : Nat := 10
def theMethod : MethodId := ⟨1, 3⟩
def args0 : Array Value := #[.int 5, .int 6, .int 7]
def aboutOver (below : List Frame) : State where
  vm := { classes := classes, interned := interned.toArray }
  heap := heap
  slotsUsed := slotsUsed
  threads := #[{ frames := .invoking theMethod args0 :: below }]
def below0 : List Frame := [.native { method := ⟨0, 0⟩, args := #[] }]
def about1 : State := aboutOver below0
def p0 : Program := .bare "" "" ""
def e0 : Env := launch0.env 0 0 0
theorem w_frames : about1.frames = Frame.invoking theMethod args0 :: below0 := rfl
set_option maxRecDepth 65536 in
theorem w_args : argsFit about1.vm theMethod args0 = true := by decide +kernel
set_option maxRecDepth 65536 in
theorem w_heap : heapFits about1 = true := by decide +kernel
set_option maxRecDepth 65536 in
theorem w_runnable : about1.curStatus? = some .runnable := by decide +kernel
set_option maxRecDepth 65536 in
theorem w_alone : about1.alone = true := by decide +kernel
set_option maxRecDepth 65536 in
theorem w_named : about1.methodNamed? x = some theMethod := by decide +kernel
set_option maxRecDepth 65536 in
theorem w_hears : about1.hears theMethod below0 = true := by decide +kernel
set_option maxRecDepth 65536 in
theorem w_ripe : about1.ripe theMethod args0 below0 = true := by decide +kernel
theorem w_running : about1.status = .running := rfl
set_option maxRecDepth 65536 in
theorem w_room : about1.hasRoom e0.platform room_1 = true :=
  launch0.hasRoom_least _ room_1 (by decide +kernel) (by decide +kernel) (by decide +kernel) (by decide +kernel) (by decide +kernel) (by decide +kernel)
theorem allAtoms_all (ts : List Jvm.Cond) (a : Array Jvm.Value) (st : Jvm.State) : (allAtoms ts).before a st = ts.all (fun c => c.before a st) := by
  induction ts with
  | nil => rfl
  | cons c t ih =>
    show (Jvm.Cond.and c (allAtoms t)).before a st = _
    rw [Jvm.Cond.before_and, ih, List.all_cons]
def words1 : List Jvm.Cond := Jvm.Cond.code x code maxLocals ret :: tables_1
/-- a 'code' word, met by the world's own term for the bytes: nothing is compared byte by byte -/
theorem code_word {y : MethodName} {bytes : ByteArray} {mx : Nat} {rt : Option FieldType} {a : Array Value} {s : State} {m : MethodId} {meth : Method} {c : Code} (h1 : s.methodNamed? y = some m) (h2 : s.vm.method? m = some meth) (h3 : meth.code = some c) (h4 : c.code = bytes)
    (h5 : (c.maxLocals == mx && c.exceptionTable.isEmpty && decide (c.maxStack ≤ mostOperands) && decide (meth.sig.returnType = rt) && !meth.locks && decide (parseMethodDescriptor y.desc = some meth.sig)) = true) : (Jvm.Cond.code y bytes mx rt).before a s = true := by
  simp only [Bool.and_eq_true, beq_iff_eq, Bool.not_eq_true', decide_eq_true_eq] at h5
  obtain ⟨⟨⟨⟨⟨g1, g2⟩, g3⟩, g4⟩, g5⟩, g6⟩ := h5
  simp [Cond.before, Cond.holds, Cond.value, h1, h2, h3, h4, g1, g2, g3, g4, g5, g6]
def isCode : Jvm.Cond → Bool
  | .code _ _ _ _ => true
  | _ => false
theorem all_split {L : List Jvm.Cond} {P : Jvm.Cond → Bool} (h1 : L.all (fun c => isCode c || P c) = true) (h2 : ∀ c ∈ L.filter isCode, P c = true) : L.all P = true := by
  refine List.all_eq_true.mpr fun c hc => ?_
  have h := List.all_eq_true.mp h1 c hc
  rcases Bool.eq_false_or_eq_true (isCode c) with hi | hi
  · exact h2 c (List.mem_filter.mpr ⟨hc, hi⟩)
  · simpa [hi] using h
set_option maxRecDepth 65536 in
theorem w_c0 : (Jvm.Cond.code x code maxLocals ret).before args0 about1 = true := code_word (m := ⟨1, 3⟩) (meth := k1m3) (c := k1c3) (by decide +kernel) rfl rfl rfl (by decide +kernel)
set_option maxRecDepth 65536 in
theorem w_c1 : (Jvm.Cond.code ({ cls := "com/example/floe/floe/TableNameToStringPinLaw", name := "make", desc := "(II)Ljava/lang/String;" } : Jvm.MethodName) method_2_code (5 : Nat) (Option.some (Jvm.ClassFile.FieldType.object "java/lang/String"))).before args0 about1 = true := code_word (m := ⟨1, 1⟩) (meth := k1m1) (c := k1c1) (by decide +kernel) rfl rfl rfl (by decide +kernel)
set_option maxRecDepth 65536 in
theorem w_c2 : (Jvm.Cond.code ({ cls := "java/lang/String", name := "<init>", desc := "([C)V" } : Jvm.MethodName) jdk_42_method_3_code (2 : Nat) (Option.none : Option Jvm.ClassFile.FieldType)).before args0 about1 = true := code_word (m := ⟨7, 1⟩) (meth := k7m1) (c := k7c1) (by decide +kernel) rfl rfl rfl (by decide +kernel)
set_option maxRecDepth 65536 in
theorem w_c3 : (Jvm.Cond.code ({ cls := "java/lang/String", name := "<init>", desc := "([CIILjava/lang/Void;)V" } : Jvm.MethodName) jdk_42_method_149_code (6 : Nat) (Option.none : Option Jvm.ClassFile.FieldType)).before args0 about1 = true := code_word (m := ⟨7, 7⟩) (meth := k7m7) (c := k7c7) (by decide +kernel) rfl rfl rfl (by decide +kernel)
set_option maxRecDepth 65536 in
theorem w_c4 : (Jvm.Cond.code ({ cls := "java/lang/Object", name := "<init>", desc := "()V" } : Jvm.MethodName) object_method_1_code (1 : Nat) (Option.none : Option Jvm.ClassFile.FieldType)).before args0 about1 = true := code_word (m := ⟨0, 0⟩) (meth := k0m0) (c := k0c0) (by decide +kernel) rfl rfl rfl (by decide +kernel)
set_option maxRecDepth 65536 in
theorem w_c5 : (Jvm.Cond.code ({ cls := "java/lang/StringUTF16", name := "compress", desc := "([CII)[B" } : Jvm.MethodName) jdk_52_method_16_code (6 : Nat) (Option.some (Jvm.ClassFile.FieldType.array Jvm.ClassFile.FieldType.byte))).before args0 about1 = true := code_word (m := ⟨8, 2⟩) (meth := k8m2) (c := k8c2) (by decide +kernel) rfl rfl rfl (by decide +kernel)
set_option maxRecDepth 65536 in
theorem w_c6 : (Jvm.Cond.code ({ cls := "java/lang/StringUTF16", name := "compress", desc := "([CI[BII)I" } : Jvm.MethodName) jdk_52_method_21_code (7 : Nat) (Option.some Jvm.ClassFile.FieldType.int)).before args0 about1 = true := code_word (m := ⟨8, 3⟩) (meth := k8m3) (c := k8c3) (by decide +kernel) rfl rfl rfl (by decide +kernel)
set_option maxRecDepth 65536 in
theorem w_c7 : (Jvm.Cond.code ({ cls := "java/lang/StringUTF16", name := "coderFromArrayLen", desc := "([BI)B" } : Jvm.MethodName) jdk_52_method_15_code (2 : Nat) (Option.some Jvm.ClassFile.FieldType.byte)).before args0 about1 = true := code_word (m := ⟨8, 1⟩) (meth := k8m1) (c := k8c1) (by decide +kernel) rfl rfl rfl (by decide +kernel)
set_option maxRecDepth 65536 in
theorem w_c8 : (Jvm.Cond.code ({ cls := "com/example/floe/floe/TableName", name := "<init>", desc := "(Ljava/lang/String;Ljava/lang/String;)V" } : Jvm.MethodName) prog_9_method_1_code (3 : Nat) (Option.none : Option Jvm.ClassFile.FieldType)).before args0 about1 = true := code_word (m := ⟨10, 0⟩) (meth := k10m0) (c := k10c0) (by decide +kernel) rfl rfl rfl (by decide +kernel)
set_option maxRecDepth 65536 in
theorem w_c9 : (Jvm.Cond.code ({ cls := "java/lang/Record", name := "<init>", desc := "()V" } : Jvm.MethodName) jdk_30_method_1_code (1 : Nat) (Option.none : Option Jvm.ClassFile.FieldType)).before args0 about1 = true := code_word (m := ⟨9, 0⟩) (meth := k9m0) (c := k9c0) (by decide +kernel) rfl rfl rfl (by decide +kernel)
set_option maxRecDepth 65536 in
theorem w_c10 : (Jvm.Cond.code ({ cls := "com/example/floe/floe/TableName", name := "toString", desc := "()Ljava/lang/String;" } : Jvm.MethodName) prog_9_method_5_code (1 : Nat) (Option.some (Jvm.ClassFile.FieldType.object "java/lang/String"))).before args0 about1 = true := code_word (m := ⟨10, 1⟩) (meth := k10m1) (c := k10c1) (by decide +kernel) rfl rfl rfl (by decide +kernel)
set_option maxRecDepth 65536 in
theorem w_c11 : (Jvm.Cond.code ({ cls := "java/lang/StringBuilder", name := "<init>", desc := "()V" } : Jvm.MethodName) jdk_67_method_1_code (1 : Nat) (Option.none : Option Jvm.ClassFile.FieldType)).before args0 about1 = true := code_word (m := ⟨13, 0⟩) (meth := k13m0) (c := k13c0) (by decide +kernel) rfl rfl rfl (by decide +kernel)
set_option maxRecDepth 65536 in
theorem w_c12 : (Jvm.Cond.code ({ cls := "java/lang/AbstractStringBuilder", name := "<init>", desc := "(I)V" } : Jvm.MethodName) jdk_68_method_2_code (2 : Nat) (Option.none : Option Jvm.ClassFile.FieldType)).before args0 about1 = true := code_word (m := ⟨12, 1⟩) (meth := k12m1) (c := k12c1) (by decide +kernel) rfl rfl rfl (by decide +kernel)
set_option maxRecDepth 65536 in
theorem w_c13 : (Jvm.Cond.code ({ cls := "java/lang/StringBuilder", name := "append", desc := "(Ljava/lang/String;)Ljava/lang/StringBuilder;" } : Jvm.MethodName) jdk_67_method_7_code (2 : Nat) (Option.some (Jvm.ClassFile.FieldType.object "java/lang/StringBuilder"))).before args0 about1 = true := code_word (m := ⟨13, 1⟩) (meth := k13m1) (c := k13c1) (by decide +kernel) rfl rfl rfl (by decide +kernel)
set_option maxRecDepth 65536 in
theorem w_c14 : (Jvm.Cond.code ({ cls := "java/lang/AbstractStringBuilder", name := "append", desc := "(Ljava/lang/String;)Ljava/lang/AbstractStringBuilder;" } : Jvm.MethodName) jdk_68_method_22_code (3 : Nat) (Option.some (Jvm.ClassFile.FieldType.object "java/lang/AbstractStringBuilder"))).before args0 about1 = true := code_word (m := ⟨12, 4⟩) (meth := k12m4) (c := k12c4) (by decide +kernel) rfl rfl rfl (by decide +kernel)
set_option maxRecDepth 65536 in
theorem w_c15 : (Jvm.Cond.code ({ cls := "java/lang/String", name := "length", desc := "()I" } : Jvm.MethodName) jdk_42_method_54_code (1 : Nat) (Option.some Jvm.ClassFile.FieldType.int)).before args0 about1 = true := code_word (m := ⟨7, 3⟩) (meth := k7m3) (c := k7c3) (by decide +kernel) rfl rfl rfl (by decide +kernel)
set_option maxRecDepth 65536 in
theorem w_c16 : (Jvm.Cond.code ({ cls := "java/lang/String", name := "coder", desc := "()B" } : Jvm.MethodName) jdk_42_method_152_code (1 : Nat) (Option.some Jvm.ClassFile.FieldType.byte)).before args0 about1 = true := code_word (m := ⟨7, 10⟩) (meth := k7m10) (c := k7c10) (by decide +kernel) rfl rfl rfl (by decide +kernel)
set_option maxRecDepth 65536 in
theorem w_c17 : (Jvm.Cond.code ({ cls := "java/lang/AbstractStringBuilder", name := "ensureCapacityInternal", desc := "(I)V" } : Jvm.MethodName) jdk_68_method_9_code (3 : Nat) (Option.none : Option Jvm.ClassFile.FieldType)).before args0 about1 = true := code_word (m := ⟨12, 3⟩) (meth := k12m3) (c := k12c3) (by decide +kernel) rfl rfl rfl (by decide +kernel)
set_option maxRecDepth 65536 in
theorem w_c18 : (Jvm.Cond.code ({ cls := "java/lang/AbstractStringBuilder", name := "putStringAt", desc := "(ILjava/lang/String;)V" } : Jvm.MethodName) jdk_68_method_73_code (3 : Nat) (Option.none : Option Jvm.ClassFile.FieldType)).before args0 about1 = true := code_word (m := ⟨12, 8⟩) (meth := k12m8) (c := k12c8) (by decide +kernel) rfl rfl rfl (by decide +kernel)
set_option maxRecDepth 65536 in
theorem w_c19 : (Jvm.Cond.code ({ cls := "java/lang/AbstractStringBuilder", name := "inflateIfNeededFor", desc := "(Ljava/lang/String;)V" } : Jvm.MethodName) jdk_68_method_71_code (2 : Nat) (Option.none : Option Jvm.ClassFile.FieldType)).before args0 about1 = true := code_word (m := ⟨12, 7⟩) (meth := k12m7) (c := k12c7) (by decide +kernel) rfl rfl rfl (by decide +kernel)
set_option maxRecDepth 65536 in
theorem w_c20 : (Jvm.Cond.code ({ cls := "java/lang/String", name := "getBytes", desc := "([BIB)V" } : Jvm.MethodName) jdk_42_method_147_code (4 : Nat) (Option.none : Option Jvm.ClassFile.FieldType)).before args0 about1 = true := code_word (m := ⟨7, 6⟩) (meth := k7m6) (c := k7c6) (by decide +kernel) rfl rfl rfl (by decide +kernel)
set_option maxRecDepth 65536 in
theorem w_c21 : (Jvm.Cond.code ({ cls := "java/lang/StringBuilder", name := "toString", desc := "()Ljava/lang/String;" } : Jvm.MethodName) jdk_67_method_42_code (1 : Nat) (Option.some (Jvm.ClassFile.FieldType.object "java/lang/String"))).before args0 about1 = true := code_word (m := ⟨13, 2⟩) (meth := k13m2) (c := k13c2) (by decide +kernel) rfl rfl rfl (by decide +kernel)
set_option maxRecDepth 65536 in
theorem w_c22 : (Jvm.Cond.code ({ cls := "java/lang/String", name := "<init>", desc := "(Ljava/lang/StringBuilder;)V" } : Jvm.MethodName) jdk_42_method_53_code (2 : Nat) (Option.none : Option Jvm.ClassFile.FieldType)).before args0 about1 = true := code_word (m := ⟨7, 2⟩) (meth := k7m2) (c := k7c2) (by decide +kernel) rfl rfl rfl (by decide +kernel)
set_option maxRecDepth 65536 in
theorem w_c23 : (Jvm.Cond.code ({ cls := "java/lang/String", name := "<init>", desc := "(Ljava/lang/AbstractStringBuilder;Ljava/lang/Void;)V" } : Jvm.MethodName) jdk_42_method_150_code (5 : Nat) (Option.none : Option Jvm.ClassFile.FieldType)).before args0 about1 = true := code_word (m := ⟨7, 8⟩) (meth := k7m8) (c := k7c8) (by decide +kernel) rfl rfl rfl (by decide +kernel)
set_option maxRecDepth 65536 in
theorem w_c24 : (Jvm.Cond.code ({ cls := "java/lang/AbstractStringBuilder", name := "getValue", desc := "()[B" } : Jvm.MethodName) jdk_68_method_64_code (1 : Nat) (Option.some (Jvm.ClassFile.FieldType.array Jvm.ClassFile.FieldType.byte))).before args0 about1 = true := code_word (m := ⟨12, 5⟩) (meth := k12m5) (c := k12c5) (by decide +kernel) rfl rfl rfl (by decide +kernel)
set_option maxRecDepth 65536 in
theorem w_c25 : (Jvm.Cond.code ({ cls := "java/lang/StringBuilder", name := "length", desc := "()I" } : Jvm.MethodName) jdk_67_method_93_code (1 : Nat) (Option.some Jvm.ClassFile.FieldType.int)).before args0 about1 = true := code_word (m := ⟨13, 3⟩) (meth := k13m3) (c := k13c3) (by decide +kernel) rfl rfl rfl (by decide +kernel)
set_option maxRecDepth 65536 in
theorem w_c26 : (Jvm.Cond.code ({ cls := "java/lang/AbstractStringBuilder", name := "length", desc := "()I" } : Jvm.MethodName) jdk_68_method_6_code (1 : Nat) (Option.some Jvm.ClassFile.FieldType.int)).before args0 about1 = true := code_word (m := ⟨12, 2⟩) (meth := k12m2) (c := k12c2) (by decide +kernel) rfl rfl rfl (by decide +kernel)
set_option maxRecDepth 65536 in
theorem w_c27 : (Jvm.Cond.code ({ cls := "java/lang/AbstractStringBuilder", name := "isLatin1", desc := "()Z" } : Jvm.MethodName) jdk_68_method_68_code (1 : Nat) (Option.some Jvm.ClassFile.FieldType.boolean)).before args0 about1 = true := code_word (m := ⟨12, 6⟩) (meth := k12m6) (c := k12c6) (by decide +kernel) rfl rfl rfl (by decide +kernel)
set_option maxRecDepth 65536 in
theorem w_c28 : (Jvm.Cond.code ({ cls := "java/util/Arrays", name := "copyOfRange", desc := "([BII)[B" } : Jvm.MethodName) jdk_65_method_132_code (3 : Nat) (Option.some (Jvm.ClassFile.FieldType.array Jvm.ClassFile.FieldType.byte))).before args0 about1 = true := code_word (m := ⟨15, 2⟩) (meth := k15m2) (c := k15c2) (by decide +kernel) rfl rfl rfl (by decide +kernel)
set_option maxRecDepth 65536 in
theorem w_c29 : (Jvm.Cond.code ({ cls := "java/util/Arrays", name := "copyOfRangeByte", desc := "([BII)[B" } : Jvm.MethodName) jdk_65_method_133_code (5 : Nat) (Option.some (Jvm.ClassFile.FieldType.array Jvm.ClassFile.FieldType.byte))).before args0 about1 = true := code_word (m := ⟨15, 3⟩) (meth := k15m3) (c := k15c3) (by decide +kernel) rfl rfl rfl (by decide +kernel)
set_option maxRecDepth 65536 in
theorem w_c30 : (Jvm.Cond.code ({ cls := "java/util/Arrays", name := "checkLength", desc := "(II)V" } : Jvm.MethodName) jdk_65_method_131_code (2 : Nat) (Option.none : Option Jvm.ClassFile.FieldType)).before args0 about1 = true := code_word (m := ⟨15, 1⟩) (meth := k15m1) (c := k15c1) (by decide +kernel) rfl rfl rfl (by decide +kernel)
set_option maxRecDepth 65536 in
theorem w_c31 : (Jvm.Cond.code ({ cls := "java/lang/Math", name := "min", desc := "(II)I" } : Jvm.MethodName) jdk_29_method_69_code (2 : Nat) (Option.some Jvm.ClassFile.FieldType.int)).before args0 about1 = true := code_word (m := ⟨16, 1⟩) (meth := k16m1) (c := k16c1) (by decide +kernel) rfl rfl rfl (by decide +kernel)
set_option maxRecDepth 65536 in
theorem w_c32 : (Jvm.Cond.code ({ cls := "com/example/floe/floe/TableNameToStringPinLaw", name := "at", desc := "(Ljava/lang/String;Ljava/lang/String;Ljava/lang/String;I)Z" } : Jvm.MethodName) method_3_code (7 : Nat) (Option.some Jvm.ClassFile.FieldType.boolean)).before args0 about1 = true := code_word (m := ⟨1, 2⟩) (meth := k1m2) (c := k1c2) (by decide +kernel) rfl rfl rfl (by decide +kernel)
set_option maxRecDepth 65536 in
theorem w_c33 : (Jvm.Cond.code ({ cls := "java/lang/String", name := "charAt", desc := "(I)C" } : Jvm.MethodName) jdk_42_method_56_code (2 : Nat) (Option.some Jvm.ClassFile.FieldType.char)).before args0 about1 = true := code_word (m := ⟨7, 4⟩) (meth := k7m4) (c := k7c4) (by decide +kernel) rfl rfl rfl (by decide +kernel)
set_option maxRecDepth 65536 in
theorem w_c34 : (Jvm.Cond.code ({ cls := "java/lang/String", name := "isLatin1", desc := "()Z" } : Jvm.MethodName) jdk_42_method_154_code (1 : Nat) (Option.some Jvm.ClassFile.FieldType.boolean)).before args0 about1 = true := code_word (m := ⟨7, 11⟩) (meth := k7m11) (c := k7c11) (by decide +kernel) rfl rfl rfl (by decide +kernel)
set_option maxRecDepth 65536 in
theorem w_c35 : (Jvm.Cond.code ({ cls := "java/lang/StringLatin1", name := "charAt", desc := "([BI)C" } : Jvm.MethodName) jdk_43_method_2_code (2 : Nat) (Option.some Jvm.ClassFile.FieldType.char)).before args0 about1 = true := code_word (m := ⟨17, 1⟩) (meth := k17m1) (c := k17c1) (by decide +kernel) rfl rfl rfl (by decide +kernel)
set_option maxRecDepth 65536 in
theorem w_c36 : (Jvm.Cond.code ({ cls := "java/lang/String", name := "checkIndex", desc := "(II)V" } : Jvm.MethodName) jdk_42_method_155_code (2 : Nat) (Option.none : Option Jvm.ClassFile.FieldType)).before args0 about1 = true := code_word (m := ⟨7, 12⟩) (meth := k7m12) (c := k7c12) (by decide +kernel) rfl rfl rfl (by decide +kernel)
set_option maxRecDepth 65536 in
theorem w_c37 : (Jvm.Cond.code ({ cls := "jdk/internal/util/Preconditions", name := "checkIndex", desc := "(IILjava/util/function/BiFunction;)I" } : Jvm.MethodName) jdk_41_method_11_code (3 : Nat) (Option.some Jvm.ClassFile.FieldType.int)).before args0 about1 = true := code_word (m := ⟨18, 1⟩) (meth := k18m1) (c := k18c1) (by decide +kernel) rfl rfl rfl (by decide +kernel)
set_option maxRecDepth 65536 in
theorem w_c38 : (Jvm.Cond.code ({ cls := "java/lang/String", name := "valueOf", desc := "(C)Ljava/lang/String;" } : Jvm.MethodName) jdk_42_method_139_code (1 : Nat) (Option.some (Jvm.ClassFile.FieldType.object "java/lang/String"))).before args0 about1 = true := code_word (m := ⟨7, 5⟩) (meth := k7m5) (c := k7c5) (by decide +kernel) rfl rfl rfl (by decide +kernel)
set_option maxRecDepth 65536 in
theorem w_c39 : (Jvm.Cond.code ({ cls := "java/lang/StringLatin1", name := "canEncode", desc := "(C)Z" } : Jvm.MethodName) jdk_43_method_3_code (1 : Nat) (Option.some Jvm.ClassFile.FieldType.boolean)).before args0 about1 = true := code_word (m := ⟨17, 2⟩) (meth := k17m2) (c := k17c2) (by decide +kernel) rfl rfl rfl (by decide +kernel)
set_option maxRecDepth 65536 in
theorem w_c40 : (Jvm.Cond.code ({ cls := "java/lang/StringLatin1", name := "toBytes", desc := "(C)[B" } : Jvm.MethodName) jdk_43_method_46_code (1 : Nat) (Option.some (Jvm.ClassFile.FieldType.array Jvm.ClassFile.FieldType.byte))).before args0 about1 = true := code_word (m := ⟨17, 3⟩) (meth := k17m3) (c := k17c3) (by decide +kernel) rfl rfl rfl (by decide +kernel)
set_option maxRecDepth 65536 in
theorem w_c41 : (Jvm.Cond.code ({ cls := "java/lang/String", name := "<init>", desc := "([BB)V" } : Jvm.MethodName) jdk_42_method_151_code (3 : Nat) (Option.none : Option Jvm.ClassFile.FieldType)).before args0 about1 = true := code_word (m := ⟨7, 9⟩) (meth := k7m9) (c := k7c9) (by decide +kernel) rfl rfl rfl (by decide +kernel)
def codes1 : List Jvm.Cond := [Jvm.Cond.code x code maxLocals ret, Jvm.Cond.code ({ cls := "com/example/floe/floe/TableNameToStringPinLaw", name := "make", desc := "(II)Ljava/lang/String;" } : Jvm.MethodName) method_2_code (5 : Nat) (Option.some (Jvm.ClassFile.FieldType.object "java/lang/String")), Jvm.Cond.code ({ cls := "java/lang/String", name := "<init>", desc := "([C)V" } : Jvm.MethodName) jdk_42_method_3_code (2 : Nat) (Option.none : Option Jvm.ClassFile.FieldType), Jvm.Cond.code ({ cls := "java/lang/String", name := "<init>", desc := "([CIILjava/lang/Void;)V" } : Jvm.MethodName) jdk_42_method_149_code (6 : Nat) (Option.none : Option Jvm.ClassFile.FieldType), Jvm.Cond.code ({ cls := "java/lang/Object", name := "<init>", desc := "()V" } : Jvm.MethodName) object_method_1_code (1 : Nat) (Option.none : Option Jvm.ClassFile.FieldType), Jvm.Cond.code ({ cls := "java/lang/StringUTF16", name := "compress", desc := "([CII)[B" } : Jvm.MethodName) jdk_52_method_16_code (6 : Nat) (Option.some (Jvm.ClassFile.FieldType.array Jvm.ClassFile.FieldType.byte)), Jvm.Cond.code ({ cls := "java/lang/StringUTF16", name := "compress", desc := "([CI[BII)I" } : Jvm.MethodName) jdk_52_method_21_code (7 : Nat) (Option.some Jvm.ClassFile.FieldType.int), Jvm.Cond.code ({ cls := "java/lang/StringUTF16", name := "coderFromArrayLen", desc := "([BI)B" } : Jvm.MethodName) jdk_52_method_15_code (2 : Nat) (Option.some Jvm.ClassFile.FieldType.byte), Jvm.Cond.code ({ cls := "com/example/floe/floe/TableName", name := "<init>", desc := "(Ljava/lang/String;Ljava/lang/String;)V" } : Jvm.MethodName) prog_9_method_1_code (3 : Nat) (Option.none : Option Jvm.ClassFile.FieldType), Jvm.Cond.code ({ cls := "java/lang/Record", name := "<init>", desc := "()V" } : Jvm.MethodName) jdk_30_method_1_code (1 : Nat) (Option.none : Option Jvm.ClassFile.FieldType), Jvm.Cond.code ({ cls := "com/example/floe/floe/TableName", name := "toString", desc := "()Ljava/lang/String;" } : Jvm.MethodName) prog_9_method_5_code (1 : Nat) (Option.some (Jvm.ClassFile.FieldType.object "java/lang/String")), Jvm.Cond.code ({ cls := "java/lang/StringBuilder", name := "<init>", desc := "()V" } : Jvm.MethodName) jdk_67_method_1_code (1 : Nat) (Option.none : Option Jvm.ClassFile.FieldType), Jvm.Cond.code ({ cls := "java/lang/AbstractStringBuilder", name := "<init>", desc := "(I)V" } : Jvm.MethodName) jdk_68_method_2_code (2 : Nat) (Option.none : Option Jvm.ClassFile.FieldType), Jvm.Cond.code ({ cls := "java/lang/StringBuilder", name := "append", desc := "(Ljava/lang/String;)Ljava/lang/StringBuilder;" } : Jvm.MethodName) jdk_67_method_7_code (2 : Nat) (Option.some (Jvm.ClassFile.FieldType.object "java/lang/StringBuilder")), Jvm.Cond.code ({ cls := "java/lang/AbstractStringBuilder", name := "append", desc := "(Ljava/lang/String;)Ljava/lang/AbstractStringBuilder;" } : Jvm.MethodName) jdk_68_method_22_code (3 : Nat) (Option.some (Jvm.ClassFile.FieldType.object "java/lang/AbstractStringBuilder")), Jvm.Cond.code ({ cls := "java/lang/String", name := "length", desc := "()I" } : Jvm.MethodName) jdk_42_method_54_code (1 : Nat) (Option.some Jvm.ClassFile.FieldType.int), Jvm.Cond.code ({ cls := "java/lang/String", name := "coder", desc := "()B" } : Jvm.MethodName) jdk_42_method_152_code (1 : Nat) (Option.some Jvm.ClassFile.FieldType.byte), Jvm.Cond.code ({ cls := "java/lang/AbstractStringBuilder", name := "ensureCapacityInternal", desc := "(I)V" } : Jvm.MethodName) jdk_68_method_9_code (3 : Nat) (Option.none : Option Jvm.ClassFile.FieldType), Jvm.Cond.code ({ cls := "java/lang/AbstractStringBuilder", name := "putStringAt", desc := "(ILjava/lang/String;)V" } : Jvm.MethodName) jdk_68_method_73_code (3 : Nat) (Option.none : Option Jvm.ClassFile.FieldType), Jvm.Cond.code ({ cls := "java/lang/AbstractStringBuilder", name := "inflateIfNeededFor", desc := "(Ljava/lang/String;)V" } : Jvm.MethodName) jdk_68_method_71_code (2 : Nat) (Option.none : Option Jvm.ClassFile.FieldType), Jvm.Cond.code ({ cls := "java/lang/String", name := "getBytes", desc := "([BIB)V" } : Jvm.MethodName) jdk_42_method_147_code (4 : Nat) (Option.none : Option Jvm.ClassFile.FieldType), Jvm.Cond.code ({ cls := "java/lang/StringBuilder", name := "toString", desc := "()Ljava/lang/String;" } : Jvm.MethodName) jdk_67_method_42_code (1 : Nat) (Option.some (Jvm.ClassFile.FieldType.object "java/lang/String")), Jvm.Cond.code ({ cls := "java/lang/String", name := "<init>", desc := "(Ljava/lang/StringBuilder;)V" } : Jvm.MethodName) jdk_42_method_53_code (2 : Nat) (Option.none : Option Jvm.ClassFile.FieldType), Jvm.Cond.code ({ cls := "java/lang/String", name := "<init>", desc := "(Ljava/lang/AbstractStringBuilder;Ljava/lang/Void;)V" } : Jvm.MethodName) jdk_42_method_150_code (5 : Nat) (Option.none : Option Jvm.ClassFile.FieldType), Jvm.Cond.code ({ cls := "java/lang/AbstractStringBuilder", name := "getValue", desc := "()[B" } : Jvm.MethodName) jdk_68_method_64_code (1 : Nat) (Option.some (Jvm.ClassFile.FieldType.array Jvm.ClassFile.FieldType.byte)), Jvm.Cond.code ({ cls := "java/lang/StringBuilder", name := "length", desc := "()I" } : Jvm.MethodName) jdk_67_method_93_code (1 : Nat) (Option.some Jvm.ClassFile.FieldType.int), Jvm.Cond.code ({ cls := "java/lang/AbstractStringBuilder", name := "length", desc := "()I" } : Jvm.MethodName) jdk_68_method_6_code (1 : Nat) (Option.some Jvm.ClassFile.FieldType.int), Jvm.Cond.code ({ cls := "java/lang/AbstractStringBuilder", name := "isLatin1", desc := "()Z" } : Jvm.MethodName) jdk_68_method_68_code (1 : Nat) (Option.some Jvm.ClassFile.FieldType.boolean), Jvm.Cond.code ({ cls := "java/util/Arrays", name := "copyOfRange", desc := "([BII)[B" } : Jvm.MethodName) jdk_65_method_132_code (3 : Nat) (Option.some (Jvm.ClassFile.FieldType.array Jvm.ClassFile.FieldType.byte)), Jvm.Cond.code ({ cls := "java/util/Arrays", name := "copyOfRangeByte", desc := "([BII)[B" } : Jvm.MethodName) jdk_65_method_133_code (5 : Nat) (Option.some (Jvm.ClassFile.FieldType.array Jvm.ClassFile.FieldType.byte)), Jvm.Cond.code ({ cls := "java/util/Arrays", name := "checkLength", desc := "(II)V" } : Jvm.MethodName) jdk_65_method_131_code (2 : Nat) (Option.none : Option Jvm.ClassFile.FieldType), Jvm.Cond.code ({ cls := "java/lang/Math", name := "min", desc := "(II)I" } : Jvm.MethodName) jdk_29_method_69_code (2 : Nat) (Option.some Jvm.ClassFile.FieldType.int), Jvm.Cond.code ({ cls := "com/example/floe/floe/TableNameToStringPinLaw", name := "at", desc := "(Ljava/lang/String;Ljava/lang/String;Ljava/lang/String;I)Z" } : Jvm.MethodName) method_3_code (7 : Nat) (Option.some Jvm.ClassFile.FieldType.boolean), Jvm.Cond.code ({ cls := "java/lang/String", name := "charAt", desc := "(I)C" } : Jvm.MethodName) jdk_42_method_56_code (2 : Nat) (Option.some Jvm.ClassFile.FieldType.char), Jvm.Cond.code ({ cls := "java/lang/String", name := "isLatin1", desc := "()Z" } : Jvm.MethodName) jdk_42_method_154_code (1 : Nat) (Option.some Jvm.ClassFile.FieldType.boolean), Jvm.Cond.code ({ cls := "java/lang/StringLatin1", name := "charAt", desc := "([BI)C" } : Jvm.MethodName) jdk_43_method_2_code (2 : Nat) (Option.some Jvm.ClassFile.FieldType.char), Jvm.Cond.code ({ cls := "java/lang/String", name := "checkIndex", desc := "(II)V" } : Jvm.MethodName) jdk_42_method_155_code (2 : Nat) (Option.none : Option Jvm.ClassFile.FieldType), Jvm.Cond.code ({ cls := "jdk/internal/util/Preconditions", name := "checkIndex", desc := "(IILjava/util/function/BiFunction;)I" } : Jvm.MethodName) jdk_41_method_11_code (3 : Nat) (Option.some Jvm.ClassFile.FieldType.int), Jvm.Cond.code ({ cls := "java/lang/String", name := "valueOf", desc := "(C)Ljava/lang/String;" } : Jvm.MethodName) jdk_42_method_139_code (1 : Nat) (Option.some (Jvm.ClassFile.FieldType.object "java/lang/String")), Jvm.Cond.code ({ cls := "java/lang/StringLatin1", name := "canEncode", desc := "(C)Z" } : Jvm.MethodName) jdk_43_method_3_code (1 : Nat) (Option.some Jvm.ClassFile.FieldType.boolean), Jvm.Cond.code ({ cls := "java/lang/StringLatin1", name := "toBytes", desc := "(C)[B" } : Jvm.MethodName) jdk_43_method_46_code (1 : Nat) (Option.some (Jvm.ClassFile.FieldType.array Jvm.ClassFile.FieldType.byte)), Jvm.Cond.code ({ cls := "java/lang/String", name := "<init>", desc := "([BB)V" } : Jvm.MethodName) jdk_42_method_151_code (3 : Nat) (Option.none : Option Jvm.ClassFile.FieldType)]
set_option maxRecDepth 65536 in
theorem codes_eq : words1.filter isCode = codes1 := rfl
theorem w_codes : ∀ c ∈ words1.filter isCode, c.before args0 about1 = true := by
  rw [codes_eq]
  intro c hc
  simp only [codes1, List.mem_cons, List.not_mem_nil, or_false] at hc
  rcases hc with rfl | rfl | rfl | rfl | rfl | rfl | rfl | rfl | rfl | rfl | rfl | rfl | rfl | rfl | rfl | rfl | rfl | rfl | rfl | rfl | rfl | rfl | rfl | rfl | rfl | rfl | rfl | rfl | rfl | rfl | rfl | rfl | rfl | rfl | rfl | rfl | rfl | rfl | rfl | rfl | rfl | rfl
  · exact w_c0
  · exact w_c1
  · exact w_c2
  · exact w_c3
  · exact w_c4
  · exact w_c5
  · exact w_c6
  · exact w_c7
  · exact w_c8
  · exact w_c9
  · exact w_c10
  · exact w_c11
  · exact w_c12
  · exact w_c13
  · exact w_c14
  · exact w_c15
  · exact w_c16
  · exact w_c17
  · exact w_c18
  · exact w_c19
  · exact w_c20
  · exact w_c21
  · exact w_c22
  · exact w_c23
  · exact w_c24
  · exact w_c25
  · exact w_c26
  · exact w_c27
  · exact w_c28
  · exact w_c29
  · exact w_c30
  · exact w_c31
  · exact w_c32
  · exact w_c33
  · exact w_c34
  · exact w_c35
  · exact w_c36
  · exact w_c37
  · exact w_c38
  · exact w_c39
  · exact w_c40
  · exact w_c41
set_option maxRecDepth 65536 in
theorem w_t1 : (words1.take 24).all (fun c => isCode c || c.before args0 about1) = true := by decide +kernel
set_option maxRecDepth 65536 in
theorem w_t2 : ((words1.drop 24).take 24).all (fun c => isCode c || c.before args0 about1) = true := by decide +kernel
set_option maxRecDepth 65536 in
theorem w_t3 : (((words1.drop 24).drop 24).take 24).all (fun c => isCode c || c.before args0 about1) = true := by decide +kernel
set_option maxRecDepth 65536 in
theorem w_t4 : ((((words1.drop 24).drop 24).drop 24).take 24).all (fun c => isCode c || c.before args0 about1) = true := by decide +kernel
set_option maxRecDepth 65536 in
theorem w_t5 : (((((words1.drop 24).drop 24).drop 24).drop 24).take 24).all (fun c => isCode c || c.before args0 about1) = true := by decide +kernel
set_option maxRecDepth 65536 in
theorem w_t6 : ((((((words1.drop 24).drop 24).drop 24).drop 24).drop 24).take 24).all (fun c => isCode c || c.before args0 about1) = true := by decide +kernel
set_option maxRecDepth 65536 in
theorem w_t7 : (((((((words1.drop 24).drop 24).drop 24).drop 24).drop 24).drop 24).take 24).all (fun c => isCode c || c.before args0 about1) = true := by decide +kernel
set_option maxRecDepth 65536 in
theorem w_t8 : ((((((((words1.drop 24).drop 24).drop 24).drop 24).drop 24).drop 24).drop 24).take 24).all (fun c => isCode c || c.before args0 about1) = true := by decide +kernel
set_option maxRecDepth 65536 in
theorem w_t9 : ((((((((words1.drop 24).drop 24).drop 24).drop 24).drop 24).drop 24).drop 24).drop 24).all (fun c => isCode c || c.before args0 about1) = true := by decide +kernel
theorem w_tables : (allAtoms (Jvm.Cond.code x code maxLocals ret :: tables_1)).before args0 about1 = true := by
  rw [allAtoms_all]
  show words1.all (fun c => c.before args0 about1) = true
  refine all_split ?_ w_codes
  rw [← List.take_append_drop 24 words1, List.all_append, w_t1, ← List.take_append_drop 24 (words1.drop 24), List.all_append, w_t2, ← List.take_append_drop 24 ((words1.drop 24).drop 24), List.all_append, w_t3, ← List.take_append_drop 24 (((words1.drop 24).drop 24).drop 24), List.all_append, w_t4, ← List.take_append_drop 24 ((((words1.drop 24).drop 24).drop 24).drop 24), List.all_append, w_t5, ← List.take_append_drop 24 (((((words1.drop 24).drop 24).drop 24).drop 24).drop 24), List.all_append, w_t6, ← List.take_append_drop 24 ((((((words1.drop 24).drop 24).drop 24).drop 24).drop 24).drop 24), List.all_append, w_t7, ← List.take_append_drop 24 (((((((words1.drop 24).drop 24).drop 24).drop 24).drop 24).drop 24).drop 24), List.all_append, w_t8, w_t9]
  rfl
set_option maxRecDepth 65536 in
theorem w_rest : rest_1_c.before args0 about1 = true := by decide +kernel
set_option maxRecDepth 65536 in
theorem w_case : (Jvm.Cond.and given_1 narrow_1).before args0 about1 = true := by decide +kernel
set_option maxRecDepth 65536 in
theorem w_consts : constsHeld consts_1 about1 := Jvm.Lit.constsHeldB_iff.mp (by decide +kernel)
theorem w_applies : (headSpec (Jvm.Cond.code x code maxLocals ret :: tables_1) room_1).applies x e0.platform about1 = true :=
  (Spec.applies_iff w_frames).mpr ⟨w_running, w_runnable, w_alone, w_named, w_hears, w_ripe, w_room, w_tables⟩
theorem atStart : AtStart classFile x code maxLocals ret World_1 tables_1 room_1 Calls_1 rest_1 Pre_1 launch0 p0 e0 about1 theMethod args0 below0 :=
  ⟨lists_1, trivial, launch0.admits_env _ _ _, launch0.least_env, fairChoices_fair.cas, fairChoices_fair.clock, w_frames, w_args, w_heap, w_applies, ⟨w_consts, trivial⟩, w_rest, w_case⟩
end start1
theorem witness_1 : WitnessClaimed_1 := ⟨start1.p0, start1.e0, start1.about1, start1.theMethod, start1.args0, start1.below0, start1.atStart⟩
end Jvm.Pilot.@@N@@
