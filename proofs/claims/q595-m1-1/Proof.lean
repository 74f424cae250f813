import JvmDerived
import JvmDerived.Pilot.@@N@@Statement
import JvmDerived.Pilot.@@N@@Code
set_option linter.unusedVariables false
set_option linter.unusedSimpArgs false
namespace Jvm.Pilot.@@N@@
open Jvm Jvm.ClassFile Sem Op Lib Jvm.Free Jvm.Stand Jvm.LawKit Jvm.RoadKit Bundle Jvm.Pilot.@@N@@.Jvm.D
/-- from S the run goes on below 'below', ends, and E holds of the end -/
def Go (tb : Tables) (e : Env) (below : List Frame) (E : State → Outcome → Prop) (S : State) : Prop := ∃ s₂ o, Steps tb e below S s₂ ∧ s₂.status = .running ∧ Ended s₂ below o ∧ E s₂ o
theorem Go.via {tb : Tables} {e : Env} {below : List Frame} {E : State → Outcome → Prop} {S S' : State} (k : ∀ t, Steps tb e below S' t → Steps tb e below S t) (h : Go tb e below E S') : Go tb e below E S := by
  obtain ⟨a, b, c, d⟩ := h; exact ⟨a, b, k _ c, d⟩
/-- a body's contract, short -/
abbrev MetP (l : Launch) (y : MethodName) (bytes : ByteArray) (maxL : Nat) (ret : Option FieldType) (ws : List Jvm.Cond) (rm : Room) (Z : State) (as' : Array Value) (h0 : Heap) (Q : Option Value → Heap → List Loc → Prop) : Prop :=
  MetFree l y (head1 (Jvm.Cond.code y bytes maxL ret :: ws) rm) (fun a U => a = as' ∧ Z.Warmed39 U.vm ∧ U.heap = h0) (fun _ _ _ _ _ => True) (fun _ U o U' => ∃ v L, o = .returned v ∧ Q v U'.heap L ∧ FrameEnd U o U' L rm.cells rm.slots)
/-- it returned r and wrote and made nothing -/
def Pure (r : Value) (h0 : Heap) (v : Option Value) (h : Heap) (L : List Loc) : Prop := v = some r ∧ L = [] ∧ h = h0
abbrev EndE (s : State) (rm : Room) (Q : Option Value → Heap → List Loc → Prop) : State → Outcome → Prop := fun s₂ o => ∃ v L, o = .returned v ∧ Q v s₂.heap L ∧ FrameEnd s o s₂ L rm.cells rm.slots
theorem met_go {l : Launch} {y : MethodName} {bytes : ByteArray} {maxL : Nat} {ret : Option FieldType} {ws : List Jvm.Cond} {rm : Room} {Z : State} {as' : Array Value} {h0 : Heap} {Q : Option Value → Heap → List Loc → Prop} (hpl : plainFor y = true)
    (body : ∀ (p : Program) (e : Env) (s : State) (m : MethodId) (below : List Frame) (meth : Method) (c : Code) (s₁ : State), p.tables.exec = Jvm.exec → c.code = bytes → c.maxLocals = maxL → s.vm.findClass y.cls = some m.cls → meth.name = y.name → meth.sig.returnType = ret → meth.locks = false → Z.Warmed39 s.vm → s₁.heap = h0 →
      Stand p l e rm s m as' below meth c s₁ [] 0 0 → Go p.tables e below (EndE s rm Q) (s₁.setTop (entryFrame m as' maxL))) : MetP l y bytes maxL ret ws rm Z as' h0 Q := by
  refine MetFree.of_bodySF hpl hisR ?_
  intro p e s m args below meth c s₁ Bd hml hP hK
  obtain ⟨rfl, hZ, hh⟩ := hP
  exact body p e s m below meth c s₁ Bd.exec Bd.bytes hml (findClass_of_methodNamed Bd.named) (name_of_methodNamed Bd.named Bd.method).1 Bd.returns Bd.notSynchronized hZ (by rw [← hh, Bd.state]; rfl) (Stand.of_body Bd)
abbrev EndW (s : State) (rm : Room) (Q : Option Value → Heap → List Loc → Prop) : State → Outcome → Prop := fun s₂ o => ∃ v L, o = .returned v ∧ Q v s₂.heap L ∧ ReturnedEndW s o s₂ L rm.cells rm.slots
theorem met_goW {l : Launch} {y : MethodName} {bytes : ByteArray} {maxL : Nat} {ret : Option FieldType} {ws : List Jvm.Cond} {rm : Room} {Z : State} {as' : Array Value} {h0 : Heap} {Q : Option Value → Heap → List Loc → Prop} (hpl : plainFor y = true)
    (body : ∀ (p : Program) (e : Env) (s : State) (m : MethodId) (below : List Frame) (meth : Method) (c : Code) (s₁ : State), p.tables.exec = Jvm.exec → c.code = bytes → c.maxLocals = maxL → s.vm.findClass y.cls = some m.cls → meth.name = y.name → meth.sig.returnType = ret → meth.locks = false → Z.Warmed39 s.vm → s₁.heap = h0 →
      Stand p l e rm s m as' below meth c s₁ [] 0 0 → Go p.tables e below (EndW s rm Q) (s₁.setTop (entryFrame m as' maxL))) : MetFree l y (head1 (Jvm.Cond.code y bytes maxL ret :: ws) rm) (fun a U => a = as' ∧ Z.Warmed39 U.vm ∧ U.heap = h0) (fun _ _ _ _ _ => True) (fun _ U o U' => ∃ v L, o = .returned v ∧ Q v U'.heap L ∧ ReturnedEndW U o U' L rm.cells rm.slots) := by
  refine MetFree.of_bodySF hpl hisR ?_
  intro p e s m args below meth c s₁ Bd hml hP hK
  obtain ⟨rfl, hZ, hh⟩ := hP
  exact body p e s m below meth c s₁ Bd.exec Bd.bytes hml (findClass_of_methodNamed Bd.named) (name_of_methodNamed Bd.named Bd.method).1 Bd.returns Bd.notSynchronized hZ (by rw [← hh, Bd.state]; rfl) (Stand.of_body Bd)
theorem met_goZ {l : Launch} {y : MethodName} {bytes : ByteArray} {maxL : Nat} {ret : Option FieldType} {ws : List Jvm.Cond} {rm : Room} {Z : State} {as' : Array Value} {Q : Option Value → Heap → List Loc → Prop} (hpl : plainFor y = true)
    (body : ∀ (p : Program) (e : Env) (s : State) (m : MethodId) (below : List Frame) (meth : Method) (c : Code) (s₁ : State), p.tables.exec = Jvm.exec → c.code = bytes → c.maxLocals = maxL → s.vm.findClass y.cls = some m.cls → meth.name = y.name → meth.sig.returnType = ret → meth.locks = false → s = Z → s₁.heap = Z.heap →
      Stand p l e rm s m as' below meth c s₁ [] 0 0 → Go p.tables e below (EndW s rm Q) (s₁.setTop (entryFrame m as' maxL))) : MetFree l y (head1 (Jvm.Cond.code y bytes maxL ret :: ws) rm) (fun a U => a = as' ∧ U = Z) (fun _ _ _ _ _ => True) (fun _ U o U' => ∃ v L, o = .returned v ∧ Q v U'.heap L ∧ ReturnedEndW U o U' L rm.cells rm.slots) := by
  refine MetFree.of_bodySF hpl hisR ?_
  intro p e s m args below meth c s₁ Bd hml hP hK
  obtain ⟨rfl, hZ⟩ := hP
  exact body p e s m below meth c s₁ Bd.exec Bd.bytes hml (findClass_of_methodNamed Bd.named) (name_of_methodNamed Bd.named Bd.method).1 Bd.returns Bd.notSynchronized hZ (by rw [← hZ, Bd.state]; rfl) (Stand.of_body Bd)
section OwnKit
variable {p : Program} {l : Launch} {e : Env} {R : Room} {s : State} {m : MethodId} {args : Array Value} {below : List Frame} {meth : Method} {c : Code} {T : State} {locs : List Loc} {cells slots : Nat} {E : State → Outcome → Prop} {Z : State} {a0 : Array Value} {h : Heap} {pc : Nat} {Ls Ls' : Array Slot} {st : List Value}
theorem o_iload (pc' : Nat) (X : Stand p l e R s m args below meth c T locs cells slots) (hx : p.tables.exec = Jvm.exec) (hpc : pc + 2 = pc') {k : Nat} {v : Int32} (hd : decode c.code pc = .ok (.iload k, 2)) (hl : Ls[k]? = some (.val (.int v))) (h : Go p.tables e below E (T.setTop (mkF m pc' Ls ((.int v) :: st)))) : Go p.tables e below E (T.setTop (mkF m pc Ls st)) := by
  subst hpc; exact Go.via (fun _ k => XS.iload X.here hx rfl hd hl k) h
theorem o_lload (pc' : Nat) (X : Stand p l e R s m args below meth c T locs cells slots) (hx : p.tables.exec = Jvm.exec) (hpc : pc + 2 = pc') {k : Nat} {v : Int64} (hd : decode c.code pc = .ok (.lload k, 2)) (hl : Ls[k]? = some (.val (.long v))) (h : Go p.tables e below E (T.setTop (mkF m pc' Ls ((.long v) :: st)))) : Go p.tables e below E (T.setTop (mkF m pc Ls st)) := by
  subst hpc; exact Go.via (fun _ k => XS.lload X.here hx rfl hd hl k) h
theorem o_iloadN (pc' : Nat) (X : Stand p l e R s m args below meth c T locs cells slots) (hx : p.tables.exec = Jvm.exec) (hpc : pc + 1 = pc') {k : Fin 4} {v : Int32} (hd : decode c.code pc = .ok (.iload_n k, 1)) (hl : Ls[k.val]? = some (.val (.int v))) (h : Go p.tables e below E (T.setTop (mkF m pc' Ls ((.int v) :: st)))) : Go p.tables e below E (T.setTop (mkF m pc Ls st)) := by
  subst hpc; exact Go.via (fun _ k => XS.iloadN X.here hx rfl hd hl k) h
theorem o_lloadN (pc' : Nat) (X : Stand p l e R s m args below meth c T locs cells slots) (hx : p.tables.exec = Jvm.exec) (hpc : pc + 1 = pc') {k : Fin 4} {v : Int64} (hd : decode c.code pc = .ok (.lload_n k, 1)) (hl : Ls[k.val]? = some (.val (.long v))) (h : Go p.tables e below E (T.setTop (mkF m pc' Ls ((.long v) :: st)))) : Go p.tables e below E (T.setTop (mkF m pc Ls st)) := by
  subst hpc; exact Go.via (fun _ k => XS.lloadN X.here hx rfl hd hl k) h
theorem o_aload (pc' : Nat) (X : Stand p l e R s m args below meth c T locs cells slots) (hx : p.tables.exec = Jvm.exec) (hpc : pc + 2 = pc') {k : Nat} {v : Value} (hd : decode c.code pc = .ok (.aload k, 2)) (hl : Ls[k]? = some (.val v)) (hv : v.isRef = true) (h : Go p.tables e below E (T.setTop (mkF m pc' Ls (v :: st)))) : Go p.tables e below E (T.setTop (mkF m pc Ls st)) := by
  subst hpc; exact Go.via (fun _ k => XS.aload X.here hx rfl hd hl hv k) h
theorem o_aloadN (pc' : Nat) (X : Stand p l e R s m args below meth c T locs cells slots) (hx : p.tables.exec = Jvm.exec) (hpc : pc + 1 = pc') {k : Fin 4} {v : Value} (hd : decode c.code pc = .ok (.aload_n k, 1)) (hl : Ls[k.val]? = some (.val v)) (hv : v.isRef = true) (h : Go p.tables e below E (T.setTop (mkF m pc' Ls (v :: st)))) : Go p.tables e below E (T.setTop (mkF m pc Ls st)) := by
  subst hpc; exact Go.via (fun _ k => XS.aloadN X.here hx rfl hd hl hv k) h
theorem o_istore (pc' : Nat) (X : Stand p l e R s m args below meth c T locs cells slots) (hx : p.tables.exec = Jvm.exec) (hpc : pc + 2 = pc') {k : Nat} {v : Int32} (hd : decode c.code pc = .ok (.istore k, 2)) (Ls' : Array Slot) (hl : storeLocals Ls k (.int v) = some Ls') (h : Go p.tables e below E (T.setTop (mkF m pc' Ls' st))) : Go p.tables e below E (T.setTop (mkF m pc Ls ((.int v) :: st))) := by
  subst hpc; exact Go.via (fun _ k => XS.istore X.here hx rfl hd rfl hl k) h
theorem o_lstore (pc' : Nat) (X : Stand p l e R s m args below meth c T locs cells slots) (hx : p.tables.exec = Jvm.exec) (hpc : pc + 2 = pc') {k : Nat} {v : Int64} (hd : decode c.code pc = .ok (.lstore k, 2)) (Ls' : Array Slot) (hl : storeLocals Ls k (.long v) = some Ls') (h : Go p.tables e below E (T.setTop (mkF m pc' Ls' st))) : Go p.tables e below E (T.setTop (mkF m pc Ls ((.long v) :: st))) := by
  subst hpc; exact Go.via (fun _ k => XS.lstore X.here hx rfl hd rfl hl k) h
theorem o_istoreN (pc' : Nat) (X : Stand p l e R s m args below meth c T locs cells slots) (hx : p.tables.exec = Jvm.exec) (hpc : pc + 1 = pc') {k : Fin 4} {v : Int32} (hd : decode c.code pc = .ok (.istore_n k, 1)) (Ls' : Array Slot) (hl : storeLocals Ls k.val (.int v) = some Ls') (h : Go p.tables e below E (T.setTop (mkF m pc' Ls' st))) : Go p.tables e below E (T.setTop (mkF m pc Ls ((.int v) :: st))) := by
  subst hpc; exact Go.via (fun _ k => XS.istoreN X.here hx rfl hd rfl hl k) h
theorem o_lstoreN (pc' : Nat) (X : Stand p l e R s m args below meth c T locs cells slots) (hx : p.tables.exec = Jvm.exec) (hpc : pc + 1 = pc') {k : Fin 4} {v : Int64} (hd : decode c.code pc = .ok (.lstore_n k, 1)) (Ls' : Array Slot) (hl : storeLocals Ls k.val (.long v) = some Ls') (h : Go p.tables e below E (T.setTop (mkF m pc' Ls' st))) : Go p.tables e below E (T.setTop (mkF m pc Ls ((.long v) :: st))) := by
  subst hpc; exact Go.via (fun _ k => XS.lstoreN X.here hx rfl hd rfl hl k) h
theorem o_astore (pc' : Nat) (X : Stand p l e R s m args below meth c T locs cells slots) (hx : p.tables.exec = Jvm.exec) (hpc : pc + 2 = pc') {k : Nat} {v : Value} (hd : decode c.code pc = .ok (.astore k, 2)) (hv : v.isRef = true) (Ls' : Array Slot) (hl : storeLocals Ls k v = some Ls') (h : Go p.tables e below E (T.setTop (mkF m pc' Ls' st))) : Go p.tables e below E (T.setTop (mkF m pc Ls (v :: st))) := by
  subst hpc; exact Go.via (fun _ k => XS.astore X.here hx rfl hd rfl hv hl k) h
theorem o_astoreN (pc' : Nat) (X : Stand p l e R s m args below meth c T locs cells slots) (hx : p.tables.exec = Jvm.exec) (hpc : pc + 1 = pc') {k : Fin 4} {v : Value} (hd : decode c.code pc = .ok (.astore_n k, 1)) (hv : v.isRef = true) (Ls' : Array Slot) (hl : storeLocals Ls k.val v = some Ls') (h : Go p.tables e below E (T.setTop (mkF m pc' Ls' st))) : Go p.tables e below E (T.setTop (mkF m pc Ls (v :: st))) := by
  subst hpc; exact Go.via (fun _ k => XS.astoreN X.here hx rfl hd rfl hv hl k) h
theorem o_iinc (pc' : Nat) (X : Stand p l e R s m args below meth c T locs cells slots) (hx : p.tables.exec = Jvm.exec) (hpc : pc + 3 = pc') {k : Nat} {cst : Int} {v : Int32} (hd : decode c.code pc = .ok (.iinc k cst, 3)) (w : Int32) (hw : Int32.ofInt cst = w) (hl : Ls[k]? = some (.val (.int v))) (Ls' : Array Slot) (hl' : storeLocals Ls k (.int (v + w)) = some Ls') (h : Go p.tables e below E (T.setTop (mkF m pc' Ls' st))) : Go p.tables e below E (T.setTop (mkF m pc Ls st)) := by
  subst hpc; exact Go.via (fun _ k => XS.iinc X.here hx rfl hd hl (by rw [hw]; exact hl') k) h
theorem o_iconst (pc' : Nat) (X : Stand p l e R s m args below meth c T locs cells slots) (hx : p.tables.exec = Jvm.exec) (hpc : pc + 1 = pc') {i : Int} (hd : decode c.code pc = .ok (.iconst i, 1)) (v : Int32) (hv : Int32.ofInt i = v) (h : Go p.tables e below E (T.setTop (mkF m pc' Ls (.int v :: st)))) : Go p.tables e below E (T.setTop (mkF m pc Ls st)) := by
  subst hpc; exact Go.via (fun _ k => XS.iconst X.here hx rfl hd (by rw [hv]; exact k)) h
theorem o_bipush (pc' : Nat) (X : Stand p l e R s m args below meth c T locs cells slots) (hx : p.tables.exec = Jvm.exec) (hpc : pc + 2 = pc') {i : Int} (hd : decode c.code pc = .ok (.bipush i, 2)) (v : Int32) (hv : (Int8.ofInt i).toInt32 = v) (h : Go p.tables e below E (T.setTop (mkF m pc' Ls (.int v :: st)))) : Go p.tables e below E (T.setTop (mkF m pc Ls st)) := by
  subst hpc; exact Go.via (fun _ k => XS.bipush X.here hx rfl hd (by rw [hv]; exact k)) h
theorem o_sipush (pc' : Nat) (X : Stand p l e R s m args below meth c T locs cells slots) (hx : p.tables.exec = Jvm.exec) (hpc : pc + 3 = pc') {i : Int} (hd : decode c.code pc = .ok (.sipush i, 3)) (v : Int32) (hv : (Int16.ofInt i).toInt32 = v) (h : Go p.tables e below E (T.setTop (mkF m pc' Ls (.int v :: st)))) : Go p.tables e below E (T.setTop (mkF m pc Ls st)) := by
  subst hpc; exact Go.via (fun _ k => XS.sipush X.here hx rfl hd (by rw [hv]; exact k)) h
theorem o_lconst (pc' : Nat) (X : Stand p l e R s m args below meth c T locs cells slots) (hx : p.tables.exec = Jvm.exec) (hpc : pc + 1 = pc') {i : Fin 2} (hd : decode c.code pc = .ok (.lconst i, 1)) (v : Int64) (hv : Int64.ofNat i = v) (h : Go p.tables e below E (T.setTop (mkF m pc' Ls (.long v :: st)))) : Go p.tables e below E (T.setTop (mkF m pc Ls st)) := by
  subst hpc; exact Go.via (fun _ k => XS.lconst X.here hx rfl hd (by rw [hv]; exact k)) h
theorem o_ldcInt (pc' : Nat) (X : Stand p l e R s m args below meth c T locs cells slots) (hx : p.tables.exec = Jvm.exec) (hpc : pc + 2 = pc') (hZ : Z.Warmed39 s.vm) {own : String} {index : Nat} (hown : s.vm.findClass own = some m.cls) {v : Int32} (w : (Jvm.Cond.constant own index v).before a0 Z = true) (hd : decode c.code pc = .ok (.ldc index, 2)) (h : Go p.tables e below E (T.setTop (mkF m pc' Ls (.int v :: st)))) : Go p.tables e below E (T.setTop (mkF m pc Ls st)) := by
  subst hpc; exact Go.via (fun _ k => X.ldcInt hx hown (mvT hZ w) (g := mkF m pc Ls st) rfl hd _ k) h
theorem o_ldcwInt (pc' : Nat) (X : Stand p l e R s m args below meth c T locs cells slots) (hx : p.tables.exec = Jvm.exec) (hpc : pc + 3 = pc') (hZ : Z.Warmed39 s.vm) {own : String} {index : Nat} (hown : s.vm.findClass own = some m.cls) {v : Int32} (w : (Jvm.Cond.constant own index v).before a0 Z = true) (hd : decode c.code pc = .ok (.ldc_w index, 3)) (h : Go p.tables e below E (T.setTop (mkF m pc' Ls (.int v :: st)))) : Go p.tables e below E (T.setTop (mkF m pc Ls st)) := by
  subst hpc; exact Go.via (fun _ k => X.ldcwInt hx hown (mvT hZ w) (g := mkF m pc Ls st) rfl hd _ k) h
theorem o_ldc2Long (pc' : Nat) (X : Stand p l e R s m args below meth c T locs cells slots) (hx : p.tables.exec = Jvm.exec) (hpc : pc + 3 = pc') (hZ : Z.Warmed39 s.vm) {own : String} {index : Nat} (hown : s.vm.findClass own = some m.cls) {v : Int64} (w : (Jvm.Cond.constantLong own index v).before a0 Z = true) (hd : decode c.code pc = .ok (.ldc2_w index, 3)) (h : Go p.tables e below E (T.setTop (mkF m pc' Ls (.long v :: st)))) : Go p.tables e below E (T.setTop (mkF m pc Ls st)) := by
  subst hpc; exact Go.via (fun _ k => X.ldc2Long hx hown (mvT hZ w) (g := mkF m pc Ls st) rfl hd _ k) h
theorem o_iadd (pc' : Nat) (X : Stand p l e R s m args below meth c T locs cells slots) (hx : p.tables.exec = Jvm.exec) (hpc : pc + 1 = pc') {x : Int32} {y : Int32} (hd : decode c.code pc = .ok (.iadd, 1)) (h : Go p.tables e below E (T.setTop (mkF m pc' Ls (.int (x + y) :: st)))) : Go p.tables e below E (T.setTop (mkF m pc Ls (.int y :: .int x :: st))) := by
  subst hpc; exact Go.via (fun _ k => XS.iadd X.here hx rfl hd rfl k) h
theorem o_isub (pc' : Nat) (X : Stand p l e R s m args below meth c T locs cells slots) (hx : p.tables.exec = Jvm.exec) (hpc : pc + 1 = pc') {x : Int32} {y : Int32} (hd : decode c.code pc = .ok (.isub, 1)) (h : Go p.tables e below E (T.setTop (mkF m pc' Ls (.int (x - y) :: st)))) : Go p.tables e below E (T.setTop (mkF m pc Ls (.int y :: .int x :: st))) := by
  subst hpc; exact Go.via (fun _ k => XS.isub X.here hx rfl hd rfl k) h
theorem o_iand (pc' : Nat) (X : Stand p l e R s m args below meth c T locs cells slots) (hx : p.tables.exec = Jvm.exec) (hpc : pc + 1 = pc') {x : Int32} {y : Int32} (hd : decode c.code pc = .ok (.iand, 1)) (h : Go p.tables e below E (T.setTop (mkF m pc' Ls (.int (x &&& y) :: st)))) : Go p.tables e below E (T.setTop (mkF m pc Ls (.int y :: .int x :: st))) := by
  subst hpc; exact Go.via (fun _ k => XS.iand X.here hx rfl hd rfl k) h
theorem o_iushr (pc' : Nat) (X : Stand p l e R s m args below meth c T locs cells slots) (hx : p.tables.exec = Jvm.exec) (hpc : pc + 1 = pc') {x : Int32} {y : Int32} (hd : decode c.code pc = .ok (.iushr, 1)) (h : Go p.tables e below E (T.setTop (mkF m pc' Ls (.int ((x.toUInt32 >>> (y &&& 31).toUInt32).toInt32) :: st)))) : Go p.tables e below E (T.setTop (mkF m pc Ls (.int y :: .int x :: st))) := by
  subst hpc; exact Go.via (fun _ k => XS.iushr X.here hx rfl hd rfl k) h
theorem o_lsub (pc' : Nat) (X : Stand p l e R s m args below meth c T locs cells slots) (hx : p.tables.exec = Jvm.exec) (hpc : pc + 1 = pc') {x : Int64} {y : Int64} (hd : decode c.code pc = .ok (.lsub, 1)) (h : Go p.tables e below E (T.setTop (mkF m pc' Ls (.long (x - y) :: st)))) : Go p.tables e below E (T.setTop (mkF m pc Ls (.long y :: .long x :: st))) := by
  subst hpc; exact Go.via (fun _ k => XS.lsub X.here hx rfl hd rfl k) h
theorem o_lmul (pc' : Nat) (X : Stand p l e R s m args below meth c T locs cells slots) (hx : p.tables.exec = Jvm.exec) (hpc : pc + 1 = pc') {x : Int64} {y : Int64} (hd : decode c.code pc = .ok (.lmul, 1)) (h : Go p.tables e below E (T.setTop (mkF m pc' Ls (.long (x * y) :: st)))) : Go p.tables e below E (T.setTop (mkF m pc Ls (.long y :: .long x :: st))) := by
  subst hpc; exact Go.via (fun _ k => XS.lmul X.here hx rfl hd rfl k) h
theorem o_land (pc' : Nat) (X : Stand p l e R s m args below meth c T locs cells slots) (hx : p.tables.exec = Jvm.exec) (hpc : pc + 1 = pc') {x : Int64} {y : Int64} (hd : decode c.code pc = .ok (.land, 1)) (h : Go p.tables e below E (T.setTop (mkF m pc' Ls (.long (x &&& y) :: st)))) : Go p.tables e below E (T.setTop (mkF m pc Ls (.long y :: .long x :: st))) := by
  subst hpc; exact Go.via (fun _ k => XS.land X.here hx rfl hd rfl k) h
theorem o_lor (pc' : Nat) (X : Stand p l e R s m args below meth c T locs cells slots) (hx : p.tables.exec = Jvm.exec) (hpc : pc + 1 = pc') {x : Int64} {y : Int64} (hd : decode c.code pc = .ok (.lor, 1)) (h : Go p.tables e below E (T.setTop (mkF m pc' Ls (.long (x ||| y) :: st)))) : Go p.tables e below E (T.setTop (mkF m pc Ls (.long y :: .long x :: st))) := by
  subst hpc; exact Go.via (fun _ k => XS.lor X.here hx rfl hd rfl k) h
theorem o_lshl (pc' : Nat) (X : Stand p l e R s m args below meth c T locs cells slots) (hx : p.tables.exec = Jvm.exec) (hpc : pc + 1 = pc') {x : Int64} {y : Int32} (hd : decode c.code pc = .ok (.lshl, 1)) (h : Go p.tables e below E (T.setTop (mkF m pc' Ls (.long (x <<< (y &&& 0x3f).toInt64) :: st)))) : Go p.tables e below E (T.setTop (mkF m pc Ls (.int y :: .long x :: st))) := by
  subst hpc; exact Go.via (fun _ k => XS.lshl X.here hx rfl hd rfl k) h
theorem o_lushr (pc' : Nat) (X : Stand p l e R s m args below meth c T locs cells slots) (hx : p.tables.exec = Jvm.exec) (hpc : pc + 1 = pc') {x : Int64} {y : Int32} (hd : decode c.code pc = .ok (.lushr, 1)) (h : Go p.tables e below E (T.setTop (mkF m pc' Ls (.long ((x.toUInt64 >>> (y &&& 0x3f).toInt64.toUInt64).toInt64) :: st)))) : Go p.tables e below E (T.setTop (mkF m pc Ls (.int y :: .long x :: st))) := by
  subst hpc; exact Go.via (fun _ k => XS.lushr X.here hx rfl hd rfl k) h
theorem o_irem (pc' : Nat) (X : Stand p l e R s m args below meth c T locs cells slots) (hx : p.tables.exec = Jvm.exec) (hpc : pc + 1 = pc') {x y : Int32} (hd : decode c.code pc = .ok (.irem, 1)) (hy : y ≠ 0) (h : Go p.tables e below E (T.setTop (mkF m pc' Ls (.int (x % y) :: st)))) : Go p.tables e below E (T.setTop (mkF m pc Ls (.int y :: .int x :: st))) := by
  subst hpc; exact Go.via (fun _ k => iremM (g := mkF m pc Ls (.int y :: .int x :: st)) X hx rfl hd rfl hy k) h
theorem o_ldiv (pc' : Nat) (X : Stand p l e R s m args below meth c T locs cells slots) (hx : p.tables.exec = Jvm.exec) (hpc : pc + 1 = pc') {x y : Int64} (hd : decode c.code pc = .ok (.ldiv, 1)) (hy : y ≠ 0) (h : Go p.tables e below E (T.setTop (mkF m pc' Ls (.long (x / y) :: st)))) : Go p.tables e below E (T.setTop (mkF m pc Ls (.long y :: .long x :: st))) := by
  subst hpc; exact Go.via (fun _ k => XS.ldiv X.here hx rfl hd rfl hy k) h
theorem o_lrem (pc' : Nat) (X : Stand p l e R s m args below meth c T locs cells slots) (hx : p.tables.exec = Jvm.exec) (hpc : pc + 1 = pc') {x y : Int64} (hd : decode c.code pc = .ok (.lrem, 1)) (hy : y ≠ 0) (h : Go p.tables e below E (T.setTop (mkF m pc' Ls (.long (x % y) :: st)))) : Go p.tables e below E (T.setTop (mkF m pc Ls (.long y :: .long x :: st))) := by
  subst hpc; exact Go.via (fun _ k => XS.lrem X.here hx rfl hd rfl hy (by rw [lrem_mod]; exact k)) h
theorem o_i2l (pc' : Nat) (X : Stand p l e R s m args below meth c T locs cells slots) (hx : p.tables.exec = Jvm.exec) (hpc : pc + 1 = pc') {x : Int32} (hd : decode c.code pc = .ok (.i2l, 1)) (h : Go p.tables e below E (T.setTop (mkF m pc' Ls (.long (x.toInt64) :: st)))) : Go p.tables e below E (T.setTop (mkF m pc Ls (.int x :: st))) := by
  subst hpc; exact Go.via (fun _ k => XS.i2l X.here hx rfl hd rfl k) h
theorem o_l2i (pc' : Nat) (X : Stand p l e R s m args below meth c T locs cells slots) (hx : p.tables.exec = Jvm.exec) (hpc : pc + 1 = pc') {x : Int64} (hd : decode c.code pc = .ok (.l2i, 1)) (h : Go p.tables e below E (T.setTop (mkF m pc' Ls (.int (x.toInt32) :: st)))) : Go p.tables e below E (T.setTop (mkF m pc Ls (.long x :: st))) := by
  subst hpc; exact Go.via (fun _ k => XS.l2i X.here hx rfl hd rfl k) h
theorem o_lcmp (pc' : Nat) (X : Stand p l e R s m args below meth c T locs cells slots) (hx : p.tables.exec = Jvm.exec) (hpc : pc + 1 = pc') {x y : Int64} (hd : decode c.code pc = .ok (.lcmp, 1)) (h : Go p.tables e below E (T.setTop (mkF m pc' Ls (.int (lcmpW x y) :: st)))) : Go p.tables e below E (T.setTop (mkF m pc Ls (.long y :: .long x :: st))) := by
  subst hpc; exact Go.via (fun _ k => XS.lcmp X.here hx rfl hd rfl k) h
theorem o_dup (pc' : Nat) (X : Stand p l e R s m args below meth c T locs cells slots) (hx : p.tables.exec = Jvm.exec) (hpc : pc + 1 = pc') {v : Value} (hd : decode c.code pc = .ok (.dup, 1)) (hv : v.category = 1) (h : Go p.tables e below E (T.setTop (mkF m pc' Ls (v :: v :: st)))) : Go p.tables e below E (T.setTop (mkF m pc Ls (v :: st))) := by
  subst hpc; exact Go.via (fun _ k => XS.dup X.here hx rfl hd rfl hv k) h
theorem o_goto (pc' : Nat) (X : Stand p l e R s m args below meth c T locs cells slots) (hx : p.tables.exec = Jvm.exec) {o : Int} (hd : decode c.code pc = .ok (.goto o, 3)) (ho : 0 ≤ (pc : Int) + o) (hp : ((pc : Int) + o).toNat = pc') (h : Go p.tables e below E (T.setTop (mkF m pc' Ls st))) : Go p.tables e below E (T.setTop (mkF m pc Ls st)) := by
  exact Go.via (fun _ k => XS.goto X.here hx rfl (pc0 := pc) (pc' := pc') rfl hd ho hp k) h
theorem o_ifYes (pc' : Nat) (X : Stand p l e R s m args below meth c T locs cells slots) (hx : p.tables.exec = Jvm.exec) {cd : ClassFile.Cond} {x : Int32} {o : Int} (hd : decode c.code pc = .ok (.ifCond cd o, 3)) (hc : if_icmp.holds cd x 0 = true) (ho : 0 ≤ (pc : Int) + o) (hp : ((pc : Int) + o).toNat = pc') (h : Go p.tables e below E (T.setTop (mkF m pc' Ls st))) : Go p.tables e below E (T.setTop (mkF m pc Ls (.int x :: st))) := by
  exact Go.via (fun _ k => XS.ifYes X.here hx rfl (pc0 := pc) (pc' := pc') rfl hd rfl ((if0 _ _).trans hc) ho hp k) h
theorem o_ifNo (pc' : Nat) (X : Stand p l e R s m args below meth c T locs cells slots) (hx : p.tables.exec = Jvm.exec) (hpc : pc + 3 = pc') {cd : ClassFile.Cond} {x : Int32} {o : Int} (hd : decode c.code pc = .ok (.ifCond cd o, 3)) (hc : if_icmp.holds cd x 0 = false) (h : Go p.tables e below E (T.setTop (mkF m pc' Ls st))) : Go p.tables e below E (T.setTop (mkF m pc Ls (.int x :: st))) := by
  subst hpc; exact Go.via (fun _ k => XS.ifNo X.here hx rfl hd rfl ((if0 _ _).trans hc) k) h
theorem o_icmpYes (pc' : Nat) (X : Stand p l e R s m args below meth c T locs cells slots) (hx : p.tables.exec = Jvm.exec) {cd : ClassFile.Cond} {x y : Int32} {o : Int} (hd : decode c.code pc = .ok (.if_icmp cd o, 3)) (hc : if_icmp.holds cd x y = true) (ho : 0 ≤ (pc : Int) + o) (hp : ((pc : Int) + o).toNat = pc') (h : Go p.tables e below E (T.setTop (mkF m pc' Ls st))) : Go p.tables e below E (T.setTop (mkF m pc Ls (.int y :: .int x :: st))) := by
  exact Go.via (fun _ k => XS.icmpYes X.here hx rfl (pc0 := pc) (pc' := pc') rfl hd rfl hc ho hp k) h
theorem o_icmpNo (pc' : Nat) (X : Stand p l e R s m args below meth c T locs cells slots) (hx : p.tables.exec = Jvm.exec) (hpc : pc + 3 = pc') {cd : ClassFile.Cond} {x y : Int32} {o : Int} (hd : decode c.code pc = .ok (.if_icmp cd o, 3)) (hc : if_icmp.holds cd x y = false) (h : Go p.tables e below E (T.setTop (mkF m pc' Ls st))) : Go p.tables e below E (T.setTop (mkF m pc Ls (.int y :: .int x :: st))) := by
  subst hpc; exact Go.via (fun _ k => XS.icmpNo X.here hx rfl hd rfl hc k) h
theorem o_out (X : Stand p l e R s m args below meth c T locs cells slots) (hx : p.tables.exec = Jvm.exec) {rm : Room} {Q : Option Value → Heap → List Loc → Prop} {v : Option Value} (hv : meth.sig.returnType = none → v = none) (hlk : meth.locks = false) {g : JFrame}
    (hst : ∀ fs, (∀ (f : JFrame) (acts : List Action), f.method = m → f.locked = none → f.entered = [] → (doReturn e (T.setTop f) acts v).1 = T.setFrames fs) → Steps p.tables e below (T.setTop g) (T.setFrames fs)) (hq : Q v T.heap locs) (hk : cells ≤ rm.cells) (hn : slots ≤ rm.slots) : Go p.tables e below (EndE s rm Q) (T.setTop g) := by
  obtain ⟨fs, hr, hrun, hended, hW, hsame⟩ := X.leave (v := v) hv hlk
  exact ⟨_, _, hst fs hr, hrun, hended, _, _, rfl, hq, ⟨_, rfl⟩, hW, hsame.mono hk hn⟩
theorem own_retI (X : Stand p l e R s m args below meth c T locs cells slots) (hx : p.tables.exec = Jvm.exec) {z : Int32} (hret : meth.sig.returnType = some .int) (hd : decode c.code pc = .ok (.ireturn, 1)) {fs : List Frame}
    (hl : ∀ (f : JFrame) (acts : List Action), f.method = m → f.locked = none → f.entered = [] → (doReturn e (T.setTop f) acts (some (.int z))).1 = T.setFrames fs) : Steps p.tables e below (T.setTop (mkF m pc Ls (.int z :: st))) (T.setFrames fs) :=
  retOut X hx hret rfl (Or.inl ⟨rfl, Or.inl rfl, z, rfl⟩) hd hl
theorem o_retI (X : Stand p l e R s m args below meth c T locs cells slots) (hx : p.tables.exec = Jvm.exec) {z : Int32} {rm : Room} {Q : Option Value → Heap → List Loc → Prop} (hret : meth.sig.returnType = some .int) (hlk : meth.locks = false) (hd : decode c.code pc = .ok (.ireturn, 1)) (hk : cells ≤ rm.cells) (hn : slots ≤ rm.slots) (hq : Q (some (.int z)) T.heap locs) : Go p.tables e below (EndE s rm Q) (T.setTop (mkF m pc Ls (.int z :: st))) :=
  o_out X hx (fun q => by rw [hret] at q; cases q) hlk (fun fs hr => own_retI X hx hret hd hr) hq hk hn
theorem o_retA (X : Stand p l e R s m args below meth c T locs cells slots) (hx : p.tables.exec = Jvm.exec) {z : Value} {t : FieldType} (ht : t.isReference = true) (hz : z.isRef = true) {rm : Room} {Q : Option Value → Heap → List Loc → Prop} (hret : meth.sig.returnType = some t) (hlk : meth.locks = false) (hd : decode c.code pc = .ok (.areturn, 1)) (hk : cells ≤ rm.cells) (hn : slots ≤ rm.slots) (hq : Q (some z) T.heap locs) : Go p.tables e below (EndE s rm Q) (T.setTop (mkF m pc Ls (z :: st))) :=
  o_out X hx (fun q => by rw [hret] at q; cases q) hlk (fun fs hr => retOut X hx hret (by cases t <;> first | (cases ht; done) | (cases z <;> first | rfl | (cases hz; done))) (Or.inr (Or.inr (Or.inr (Or.inr ⟨rfl, ht, hz⟩)))) hd hr) hq hk hn
theorem o_retN (X : Stand p l e R s m args below meth c T locs cells slots) (hx : p.tables.exec = Jvm.exec) {z : Int32} (t : FieldType) (ht : t = .boolean ∨ t = .byte ∨ t = .char ∨ t = .short) {rm : Room} {Q : Option Value → Heap → List Loc → Prop} (hret : meth.sig.returnType = some t) (hlk : meth.locks = false) (hd : decode c.code pc = .ok (.ireturn, 1)) (hk : cells ≤ rm.cells) (hn : slots ≤ rm.slots) (hq : Q (some (.int (nar t z))) T.heap locs) : Go p.tables e below (EndE s rm Q) (T.setTop (mkF m pc Ls (.int z :: st))) :=
  o_out X hx (fun q => by rw [hret] at q; cases q) hlk (fun fs hr => retN X hx hret ht hd hr) hq hk hn
theorem o_retV (X : Stand p l e R s m args below meth c T locs cells slots) (hx : p.tables.exec = Jvm.exec) {rm : Room} {Q : Option Value → Heap → List Loc → Prop} (hret : meth.sig.returnType = none) (hlk : meth.locks = false) (hd : decode c.code pc = .ok (.return_, 1)) (hk : cells ≤ rm.cells) (hn : slots ≤ rm.slots) (hq : Q none T.heap locs) : Go p.tables e below (EndE s rm Q) (T.setTop (mkF m pc Ls [])) :=
  o_out X hx (fun _ => rfl) hlk (fun fs hr => X.returnOut hx hret hd hr) hq hk hn
theorem o_getF (pc' : Nat) (X : Stand p l e R s m args below meth c T locs cells slots) (hx : p.tables.exec = Jvm.exec) (hpc : pc + 3 = pc') (hZ : Z.Warmed39 s.vm) {own R0 O n d : String} {index : Nat} (hown : s.vm.findClass own = some m.cls) (w : (Jvm.Cond.fieldLink own index R0 n d).before a0 Z = true) (via : Via Z R0 O n d) (eT : T.heap = h) {a : Addr} {v : Value} (F : Fld Z h a O n d v) (hd : decode c.code pc = .ok (.getfield index, 3))
    (k : ∀ (T' : State), Stand p l e R s m args below meth c T' locs cells slots → T'.heap = h → Go p.tables e below E (T'.setTop (mkF m pc' Ls (v :: st)))) : Go p.tables e below E (T.setTop (mkF m pc Ls (.ref a :: st))) := by
  subst hpc
  obtain ⟨T', X', e', st'⟩ := getF X hx hZ hown (host := "") (Or.inl w) via eT F (g := mkF m pc Ls (.ref a :: st)) rfl rfl hd
  exact Go.via st' (k T' X' e')
theorem o_putF (pc' : Nat) (X : Stand p l e R s m args below meth c T locs cells slots) (hx : p.tables.exec = Jvm.exec) (hpc : pc + 3 = pc') (hZ : Z.Warmed39 s.vm) {own R0 O n d C : String} {index kk : Nat} (ty : FieldType) (hown : s.vm.findClass own = some m.cls) (w : (Jvm.Cond.fieldLink own index R0 n d).before a0 Z = true) (via : Via Z R0 O n d) (eT : T.heap = h) {a : Addr} {v old : Value} (F : Fld Z h a O n d old) (X2 : Exa Z h a C)
    (L : (Jvm.Cond.lays C O n d).before a0 Z = true ∨ ((Jvm.Cond.laysFinal C O n d).before a0 Z = true ∧ own = O ∧ meth.name = "<init>")) (wi : (Jvm.Cond.instantiable C kk).before a0 Z = true) (hty : parseFieldDescriptor d = some ty) (hn : narrow ty v = v) (hf : fits ty v = true) {n0 : Nat} (N : Fr n0 locs) (ga : n0 ≤ a) (hd : decode c.code pc = .ok (.putfield index, 3))
    (k : ∀ (T' : State) (h' : Heap) (L' : List Loc), Stand p l e R s m args below meth c T' L' cells slots → Fr n0 L' → T'.heap = h' → Wr h h' a (Jvm.RoadKit.slotOf Z O n d) v → Go p.tables e below E (T'.setTop (mkF m pc' Ls st))) : Go p.tables e below E (T.setTop (mkF m pc Ls (v :: .ref a :: st))) := by
  subst hpc
  obtain ⟨T', h', X', e', W', st'⟩ := putF X hx hZ hown (host := "") (Or.inl w) via eT F X2 L wi hty hn hf (g := mkF m pc Ls (v :: .ref a :: st)) rfl rfl hd
  exact Go.via st' (k T' h' _ X' (Fr.snoc X' N ga) e' W')
theorem o_new (pc' : Nat) (X : Stand p l e R s m args below meth c T locs cells slots) (hx : p.tables.exec = Jvm.exec) (hpc : pc + 3 = pc') (hZ : Z.Warmed39 s.vm) {own C : String} {index n : Nat} (hown : s.vm.findClass own = some m.cls) (w : (Jvm.Cond.classLink own index C).before a0 Z = true) (wi : (Jvm.Cond.instantiable C n).before a0 Z = true) (wz : (Jvm.Cond.initialized C).before a0 Z = true) (eT : T.heap = h) (hd : decode c.code pc = .ok (.new index, 3)) (hc : cells + 1 ≤ R.cells) (hl : slots + n ≤ R.slots)
    (k : ∀ (T' : State) (h' : Heap) (a : Addr), a = h.size → Stand p l e R s m args below meth c T' locs (cells + 1) (slots + n) → T'.heap = h' → Ext h h' → Exa Z h' a C → (∀ {O nm d : String} {ty : FieldType}, Laid Z a0 C O nm d → parseFieldDescriptor d = some ty → Fld Z h' a O nm d (defaultValue ty)) → Go p.tables e below E (T'.setTop (mkF m pc' Ls (.ref a :: st)))) : Go p.tables e below E (T.setTop (mkF m pc Ls st)) := by
  subst hpc
  obtain ⟨T', h', X', e', E', A', D', -, st'⟩ := newO X hx hZ hown w wi wz eT (g := mkF m pc Ls st) rfl hd hc hl
  exact Go.via st' (k T' h' h.size rfl X' e' E' A' D')
theorem o_initO (pc' : Nat) (X : Stand p l e R s m args below meth c T locs cells slots) (hx : p.tables.exec = Jvm.exec) (hpc : pc + 3 = pc') (hZ : Z.Warmed39 s.vm) {own : String} {idx : Nat} (hown : s.vm.findClass own = some m.cls) (w1 : (Jvm.Cond.methodLink own idx Lib.objectInit).before a0 Z = true) (w2 : (Jvm.Cond.instanceMethod Lib.objectInit).before a0 Z = true) (w3 : (Jvm.Cond.code Lib.objectInit ⟨#[0xb1]⟩ 1 none).before a0 Z = true) (eT : T.heap = h) (hsize : Ls.size = c.maxLocals) {a : Addr} (hd : decode c.code pc = .ok (.invokespecial idx, 3)) (hf : 1 ≤ R.frames) (W : Nat) (hW : (st.map fun v => v.category).sum ≤ W) (hl : W + 12 ≤ R.locals)
    (k : ∀ (T' : State), Stand p l e R s m args below meth c T' locs cells slots → T'.heap = h → Go p.tables e below E (T'.setTop (mkF m pc' Ls st))) : Go p.tables e below E (T.setTop (mkF m pc Ls (.ref a :: st))) := by
  subst hpc
  obtain ⟨T', X', e', st'⟩ := initO X hx hZ hown w1 w2 w3 eT (g := mkF m pc Ls (.ref a :: st)) rfl hsize rfl hd hf (W := W) (by show 2 * 0 + _ ≤ _; rw [Nat.mul_zero, Nat.zero_add]; exact hW) hl
  exact Go.via st' (k T' X' e')
theorem o_callS (pc' : Nat) (X : Stand p l e R s m args below meth c T locs cells slots) (hx : p.tables.exec = Jvm.exec) (hpc : pc + 3 = pc') (hZ : Z.Warmed39 s.vm) {own : String} {index : Nat} {y : MethodName} {bytes : ByteArray} {maxL : Nat} {ret : Option FieldType} {rm : Room} {as' : Array Value} {Q : Option Value → Heap → List Loc → Prop} (hown : s.vm.findClass own = some m.cls) (w1 : (Jvm.Cond.methodLink own index y).before a0 Z = true) (w2 : (Jvm.Cond.static y).before a0 Z = true) (w3 : (Jvm.Cond.initialized y.cls).before a0 Z = true) (w4 : (Jvm.Cond.code y bytes maxL ret).before a0 Z = true) (hy : y.cls ≠ "java/lang/invoke/MethodHandle" ∧ y.cls ≠ "java/lang/invoke/VarHandle") (eT : T.heap = h)
    (hM : MetP l y bytes maxL ret [] rm Z as' h Q) {ps : List FieldType} {r : Option FieldType} (hdsc : parseMethodDescriptor y.desc = some ⟨ps, r⟩) (argsL rest : List Value) (hlen : argsL.length = ps.length) (has : argsL.toArray = as') (hsize : Ls.size = c.maxLocals) (hst : st = argsL.reverse ++ rest) (hd : decode c.code pc = .ok (.invokestatic index, 3)) (W : Nat) (hW : (rest.map fun v => v.category).sum ≤ W) (hf : rm.frames + 1 ≤ R.frames) (hlo : W + (maxL + 11) + rm.locals ≤ R.locals) (hc : cells + rm.cells ≤ R.cells) (hsl : slots + rm.slots ≤ R.slots)
    (k : ∀ (v : Option Value) (T' : State) (L : List Loc), Stand p l e R s m args below meth c T' (locs ++ L) (cells + rm.cells) (slots + rm.slots) → Q v T'.heap L → Go p.tables e below E (T'.setTop (mkF m pc' Ls (v.toList ++ rest)))) : Go p.tables e below E (T.setTop (mkF m pc Ls st)) := by
  subst hpc
  obtain ⟨v, _, ⟨T', L', c', s'⟩, -, X', ⟨L, hQ, h1, h2, h3⟩, st'⟩ := Jvm.LawKit.callS X hx (y := y) hown (mvT hZ w1) (mvT hZ w2) (mvT hZ w3) (mvT hZ w4) hy (backOf (W := W) hM hZ w4 w3 hf hlo) (g := mkF m pc Ls st) rfl hsize (argsL := argsL) (rest := rest) (lenOf hdsc hlen) hst (by show 2 * 0 + _ ≤ _; rw [Nat.mul_zero, Nat.zero_add]; exact hW) hd (fun _ _ => ⟨has, eT, hc, hsl⟩)
  dsimp only [Pt.U, Pt.locs, Pt.cells, Pt.slots] at X' h1 h2 h3 st' hQ
  subst h1 h2 h3
  exact Go.via st' (k v T' L X' hQ)
theorem o_callP (pc' : Nat) (X : Stand p l e R s m args below meth c T locs cells slots) (hx : p.tables.exec = Jvm.exec) (hpc : pc + 3 = pc') (hZ : Z.Warmed39 s.vm) {own : String} {index : Nat} {y : MethodName} {bytes : ByteArray} {maxL : Nat} {ret : Option FieldType} {rm : Room} {as' : Array Value} {rv : Value} (hown : s.vm.findClass own = some m.cls) (w1 : (Jvm.Cond.methodLink own index y).before a0 Z = true) (w2 : (Jvm.Cond.static y).before a0 Z = true) (w3 : (Jvm.Cond.initialized y.cls).before a0 Z = true) (w4 : (Jvm.Cond.code y bytes maxL ret).before a0 Z = true) (hy : y.cls ≠ "java/lang/invoke/MethodHandle" ∧ y.cls ≠ "java/lang/invoke/VarHandle") (eT : T.heap = h)
    (hM : MetP l y bytes maxL ret [] rm Z as' h (Pure rv h)) {ps : List FieldType} {r : Option FieldType} (hdsc : parseMethodDescriptor y.desc = some ⟨ps, r⟩) (argsL rest : List Value) (hlen : argsL.length = ps.length) (has : argsL.toArray = as') (hsize : Ls.size = c.maxLocals) (hst : st = argsL.reverse ++ rest) (hd : decode c.code pc = .ok (.invokestatic index, 3)) (W : Nat) (hW : (rest.map fun v => v.category).sum ≤ W) (hf : rm.frames + 1 ≤ R.frames) (hlo : W + (maxL + 11) + rm.locals ≤ R.locals) (hc : cells + rm.cells ≤ R.cells) (hsl : slots + rm.slots ≤ R.slots) (hc0 : rm.cells = 0) (hs0 : rm.slots = 0)
    (k : ∀ (T' : State), Stand p l e R s m args below meth c T' locs cells slots → T'.heap = h → Go p.tables e below E (T'.setTop (mkF m pc' Ls (rv :: rest)))) : Go p.tables e below E (T.setTop (mkF m pc Ls st)) := by
  refine o_callS pc' X hx hpc hZ hown w1 w2 w3 w4 hy eT hM hdsc argsL rest hlen has hsize hst hd W hW hf hlo hc hsl ?_
  intro v T' L X' hQ
  obtain ⟨rfl, rfl, e'⟩ := hQ
  rw [hc0, hs0, List.append_nil] at X'
  exact k T' X' e' 
theorem o_callI (pc' : Nat) (X : Stand p l e R s m args below meth c T locs cells slots) (hx : p.tables.exec = Jvm.exec) (hpc : pc + 3 = pc') (hZ : Z.Warmed39 s.vm) {own : String} {index : Nat} {y : MethodName} {bytes : ByteArray} {maxL : Nat} {rm : Room} {as' : Array Value} {Q : Option Value → Heap → List Loc → Prop} (hy1 : y.name = "<init>") (hown : s.vm.findClass own = some m.cls) (w1 : (Jvm.Cond.methodLink own index y).before a0 Z = true) (w2 : (Jvm.Cond.instanceMethod y).before a0 Z = true) (w3 : (Jvm.Cond.initialized y.cls).before a0 Z = true) (w4 : (Jvm.Cond.code y bytes maxL none).before a0 Z = true) (hy : y.cls ≠ "java/lang/invoke/MethodHandle" ∧ y.cls ≠ "java/lang/invoke/VarHandle") (eT : T.heap = h)
    (hM : MetP l y bytes maxL none [] rm Z as' h Q) {ps : List FieldType} {r : Option FieldType} (hdsc : parseMethodDescriptor y.desc = some ⟨ps, r⟩) (a : Addr) (argsL rest : List Value) (hlen : argsL.length = ps.length) (has : (.ref a :: argsL).toArray = as') (hsize : Ls.size = c.maxLocals) (hst : st = argsL.reverse ++ .ref a :: rest) (hd : decode c.code pc = .ok (.invokespecial index, 3)) (W : Nat) (hW : (rest.map fun v => v.category).sum ≤ W) (hf : rm.frames + 1 ≤ R.frames) (hlo : W + (maxL + 11) + rm.locals ≤ R.locals) (hc : cells + rm.cells ≤ R.cells) (hsl : slots + rm.slots ≤ R.slots)
    (k : ∀ (v : Option Value) (T' : State) (L : List Loc), Stand p l e R s m args below meth c T' (locs ++ L) (cells + rm.cells) (slots + rm.slots) → Q v T'.heap L → Go p.tables e below E (T'.setTop (mkF m pc' Ls (v.toList ++ rest)))) : Go p.tables e below E (T.setTop (mkF m pc Ls st)) := by
  subst hpc
  obtain ⟨v, _, ⟨T', L', c', s'⟩, -, X', ⟨L, hQ, h1, h2, h3⟩, st'⟩ := X.specialBack hx (y := y) hy1 hown (mvT hZ w1) (mvT hZ w2) (mvT hZ w4) hy (backOf (W := W) hM hZ w4 w3 hf hlo) (g := mkF m pc Ls st) rfl hsize (Steps.refl _) (a := a) (argsL := argsL) (rest := rest) (lenOf hdsc hlen) hst (by show 2 * 0 + _ ≤ _; rw [Nat.mul_zero, Nat.zero_add]; exact hW) hd (fun _ _ => ⟨has, eT, hc, hsl⟩)
  dsimp only [Pt.U, Pt.locs, Pt.cells, Pt.slots] at X' h1 h2 h3 st' hQ
  subst h1 h2 h3
  exact Go.via (fun _ q => st'.trans q) (k v T' L X' hQ)
theorem o_callV (pc' : Nat) (X : Stand p l e R s m args below meth c T locs cells slots) (hx : p.tables.exec = Jvm.exec) (hpc : pc + 3 = pc') (hZ : Z.Warmed39 s.vm) {own C : String} {index : Nat} {y : MethodName} {bytes : ByteArray} {maxL : Nat} {ret : Option FieldType} {rm : Room} {as' : Array Value} {Q : Option Value → Heap → List Loc → Prop} (hown : s.vm.findClass own = some m.cls) (w1 : (Jvm.Cond.methodLink own index y).before a0 Z = true) (w2 : (Jvm.Cond.declares y).before a0 Z = true) (wsel : (Jvm.Cond.selects C y y).before a0 Z = true) (w5 : (Jvm.Cond.instanceMethod y).before a0 Z = true) (w3 : (Jvm.Cond.initialized y.cls).before a0 Z = true) (w4 : (Jvm.Cond.code y bytes maxL ret).before a0 Z = true) (hy : y.cls ≠ "java/lang/invoke/MethodHandle" ∧ y.cls ≠ "java/lang/invoke/VarHandle") (eT : T.heap = h)
    (hM : MetP l y bytes maxL ret [] rm Z as' h Q) {ps : List FieldType} {r : Option FieldType} (hdsc : parseMethodDescriptor y.desc = some ⟨ps, r⟩) (argsL rest : List Value) (hlen : argsL.length = ps.length) {a : Addr} (X2 : Exa Z h a C) (has : (.ref a :: argsL).toArray = as') (hsize : Ls.size = c.maxLocals) (hst : st = argsL.reverse ++ .ref a :: rest) (hd : decode c.code pc = .ok (.invokevirtual index, 3)) (W : Nat) (hW : (rest.map fun v => v.category).sum ≤ W) (hf : rm.frames + 1 ≤ R.frames) (hlo : W + (maxL + 11) + rm.locals ≤ R.locals) (hc : cells + rm.cells ≤ R.cells) (hsl : slots + rm.slots ≤ R.slots)
    (k : ∀ (v : Option Value) (T' : State) (L : List Loc), Stand p l e R s m args below meth c T' (locs ++ L) (cells + rm.cells) (slots + rm.slots) → Q v T'.heap L → Go p.tables e below E (T'.setTop (mkF m pc' Ls (v.toList ++ rest)))) : Go p.tables e below E (T.setTop (mkF m pc Ls st)) := by
  subst hpc
  obtain ⟨cq, kq, qa, qb, qc⟩ := isOf hZ eT X2
  obtain ⟨v, _, ⟨T', L', c', s'⟩, -, X', ⟨L, hQ, h1, h2, h3⟩, st'⟩ := X.virtualBack hx (y := y) (z := y) hown (mvT hZ w1) (mvT hZ w2) (notFace_of_selects (args := #[]) (mvT hZ wsel)) (mvT hZ wsel) (mvT hZ w5) hy (backOf (W := W) hM hZ w4 w3 hf hlo) qa qc (g := mkF m pc Ls st) rfl hsize (Steps.refl _) (argsL := argsL) (rest := rest) (lenOf hdsc hlen) hst (by show 2 * 0 + _ ≤ _; rw [Nat.mul_zero, Nat.zero_add]; exact hW) hd (fun _ _ => ⟨has, eT, hc, hsl⟩)
  dsimp only [Pt.U, Pt.locs, Pt.cells, Pt.slots] at X' h1 h2 h3 st' hQ
  subst h1 h2 h3
  exact Go.via (fun _ q => st'.trans q) (k v T' L X' hQ)
theorem o_newarr (pc' : Nat) (X : Stand p l e R s m args below meth c T locs cells slots) (hx : p.tables.exec = Jvm.exec) (hpc : pc + 2 = pc') (hZ : Z.Warmed39 s.vm) (aty : ArrayType) (ty : FieldType) (hty : newarray.typeOf aty = ty) (w : (Jvm.Cond.arrayClass ty).before a0 Z = true) (eT : T.heap = h) {n : Int32} (hd : decode c.code pc = .ok (.newarray aty, 2)) (hn : ¬ n < 0) (cap : Nat) (hcap : n.toNatClampNeg ≤ cap) (hb : cap * 8 ≤ 536870912) (hc : cells + 1 ≤ R.cells) (hl : slots + cap ≤ R.slots)
    (k : ∀ (T' : State) (h' : Heap) (a : Addr) (cA : ClassId), a = h.size → Stand p l e R s m args below meth c T' locs (cells + 1) (slots + cap) → T'.heap = h' → Ext h h' → Arv Z h' a cA ty n [] (defaultValue ty) → Go p.tables e below E (T'.setTop (mkF m pc' Ls (.ref a :: st)))) : Go p.tables e below E (T.setTop (mkF m pc Ls (.int n :: st))) := by
  subst hpc; subst hty
  obtain ⟨T', h', cA, X', e', E', A', st'⟩ := newP X hx hZ w eT (g := mkF m pc Ls (.int n :: st)) rfl hd rfl hn hcap hb hc hl
  exact Go.via st' (k T' h' h.size cA rfl X' e' E' (Arv.new A' hn))
theorem o_alen (pc' : Nat) (X : Stand p l e R s m args below meth c T locs cells slots) (hx : p.tables.exec = Jvm.exec) (hpc : pc + 1 = pc') (hZ : Z.Warmed39 s.vm) (eT : T.heap = h) {a : Addr} {ka : ClassId} {ty : FieldType} {n : Int32} {vs : List Value} {dv : Value} (F : Arv Z h a ka ty n vs dv) (hd : decode c.code pc = .ok (.arraylength, 1)) (k : Go p.tables e below E (T.setTop (mkF m pc' Ls (.int n :: st)))) : Go p.tables e below E (T.setTop (mkF m pc Ls (.ref a :: st))) := by
  subst hpc
  obtain ⟨cl, A, -, S, M, -⟩ := F
  rw [← len_of S M] at k
  exact Go.via (fun _ q => X.arraylength hx (by rw [eT]; exact A.1) (State.isArrayOf_alike hZ.alike A.2.1) (g := mkF m pc Ls (.ref a :: st)) rfl rfl hd _ q) k
theorem o_iaload (pc' : Nat) (X : Stand p l e R s m args below meth c T locs cells slots) (hx : p.tables.exec = Jvm.exec) (hpc : pc + 1 = pc') (hZ : Z.Warmed39 s.vm) (eT : T.heap = h) {a : Addr} {ka : ClassId} {n j : Int32} {vs : List Value} {dv : Value} (F : Arv Z h a ka .int n vs dv) (hj : ¬ j < 0 ∧ j < n) (v : Value) (hv : vs.getD j.toNatClampNeg dv = v) (hd : decode c.code pc = .ok (.iaload, 1)) (k : Go p.tables e below E (T.setTop (mkF m pc' Ls (v :: st)))) : Go p.tables e below E (T.setTop (mkF m pc Ls (.int j :: .ref a :: st))) := by
  subst hpc
  obtain ⟨cl, A, -, S, M, H, -⟩ := F
  have hin := inb_of S hj
  exact Go.via (fun _ q => X.iaload hx (j := j) (v := v) (by rw [eT]; exact A.1) (State.isArrayOf_alike hZ.alike A.2.1) A.2.2 hin (H.at hin hv) (g := mkF m pc Ls (.int j :: .ref a :: st)) rfl rfl hd _ q) k
theorem o_laload (pc' : Nat) (X : Stand p l e R s m args below meth c T locs cells slots) (hx : p.tables.exec = Jvm.exec) (hpc : pc + 1 = pc') (hZ : Z.Warmed39 s.vm) (eT : T.heap = h) {a : Addr} {ka : ClassId} {n j : Int32} {vs : List Value} {dv : Value} (F : Arv Z h a ka .long n vs dv) (hj : ¬ j < 0 ∧ j < n) (v : Value) (hv : vs.getD j.toNatClampNeg dv = v) (hd : decode c.code pc = .ok (.laload, 1)) (k : Go p.tables e below E (T.setTop (mkF m pc' Ls (v :: st)))) : Go p.tables e below E (T.setTop (mkF m pc Ls (.int j :: .ref a :: st))) := by
  subst hpc
  obtain ⟨cl, A, -, S, M, H, -⟩ := F
  have hin := inb_of S hj
  exact Go.via (fun _ q => X.laload hx (j := j) (v := v) (by rw [eT]; exact A.1) (State.isArrayOf_alike hZ.alike A.2.1) A.2.2 hin (H.at hin hv) (g := mkF m pc Ls (.int j :: .ref a :: st)) rfl rfl hd _ q) k
theorem o_baloadZ (pc' : Nat) (X : Stand p l e R s m args below meth c T locs cells slots) (hx : p.tables.exec = Jvm.exec) (hpc : pc + 1 = pc') (hZ : Z.Warmed39 s.vm) (eT : T.heap = h) {a : Addr} {ka : ClassId} {n j : Int32} {vs : List Value} {dv : Value} (F : Arv Z h a ka .boolean n vs dv) (hj : ¬ j < 0 ∧ j < n) (v : Value) (hv : vs.getD j.toNatClampNeg dv = v) (hd : decode c.code pc = .ok (.baload, 1)) (k : Go p.tables e below E (T.setTop (mkF m pc' Ls (v :: st)))) : Go p.tables e below E (T.setTop (mkF m pc Ls (.int j :: .ref a :: st))) := by
  subst hpc
  obtain ⟨cl, A, -, S, M, H, -⟩ := F
  have hin := inb_of S hj
  exact Go.via (fun _ q => X.baloadBooleans hx (j := j) (v := v) (by rw [eT]; exact A.1) (State.isArrayOf_alike hZ.alike A.2.1) A.2.2 hin (H.at hin hv) (g := mkF m pc Ls (.int j :: .ref a :: st)) rfl rfl hd _ q) k
theorem o_iastore (pc' : Nat) (X : Stand p l e R s m args below meth c T locs cells slots) (hx : p.tables.exec = Jvm.exec) (hpc : pc + 1 = pc') (hZ : Z.Warmed39 s.vm) (eT : T.heap = h) {a : Addr} {ka : ClassId} {n j : Int32} {x : Int32} {vs : List Value} {dv : Value} (F : Arv Z h a ka .int n vs dv) (hj : ¬ j < 0 ∧ j < n) (i : Nat) (hi : j.toNatClampNeg = i) (hlt : i < vs.length) (vs' : List Value) (hvs : vs.set i (.int x) = vs') {n0 : Nat} (N : Fr n0 locs) (ga : n0 ≤ a) (hd : decode c.code pc = .ok (.iastore, 1))
    (k : ∀ (T' : State) (h' : Heap) (L' : List Loc), Stand p l e R s m args below meth c T' L' cells slots → Fr n0 L' → T'.heap = h' → Wr h h' a j.toNatClampNeg (.int x) → Arv Z h' a ka .int n vs' dv → Go p.tables e below E (T'.setTop (mkF m pc' Ls st))) : Go p.tables e below E (T.setTop (mkF m pc Ls (.int x :: .int j :: .ref a :: st))) := by
  subst hpc; subst hvs
  obtain ⟨cl, A, q1, S, M, H, G⟩ := F
  have hin := inb_of S hj
  obtain ⟨T', h', X', e', W', st'⟩ := stI X hx hZ eT A hin (g := mkF m pc Ls (.int x :: .int j :: .ref a :: st)) rfl rfl hd
  exact Go.via st' (k T' h' _ X' (Fr.snoc X' N ga) e' W' (Arv.set A q1 S M H G (rfl) W' i hi hlt))
theorem o_lastore (pc' : Nat) (X : Stand p l e R s m args below meth c T locs cells slots) (hx : p.tables.exec = Jvm.exec) (hpc : pc + 1 = pc') (hZ : Z.Warmed39 s.vm) (eT : T.heap = h) {a : Addr} {ka : ClassId} {n j : Int32} {x : Int64} {vs : List Value} {dv : Value} (F : Arv Z h a ka .long n vs dv) (hj : ¬ j < 0 ∧ j < n) (i : Nat) (hi : j.toNatClampNeg = i) (hlt : i < vs.length) (vs' : List Value) (hvs : vs.set i (.long x) = vs') {n0 : Nat} (N : Fr n0 locs) (ga : n0 ≤ a) (hd : decode c.code pc = .ok (.lastore, 1))
    (k : ∀ (T' : State) (h' : Heap) (L' : List Loc), Stand p l e R s m args below meth c T' L' cells slots → Fr n0 L' → T'.heap = h' → Wr h h' a j.toNatClampNeg (.long x) → Arv Z h' a ka .long n vs' dv → Go p.tables e below E (T'.setTop (mkF m pc' Ls st))) : Go p.tables e below E (T.setTop (mkF m pc Ls (.long x :: .int j :: .ref a :: st))) := by
  subst hpc; subst hvs
  obtain ⟨cl, A, q1, S, M, H, G⟩ := F
  have hin := inb_of S hj
  obtain ⟨T', h', X', e', W', st'⟩ := stJ X hx hZ eT A hin (g := mkF m pc Ls (.long x :: .int j :: .ref a :: st)) rfl rfl hd
  exact Go.via st' (k T' h' _ X' (Fr.snoc X' N ga) e' W' (Arv.set A q1 S M H G (rfl) W' i hi hlt))
theorem o_bastoreZ (pc' : Nat) (X : Stand p l e R s m args below meth c T locs cells slots) (hx : p.tables.exec = Jvm.exec) (hpc : pc + 1 = pc') (hZ : Z.Warmed39 s.vm) (eT : T.heap = h) {a : Addr} {ka : ClassId} {n j : Int32} {x : Int32} {vs : List Value} {dv : Value} (F : Arv Z h a ka .boolean n vs dv) (hj : ¬ j < 0 ∧ j < n) (i : Nat) (hi : j.toNatClampNeg = i) (hlt : i < vs.length) (vs' : List Value) (hvs : vs.set i (.int (nar .boolean x)) = vs') {n0 : Nat} (N : Fr n0 locs) (ga : n0 ≤ a) (hd : decode c.code pc = .ok (.bastore, 1))
    (k : ∀ (T' : State) (h' : Heap) (L' : List Loc), Stand p l e R s m args below meth c T' L' cells slots → Fr n0 L' → T'.heap = h' → Wr h h' a j.toNatClampNeg (.int (nar .boolean x)) → Arv Z h' a ka .boolean n vs' dv → Go p.tables e below E (T'.setTop (mkF m pc' Ls st))) : Go p.tables e below E (T.setTop (mkF m pc Ls (.int x :: .int j :: .ref a :: st))) := by
  subst hpc; subst hvs
  obtain ⟨cl, A, q1, S, M, H, G⟩ := F
  have hin := inb_of S hj
  obtain ⟨T', h', X', e', W', st'⟩ := stZ X hx hZ eT A hin (g := mkF m pc Ls (.int x :: .int j :: .ref a :: st)) rfl rfl hd
  exact Go.via st' (k T' h' _ X' (Fr.snoc X' N ga) e' W' (Arv.set A q1 S M H G (fits_nar_bool x) W' i hi hlt))
theorem own_getI (xs : List Int32) (i : Nat) : (xs.map Value.int).getD i (.int 0) = .int (xs.getD i 0) := by
  simp only [List.getD_eq_getElem?_getD, List.getElem?_map]; cases xs[i]? <;> rfl
theorem o_ialoadX (pc' : Nat) (X : Stand p l e R s m args below meth c T locs cells slots) (hx : p.tables.exec = Jvm.exec) (hpc : pc + 1 = pc') (hZ : Z.Warmed39 s.vm) (eT : T.heap = h) {a : Addr} {ka : ClassId} {n j : Int32} {xs : List Int32} (F : Arv Z h a ka .int n (xs.map Value.int) (.int 0)) (hj : ¬ j < 0 ∧ j < n) (hd : decode c.code pc = .ok (.iaload, 1)) (v : Int32) (hv : xs.getD j.toNatClampNeg 0 = v) (k : Go p.tables e below E (T.setTop (mkF m pc' Ls (.int v :: st)))) : Go p.tables e below E (T.setTop (mkF m pc Ls (.int j :: .ref a :: st))) := by
  subst hv; exact o_iaload pc' X hx hpc hZ eT F hj _ (own_getI xs _) hd k
theorem o_baloadZX (pc' : Nat) (X : Stand p l e R s m args below meth c T locs cells slots) (hx : p.tables.exec = Jvm.exec) (hpc : pc + 1 = pc') (hZ : Z.Warmed39 s.vm) (eT : T.heap = h) {a : Addr} {ka : ClassId} {n j : Int32} {xs : List Int32} (F : Arv Z h a ka .boolean n (xs.map Value.int) (.int 0)) (hj : ¬ j < 0 ∧ j < n) (hd : decode c.code pc = .ok (.baload, 1)) (v : Int32) (hv : xs.getD j.toNatClampNeg 0 = v) (k : Go p.tables e below E (T.setTop (mkF m pc' Ls (.int v :: st)))) : Go p.tables e below E (T.setTop (mkF m pc Ls (.int j :: .ref a :: st))) := by
  subst hv; exact o_baloadZ pc' X hx hpc hZ eT F hj _ (own_getI xs _) hd k
theorem own_getJ (xs : List Int64) (i : Nat) : (xs.map Value.long).getD i (.long 0) = .long (xs.getD i 0) := by
  simp only [List.getD_eq_getElem?_getD, List.getElem?_map]; cases xs[i]? <;> rfl
theorem o_laloadX (pc' : Nat) (X : Stand p l e R s m args below meth c T locs cells slots) (hx : p.tables.exec = Jvm.exec) (hpc : pc + 1 = pc') (hZ : Z.Warmed39 s.vm) (eT : T.heap = h) {a : Addr} {ka : ClassId} {n j : Int32} {xs : List Int64} (F : Arv Z h a ka .long n (xs.map Value.long) (.long 0)) (hj : ¬ j < 0 ∧ j < n) (hd : decode c.code pc = .ok (.laload, 1)) (v : Int64) (hv : xs.getD j.toNatClampNeg 0 = v) (k : Go p.tables e below E (T.setTop (mkF m pc' Ls (.long v :: st)))) : Go p.tables e below E (T.setTop (mkF m pc Ls (.int j :: .ref a :: st))) := by
  subst hv; exact o_laload pc' X hx hpc hZ eT F hj _ (own_getJ xs _) hd k
theorem o_iastoreX (pc' : Nat) (X : Stand p l e R s m args below meth c T locs cells slots) (hx : p.tables.exec = Jvm.exec) (hpc : pc + 1 = pc') (hZ : Z.Warmed39 s.vm) (eT : T.heap = h) {a : Addr} {ka : ClassId} {n j : Int32} {x : Int32} {xs : List Int32} (F : Arv Z h a ka .int n (xs.map Value.int) (.int 0)) (hj : ¬ j < 0 ∧ j < n) (hlt : j.toNatClampNeg < xs.length) (xs' : List Int32) (hxs : xs.set j.toNatClampNeg x = xs') {n0 : Nat} (N : Fr n0 locs) (ga : n0 ≤ a) (hd : decode c.code pc = .ok (.iastore, 1))
    (k : ∀ (T' : State) (h' : Heap) (L' : List Loc), Stand p l e R s m args below meth c T' L' cells slots → Fr n0 L' → T'.heap = h' → Wr h h' a j.toNatClampNeg (.int x) → Arv Z h' a ka .int n (xs'.map Value.int) (.int 0) → Go p.tables e below E (T'.setTop (mkF m pc' Ls st))) : Go p.tables e below E (T.setTop (mkF m pc Ls (.int x :: .int j :: .ref a :: st))) := by
  subst hxs
  exact o_iastore pc' X hx hpc hZ eT F hj _ rfl (by rw [List.length_map]; exact hlt) _ (List.map_set.symm) N ga hd k
theorem o_bastoreZX (pc' : Nat) (X : Stand p l e R s m args below meth c T locs cells slots) (hx : p.tables.exec = Jvm.exec) (hpc : pc + 1 = pc') (hZ : Z.Warmed39 s.vm) (eT : T.heap = h) {a : Addr} {ka : ClassId} {n j : Int32} {x : Int32} {xs : List Int32} (F : Arv Z h a ka .boolean n (xs.map Value.int) (.int 0)) (hj : ¬ j < 0 ∧ j < n) (hlt : j.toNatClampNeg < xs.length) (xs' : List Int32) (hxs : xs.set j.toNatClampNeg (nar .boolean x) = xs') {n0 : Nat} (N : Fr n0 locs) (ga : n0 ≤ a) (hd : decode c.code pc = .ok (.bastore, 1))
    (k : ∀ (T' : State) (h' : Heap) (L' : List Loc), Stand p l e R s m args below meth c T' L' cells slots → Fr n0 L' → T'.heap = h' → Wr h h' a j.toNatClampNeg (.int (nar .boolean x)) → Arv Z h' a ka .boolean n (xs'.map Value.int) (.int 0) → Go p.tables e below E (T'.setTop (mkF m pc' Ls st))) : Go p.tables e below E (T.setTop (mkF m pc Ls (.int x :: .int j :: .ref a :: st))) := by
  subst hxs
  exact o_bastoreZ pc' X hx hpc hZ eT F hj _ rfl (by rw [List.length_map]; exact hlt) _ (List.map_set.symm) N ga hd k
theorem o_lastoreX (pc' : Nat) (X : Stand p l e R s m args below meth c T locs cells slots) (hx : p.tables.exec = Jvm.exec) (hpc : pc + 1 = pc') (hZ : Z.Warmed39 s.vm) (eT : T.heap = h) {a : Addr} {ka : ClassId} {n j : Int32} {x : Int64} {xs : List Int64} (F : Arv Z h a ka .long n (xs.map Value.long) (.long 0)) (hj : ¬ j < 0 ∧ j < n) (hlt : j.toNatClampNeg < xs.length) (xs' : List Int64) (hxs : xs.set j.toNatClampNeg x = xs') {n0 : Nat} (N : Fr n0 locs) (ga : n0 ≤ a) (hd : decode c.code pc = .ok (.lastore, 1))
    (k : ∀ (T' : State) (h' : Heap) (L' : List Loc), Stand p l e R s m args below meth c T' L' cells slots → Fr n0 L' → T'.heap = h' → Wr h h' a j.toNatClampNeg (.long x) → Arv Z h' a ka .long n (xs'.map Value.long) (.long 0) → Go p.tables e below E (T'.setTop (mkF m pc' Ls st))) : Go p.tables e below E (T.setTop (mkF m pc Ls (.long x :: .int j :: .ref a :: st))) := by
  subst hxs
  exact o_lastore pc' X hx hpc hZ eT F hj _ rfl (by rw [List.length_map]; exact hlt) _ (List.map_set.symm) N ga hd k
theorem o_newarrI (pc' : Nat) (X : Stand p l e R s m args below meth c T locs cells slots) (hx : p.tables.exec = Jvm.exec) (hpc : pc + 2 = pc') (hZ : Z.Warmed39 s.vm) (aty : ArrayType) (ty : FieldType) (hty : newarray.typeOf aty = ty) (hdf : defaultValue ty = .int 0) (w : (Jvm.Cond.arrayClass ty).before a0 Z = true) (eT : T.heap = h) {n : Int32} (hd : decode c.code pc = .ok (.newarray aty, 2)) (hn : ¬ n < 0) (cap : Nat) (hcap : n.toNatClampNeg ≤ cap) (hb : cap * 8 ≤ 536870912) (hc : cells + 1 ≤ R.cells) (hl : slots + cap ≤ R.slots) (xs : List Int32) (hxs : List.replicate n.toNatClampNeg 0 = xs)
    (k : ∀ (T' : State) (h' : Heap) (a : Addr) (cA : ClassId), a = h.size → Stand p l e R s m args below meth c T' locs (cells + 1) (slots + cap) → T'.heap = h' → Ext h h' → Arv Z h' a cA ty n (xs.map Value.int) (.int 0) → Go p.tables e below E (T'.setTop (mkF m pc' Ls (.ref a :: st)))) : Go p.tables e below E (T.setTop (mkF m pc Ls (.int n :: st))) := by
  subst hxs
  refine o_newarr pc' X hx hpc hZ aty ty hty w eT hd hn cap hcap hb hc hl ?_
  intro T' h' a cA g X' e' E' A'
  rw [hdf] at A'
  refine k T' h' a cA g X' e' E' ?_
  rw [List.map_replicate]
  exact A'.pad (pad_rep [] _ _)
theorem o_newarrJ (pc' : Nat) (X : Stand p l e R s m args below meth c T locs cells slots) (hx : p.tables.exec = Jvm.exec) (hpc : pc + 2 = pc') (hZ : Z.Warmed39 s.vm) (aty : ArrayType) (ty : FieldType) (hty : newarray.typeOf aty = ty) (hdf : defaultValue ty = .long 0) (w : (Jvm.Cond.arrayClass ty).before a0 Z = true) (eT : T.heap = h) {n : Int32} (hd : decode c.code pc = .ok (.newarray aty, 2)) (hn : ¬ n < 0) (cap : Nat) (hcap : n.toNatClampNeg ≤ cap) (hb : cap * 8 ≤ 536870912) (hc : cells + 1 ≤ R.cells) (hl : slots + cap ≤ R.slots) (xs : List Int64) (hxs : List.replicate n.toNatClampNeg 0 = xs)
    (k : ∀ (T' : State) (h' : Heap) (a : Addr) (cA : ClassId), a = h.size → Stand p l e R s m args below meth c T' locs (cells + 1) (slots + cap) → T'.heap = h' → Ext h h' → Arv Z h' a cA ty n (xs.map Value.long) (.long 0) → Go p.tables e below E (T'.setTop (mkF m pc' Ls (.ref a :: st)))) : Go p.tables e below E (T.setTop (mkF m pc Ls (.int n :: st))) := by
  subst hxs
  refine o_newarr pc' X hx hpc hZ aty ty hty w eT hd hn cap hcap hb hc hl ?_
  intro T' h' a cA g X' e' E' A'
  rw [hdf] at A'
  refine k T' h' a cA g X' e' E' ?_
  rw [List.map_replicate]
  exact A'.pad (pad_rep [] _ _)
theorem o_callVP (pc' : Nat) (X : Stand p l e R s m args below meth c T locs cells slots) (hx : p.tables.exec = Jvm.exec) (hpc : pc + 3 = pc') (hZ : Z.Warmed39 s.vm) {own C : String} {index : Nat} {y : MethodName} {bytes : ByteArray} {maxL : Nat} {ret : Option FieldType} {rm : Room} {as' : Array Value} {rv : Value} (hown : s.vm.findClass own = some m.cls) (w1 : (Jvm.Cond.methodLink own index y).before a0 Z = true) (w2 : (Jvm.Cond.declares y).before a0 Z = true) (wsel : (Jvm.Cond.selects C y y).before a0 Z = true) (w5 : (Jvm.Cond.instanceMethod y).before a0 Z = true) (w3 : (Jvm.Cond.initialized y.cls).before a0 Z = true) (w4 : (Jvm.Cond.code y bytes maxL ret).before a0 Z = true) (hy : y.cls ≠ "java/lang/invoke/MethodHandle" ∧ y.cls ≠ "java/lang/invoke/VarHandle") (eT : T.heap = h)
    (hM : MetP l y bytes maxL ret [] rm Z as' h (Pure rv h)) {ps : List FieldType} {r : Option FieldType} (hdsc : parseMethodDescriptor y.desc = some ⟨ps, r⟩) (argsL rest : List Value) (hlen : argsL.length = ps.length) {a : Addr} (X2 : Exa Z h a C) (has : (.ref a :: argsL).toArray = as') (hsize : Ls.size = c.maxLocals) (hst : st = argsL.reverse ++ .ref a :: rest) (hd : decode c.code pc = .ok (.invokevirtual index, 3)) (W : Nat) (hW : (rest.map fun v => v.category).sum ≤ W) (hf : rm.frames + 1 ≤ R.frames) (hlo : W + (maxL + 11) + rm.locals ≤ R.locals) (hc : cells + rm.cells ≤ R.cells) (hsl : slots + rm.slots ≤ R.slots) (hc0 : rm.cells = 0) (hs0 : rm.slots = 0)
    (k : ∀ (T' : State), Stand p l e R s m args below meth c T' locs cells slots → T'.heap = h → Go p.tables e below E (T'.setTop (mkF m pc' Ls (rv :: rest)))) : Go p.tables e below E (T.setTop (mkF m pc Ls st)) := by
  refine o_callV pc' X hx hpc hZ hown w1 w2 wsel w5 w3 w4 hy eT hM hdsc argsL rest hlen X2 has hsize hst hd W hW hf hlo hc hsl ?_
  intro v T' L X' hQ
  obtain ⟨rfl, rfl, e'⟩ := hQ
  rw [hc0, hs0, List.append_nil] at X'
  exact k T' X' e' 
theorem o_callSw (pc' : Nat) (X : Stand p l e R s m args below meth c T locs cells slots) (hx : p.tables.exec = Jvm.exec) (hpc : pc + 3 = pc') (hZ : Z.Warmed39 s.vm) {own : String} {index : Nat} {y : MethodName} {bytes : ByteArray} {maxL : Nat} {ret : Option FieldType} {rm : Room} {as' : Array Value} {Q : Option Value → Heap → List Loc → Prop} (hown : s.vm.findClass own = some m.cls) (w1 : (Jvm.Cond.methodLink own index y).before a0 Z = true) (w2 : (Jvm.Cond.static y).before a0 Z = true) (w3 : (Jvm.Cond.initialized y.cls).before a0 Z = true) (w4 : (Jvm.Cond.code y bytes maxL ret).before a0 Z = true) (hy : y.cls ≠ "java/lang/invoke/MethodHandle" ∧ y.cls ≠ "java/lang/invoke/VarHandle") (eT : T.heap = h) {n0 : Nat} (N : Fr n0 locs)
    (hM : MetP l y bytes maxL ret [] rm Z as' h Q) {ps : List FieldType} {r : Option FieldType} (hdsc : parseMethodDescriptor y.desc = some ⟨ps, r⟩) (argsL rest : List Value) (hlen : argsL.length = ps.length) (has : argsL.toArray = as') (hsize : Ls.size = c.maxLocals) (hst : st = argsL.reverse ++ rest) (hd : decode c.code pc = .ok (.invokestatic index, 3)) (W : Nat) (hW : (rest.map fun v => v.category).sum ≤ W) (hf : rm.frames + 1 ≤ R.frames) (hlo : W + (maxL + 11) + rm.locals ≤ R.locals) (hc : cells + rm.cells ≤ R.cells) (hsl : slots + rm.slots ≤ R.slots)
    (k : ∀ (v : Option Value) (T' : State) (L L' : List Loc), Stand p l e R s m args below meth c T' L' (cells + rm.cells) (slots + rm.slots) → Q v T'.heap L → (Fr n0 L → Fr n0 L') → Go p.tables e below E (T'.setTop (mkF m pc' Ls (v.toList ++ rest)))) : Go p.tables e below E (T.setTop (mkF m pc Ls st)) :=
  o_callS pc' X hx hpc hZ hown w1 w2 w3 w4 hy eT hM hdsc argsL rest hlen has hsize hst hd W hW hf hlo hc hsl (fun v T' L X' hQ => k v T' L _ X' hQ (fun M => Fr.app N M))
theorem o_callIw (pc' : Nat) (X : Stand p l e R s m args below meth c T locs cells slots) (hx : p.tables.exec = Jvm.exec) (hpc : pc + 3 = pc') (hZ : Z.Warmed39 s.vm) {own : String} {index : Nat} {y : MethodName} {bytes : ByteArray} {maxL : Nat} {rm : Room} {as' : Array Value} {Q : Option Value → Heap → List Loc → Prop} (hy1 : y.name = "<init>") (hown : s.vm.findClass own = some m.cls) (w1 : (Jvm.Cond.methodLink own index y).before a0 Z = true) (w2 : (Jvm.Cond.instanceMethod y).before a0 Z = true) (w3 : (Jvm.Cond.initialized y.cls).before a0 Z = true) (w4 : (Jvm.Cond.code y bytes maxL none).before a0 Z = true) (hy : y.cls ≠ "java/lang/invoke/MethodHandle" ∧ y.cls ≠ "java/lang/invoke/VarHandle") (eT : T.heap = h) {n0 : Nat} (N : Fr n0 locs)
    (hM : MetP l y bytes maxL none [] rm Z as' h Q) {ps : List FieldType} {r : Option FieldType} (hdsc : parseMethodDescriptor y.desc = some ⟨ps, r⟩) (a : Addr) (argsL rest : List Value) (hlen : argsL.length = ps.length) (has : (.ref a :: argsL).toArray = as') (hsize : Ls.size = c.maxLocals) (hst : st = argsL.reverse ++ .ref a :: rest) (hd : decode c.code pc = .ok (.invokespecial index, 3)) (W : Nat) (hW : (rest.map fun v => v.category).sum ≤ W) (hf : rm.frames + 1 ≤ R.frames) (hlo : W + (maxL + 11) + rm.locals ≤ R.locals) (hc : cells + rm.cells ≤ R.cells) (hsl : slots + rm.slots ≤ R.slots)
    (k : ∀ (v : Option Value) (T' : State) (L L' : List Loc), Stand p l e R s m args below meth c T' L' (cells + rm.cells) (slots + rm.slots) → Q v T'.heap L → (Fr n0 L → Fr n0 L') → Go p.tables e below E (T'.setTop (mkF m pc' Ls (v.toList ++ rest)))) : Go p.tables e below E (T.setTop (mkF m pc Ls st)) :=
  o_callI pc' X hx hpc hZ hy1 hown w1 w2 w3 w4 hy eT hM hdsc a argsL rest hlen has hsize hst hd W hW hf hlo hc hsl (fun v T' L X' hQ => k v T' L _ X' hQ (fun M => Fr.app N M))
theorem o_newJE (pc' : Nat) (X : Stand p l e R s m args below meth c T locs cells slots) (hx : p.tables.exec = Jvm.exec) (hpc : pc + 2 = pc') (hZ : Z.Warmed39 s.vm) (aty : ArrayType) (ty : FieldType) (hty : newarray.typeOf aty = ty) (hdf : defaultValue ty = .long 0) (w : (Jvm.Cond.arrayClass ty).before a0 Z = true) (eT : T.heap = h) {n : Int32} (hd : decode c.code pc = .ok (.newarray aty, 2)) (hn : ¬ n < 0) (cap : Nat) (hcap : n.toNatClampNeg ≤ cap) (hb : cap * 8 ≤ 536870912) (hc : cells + 1 ≤ R.cells) (hl : slots + cap ≤ R.slots) (xs : List Int64) (hxs : List.replicate n.toNatClampNeg 0 = xs) (ad : String) (had : "[" ++ ty.toString = ad)
    (k : ∀ (T' : State) (h' : Heap) (a : Addr) (cA : ClassId), a = h.size → Stand p l e R s m args below meth c T' locs (cells + 1) (slots + cap) → T'.heap = h' → Ext h h' → Arv Z h' a cA ty n (xs.map Value.long) (.long 0) → Exa Z h' a ad → Go p.tables e below E (T'.setTop (mkF m pc' Ls (.ref a :: st)))) : Go p.tables e below E (T.setTop (mkF m pc Ls (.int n :: st))) := by
  subst hpc; subst hty; subst hxs
  obtain ⟨T', h', cA, X', e', E', A', Ex, st'⟩ := newPE X hx hZ w eT (g := mkF m pc Ls (.int n :: st)) rfl hd rfl hn hcap hb hc hl had
  have A2 := Arv.new A' hn
  rw [hdf] at A2
  exact Go.via st' (k T' h' h.size cA rfl X' e' E' (by rw [List.map_replicate]; exact A2.pad (pad_rep [] _ _)) Ex)
theorem o_clone (pc' : Nat) (X : Stand p l e R s m args below meth c T locs cells slots) (hx : p.tables.exec = Jvm.exec) (hpc : pc + 3 = pc') (hZ : Z.Warmed39 s.vm) {own ad : String} {index : Nat} (hown : s.vm.findClass own = some m.cls) (w1 : (Jvm.Cond.methodLink own index ⟨ad, "clone", "()Ljava/lang/Object;"⟩).before a0 Z = true) (w2 : (Jvm.Cond.sameMethod ad "java/lang/Object" "clone" "()Ljava/lang/Object;").before a0 Z = true) (w3 : (Jvm.Cond.native ⟨"java/lang/Object", "clone", "()Ljava/lang/Object;"⟩).before a0 Z = true)
    (w4 : (Jvm.Cond.instanceMethod ⟨"java/lang/Object", "clone", "()Ljava/lang/Object;"⟩).before a0 Z = true) (w5 : (Jvm.Cond.selects ad ⟨ad, "clone", "()Ljava/lang/Object;"⟩ ⟨"java/lang/Object", "clone", "()Ljava/lang/Object;"⟩).before a0 Z = true) (w6 : (Jvm.Cond.castable ad "java/lang/Cloneable").before a0 Z = true) (eT : T.heap = h) {a : Addr} {ka : ClassId} {ty : FieldType} {z : Int32} {vs : List Value} {dv : Value} (F : Arv Z h a ka ty z vs dv) (E1 : Exa Z h a ad) (hsize : Ls.size = c.maxLocals) (hd : decode c.code pc = .ok (.invokevirtual index, 3)) (W cap : Nat) (hW : (st.map fun v => v.category).sum ≤ W) (hf : 1 ≤ R.frames) (hl : W + 14 ≤ R.locals) (hcap : z.toNatClampNeg ≤ cap) (hc : cells + 1 ≤ R.cells) (hsl : slots + cap ≤ R.slots)
    (k : ∀ (T' : State) (h' : Heap) (b : Addr), b = h.size → Stand p l e R s m args below meth c T' locs (cells + 1) (slots + cap) → T'.heap = h' → Ext h h' → Arv Z h' b ka ty z vs dv → Exa Z h' b ad → Go p.tables e below E (T'.setTop (mkF m pc' Ls (.ref b :: st)))) : Go p.tables e below E (T.setTop (mkF m pc Ls (.ref a :: st))) := by
  subst hpc
  obtain ⟨T', h', X', e', E', F', Ex, st'⟩ := cloneH X hx hZ hown w1 w2 w3 w4 w5 w6 eT F.arh E1 (g := mkF m pc Ls (.ref a :: st)) rfl hsize rfl hd hf (W := W) (by show 2 * 0 + _ ≤ _; rw [Nat.mul_zero, Nat.zero_add]; exact hW) hl hcap hc hsl
  exact Go.via st' (k T' h' _ rfl X' e' E' F' Ex)
theorem o_cp (pc' : Nat) (X : Stand p l e R s m args below meth c T locs cells slots) (hx : p.tables.exec = Jvm.exec) (hpc : pc + 3 = pc') (hZ : Z.Warmed39 s.vm) {own : String} {index : Nat} (hown : s.vm.findClass own = some m.cls) (w1 : (Jvm.Cond.methodLink own index Jvm.Stand.acN).before a0 Z = true) (w2 : (Jvm.Cond.native Jvm.Stand.acN).before a0 Z = true) (w3 : (Jvm.Cond.static Jvm.Stand.acN).before a0 Z = true) (w4 : (Jvm.Cond.initialized "java/lang/System").before a0 Z = true) (eT : T.heap = h) {a b : Addr} {k1 k2 : ClassId} {ty : FieldType} {z z' sp dp nn : Int32} {vs vd : List Value} {dv dd : Value} (A : Arv Z h a k1 ty z vs dv) (B : Arv Z h b k2 ty z' vd dd) (hty : refKind ty = false) (h1 : ¬ sp < 0) (h2 : ¬ dp < 0) (h3 : ¬ nn < 0) (h4 : sp.toNatClampNeg + nn.toNatClampNeg ≤ z.toNatClampNeg) (h5 : dp.toNatClampNeg + nn.toNatClampNeg ≤ z'.toNatClampNeg) (hl : dp.toNatClampNeg + nn.toNatClampNeg ≤ vd.length) {n0 : Nat} (N : Fr n0 locs) (ge : n0 ≤ b) (hsize : Ls.size = c.maxLocals) (hd : decode c.code pc = .ok (.invokestatic index, 3)) (W : Nat) (hW : (st.map fun v => v.category).sum ≤ W) (hf : 1 ≤ R.frames) (hlo : W + (nativeFrameWords "java/lang/System" "arraycopy" 5 + 11) ≤ R.locals) (zs : List Value) (hzs : vd.take dp.toNatClampNeg ++ ((List.range nn.toNatClampNeg).map fun i => vs.getD (sp.toNatClampNeg + i) dv) ++ vd.drop (dp.toNatClampNeg + nn.toNatClampNeg) = zs)
    (k : ∀ (T' : State) (h' : Heap) (L' : List Loc), Stand p l e R s m args below meth c T' L' cells slots → T'.heap = h' → Fr n0 L' → Keep h h' [b] → Arv Z h' b k2 ty z' zs dd → Go p.tables e below E (T'.setTop (mkF m pc' Ls st))) : Go p.tables e below E (T.setTop (mkF m pc Ls (.int nn :: .int dp :: .ref b :: .int sp :: .ref a :: st))) := by
  subst hpc; subst hzs
  obtain ⟨T', h', L', X', e', N', K', A', st'⟩ := cpA X hx hZ hown w1 w2 w3 w4 eT A B (Or.inl ⟨rfl, hty⟩) h1 h2 h3 h4 h5 rfl hl N ge (g := mkF m pc Ls (.int nn :: .int dp :: .ref b :: .int sp :: .ref a :: st)) rfl hsize rfl hd hf (W := W) (by show 2 * 0 + _ ≤ _; rw [Nat.mul_zero, Nat.zero_add]; exact hW) hlo
  exact Go.via st' (k T' h' L' X' e' N' K' A')
theorem o_castY (pc' : Nat) (X : Stand p l e R s m args below meth c T locs cells slots) (hx : p.tables.exec = Jvm.exec) (hpc : pc + 3 = pc') (hZ : Z.Warmed39 s.vm) {own K : String} {index : Nat} (hown : s.vm.findClass own = some m.cls) (w : (Jvm.Cond.classLink own index K).before a0 Z = true) (eT : T.heap = h) {a : Addr} (F : Ins Z h a K true) (hd : decode c.code pc = .ok (.checkcast index, 3))
    (k : ∀ (T' : State), Stand p l e R s m args below meth c T' locs cells slots → T'.heap = h → Go p.tables e below E (T'.setTop (mkF m pc' Ls (.ref a :: st)))) : Go p.tables e below E (T.setTop (mkF m pc Ls (.ref a :: st))) := by
  subst hpc
  obtain ⟨T', X', e', st'⟩ := castY X hx hZ hown w eT F (g := mkF m pc Ls (.ref a :: st)) rfl rfl hd
  exact Go.via st' (k T' X' e')
end OwnKit
theorem l_tlt {x y : Int64} (h : x < y) : lcmpW x y < 0 := (lw_lt x y).mpr h
theorem l_flt {x y : Int64} (h : ¬ x < y) : ¬ lcmpW x y < 0 := fun q => h ((lw_lt x y).mp q)
theorem l_tgt {x y : Int64} (h : y < x) : 0 < lcmpW x y := (lw_gt x y).mpr h
theorem l_fgt {x y : Int64} (h : ¬ y < x) : ¬ 0 < lcmpW x y := fun q => h ((lw_gt x y).mp q)
theorem l_teq {x y : Int64} (h : x = y) : lcmpW x y = 0 := (lw_eq x y).mpr h
theorem l_feq {x y : Int64} (h : ¬ x = y) : ¬ lcmpW x y = 0 := fun q => h ((lw_eq x y).mp q)
theorem wd_0 {Z : State} {a0 : Array Value} (hw : ∀ d ∈ tables_1, d.before a0 Z = true) : (Jvm.Cond.classLink "com/example/whittle/whittle/model/LookUpTableEvaluatePinLaw" (7 : Nat) "com/example/whittle/whittle/model/LookUpTable").before a0 Z = true := hw _ (List.mem_of_getElem? (i := 0) rfl)
theorem wd_1 {Z : State} {a0 : Array Value} (hw : ∀ d ∈ tables_1, d.before a0 Z = true) : (Jvm.Cond.instantiable "com/example/whittle/whittle/model/LookUpTable" (2 : Nat)).before a0 Z = true := hw _ (List.mem_of_getElem? (i := 1) rfl)
theorem wd_2 {Z : State} {a0 : Array Value} (hw : ∀ d ∈ tables_1, d.before a0 Z = true) : (Jvm.Cond.initialized "com/example/whittle/whittle/model/LookUpTable").before a0 Z = true := hw _ (List.mem_of_getElem? (i := 2) rfl)
theorem wd_3 {Z : State} {a0 : Array Value} (hw : ∀ d ∈ tables_1, d.before a0 Z = true) : (Jvm.Cond.arrayClass Jvm.ClassFile.FieldType.long).before a0 Z = true := hw _ (List.mem_of_getElem? (i := 3) rfl)
theorem wd_4 {Z : State} {a0 : Array Value} (hw : ∀ d ∈ tables_1, d.before a0 Z = true) : (Jvm.Cond.methodLink "com/example/whittle/whittle/model/LookUpTableEvaluatePinLaw" (9 : Nat) ({ cls := "com/example/whittle/whittle/model/LookUpTable", name := "<init>", desc := "([J)V" } : Jvm.MethodName)).before a0 Z = true := hw _ (List.mem_of_getElem? (i := 4) rfl)
theorem wd_5 {Z : State} {a0 : Array Value} (hw : ∀ d ∈ tables_1, d.before a0 Z = true) : (Jvm.Cond.instanceMethod ({ cls := "com/example/whittle/whittle/model/LookUpTable", name := "<init>", desc := "([J)V" } : Jvm.MethodName)).before a0 Z = true := hw _ (List.mem_of_getElem? (i := 5) rfl)
theorem wd_6 {Z : State} {a0 : Array Value} (hw : ∀ d ∈ tables_1, d.before a0 Z = true) : (Jvm.Cond.code ({ cls := "com/example/whittle/whittle/model/LookUpTable", name := "<init>", desc := "([J)V" } : Jvm.MethodName) prog_35_method_1_code (3 : Nat) (Option.none : Option Jvm.ClassFile.FieldType)).before a0 Z = true := hw _ (List.mem_of_getElem? (i := 6) rfl)
theorem wd_7 {Z : State} {a0 : Array Value} (hw : ∀ d ∈ tables_1, d.before a0 Z = true) : (Jvm.Cond.methodLink "com/example/whittle/whittle/model/LookUpTable" (1 : Nat) ({ cls := "java/lang/Object", name := "<init>", desc := "()V" } : Jvm.MethodName)).before a0 Z = true := hw _ (List.mem_of_getElem? (i := 7) rfl)
theorem wd_8 {Z : State} {a0 : Array Value} (hw : ∀ d ∈ tables_1, d.before a0 Z = true) : (Jvm.Cond.instanceMethod ({ cls := "java/lang/Object", name := "<init>", desc := "()V" } : Jvm.MethodName)).before a0 Z = true := hw _ (List.mem_of_getElem? (i := 8) rfl)
theorem wd_9 {Z : State} {a0 : Array Value} (hw : ∀ d ∈ tables_1, d.before a0 Z = true) : (Jvm.Cond.code ({ cls := "java/lang/Object", name := "<init>", desc := "()V" } : Jvm.MethodName) object_method_1_code (1 : Nat) (Option.none : Option Jvm.ClassFile.FieldType)).before a0 Z = true := hw _ (List.mem_of_getElem? (i := 9) rfl)
theorem wd_10 {Z : State} {a0 : Array Value} (hw : ∀ d ∈ tables_1, d.before a0 Z = true) : (Jvm.Cond.methodLink "com/example/whittle/whittle/model/LookUpTable" (7 : Nat) ({ cls := "java/util/Arrays", name := "copyOf", desc := "([JI)[J" } : Jvm.MethodName)).before a0 Z = true := hw _ (List.mem_of_getElem? (i := 10) rfl)
theorem wd_11 {Z : State} {a0 : Array Value} (hw : ∀ d ∈ tables_1, d.before a0 Z = true) : (Jvm.Cond.static ({ cls := "java/util/Arrays", name := "copyOf", desc := "([JI)[J" } : Jvm.MethodName)).before a0 Z = true := hw _ (List.mem_of_getElem? (i := 11) rfl)
theorem wd_12 {Z : State} {a0 : Array Value} (hw : ∀ d ∈ tables_1, d.before a0 Z = true) : (Jvm.Cond.initialized "java/util/Arrays").before a0 Z = true := hw _ (List.mem_of_getElem? (i := 12) rfl)
theorem wd_13 {Z : State} {a0 : Array Value} (hw : ∀ d ∈ tables_1, d.before a0 Z = true) : (Jvm.Cond.code ({ cls := "java/util/Arrays", name := "copyOf", desc := "([JI)[J" } : Jvm.MethodName) jdk_65_method_124_code (3 : Nat) (Option.some (Jvm.ClassFile.FieldType.array Jvm.ClassFile.FieldType.long))).before a0 Z = true := hw _ (List.mem_of_getElem? (i := 13) rfl)
theorem wd_14 {Z : State} {a0 : Array Value} (hw : ∀ d ∈ tables_1, d.before a0 Z = true) : (Jvm.Cond.methodLink "java/util/Arrays" (319 : Nat) ({ cls := "[J", name := "clone", desc := "()Ljava/lang/Object;" } : Jvm.MethodName)).before a0 Z = true := hw _ (List.mem_of_getElem? (i := 14) rfl)
theorem wd_15 {Z : State} {a0 : Array Value} (hw : ∀ d ∈ tables_1, d.before a0 Z = true) : (Jvm.Cond.sameMethod "[J" "java/lang/Object" "clone" "()Ljava/lang/Object;").before a0 Z = true := hw _ (List.mem_of_getElem? (i := 15) rfl)
theorem wd_17 {Z : State} {a0 : Array Value} (hw : ∀ d ∈ tables_1, d.before a0 Z = true) : (Jvm.Cond.instanceMethod ({ cls := "java/lang/Object", name := "clone", desc := "()Ljava/lang/Object;" } : Jvm.MethodName)).before a0 Z = true := hw _ (List.mem_of_getElem? (i := 17) rfl)
theorem wd_18 {Z : State} {a0 : Array Value} (hw : ∀ d ∈ tables_1, d.before a0 Z = true) : (Jvm.Cond.selects "[J" ({ cls := "[J", name := "clone", desc := "()Ljava/lang/Object;" } : Jvm.MethodName) ({ cls := "java/lang/Object", name := "clone", desc := "()Ljava/lang/Object;" } : Jvm.MethodName)).before a0 Z = true := hw _ (List.mem_of_getElem? (i := 18) rfl)
theorem wd_19 {Z : State} {a0 : Array Value} (hw : ∀ d ∈ tables_1, d.before a0 Z = true) : (Jvm.Cond.native ({ cls := "java/lang/Object", name := "clone", desc := "()Ljava/lang/Object;" } : Jvm.MethodName)).before a0 Z = true := hw _ (List.mem_of_getElem? (i := 19) rfl)
theorem wd_20 {Z : State} {a0 : Array Value} (hw : ∀ d ∈ tables_1, d.before a0 Z = true) : (Jvm.Cond.castable "[J" "java/lang/Cloneable").before a0 Z = true := hw _ (List.mem_of_getElem? (i := 20) rfl)
theorem wd_21 {Z : State} {a0 : Array Value} (hw : ∀ d ∈ tables_1, d.before a0 Z = true) : (Jvm.Cond.classLink "java/util/Arrays" (320 : Nat) "[J").before a0 Z = true := hw _ (List.mem_of_getElem? (i := 21) rfl)
theorem wd_23 {Z : State} {a0 : Array Value} (hw : ∀ d ∈ tables_1, d.before a0 Z = true) : (Jvm.Cond.fieldLink "com/example/whittle/whittle/model/LookUpTable" (13 : Nat) "com/example/whittle/whittle/model/LookUpTable" "words" "[J").before a0 Z = true := hw _ (List.mem_of_getElem? (i := 23) rfl)
theorem wd_24 {Z : State} {a0 : Array Value} (hw : ∀ d ∈ tables_1, d.before a0 Z = true) : (Jvm.Cond.laysFinal "com/example/whittle/whittle/model/LookUpTable" "com/example/whittle/whittle/model/LookUpTable" "words" "[J").before a0 Z = true := hw _ (List.mem_of_getElem? (i := 24) rfl)
theorem wd_25 {Z : State} {a0 : Array Value} (hw : ∀ d ∈ tables_1, d.before a0 Z = true) : (Jvm.Cond.constantLong "com/example/whittle/whittle/model/LookUpTable" (23 : Nat) (64 : Int64)).before a0 Z = true := hw _ (List.mem_of_getElem? (i := 25) rfl)
theorem wd_26 {Z : State} {a0 : Array Value} (hw : ∀ d ∈ tables_1, d.before a0 Z = true) : (Jvm.Cond.methodLink "com/example/whittle/whittle/model/LookUpTable" (25 : Nat) ({ cls := "java/lang/Long", name := "numberOfLeadingZeros", desc := "(J)I" } : Jvm.MethodName)).before a0 Z = true := hw _ (List.mem_of_getElem? (i := 26) rfl)
theorem wd_27 {Z : State} {a0 : Array Value} (hw : ∀ d ∈ tables_1, d.before a0 Z = true) : (Jvm.Cond.static ({ cls := "java/lang/Long", name := "numberOfLeadingZeros", desc := "(J)I" } : Jvm.MethodName)).before a0 Z = true := hw _ (List.mem_of_getElem? (i := 27) rfl)
theorem wd_28 {Z : State} {a0 : Array Value} (hw : ∀ d ∈ tables_1, d.before a0 Z = true) : (Jvm.Cond.initialized "java/lang/Long").before a0 Z = true := hw _ (List.mem_of_getElem? (i := 28) rfl)
theorem wd_29 {Z : State} {a0 : Array Value} (hw : ∀ d ∈ tables_1, d.before a0 Z = true) : (Jvm.Cond.code ({ cls := "java/lang/Long", name := "numberOfLeadingZeros", desc := "(J)I" } : Jvm.MethodName) jdk_35_method_48_code (3 : Nat) (Option.some Jvm.ClassFile.FieldType.int)).before a0 Z = true := hw _ (List.mem_of_getElem? (i := 29) rfl)
theorem wd_30 {Z : State} {a0 : Array Value} (hw : ∀ d ∈ tables_1, d.before a0 Z = true) : (Jvm.Cond.methodLink "java/lang/Long" (308 : Nat) ({ cls := "java/lang/Integer", name := "numberOfLeadingZeros", desc := "(I)I" } : Jvm.MethodName)).before a0 Z = true := hw _ (List.mem_of_getElem? (i := 30) rfl)
theorem wd_31 {Z : State} {a0 : Array Value} (hw : ∀ d ∈ tables_1, d.before a0 Z = true) : (Jvm.Cond.static ({ cls := "java/lang/Integer", name := "numberOfLeadingZeros", desc := "(I)I" } : Jvm.MethodName)).before a0 Z = true := hw _ (List.mem_of_getElem? (i := 31) rfl)
theorem wd_32 {Z : State} {a0 : Array Value} (hw : ∀ d ∈ tables_1, d.before a0 Z = true) : (Jvm.Cond.initialized "java/lang/Integer").before a0 Z = true := hw _ (List.mem_of_getElem? (i := 32) rfl)
theorem wd_33 {Z : State} {a0 : Array Value} (hw : ∀ d ∈ tables_1, d.before a0 Z = true) : (Jvm.Cond.code ({ cls := "java/lang/Integer", name := "numberOfLeadingZeros", desc := "(I)I" } : Jvm.MethodName) jdk_33_method_47_code (2 : Nat) (Option.some Jvm.ClassFile.FieldType.int)).before a0 Z = true := hw _ (List.mem_of_getElem? (i := 33) rfl)
theorem wd_34 {Z : State} {a0 : Array Value} (hw : ∀ d ∈ tables_1, d.before a0 Z = true) : (Jvm.Cond.constant "java/lang/Integer" (264 : Nat) (65536 : Int32)).before a0 Z = true := hw _ (List.mem_of_getElem? (i := 34) rfl)
theorem wd_35 {Z : State} {a0 : Array Value} (hw : ∀ d ∈ tables_1, d.before a0 Z = true) : (Jvm.Cond.fieldLink "com/example/whittle/whittle/model/LookUpTable" (29 : Nat) "com/example/whittle/whittle/model/LookUpTable" "highestSetBit" "J").before a0 Z = true := hw _ (List.mem_of_getElem? (i := 35) rfl)
theorem wd_36 {Z : State} {a0 : Array Value} (hw : ∀ d ∈ tables_1, d.before a0 Z = true) : (Jvm.Cond.laysFinal "com/example/whittle/whittle/model/LookUpTable" "com/example/whittle/whittle/model/LookUpTable" "highestSetBit" "J").before a0 Z = true := hw _ (List.mem_of_getElem? (i := 36) rfl)
theorem wd_37 {Z : State} {a0 : Array Value} (hw : ∀ d ∈ tables_1, d.before a0 Z = true) : (Jvm.Cond.arrayClass Jvm.ClassFile.FieldType.boolean).before a0 Z = true := hw _ (List.mem_of_getElem? (i := 37) rfl)
theorem wd_38 {Z : State} {a0 : Array Value} (hw : ∀ d ∈ tables_1, d.before a0 Z = true) : (Jvm.Cond.arrayClass Jvm.ClassFile.FieldType.int).before a0 Z = true := hw _ (List.mem_of_getElem? (i := 38) rfl)
theorem wd_39 {Z : State} {a0 : Array Value} (hw : ∀ d ∈ tables_1, d.before a0 Z = true) : (Jvm.Cond.constant "com/example/whittle/whittle/model/LookUpTableEvaluatePinLaw" (12 : Nat) (2147483647 : Int32)).before a0 Z = true := hw _ (List.mem_of_getElem? (i := 39) rfl)
theorem wd_40 {Z : State} {a0 : Array Value} (hw : ∀ d ∈ tables_1, d.before a0 Z = true) : (Jvm.Cond.constantLong "com/example/whittle/whittle/model/LookUpTableEvaluatePinLaw" (13 : Nat) (64 : Int64)).before a0 Z = true := hw _ (List.mem_of_getElem? (i := 40) rfl)
theorem wd_41 {Z : State} {a0 : Array Value} (hw : ∀ d ∈ tables_1, d.before a0 Z = true) : (Jvm.Cond.methodLink "com/example/whittle/whittle/model/LookUpTableEvaluatePinLaw" (17 : Nat) ({ cls := "com/example/whittle/whittle/model/LookUpTable", name := "evaluate", desc := "([Z[I)Z" } : Jvm.MethodName)).before a0 Z = true := hw _ (List.mem_of_getElem? (i := 41) rfl)
theorem wd_42 {Z : State} {a0 : Array Value} (hw : ∀ d ∈ tables_1, d.before a0 Z = true) : (Jvm.Cond.declares ({ cls := "com/example/whittle/whittle/model/LookUpTable", name := "evaluate", desc := "([Z[I)Z" } : Jvm.MethodName)).before a0 Z = true := hw _ (List.mem_of_getElem? (i := 42) rfl)
theorem wd_43 {Z : State} {a0 : Array Value} (hw : ∀ d ∈ tables_1, d.before a0 Z = true) : (Jvm.Cond.instanceMethod ({ cls := "com/example/whittle/whittle/model/LookUpTable", name := "evaluate", desc := "([Z[I)Z" } : Jvm.MethodName)).before a0 Z = true := hw _ (List.mem_of_getElem? (i := 43) rfl)
theorem wd_44 {Z : State} {a0 : Array Value} (hw : ∀ d ∈ tables_1, d.before a0 Z = true) : (Jvm.Cond.selects "com/example/whittle/whittle/model/LookUpTable" ({ cls := "com/example/whittle/whittle/model/LookUpTable", name := "evaluate", desc := "([Z[I)Z" } : Jvm.MethodName) ({ cls := "com/example/whittle/whittle/model/LookUpTable", name := "evaluate", desc := "([Z[I)Z" } : Jvm.MethodName)).before a0 Z = true := hw _ (List.mem_of_getElem? (i := 44) rfl)
theorem wd_45 {Z : State} {a0 : Array Value} (hw : ∀ d ∈ tables_1, d.before a0 Z = true) : (Jvm.Cond.code ({ cls := "com/example/whittle/whittle/model/LookUpTable", name := "evaluate", desc := "([Z[I)Z" } : Jvm.MethodName) prog_35_method_3_code (6 : Nat) (Option.some Jvm.ClassFile.FieldType.boolean)).before a0 Z = true := hw _ (List.mem_of_getElem? (i := 45) rfl)
theorem wd_46 {Z : State} {a0 : Array Value} (hw : ∀ d ∈ tables_1, d.before a0 Z = true) : (Jvm.Cond.methodLink "java/util/Arrays" (304 : Nat) ({ cls := "java/lang/Math", name := "min", desc := "(II)I" } : Jvm.MethodName)).before a0 Z = true := hw _ (List.mem_of_getElem? (i := 46) rfl)
theorem wd_47 {Z : State} {a0 : Array Value} (hw : ∀ d ∈ tables_1, d.before a0 Z = true) : (Jvm.Cond.static ({ cls := "java/lang/Math", name := "min", desc := "(II)I" } : Jvm.MethodName)).before a0 Z = true := hw _ (List.mem_of_getElem? (i := 47) rfl)
theorem wd_48 {Z : State} {a0 : Array Value} (hw : ∀ d ∈ tables_1, d.before a0 Z = true) : (Jvm.Cond.initialized "java/lang/Math").before a0 Z = true := hw _ (List.mem_of_getElem? (i := 48) rfl)
theorem wd_49 {Z : State} {a0 : Array Value} (hw : ∀ d ∈ tables_1, d.before a0 Z = true) : (Jvm.Cond.code ({ cls := "java/lang/Math", name := "min", desc := "(II)I" } : Jvm.MethodName) jdk_29_method_69_code (2 : Nat) (Option.some Jvm.ClassFile.FieldType.int)).before a0 Z = true := hw _ (List.mem_of_getElem? (i := 49) rfl)
theorem wd_50 {Z : State} {a0 : Array Value} (hw : ∀ d ∈ tables_1, d.before a0 Z = true) : (Jvm.Cond.methodLink "java/util/Arrays" (150 : Nat) ({ cls := "java/lang/System", name := "arraycopy", desc := "(Ljava/lang/Object;ILjava/lang/Object;II)V" } : Jvm.MethodName)).before a0 Z = true := hw _ (List.mem_of_getElem? (i := 50) rfl)
theorem wd_51 {Z : State} {a0 : Array Value} (hw : ∀ d ∈ tables_1, d.before a0 Z = true) : (Jvm.Cond.static ({ cls := "java/lang/System", name := "arraycopy", desc := "(Ljava/lang/Object;ILjava/lang/Object;II)V" } : Jvm.MethodName)).before a0 Z = true := hw _ (List.mem_of_getElem? (i := 51) rfl)
theorem wd_52 {Z : State} {a0 : Array Value} (hw : ∀ d ∈ tables_1, d.before a0 Z = true) : (Jvm.Cond.initialized "java/lang/System").before a0 Z = true := hw _ (List.mem_of_getElem? (i := 52) rfl)
theorem wd_53 {Z : State} {a0 : Array Value} (hw : ∀ d ∈ tables_1, d.before a0 Z = true) : (Jvm.Cond.native ({ cls := "java/lang/System", name := "arraycopy", desc := "(Ljava/lang/Object;ILjava/lang/Object;II)V" } : Jvm.MethodName)).before a0 Z = true := hw _ (List.mem_of_getElem? (i := 53) rfl)
theorem wd_54 {Z : State} {a0 : Array Value} (hw : ∀ d ∈ tables_1, d.before a0 Z = true) : (Jvm.Cond.constantLong "com/example/whittle/whittle/model/LookUpTable" (19 : Nat) (-1 : Int64)).before a0 Z = true := hw _ (List.mem_of_getElem? (i := 54) rfl)
theorem wd_55 {Z : State} {a0 : Array Value} (hw : ∀ d ∈ tables_1, d.before a0 Z = true) : (Jvm.Cond.constantLong "com/example/whittle/whittle/model/LookUpTableEvaluatePinLaw" (15 : Nat) (128 : Int64)).before a0 Z = true := hw _ (List.mem_of_getElem? (i := 55) rfl)
theorem d1_0 : decode prog_35_method_1_code 0 = .ok (.aload_n 0, 1) := by decide +kernel
theorem d1_1 : decode prog_35_method_1_code 1 = .ok (.invokespecial 1, 3) := by decide +kernel
theorem d1_11 : decode prog_35_method_1_code 11 = .ok (.aload_n 1, 1) := by decide +kernel
theorem d1_12 : decode prog_35_method_1_code 12 = .ok (.iload_n 2, 1) := by decide +kernel
theorem d1_13 : decode prog_35_method_1_code 13 = .ok (.iconst 1, 1) := by decide +kernel
theorem d1_14 : decode prog_35_method_1_code 14 = .ok (.isub, 1) := by decide +kernel
theorem d1_15 : decode prog_35_method_1_code 15 = .ok (.laload, 1) := by decide +kernel
theorem d1_16 : decode prog_35_method_1_code 16 = .ok (.lconst 0, 1) := by decide +kernel
theorem d1_17 : decode prog_35_method_1_code 17 = .ok (.lcmp, 1) := by decide +kernel
theorem d1_18 : decode prog_35_method_1_code 18 = .ok (.ifCond .ne 9, 3) := by decide +kernel
theorem d1_21 : decode prog_35_method_1_code 21 = .ok (.iinc 2 (-1), 3) := by decide +kernel
theorem d1_24 : decode prog_35_method_1_code 24 = .ok (.goto (-17), 3) := by decide +kernel
theorem d1_27 : decode prog_35_method_1_code 27 = .ok (.aload_n 0, 1) := by decide +kernel
theorem d1_28 : decode prog_35_method_1_code 28 = .ok (.aload_n 1, 1) := by decide +kernel
theorem d1_29 : decode prog_35_method_1_code 29 = .ok (.iload_n 2, 1) := by decide +kernel
theorem d1_30 : decode prog_35_method_1_code 30 = .ok (.invokestatic 7, 3) := by decide +kernel
theorem d1_33 : decode prog_35_method_1_code 33 = .ok (.putfield 13, 3) := by decide +kernel
theorem d1_36 : decode prog_35_method_1_code 36 = .ok (.aload_n 0, 1) := by decide +kernel
theorem d1_37 : decode prog_35_method_1_code 37 = .ok (.iload_n 2, 1) := by decide +kernel
theorem d1_38 : decode prog_35_method_1_code 38 = .ok (.ifCond .ne 9, 3) := by decide +kernel
theorem d1_4 : decode prog_35_method_1_code 4 = .ok (.aload_n 1, 1) := by decide +kernel
theorem d1_41 : decode prog_35_method_1_code 41 = .ok (.ldc2_w 19, 3) := by decide +kernel
theorem d1_44 : decode prog_35_method_1_code 44 = .ok (.goto 21, 3) := by decide +kernel
theorem d1_47 : decode prog_35_method_1_code 47 = .ok (.ldc2_w 23, 3) := by decide +kernel
theorem d1_5 : decode prog_35_method_1_code 5 = .ok (.arraylength, 1) := by decide +kernel
theorem d1_50 : decode prog_35_method_1_code 50 = .ok (.iload_n 2, 1) := by decide +kernel
theorem d1_51 : decode prog_35_method_1_code 51 = .ok (.i2l, 1) := by decide +kernel
theorem d1_52 : decode prog_35_method_1_code 52 = .ok (.lmul, 1) := by decide +kernel
theorem d1_53 : decode prog_35_method_1_code 53 = .ok (.lconst 1, 1) := by decide +kernel
theorem d1_54 : decode prog_35_method_1_code 54 = .ok (.lsub, 1) := by decide +kernel
theorem d1_55 : decode prog_35_method_1_code 55 = .ok (.aload_n 1, 1) := by decide +kernel
theorem d1_56 : decode prog_35_method_1_code 56 = .ok (.iload_n 2, 1) := by decide +kernel
theorem d1_57 : decode prog_35_method_1_code 57 = .ok (.iconst 1, 1) := by decide +kernel
theorem d1_58 : decode prog_35_method_1_code 58 = .ok (.isub, 1) := by decide +kernel
theorem d1_59 : decode prog_35_method_1_code 59 = .ok (.laload, 1) := by decide +kernel
theorem d1_6 : decode prog_35_method_1_code 6 = .ok (.istore_n 2, 1) := by decide +kernel
theorem d1_60 : decode prog_35_method_1_code 60 = .ok (.invokestatic 25, 3) := by decide +kernel
theorem d1_63 : decode prog_35_method_1_code 63 = .ok (.i2l, 1) := by decide +kernel
theorem d1_64 : decode prog_35_method_1_code 64 = .ok (.lsub, 1) := by decide +kernel
theorem d1_65 : decode prog_35_method_1_code 65 = .ok (.putfield 29, 3) := by decide +kernel
theorem d1_68 : decode prog_35_method_1_code 68 = .ok (.return_, 1) := by decide +kernel
theorem d1_7 : decode prog_35_method_1_code 7 = .ok (.iload_n 2, 1) := by decide +kernel
theorem d1_8 : decode prog_35_method_1_code 8 = .ok (.ifCond .le 19, 3) := by decide +kernel
theorem d3_0 : decode jdk_65_method_124_code 0 = .ok (.iload_n 1, 1) := by decide +kernel
theorem d3_1 : decode jdk_65_method_124_code 1 = .ok (.aload_n 0, 1) := by decide +kernel
theorem d3_10 : decode jdk_65_method_124_code 10 = .ok (.checkcast 320, 3) := by decide +kernel
theorem d3_13 : decode jdk_65_method_124_code 13 = .ok (.areturn, 1) := by decide +kernel
theorem d3_14 : decode jdk_65_method_124_code 14 = .ok (.iload_n 1, 1) := by decide +kernel
theorem d3_15 : decode jdk_65_method_124_code 15 = .ok (.newarray .long, 2) := by decide +kernel
theorem d3_17 : decode jdk_65_method_124_code 17 = .ok (.astore_n 2, 1) := by decide +kernel
theorem d3_18 : decode jdk_65_method_124_code 18 = .ok (.aload_n 0, 1) := by decide +kernel
theorem d3_19 : decode jdk_65_method_124_code 19 = .ok (.iconst 0, 1) := by decide +kernel
theorem d3_2 : decode jdk_65_method_124_code 2 = .ok (.arraylength, 1) := by decide +kernel
theorem d3_20 : decode jdk_65_method_124_code 20 = .ok (.aload_n 2, 1) := by decide +kernel
theorem d3_21 : decode jdk_65_method_124_code 21 = .ok (.iconst 0, 1) := by decide +kernel
theorem d3_22 : decode jdk_65_method_124_code 22 = .ok (.aload_n 0, 1) := by decide +kernel
theorem d3_23 : decode jdk_65_method_124_code 23 = .ok (.arraylength, 1) := by decide +kernel
theorem d3_24 : decode jdk_65_method_124_code 24 = .ok (.iload_n 1, 1) := by decide +kernel
theorem d3_25 : decode jdk_65_method_124_code 25 = .ok (.invokestatic 304, 3) := by decide +kernel
theorem d3_28 : decode jdk_65_method_124_code 28 = .ok (.invokestatic 150, 3) := by decide +kernel
theorem d3_3 : decode jdk_65_method_124_code 3 = .ok (.if_icmp .ne 11, 3) := by decide +kernel
theorem d3_31 : decode jdk_65_method_124_code 31 = .ok (.aload_n 2, 1) := by decide +kernel
theorem d3_32 : decode jdk_65_method_124_code 32 = .ok (.areturn, 1) := by decide +kernel
theorem d3_6 : decode jdk_65_method_124_code 6 = .ok (.aload_n 0, 1) := by decide +kernel
theorem d3_7 : decode jdk_65_method_124_code 7 = .ok (.invokevirtual 319, 3) := by decide +kernel
theorem d4_0 : decode jdk_35_method_48_code 0 = .ok (.lload_n 0, 1) := by decide +kernel
theorem d4_1 : decode jdk_35_method_48_code 1 = .ok (.bipush 32, 2) := by decide +kernel
theorem d4_10 : decode jdk_35_method_48_code 10 = .ok (.bipush 32, 2) := by decide +kernel
theorem d4_12 : decode jdk_35_method_48_code 12 = .ok (.lload_n 0, 1) := by decide +kernel
theorem d4_13 : decode jdk_35_method_48_code 13 = .ok (.l2i, 1) := by decide +kernel
theorem d4_14 : decode jdk_35_method_48_code 14 = .ok (.invokestatic 308, 3) := by decide +kernel
theorem d4_17 : decode jdk_35_method_48_code 17 = .ok (.iadd, 1) := by decide +kernel
theorem d4_18 : decode jdk_35_method_48_code 18 = .ok (.goto 7, 3) := by decide +kernel
theorem d4_21 : decode jdk_35_method_48_code 21 = .ok (.iload_n 2, 1) := by decide +kernel
theorem d4_22 : decode jdk_35_method_48_code 22 = .ok (.invokestatic 308, 3) := by decide +kernel
theorem d4_25 : decode jdk_35_method_48_code 25 = .ok (.ireturn, 1) := by decide +kernel
theorem d4_3 : decode jdk_35_method_48_code 3 = .ok (.lushr, 1) := by decide +kernel
theorem d4_4 : decode jdk_35_method_48_code 4 = .ok (.l2i, 1) := by decide +kernel
theorem d4_5 : decode jdk_35_method_48_code 5 = .ok (.istore_n 2, 1) := by decide +kernel
theorem d4_6 : decode jdk_35_method_48_code 6 = .ok (.iload_n 2, 1) := by decide +kernel
theorem d4_7 : decode jdk_35_method_48_code 7 = .ok (.ifCond .ne 14, 3) := by decide +kernel
theorem d5_0 : decode jdk_33_method_47_code 0 = .ok (.iload_n 0, 1) := by decide +kernel
theorem d5_1 : decode jdk_33_method_47_code 1 = .ok (.ifCond .gt 14, 3) := by decide +kernel
theorem d5_10 : decode jdk_33_method_47_code 10 = .ok (.goto 4, 3) := by decide +kernel
theorem d5_13 : decode jdk_33_method_47_code 13 = .ok (.iconst 0, 1) := by decide +kernel
theorem d5_14 : decode jdk_33_method_47_code 14 = .ok (.ireturn, 1) := by decide +kernel
theorem d5_15 : decode jdk_33_method_47_code 15 = .ok (.bipush 31, 2) := by decide +kernel
theorem d5_17 : decode jdk_33_method_47_code 17 = .ok (.istore_n 1, 1) := by decide +kernel
theorem d5_18 : decode jdk_33_method_47_code 18 = .ok (.iload_n 0, 1) := by decide +kernel
theorem d5_19 : decode jdk_33_method_47_code 19 = .ok (.ldc_w 264, 3) := by decide +kernel
theorem d5_22 : decode jdk_33_method_47_code 22 = .ok (.if_icmp .lt 11, 3) := by decide +kernel
theorem d5_25 : decode jdk_33_method_47_code 25 = .ok (.iinc 1 (-16), 3) := by decide +kernel
theorem d5_28 : decode jdk_33_method_47_code 28 = .ok (.iload_n 0, 1) := by decide +kernel
theorem d5_29 : decode jdk_33_method_47_code 29 = .ok (.bipush 16, 2) := by decide +kernel
theorem d5_31 : decode jdk_33_method_47_code 31 = .ok (.iushr, 1) := by decide +kernel
theorem d5_32 : decode jdk_33_method_47_code 32 = .ok (.istore_n 0, 1) := by decide +kernel
theorem d5_33 : decode jdk_33_method_47_code 33 = .ok (.iload_n 0, 1) := by decide +kernel
theorem d5_34 : decode jdk_33_method_47_code 34 = .ok (.sipush 256, 3) := by decide +kernel
theorem d5_37 : decode jdk_33_method_47_code 37 = .ok (.if_icmp .lt 11, 3) := by decide +kernel
theorem d5_4 : decode jdk_33_method_47_code 4 = .ok (.iload_n 0, 1) := by decide +kernel
theorem d5_40 : decode jdk_33_method_47_code 40 = .ok (.iinc 1 (-8), 3) := by decide +kernel
theorem d5_43 : decode jdk_33_method_47_code 43 = .ok (.iload_n 0, 1) := by decide +kernel
theorem d5_44 : decode jdk_33_method_47_code 44 = .ok (.bipush 8, 2) := by decide +kernel
theorem d5_46 : decode jdk_33_method_47_code 46 = .ok (.iushr, 1) := by decide +kernel
theorem d5_47 : decode jdk_33_method_47_code 47 = .ok (.istore_n 0, 1) := by decide +kernel
theorem d5_48 : decode jdk_33_method_47_code 48 = .ok (.iload_n 0, 1) := by decide +kernel
theorem d5_49 : decode jdk_33_method_47_code 49 = .ok (.bipush 16, 2) := by decide +kernel
theorem d5_5 : decode jdk_33_method_47_code 5 = .ok (.ifCond .ne 8, 3) := by decide +kernel
theorem d5_51 : decode jdk_33_method_47_code 51 = .ok (.if_icmp .lt 10, 3) := by decide +kernel
theorem d5_54 : decode jdk_33_method_47_code 54 = .ok (.iinc 1 (-4), 3) := by decide +kernel
theorem d5_57 : decode jdk_33_method_47_code 57 = .ok (.iload_n 0, 1) := by decide +kernel
theorem d5_58 : decode jdk_33_method_47_code 58 = .ok (.iconst 4, 1) := by decide +kernel
theorem d5_59 : decode jdk_33_method_47_code 59 = .ok (.iushr, 1) := by decide +kernel
theorem d5_60 : decode jdk_33_method_47_code 60 = .ok (.istore_n 0, 1) := by decide +kernel
theorem d5_61 : decode jdk_33_method_47_code 61 = .ok (.iload_n 0, 1) := by decide +kernel
theorem d5_62 : decode jdk_33_method_47_code 62 = .ok (.iconst 4, 1) := by decide +kernel
theorem d5_63 : decode jdk_33_method_47_code 63 = .ok (.if_icmp .lt 10, 3) := by decide +kernel
theorem d5_66 : decode jdk_33_method_47_code 66 = .ok (.iinc 1 (-2), 3) := by decide +kernel
theorem d5_69 : decode jdk_33_method_47_code 69 = .ok (.iload_n 0, 1) := by decide +kernel
theorem d5_70 : decode jdk_33_method_47_code 70 = .ok (.iconst 2, 1) := by decide +kernel
theorem d5_71 : decode jdk_33_method_47_code 71 = .ok (.iushr, 1) := by decide +kernel
theorem d5_72 : decode jdk_33_method_47_code 72 = .ok (.istore_n 0, 1) := by decide +kernel
theorem d5_73 : decode jdk_33_method_47_code 73 = .ok (.iload_n 1, 1) := by decide +kernel
theorem d5_74 : decode jdk_33_method_47_code 74 = .ok (.iload_n 0, 1) := by decide +kernel
theorem d5_75 : decode jdk_33_method_47_code 75 = .ok (.iconst 1, 1) := by decide +kernel
theorem d5_76 : decode jdk_33_method_47_code 76 = .ok (.iushr, 1) := by decide +kernel
theorem d5_77 : decode jdk_33_method_47_code 77 = .ok (.isub, 1) := by decide +kernel
theorem d5_78 : decode jdk_33_method_47_code 78 = .ok (.ireturn, 1) := by decide +kernel
theorem d5_8 : decode jdk_33_method_47_code 8 = .ok (.bipush 32, 2) := by decide +kernel
theorem d6_0 : decode prog_35_method_3_code 0 = .ok (.lconst 0, 1) := by decide +kernel
theorem d6_1 : decode prog_35_method_3_code 1 = .ok (.lstore_n 3, 1) := by decide +kernel
theorem d6_12 : decode prog_35_method_3_code 12 = .ok (.aload_n 1, 1) := by decide +kernel
theorem d6_13 : decode prog_35_method_3_code 13 = .ok (.aload_n 2, 1) := by decide +kernel
theorem d6_14 : decode prog_35_method_3_code 14 = .ok (.iload 5, 2) := by decide +kernel
theorem d6_16 : decode prog_35_method_3_code 16 = .ok (.iaload, 1) := by decide +kernel
theorem d6_17 : decode prog_35_method_3_code 17 = .ok (.baload, 1) := by decide +kernel
theorem d6_18 : decode prog_35_method_3_code 18 = .ok (.ifCond .eq 19, 3) := by decide +kernel
theorem d6_2 : decode prog_35_method_3_code 2 = .ok (.iconst 0, 1) := by decide +kernel
theorem d6_21 : decode prog_35_method_3_code 21 = .ok (.iload 5, 2) := by decide +kernel
theorem d6_23 : decode prog_35_method_3_code 23 = .ok (.bipush 63, 2) := by decide +kernel
theorem d6_25 : decode prog_35_method_3_code 25 = .ok (.if_icmp .lt 5, 3) := by decide +kernel
theorem d6_28 : decode prog_35_method_3_code 28 = .ok (.iconst 0, 1) := by decide +kernel
theorem d6_29 : decode prog_35_method_3_code 29 = .ok (.ireturn, 1) := by decide +kernel
theorem d6_3 : decode prog_35_method_3_code 3 = .ok (.istore 5, 2) := by decide +kernel
theorem d6_30 : decode prog_35_method_3_code 30 = .ok (.lload_n 3, 1) := by decide +kernel
theorem d6_31 : decode prog_35_method_3_code 31 = .ok (.lconst 1, 1) := by decide +kernel
theorem d6_32 : decode prog_35_method_3_code 32 = .ok (.iload 5, 2) := by decide +kernel
theorem d6_34 : decode prog_35_method_3_code 34 = .ok (.lshl, 1) := by decide +kernel
theorem d6_35 : decode prog_35_method_3_code 35 = .ok (.lor, 1) := by decide +kernel
theorem d6_36 : decode prog_35_method_3_code 36 = .ok (.lstore_n 3, 1) := by decide +kernel
theorem d6_37 : decode prog_35_method_3_code 37 = .ok (.iinc 5 1, 3) := by decide +kernel
theorem d6_40 : decode prog_35_method_3_code 40 = .ok (.goto (-35), 3) := by decide +kernel
theorem d6_43 : decode prog_35_method_3_code 43 = .ok (.lload_n 3, 1) := by decide +kernel
theorem d6_44 : decode prog_35_method_3_code 44 = .ok (.aload_n 0, 1) := by decide +kernel
theorem d6_45 : decode prog_35_method_3_code 45 = .ok (.getfield 29, 3) := by decide +kernel
theorem d6_48 : decode prog_35_method_3_code 48 = .ok (.lcmp, 1) := by decide +kernel
theorem d6_49 : decode prog_35_method_3_code 49 = .ok (.ifCond .gt 32, 3) := by decide +kernel
theorem d6_5 : decode prog_35_method_3_code 5 = .ok (.iload 5, 2) := by decide +kernel
theorem d6_52 : decode prog_35_method_3_code 52 = .ok (.aload_n 0, 1) := by decide +kernel
theorem d6_53 : decode prog_35_method_3_code 53 = .ok (.getfield 13, 3) := by decide +kernel
theorem d6_56 : decode prog_35_method_3_code 56 = .ok (.lload_n 3, 1) := by decide +kernel
theorem d6_57 : decode prog_35_method_3_code 57 = .ok (.ldc2_w 23, 3) := by decide +kernel
theorem d6_60 : decode prog_35_method_3_code 60 = .ok (.ldiv, 1) := by decide +kernel
theorem d6_61 : decode prog_35_method_3_code 61 = .ok (.l2i, 1) := by decide +kernel
theorem d6_62 : decode prog_35_method_3_code 62 = .ok (.laload, 1) := by decide +kernel
theorem d6_63 : decode prog_35_method_3_code 63 = .ok (.lload_n 3, 1) := by decide +kernel
theorem d6_64 : decode prog_35_method_3_code 64 = .ok (.ldc2_w 23, 3) := by decide +kernel
theorem d6_67 : decode prog_35_method_3_code 67 = .ok (.lrem, 1) := by decide +kernel
theorem d6_68 : decode prog_35_method_3_code 68 = .ok (.l2i, 1) := by decide +kernel
theorem d6_69 : decode prog_35_method_3_code 69 = .ok (.lushr, 1) := by decide +kernel
theorem d6_7 : decode prog_35_method_3_code 7 = .ok (.aload_n 2, 1) := by decide +kernel
theorem d6_70 : decode prog_35_method_3_code 70 = .ok (.lconst 1, 1) := by decide +kernel
theorem d6_71 : decode prog_35_method_3_code 71 = .ok (.land, 1) := by decide +kernel
theorem d6_72 : decode prog_35_method_3_code 72 = .ok (.lconst 0, 1) := by decide +kernel
theorem d6_73 : decode prog_35_method_3_code 73 = .ok (.lcmp, 1) := by decide +kernel
theorem d6_74 : decode prog_35_method_3_code 74 = .ok (.ifCond .eq 7, 3) := by decide +kernel
theorem d6_77 : decode prog_35_method_3_code 77 = .ok (.iconst 1, 1) := by decide +kernel
theorem d6_78 : decode prog_35_method_3_code 78 = .ok (.goto 4, 3) := by decide +kernel
theorem d6_8 : decode prog_35_method_3_code 8 = .ok (.arraylength, 1) := by decide +kernel
theorem d6_81 : decode prog_35_method_3_code 81 = .ok (.iconst 0, 1) := by decide +kernel
theorem d6_82 : decode prog_35_method_3_code 82 = .ok (.ireturn, 1) := by decide +kernel
theorem d6_9 : decode prog_35_method_3_code 9 = .ok (.if_icmp .ge 34, 3) := by decide +kernel
theorem d7_0 : decode jdk_29_method_69_code 0 = .ok (.iload_n 0, 1) := by decide +kernel
theorem d7_1 : decode jdk_29_method_69_code 1 = .ok (.iload_n 1, 1) := by decide +kernel
theorem d7_10 : decode jdk_29_method_69_code 10 = .ok (.ireturn, 1) := by decide +kernel
theorem d7_2 : decode jdk_29_method_69_code 2 = .ok (.if_icmp .gt 7, 3) := by decide +kernel
theorem d7_5 : decode jdk_29_method_69_code 5 = .ok (.iload_n 0, 1) := by decide +kernel
theorem d7_6 : decode jdk_29_method_69_code 6 = .ok (.goto 4, 3) := by decide +kernel
theorem d7_9 : decode jdk_29_method_69_code 9 = .ok (.iload_n 1, 1) := by decide +kernel
theorem pd_lIrI : parseMethodDescriptor "(I)I" = some ⟨[.int], some .int⟩ := by decide +kernel
theorem pd_lIIrI : parseMethodDescriptor "(II)I" = some ⟨[.int, .int], some .int⟩ := by decide +kernel
theorem pd_lJrI : parseMethodDescriptor "(J)I" = some ⟨[.long], some .int⟩ := by decide +kernel
theorem pd_laJrV : parseMethodDescriptor "([J)V" = some ⟨[(.array .long)], none⟩ := by decide +kernel
theorem pd_laJIraJ : parseMethodDescriptor "([JI)[J" = some ⟨[(.array .long), .int], some (.array .long)⟩ := by decide +kernel
theorem pd_laZaIrZ : parseMethodDescriptor "([Z[I)Z" = some ⟨[(.array .boolean), (.array .int)], some .boolean⟩ := by decide +kernel
theorem pn_0 : plainFor x = true := plainFor_of_name (show plainName "com/example/whittle/whittle/model/LookUpTableEvaluatePinLaw" = true by first | (simp [plainName, overriddenIn]; done) | decide +kernel)
theorem pn_1 : plainFor (⟨"com/example/whittle/whittle/model/LookUpTable", "<init>", "([J)V"⟩ : MethodName) = true := plainFor_of_name (show plainName "com/example/whittle/whittle/model/LookUpTable" = true by first | (simp [plainName, overriddenIn]; done) | decide +kernel)
theorem pn_3 : plainFor (⟨"java/util/Arrays", "copyOf", "([JI)[J"⟩ : MethodName) = true := plainFor_of_name (show plainName "java/util/Arrays" = true by first | (simp [plainName, overriddenIn]; done) | decide +kernel)
theorem pn_4 : plainFor (⟨"java/lang/Long", "numberOfLeadingZeros", "(J)I"⟩ : MethodName) = true := plainFor_of_name (show plainName "java/lang/Long" = true by first | (simp [plainName, overriddenIn]; done) | decide +kernel)
theorem pn_5 : plainFor (⟨"java/lang/Integer", "numberOfLeadingZeros", "(I)I"⟩ : MethodName) = true := plainFor_of_name (show plainName "java/lang/Integer" = true by first | (simp [plainName, overriddenIn]; done) | decide +kernel)
theorem pn_6 : plainFor (⟨"com/example/whittle/whittle/model/LookUpTable", "evaluate", "([Z[I)Z"⟩ : MethodName) = true := plainFor_of_name (show plainName "com/example/whittle/whittle/model/LookUpTable" = true by first | (simp [plainName, overriddenIn]; done) | decide +kernel)
theorem pn_7 : plainFor (⟨"java/lang/Math", "min", "(II)I"⟩ : MethodName) = true := Jvm.Free.JP.mathPlain rfl (by decide +kernel)
theorem own_lt {i n : Nat} (h : i < n) (hn : n < 2147483648) : Int32.ofNat i < Int32.ofNat n := by
  rw [Int32.lt_iff_toInt_lt, Int32.toInt_ofNat_of_lt (by omega), Int32.toInt_ofNat_of_lt (by omega)]
  omega
theorem own_nn {n : Nat} (hn : n < 2147483648) : ¬ Int32.ofNat n < 0 := by
  rw [Int32.lt_iff_toInt_lt, Int32.toInt_ofNat_of_lt (by omega), show (0 : Int32).toInt = 0 from rfl]
  omega
theorem own_n32 {n : Nat} (hn : n < 2147483648) : (Int32.ofNat n).toNatClampNeg = n := by
  rw [Int32.toNatClampNeg, Int32.toInt_ofNat_of_lt (by omega)]; rfl
theorem own_one (i : Nat) : Int32.ofNat i + (1 : Int32) = Int32.ofNat (i + 1) := (Int32.ofNat_add i 1).symm
theorem own_hd {xs ys : List Int32} {y : Int32} {i : Nat} (h : xs.drop i = y :: ys) : xs.getD i 0 = y := by
  have q : xs[i]? = some y := by have := congrArg (fun l => l[0]?) h; simpa [List.getElem?_drop] using this
  rw [List.getD_eq_getElem?_getD, q]; rfl
theorem own_tl {xs ys : List Int32} {y : Int32} {i : Nat} (h : xs.drop i = y :: ys) : xs.drop (i + 1) = ys := by
  have := congrArg (List.drop 1) h; simpa [List.drop_drop] using this
theorem ef_5 (m : MethodId) (y0 : Int32) : entryFrame m #[(.int y0)] 2 = mkF m 0 #[.val (.int y0), .unset] [] := by first | (simp [entryFrame, mkF, argsToLocals, Value.category]; done) | rfl
def f5_33_l0 (i0 : Int32) : Int32 := (if i0 < (65536 : Int32) then i0 else ((i0.toUInt32 >>> ((16 : Int32) &&& 31).toUInt32).toInt32))
def f5_33_l1 (i0 : Int32) : Int32 := (if i0 < (65536 : Int32) then (31 : Int32) else (15 : Int32))
def f5_48_l0 (i0 : Int32) : Int32 := (if (f5_33_l0 i0) < (256 : Int32) then (f5_33_l0 i0) else (((f5_33_l0 i0).toUInt32 >>> ((8 : Int32) &&& 31).toUInt32).toInt32))
def f5_48_l1 (i0 : Int32) : Int32 := (if (f5_33_l0 i0) < (256 : Int32) then (f5_33_l1 i0) else ((f5_33_l1 i0) + (-8 : Int32)))
def f5_61_l0 (i0 : Int32) : Int32 := (if (f5_48_l0 i0) < (16 : Int32) then (f5_48_l0 i0) else (((f5_48_l0 i0).toUInt32 >>> ((4 : Int32) &&& 31).toUInt32).toInt32))
def f5_61_l1 (i0 : Int32) : Int32 := (if (f5_48_l0 i0) < (16 : Int32) then (f5_48_l1 i0) else ((f5_48_l1 i0) + (-4 : Int32)))
def f5_73_l0 (i0 : Int32) : Int32 := (if (f5_61_l0 i0) < (4 : Int32) then (f5_61_l0 i0) else (((f5_61_l0 i0).toUInt32 >>> ((2 : Int32) &&& 31).toUInt32).toInt32))
def f5_73_l1 (i0 : Int32) : Int32 := (if (f5_61_l0 i0) < (4 : Int32) then (f5_61_l1 i0) else ((f5_61_l1 i0) + (-2 : Int32)))
def f5_14_s0 (i0 : Int32) : Int32 := (if i0 = (0 : Int32) then (32 : Int32) else (0 : Int32))
def fn5 (i0 : Int32) : Int32 := (if (0 : Int32) < i0 then ((f5_73_l1 i0) - (((f5_73_l0 i0).toUInt32 >>> ((1 : Int32) &&& 31).toUInt32).toInt32)) else (f5_14_s0 i0))
set_option maxRecDepth 65536 in
set_option maxHeartbeats 40000000 in
theorem rm5 (l : Launch) (Z : State) (a0 : Array Value) (hw : ∀ d ∈ tables_1, d.before a0 Z = true) (i0 : Int32) (h0 : Heap) : MetP l (⟨"java/lang/Integer", "numberOfLeadingZeros", "(I)I"⟩ : MethodName) jdk_33_method_47_code 2 (some .int) [] ({ frames := 0, cells := 0, slots := 0, locals := 0 } : Room) Z #[(.int i0)] h0 (Pure (.int (fn5 i0)) h0) := by
  refine met_go pn_5 ?_
  intro p e s m below meth c s₁ hx hby hml hown hnm hret hlk hZ e0 X0
  rw [ef_5 m i0]
  refine o_iloadN 1 X0 hx rfl (hb hby d5_0) rfl ?_
  by_cases hc1_1 : (0 : Int32) < i0
  · refine o_ifYes 15 X0 hx (hb hby d5_1) (tlt hc1_1).2.2.1 (by decide) (by decide) ?_
    refine o_bipush 17 X0 hx rfl (hb hby d5_15) (31 : Int32) rfl ?_
    refine o_istoreN 18 X0 hx rfl (hb hby d5_17) #[.val (.int i0), .val (.int (31 : Int32))] rfl ?_
    refine o_iloadN 19 X0 hx rfl (hb hby d5_18) rfl ?_
    refine o_ldcwInt 22 X0 hx rfl hZ hown (wd_34 hw) (hb hby d5_19) ?_
    suffices j33_2 : Go p.tables e below (EndE s ({ frames := 0, cells := 0, slots := 0, locals := 0 } : Room) (Pure (.int (fn5 i0)) h0)) (s₁.setTop (mkF m 33 #[.val (.int (f5_33_l0 i0)), .val (.int (f5_33_l1 i0))] [])) by
      by_cases hc22_3 : i0 < (65536 : Int32)
      · refine o_icmpYes 33 X0 hx (hb hby d5_22) (tlt hc22_3).1 (by decide) (by decide) ?_
        rw [show (f5_33_l0 i0) = i0 from by unfold f5_33_l0; simp only [if_pos hc22_3]] at j33_2
        rw [show (f5_33_l1 i0) = (31 : Int32) from by unfold f5_33_l1; simp only [if_pos hc22_3]] at j33_2
        exact j33_2
      · refine o_icmpNo 25 X0 hx rfl (hb hby d5_22) (flt hc22_3).1 ?_
        refine o_iinc 28 X0 hx rfl (hb hby d5_25) (-16 : Int32) rfl rfl #[.val (.int i0), .val (.int (15 : Int32))] rfl ?_
        refine o_iloadN 29 X0 hx rfl (hb hby d5_28) rfl ?_
        refine o_bipush 31 X0 hx rfl (hb hby d5_29) (16 : Int32) rfl ?_
        refine o_iushr 32 X0 hx rfl (hb hby d5_31) ?_
        refine o_istoreN 33 X0 hx rfl (hb hby d5_32) #[.val (.int ((i0.toUInt32 >>> ((16 : Int32) &&& 31).toUInt32).toInt32)), .val (.int (15 : Int32))] rfl ?_
        rw [show (f5_33_l0 i0) = ((i0.toUInt32 >>> ((16 : Int32) &&& 31).toUInt32).toInt32) from by unfold f5_33_l0; simp only [if_neg hc22_3]] at j33_2
        rw [show (f5_33_l1 i0) = (15 : Int32) from by unfold f5_33_l1; simp only [if_neg hc22_3]] at j33_2
        exact j33_2
    refine o_iloadN 34 X0 hx rfl (hb hby d5_33) rfl ?_
    refine o_sipush 37 X0 hx rfl (hb hby d5_34) (256 : Int32) rfl ?_
    suffices j48_4 : Go p.tables e below (EndE s ({ frames := 0, cells := 0, slots := 0, locals := 0 } : Room) (Pure (.int (fn5 i0)) h0)) (s₁.setTop (mkF m 48 #[.val (.int (f5_48_l0 i0)), .val (.int (f5_48_l1 i0))] [])) by
      by_cases hc37_5 : (f5_33_l0 i0) < (256 : Int32)
      · refine o_icmpYes 48 X0 hx (hb hby d5_37) (tlt hc37_5).1 (by decide) (by decide) ?_
        rw [show (f5_48_l0 i0) = (f5_33_l0 i0) from by unfold f5_48_l0; simp only [if_pos hc37_5]] at j48_4
        rw [show (f5_48_l1 i0) = (f5_33_l1 i0) from by unfold f5_48_l1; simp only [if_pos hc37_5]] at j48_4
        exact j48_4
      · refine o_icmpNo 40 X0 hx rfl (hb hby d5_37) (flt hc37_5).1 ?_
        refine o_iinc 43 X0 hx rfl (hb hby d5_40) (-8 : Int32) rfl rfl #[.val (.int (f5_33_l0 i0)), .val (.int ((f5_33_l1 i0) + (-8 : Int32)))] rfl ?_
        refine o_iloadN 44 X0 hx rfl (hb hby d5_43) rfl ?_
        refine o_bipush 46 X0 hx rfl (hb hby d5_44) (8 : Int32) rfl ?_
        refine o_iushr 47 X0 hx rfl (hb hby d5_46) ?_
        refine o_istoreN 48 X0 hx rfl (hb hby d5_47) #[.val (.int (((f5_33_l0 i0).toUInt32 >>> ((8 : Int32) &&& 31).toUInt32).toInt32)), .val (.int ((f5_33_l1 i0) + (-8 : Int32)))] rfl ?_
        rw [show (f5_48_l0 i0) = (((f5_33_l0 i0).toUInt32 >>> ((8 : Int32) &&& 31).toUInt32).toInt32) from by unfold f5_48_l0; simp only [if_neg hc37_5]] at j48_4
        rw [show (f5_48_l1 i0) = ((f5_33_l1 i0) + (-8 : Int32)) from by unfold f5_48_l1; simp only [if_neg hc37_5]] at j48_4
        exact j48_4
    refine o_iloadN 49 X0 hx rfl (hb hby d5_48) rfl ?_
    refine o_bipush 51 X0 hx rfl (hb hby d5_49) (16 : Int32) rfl ?_
    suffices j61_6 : Go p.tables e below (EndE s ({ frames := 0, cells := 0, slots := 0, locals := 0 } : Room) (Pure (.int (fn5 i0)) h0)) (s₁.setTop (mkF m 61 #[.val (.int (f5_61_l0 i0)), .val (.int (f5_61_l1 i0))] [])) by
      by_cases hc51_7 : (f5_48_l0 i0) < (16 : Int32)
      · refine o_icmpYes 61 X0 hx (hb hby d5_51) (tlt hc51_7).1 (by decide) (by decide) ?_
        rw [show (f5_61_l0 i0) = (f5_48_l0 i0) from by unfold f5_61_l0; simp only [if_pos hc51_7]] at j61_6
        rw [show (f5_61_l1 i0) = (f5_48_l1 i0) from by unfold f5_61_l1; simp only [if_pos hc51_7]] at j61_6
        exact j61_6
      · refine o_icmpNo 54 X0 hx rfl (hb hby d5_51) (flt hc51_7).1 ?_
        refine o_iinc 57 X0 hx rfl (hb hby d5_54) (-4 : Int32) rfl rfl #[.val (.int (f5_48_l0 i0)), .val (.int ((f5_48_l1 i0) + (-4 : Int32)))] rfl ?_
        refine o_iloadN 58 X0 hx rfl (hb hby d5_57) rfl ?_
        refine o_iconst 59 X0 hx rfl (hb hby d5_58) (4 : Int32) rfl ?_
        refine o_iushr 60 X0 hx rfl (hb hby d5_59) ?_
        refine o_istoreN 61 X0 hx rfl (hb hby d5_60) #[.val (.int (((f5_48_l0 i0).toUInt32 >>> ((4 : Int32) &&& 31).toUInt32).toInt32)), .val (.int ((f5_48_l1 i0) + (-4 : Int32)))] rfl ?_
        rw [show (f5_61_l0 i0) = (((f5_48_l0 i0).toUInt32 >>> ((4 : Int32) &&& 31).toUInt32).toInt32) from by unfold f5_61_l0; simp only [if_neg hc51_7]] at j61_6
        rw [show (f5_61_l1 i0) = ((f5_48_l1 i0) + (-4 : Int32)) from by unfold f5_61_l1; simp only [if_neg hc51_7]] at j61_6
        exact j61_6
    refine o_iloadN 62 X0 hx rfl (hb hby d5_61) rfl ?_
    refine o_iconst 63 X0 hx rfl (hb hby d5_62) (4 : Int32) rfl ?_
    suffices j73_8 : Go p.tables e below (EndE s ({ frames := 0, cells := 0, slots := 0, locals := 0 } : Room) (Pure (.int (fn5 i0)) h0)) (s₁.setTop (mkF m 73 #[.val (.int (f5_73_l0 i0)), .val (.int (f5_73_l1 i0))] [])) by
      by_cases hc63_9 : (f5_61_l0 i0) < (4 : Int32)
      · refine o_icmpYes 73 X0 hx (hb hby d5_63) (tlt hc63_9).1 (by decide) (by decide) ?_
        rw [show (f5_73_l0 i0) = (f5_61_l0 i0) from by unfold f5_73_l0; simp only [if_pos hc63_9]] at j73_8
        rw [show (f5_73_l1 i0) = (f5_61_l1 i0) from by unfold f5_73_l1; simp only [if_pos hc63_9]] at j73_8
        exact j73_8
      · refine o_icmpNo 66 X0 hx rfl (hb hby d5_63) (flt hc63_9).1 ?_
        refine o_iinc 69 X0 hx rfl (hb hby d5_66) (-2 : Int32) rfl rfl #[.val (.int (f5_61_l0 i0)), .val (.int ((f5_61_l1 i0) + (-2 : Int32)))] rfl ?_
        refine o_iloadN 70 X0 hx rfl (hb hby d5_69) rfl ?_
        refine o_iconst 71 X0 hx rfl (hb hby d5_70) (2 : Int32) rfl ?_
        refine o_iushr 72 X0 hx rfl (hb hby d5_71) ?_
        refine o_istoreN 73 X0 hx rfl (hb hby d5_72) #[.val (.int (((f5_61_l0 i0).toUInt32 >>> ((2 : Int32) &&& 31).toUInt32).toInt32)), .val (.int ((f5_61_l1 i0) + (-2 : Int32)))] rfl ?_
        rw [show (f5_73_l0 i0) = (((f5_61_l0 i0).toUInt32 >>> ((2 : Int32) &&& 31).toUInt32).toInt32) from by unfold f5_73_l0; simp only [if_neg hc63_9]] at j73_8
        rw [show (f5_73_l1 i0) = ((f5_61_l1 i0) + (-2 : Int32)) from by unfold f5_73_l1; simp only [if_neg hc63_9]] at j73_8
        exact j73_8
    refine o_iloadN 74 X0 hx rfl (hb hby d5_73) rfl ?_
    refine o_iloadN 75 X0 hx rfl (hb hby d5_74) rfl ?_
    refine o_iconst 76 X0 hx rfl (hb hby d5_75) (1 : Int32) rfl ?_
    refine o_iushr 77 X0 hx rfl (hb hby d5_76) ?_
    refine o_isub 78 X0 hx rfl (hb hby d5_77) ?_
    refine o_retI X0 hx hret hlk (hb hby d5_78) (by decide) (by decide) ?_
    exact ⟨show some (Value.int ((f5_73_l1 i0) - (((f5_73_l0 i0).toUInt32 >>> ((1 : Int32) &&& 31).toUInt32).toInt32))) = some (Value.int (fn5 i0)) from by rw [show (fn5 i0) = ((f5_73_l1 i0) - (((f5_73_l0 i0).toUInt32 >>> ((1 : Int32) &&& 31).toUInt32).toInt32)) from by unfold fn5; simp only [if_pos hc1_1]], rfl, e0⟩
  · refine o_ifNo 4 X0 hx rfl (hb hby d5_1) (flt hc1_1).2.2.1 ?_
    refine o_iloadN 5 X0 hx rfl (hb hby d5_4) rfl ?_
    suffices j14_10 : Go p.tables e below (EndE s ({ frames := 0, cells := 0, slots := 0, locals := 0 } : Room) (Pure (.int (fn5 i0)) h0)) (s₁.setTop (mkF m 14 #[.val (.int i0), .unset] [(.int (f5_14_s0 i0))])) by
      by_cases hc5_11 : i0 = (0 : Int32)
      · refine o_ifNo 8 X0 hx rfl (hb hby d5_5) (teq hc5_11).2 ?_
        refine o_bipush 10 X0 hx rfl (hb hby d5_8) (32 : Int32) rfl ?_
        refine o_goto 14 X0 hx (hb hby d5_10) (by decide) (by decide) ?_
        rw [show (f5_14_s0 i0) = (32 : Int32) from by unfold f5_14_s0; simp only [if_pos hc5_11]] at j14_10
        exact j14_10
      · refine o_ifYes 13 X0 hx (hb hby d5_5) (feq hc5_11).2 (by decide) (by decide) ?_
        refine o_iconst 14 X0 hx rfl (hb hby d5_13) (0 : Int32) rfl ?_
        rw [show (f5_14_s0 i0) = (0 : Int32) from by unfold f5_14_s0; simp only [if_neg hc5_11]] at j14_10
        exact j14_10
    refine o_retI X0 hx hret hlk (hb hby d5_14) (by decide) (by decide) ?_
    exact ⟨show some (Value.int (f5_14_s0 i0)) = some (Value.int (fn5 i0)) from by rw [show (fn5 i0) = (f5_14_s0 i0) from by unfold fn5; simp only [if_neg hc1_1]], rfl, e0⟩
theorem ef_4 (m : MethodId) (y0 : Int64) : entryFrame m #[(.long y0)] 3 = mkF m 0 #[.val (.long y0), .second, .unset] [] := by first | (simp [entryFrame, mkF, argsToLocals, Value.category]; done) | rfl
def f4_5 (q0 : Int64) : Int32 := (((q0.toUInt64 >>> ((32 : Int32) &&& 0x3f).toInt64.toUInt64).toInt64).toInt32)
def f4_25_s0 (q0 : Int64) : Int32 := (if (f4_5 q0) = (0 : Int32) then ((32 : Int32) + (fn5 (q0.toInt32))) else (fn5 (f4_5 q0)))
def fn4 (q0 : Int64) : Int32 := (f4_25_s0 q0)
set_option maxRecDepth 65536 in
set_option maxHeartbeats 40000000 in
theorem rm4 (l : Launch) (Z : State) (a0 : Array Value) (hw : ∀ d ∈ tables_1, d.before a0 Z = true) (q0 : Int64) (h0 : Heap) : MetP l (⟨"java/lang/Long", "numberOfLeadingZeros", "(J)I"⟩ : MethodName) jdk_35_method_48_code 3 (some .int) [] ({ frames := 1, cells := 0, slots := 0, locals := 14 } : Room) Z #[(.long q0)] h0 (Pure (.int (fn4 q0)) h0) := by
  refine met_go pn_4 ?_
  intro p e s m below meth c s₁ hx hby hml hown hnm hret hlk hZ e0 X0
  rw [ef_4 m q0]
  refine o_lloadN 1 X0 hx rfl (hb hby d4_0) rfl ?_
  refine o_bipush 3 X0 hx rfl (hb hby d4_1) (32 : Int32) rfl ?_
  refine o_lushr 4 X0 hx rfl (hb hby d4_3) ?_
  refine o_l2i 5 X0 hx rfl (hb hby d4_4) ?_
  refine o_istoreN 6 X0 hx rfl (hb hby d4_5) #[.val (.long q0), .second, .val (.int (f4_5 q0))] rfl ?_
  refine o_iloadN 7 X0 hx rfl (hb hby d4_6) rfl ?_
  suffices j25_1 : ∀ (T' : State), Stand p l e ({ frames := 1, cells := 0, slots := 0, locals := 14 } : Room) s m #[(.long q0)] below meth c T' [] 0 0 → T'.heap = h0 → Go p.tables e below (EndE s ({ frames := 1, cells := 0, slots := 0, locals := 14 } : Room) (Pure (.int (fn4 q0)) h0)) (T'.setTop (mkF m 25 #[.val (.long q0), .second, .val (.int (f4_5 q0))] [(.int (f4_25_s0 q0))])) by
    by_cases hc7_2 : (f4_5 q0) = (0 : Int32)
    · refine o_ifNo 10 X0 hx rfl (hb hby d4_7) (teq hc7_2).2 ?_
      refine o_bipush 12 X0 hx rfl (hb hby d4_10) (32 : Int32) rfl ?_
      refine o_lloadN 13 X0 hx rfl (hb hby d4_12) rfl ?_
      refine o_l2i 14 X0 hx rfl (hb hby d4_13) ?_
      refine o_callP (rv := (.int (fn5 (q0.toInt32)))) 17 X0 hx rfl hZ hown (wd_30 hw) (wd_31 hw) (wd_32 hw) (wd_33 hw) (by decide) e0 (rm5 l Z a0 hw (q0.toInt32) h0) pd_lIrI [(.int (q0.toInt32))] [(.int (32 : Int32))] rfl rfl (by rw [hml]; rfl) rfl (hb hby d4_14) 1 (Nat.le_of_eq rfl) (by decide) (by decide) (by decide) (by decide) rfl rfl fun T3 X3 e3 => ?_
      refine o_iadd 18 X3 hx rfl (hb hby d4_17) ?_
      refine o_goto 25 X3 hx (hb hby d4_18) (by decide) (by decide) ?_
      rw [show (f4_25_s0 q0) = ((32 : Int32) + (fn5 (q0.toInt32))) from by unfold f4_25_s0; simp only [if_pos hc7_2]] at j25_1
      exact j25_1 T3 X3 e3
    · refine o_ifYes 21 X0 hx (hb hby d4_7) (feq hc7_2).2 (by decide) (by decide) ?_
      refine o_iloadN 22 X0 hx rfl (hb hby d4_21) rfl ?_
      refine o_callP (rv := (.int (fn5 (f4_5 q0)))) 25 X0 hx rfl hZ hown (wd_30 hw) (wd_31 hw) (wd_32 hw) (wd_33 hw) (by decide) e0 (rm5 l Z a0 hw (f4_5 q0) h0) pd_lIrI [(.int (f4_5 q0))] [] rfl rfl (by rw [hml]; rfl) rfl (hb hby d4_22) 0 (Nat.le_of_eq rfl) (by decide) (by decide) (by decide) (by decide) rfl rfl fun T4 X4 e4 => ?_
      rw [show (f4_25_s0 q0) = (fn5 (f4_5 q0)) from by unfold f4_25_s0; simp only [if_neg hc7_2]] at j25_1
      exact j25_1 T4 X4 e4
  intro T5 X5 e5
  refine o_retI X5 hx hret hlk (hb hby d4_25) (by decide) (by decide) ?_
  exact ⟨show some (Value.int (f4_25_s0 q0)) = some (Value.int (fn4 q0)) from by rw [show (fn4 q0) = (f4_25_s0 q0) from by rfl], rfl, e5⟩
theorem ef_7 (m : MethodId) (y0 : Int32) (y1 : Int32) : entryFrame m #[(.int y0), (.int y1)] 2 = mkF m 0 #[.val (.int y0), .val (.int y1)] [] := by first | (simp [entryFrame, mkF, argsToLocals, Value.category]; done) | rfl
def f7_10_s0 (i0 : Int32) (i1 : Int32) : Int32 := (if i1 < i0 then i1 else i0)
def fn7 (i0 : Int32) (i1 : Int32) : Int32 := (f7_10_s0 i0 i1)
set_option maxRecDepth 65536 in
set_option maxHeartbeats 40000000 in
theorem rm7 (l : Launch) (Z : State) (a0 : Array Value) (hw : ∀ d ∈ tables_1, d.before a0 Z = true) (i0 : Int32) (i1 : Int32) (h0 : Heap) : MetP l (⟨"java/lang/Math", "min", "(II)I"⟩ : MethodName) jdk_29_method_69_code 2 (some .int) [] ({ frames := 0, cells := 0, slots := 0, locals := 0 } : Room) Z #[(.int i0), (.int i1)] h0 (Pure (.int (fn7 i0 i1)) h0) := by
  refine met_go pn_7 ?_
  intro p e s m below meth c s₁ hx hby hml hown hnm hret hlk hZ e0 X0
  rw [ef_7 m i0 i1]
  refine o_iloadN 1 X0 hx rfl (hb hby d7_0) rfl ?_
  refine o_iloadN 2 X0 hx rfl (hb hby d7_1) rfl ?_
  suffices j10_1 : Go p.tables e below (EndE s ({ frames := 0, cells := 0, slots := 0, locals := 0 } : Room) (Pure (.int (fn7 i0 i1)) h0)) (s₁.setTop (mkF m 10 #[.val (.int i0), .val (.int i1)] [(.int (f7_10_s0 i0 i1))])) by
    by_cases hc2_2 : i1 < i0
    · refine o_icmpYes 9 X0 hx (hb hby d7_2) (tlt hc2_2).2.2.1 (by decide) (by decide) ?_
      refine o_iloadN 10 X0 hx rfl (hb hby d7_9) rfl ?_
      rw [show (f7_10_s0 i0 i1) = i1 from by unfold f7_10_s0; simp only [if_pos hc2_2]] at j10_1
      exact j10_1
    · refine o_icmpNo 5 X0 hx rfl (hb hby d7_2) (flt hc2_2).2.2.1 ?_
      refine o_iloadN 6 X0 hx rfl (hb hby d7_5) rfl ?_
      refine o_goto 10 X0 hx (hb hby d7_6) (by decide) (by decide) ?_
      rw [show (f7_10_s0 i0 i1) = i0 from by unfold f7_10_s0; simp only [if_neg hc2_2]] at j10_1
      exact j10_1
  refine o_retI X0 hx hret hlk (hb hby d7_10) (by decide) (by decide) ?_
  exact ⟨show some (Value.int (f7_10_s0 i0 i1)) = some (Value.int (fn7 i0 i1)) from by rw [show (fn7 i0 i1) = (f7_10_s0 i0 i1) from by rfl], rfl, e0⟩
theorem ef_3 (m : MethodId) (y0 : Addr) (y1 : Int32) : entryFrame m #[(.ref y0), (.int y1)] 3 = mkF m 0 #[.val (.ref y0), .val (.int y1), .unset] [] := by first | (simp [entryFrame, mkF, argsToLocals, Value.category]; done) | rfl
set_option maxRecDepth 65536 in
set_option maxHeartbeats 40000000 in
theorem rm3_0 (l : Launch) (Z : State) (a0 : Array Value) (hw : ∀ d ∈ tables_1, d.before a0 Z = true) (r0 : Addr) (ka : ClassId) (x0 x1 : Int64) (h0 : Heap) (n0 : Nat) (Z0 : n0 ≤ h0.size) (A0 : Arv Z h0 r0 ka .long (2 : Int32) ([x0, x1].map Value.long) (.long 0)) (E0 : Exa Z h0 r0 "[J") : MetP l (⟨"java/util/Arrays", "copyOf", "([JI)[J"⟩ : MethodName) jdk_65_method_124_code 3 (some (.array .long)) [] ({ frames := 1, cells := 1, slots := 0, locals := 40 } : Room) Z #[(.ref r0), (.int (0 : Int32))] h0 (fun v h L => ∃ (b : Addr) (kb : ClassId), v = some (.ref b) ∧ Fr n0 L ∧ Keep h0 h [] ∧ n0 ≤ b ∧ h0.size ≤ b ∧ Arv Z h b kb .long (0 : Int32) (([] : List Int64).map Value.long) (.long 0)) := by
  refine met_go pn_3 ?_
  intro p e s m below meth c s₁ hx hby hml hown hnm hret hlk hZ e0 X0
  have N0 := Fr.nil n0
  have K0 : Keep h0 h0 [] := Keep.refl _ _
  rw [ef_3 m r0 (0 : Int32)]
  refine o_iloadN 1 X0 hx rfl (hb hby d3_0) rfl ?_
  refine o_aloadN 2 X0 hx rfl (hb hby d3_1) rfl rfl ?_
  refine o_alen 3 X0 hx rfl hZ e0 A0 (hb hby d3_2) ?_
  refine o_icmpYes 14 X0 hx (hb hby d3_3) (feq (show ¬ ((0 : Int32) = (2 : Int32)) by decide)).2 (by decide) (by decide) ?_
  refine o_iloadN 15 X0 hx rfl (hb hby d3_14) rfl ?_
  refine o_newarrJ 17 X0 hx rfl hZ .long .long rfl rfl (wd_3 hw) e0 (hb hby d3_15) (by decide) 0 (by decide) (by decide) (by decide) (by decide) ([] : List Int64) rfl fun T1 h1 a1 k1 g1 X1 e1 E1 A1 => ?_
  have gz2 : h0.size ≤ a1 := Nat.le_trans K0.1 (Nat.le_of_eq g1.symm)
  have ne3 : r0 ≠ a1 := Nat.ne_of_lt (Nat.lt_of_lt_of_eq A0.lt g1.symm)
  have ge4 : n0 ≤ a1 := Nat.le_trans Z0 (Nat.le_of_eq g1.symm)
  have F5 : Arv Z h1 r0 ka .long (2 : Int32) ([x0, x1].map Value.long) (.long 0) := A0.ext E1
  have F6 : Exa Z h1 r0 "[J" := E0.ext E1
  have sz7 : n0 ≤ h1.size := Nat.le_trans Z0 E1.1
  have K8 : Keep h0 h1 [] := K0.ext E1
  refine o_astoreN 18 X1 hx rfl (hb hby d3_17) rfl #[.val (.ref r0), .val (.int (0 : Int32)), .val (.ref a1)] rfl ?_
  refine o_aloadN 19 X1 hx rfl (hb hby d3_18) rfl rfl ?_
  refine o_iconst 20 X1 hx rfl (hb hby d3_19) (0 : Int32) rfl ?_
  refine o_aloadN 21 X1 hx rfl (hb hby d3_20) rfl rfl ?_
  refine o_iconst 22 X1 hx rfl (hb hby d3_21) (0 : Int32) rfl ?_
  refine o_aloadN 23 X1 hx rfl (hb hby d3_22) rfl rfl ?_
  refine o_alen 24 X1 hx rfl hZ e1 F5 (hb hby d3_23) ?_
  refine o_iloadN 25 X1 hx rfl (hb hby d3_24) rfl ?_
  refine o_callP (rv := (.int (fn7 (2 : Int32) (0 : Int32)))) 28 X1 hx rfl hZ hown (wd_46 hw) (wd_47 hw) (wd_48 hw) (wd_49 hw) (by decide) e1 (rm7 l Z a0 hw (2 : Int32) (0 : Int32) h1) pd_lIIrI [(.int (2 : Int32)), (.int (0 : Int32))] [(.int (0 : Int32)), (.ref a1), (.int (0 : Int32)), (.ref r0)] rfl rfl (by rw [hml]; rfl) rfl (hb hby d3_25) 4 (Nat.le_of_eq rfl) (by decide) (by decide) (by decide) (by decide) rfl rfl fun T9 X9 e9 => ?_
  rw [show (fn7 (2 : Int32) (0 : Int32)) = (0 : Int32) from by decide]
  refine o_cp 31 X9 hx rfl hZ hown (wd_50 hw) (wd_53 hw) (wd_51 hw) (wd_52 hw) e9 F5 A1 rfl (by decide) (by decide) (by decide) (by decide) (by decide) (by decide) N0 ge4 (by rw [hml]; rfl) (hb hby d3_28) 0 (Nat.le_of_eq rfl) (by decide) (by decide) (([] : List Int64).map Value.long) rfl fun T10 h10 L10 X10 e10 N10 K10 A10 => ?_
  subst e10
  have F11 : Arv Z T10.heap r0 ka .long (2 : Int32) ([x0, x1].map Value.long) (.long 0) := F5.keep K10 (ninS ne3 nin0)
  have F12 : Exa Z T10.heap r0 "[J" := F6.keep K10
  have K13 : Keep h0 T10.heap [] := K8.trans K10 (allS (P := fun x => x ∈ [] ∨ h0.size ≤ x) (Or.inr gz2) all0)
  have sz14 : n0 ≤ T10.heap.size := Nat.le_trans sz7 K10.1
  show Go p.tables e below (EndE s ({ frames := 1, cells := 1, slots := 0, locals := 40 } : Room) (fun v h L => ∃ (b : Addr) (kb : ClassId), v = some (.ref b) ∧ Fr n0 L ∧ Keep h0 h [] ∧ n0 ≤ b ∧ h0.size ≤ b ∧ Arv Z h b kb .long (0 : Int32) (([] : List Int64).map Value.long) (.long 0))) (T10.setTop (mkF m 31 #[.val (.ref r0), .val (.int (0 : Int32)), .val (.ref a1)] []))
  refine o_aloadN 32 X10 hx rfl (hb hby d3_31) rfl rfl ?_
  refine o_retA X10 hx rfl rfl hret hlk (hb hby d3_32) (by decide) (by decide) ?_
  exact ⟨a1, k1, rfl, N10, K13, ge4, gz2, A10⟩
set_option maxRecDepth 65536 in
set_option maxHeartbeats 40000000 in
theorem rm3_1 (l : Launch) (Z : State) (a0 : Array Value) (hw : ∀ d ∈ tables_1, d.before a0 Z = true) (r0 : Addr) (ka : ClassId) (x0 x1 : Int64) (h0 : Heap) (n0 : Nat) (Z0 : n0 ≤ h0.size) (A0 : Arv Z h0 r0 ka .long (2 : Int32) ([x0, x1].map Value.long) (.long 0)) (E0 : Exa Z h0 r0 "[J") : MetP l (⟨"java/util/Arrays", "copyOf", "([JI)[J"⟩ : MethodName) jdk_65_method_124_code 3 (some (.array .long)) [] ({ frames := 1, cells := 1, slots := 1, locals := 40 } : Room) Z #[(.ref r0), (.int (1 : Int32))] h0 (fun v h L => ∃ (b : Addr) (kb : ClassId), v = some (.ref b) ∧ Fr n0 L ∧ Keep h0 h [] ∧ n0 ≤ b ∧ h0.size ≤ b ∧ Arv Z h b kb .long (1 : Int32) ([x0].map Value.long) (.long 0)) := by
  refine met_go pn_3 ?_
  intro p e s m below meth c s₁ hx hby hml hown hnm hret hlk hZ e0 X0
  have N0 := Fr.nil n0
  have K0 : Keep h0 h0 [] := Keep.refl _ _
  rw [ef_3 m r0 (1 : Int32)]
  refine o_iloadN 1 X0 hx rfl (hb hby d3_0) rfl ?_
  refine o_aloadN 2 X0 hx rfl (hb hby d3_1) rfl rfl ?_
  refine o_alen 3 X0 hx rfl hZ e0 A0 (hb hby d3_2) ?_
  refine o_icmpYes 14 X0 hx (hb hby d3_3) (feq (show ¬ ((1 : Int32) = (2 : Int32)) by decide)).2 (by decide) (by decide) ?_
  refine o_iloadN 15 X0 hx rfl (hb hby d3_14) rfl ?_
  refine o_newarrJ 17 X0 hx rfl hZ .long .long rfl rfl (wd_3 hw) e0 (hb hby d3_15) (by decide) 1 (by decide) (by decide) (by decide) (by decide) [(0 : Int64)] rfl fun T1 h1 a1 k1 g1 X1 e1 E1 A1 => ?_
  have gz2 : h0.size ≤ a1 := Nat.le_trans K0.1 (Nat.le_of_eq g1.symm)
  have ne3 : r0 ≠ a1 := Nat.ne_of_lt (Nat.lt_of_lt_of_eq A0.lt g1.symm)
  have ge4 : n0 ≤ a1 := Nat.le_trans Z0 (Nat.le_of_eq g1.symm)
  have F5 : Arv Z h1 r0 ka .long (2 : Int32) ([x0, x1].map Value.long) (.long 0) := A0.ext E1
  have F6 : Exa Z h1 r0 "[J" := E0.ext E1
  have sz7 : n0 ≤ h1.size := Nat.le_trans Z0 E1.1
  have K8 : Keep h0 h1 [] := K0.ext E1
  refine o_astoreN 18 X1 hx rfl (hb hby d3_17) rfl #[.val (.ref r0), .val (.int (1 : Int32)), .val (.ref a1)] rfl ?_
  refine o_aloadN 19 X1 hx rfl (hb hby d3_18) rfl rfl ?_
  refine o_iconst 20 X1 hx rfl (hb hby d3_19) (0 : Int32) rfl ?_
  refine o_aloadN 21 X1 hx rfl (hb hby d3_20) rfl rfl ?_
  refine o_iconst 22 X1 hx rfl (hb hby d3_21) (0 : Int32) rfl ?_
  refine o_aloadN 23 X1 hx rfl (hb hby d3_22) rfl rfl ?_
  refine o_alen 24 X1 hx rfl hZ e1 F5 (hb hby d3_23) ?_
  refine o_iloadN 25 X1 hx rfl (hb hby d3_24) rfl ?_
  refine o_callP (rv := (.int (fn7 (2 : Int32) (1 : Int32)))) 28 X1 hx rfl hZ hown (wd_46 hw) (wd_47 hw) (wd_48 hw) (wd_49 hw) (by decide) e1 (rm7 l Z a0 hw (2 : Int32) (1 : Int32) h1) pd_lIIrI [(.int (2 : Int32)), (.int (1 : Int32))] [(.int (0 : Int32)), (.ref a1), (.int (0 : Int32)), (.ref r0)] rfl rfl (by rw [hml]; rfl) rfl (hb hby d3_25) 4 (Nat.le_of_eq rfl) (by decide) (by decide) (by decide) (by decide) rfl rfl fun T9 X9 e9 => ?_
  rw [show (fn7 (2 : Int32) (1 : Int32)) = (1 : Int32) from by decide]
  refine o_cp 31 X9 hx rfl hZ hown (wd_50 hw) (wd_53 hw) (wd_51 hw) (wd_52 hw) e9 F5 A1 rfl (by decide) (by decide) (by decide) (by decide) (by decide) (by decide) N0 ge4 (by rw [hml]; rfl) (hb hby d3_28) 0 (Nat.le_of_eq rfl) (by decide) (by decide) ([x0].map Value.long) rfl fun T10 h10 L10 X10 e10 N10 K10 A10 => ?_
  subst e10
  have F11 : Arv Z T10.heap r0 ka .long (2 : Int32) ([x0, x1].map Value.long) (.long 0) := F5.keep K10 (ninS ne3 nin0)
  have F12 : Exa Z T10.heap r0 "[J" := F6.keep K10
  have K13 : Keep h0 T10.heap [] := K8.trans K10 (allS (P := fun x => x ∈ [] ∨ h0.size ≤ x) (Or.inr gz2) all0)
  have sz14 : n0 ≤ T10.heap.size := Nat.le_trans sz7 K10.1
  show Go p.tables e below (EndE s ({ frames := 1, cells := 1, slots := 1, locals := 40 } : Room) (fun v h L => ∃ (b : Addr) (kb : ClassId), v = some (.ref b) ∧ Fr n0 L ∧ Keep h0 h [] ∧ n0 ≤ b ∧ h0.size ≤ b ∧ Arv Z h b kb .long (1 : Int32) ([x0].map Value.long) (.long 0))) (T10.setTop (mkF m 31 #[.val (.ref r0), .val (.int (1 : Int32)), .val (.ref a1)] []))
  refine o_aloadN 32 X10 hx rfl (hb hby d3_31) rfl rfl ?_
  refine o_retA X10 hx rfl rfl hret hlk (hb hby d3_32) (by decide) (by decide) ?_
  exact ⟨a1, k1, rfl, N10, K13, ge4, gz2, A10⟩
set_option maxRecDepth 65536 in
set_option maxHeartbeats 40000000 in
theorem rm3_2 (l : Launch) (Z : State) (a0 : Array Value) (hw : ∀ d ∈ tables_1, d.before a0 Z = true) (r0 : Addr) (ka : ClassId) (x0 x1 : Int64) (h0 : Heap) (n0 : Nat) (Z0 : n0 ≤ h0.size) (A0 : Arv Z h0 r0 ka .long (2 : Int32) ([x0, x1].map Value.long) (.long 0)) (E0 : Exa Z h0 r0 "[J") : MetP l (⟨"java/util/Arrays", "copyOf", "([JI)[J"⟩ : MethodName) jdk_65_method_124_code 3 (some (.array .long)) [] ({ frames := 1, cells := 1, slots := 2, locals := 14 } : Room) Z #[(.ref r0), (.int (2 : Int32))] h0 (fun v h L => ∃ (b : Addr) (kb : ClassId), v = some (.ref b) ∧ Fr n0 L ∧ Keep h0 h [] ∧ n0 ≤ b ∧ h0.size ≤ b ∧ Arv Z h b kb .long (2 : Int32) ([x0, x1].map Value.long) (.long 0)) := by
  refine met_go pn_3 ?_
  intro p e s m below meth c s₁ hx hby hml hown hnm hret hlk hZ e0 X0
  have N0 := Fr.nil n0
  have K0 : Keep h0 h0 [] := Keep.refl _ _
  rw [ef_3 m r0 (2 : Int32)]
  refine o_iloadN 1 X0 hx rfl (hb hby d3_0) rfl ?_
  refine o_aloadN 2 X0 hx rfl (hb hby d3_1) rfl rfl ?_
  refine o_alen 3 X0 hx rfl hZ e0 A0 (hb hby d3_2) ?_
  refine o_icmpNo 6 X0 hx rfl (hb hby d3_3) (teq (show (2 : Int32) = (2 : Int32) by decide)).2 ?_
  refine o_aloadN 7 X0 hx rfl (hb hby d3_6) rfl rfl ?_
  refine o_clone 10 X0 hx rfl hZ hown (wd_14 hw) (wd_15 hw) (wd_19 hw) (wd_17 hw) (wd_18 hw) (wd_20 hw) e0 A0 E0 (by rw [hml]; rfl) (hb hby d3_7) 0 2 (Nat.le_of_eq rfl) (by decide) (by decide) (by decide) (by decide) (by decide) fun T1 h1 a1 g1 X1 e1 E1 A1 D1 => ?_
  have gz2 : h0.size ≤ a1 := Nat.le_trans K0.1 (Nat.le_of_eq g1.symm)
  have ne3 : r0 ≠ a1 := Nat.ne_of_lt (Nat.lt_of_lt_of_eq A0.lt g1.symm)
  have ge4 : n0 ≤ a1 := Nat.le_trans Z0 (Nat.le_of_eq g1.symm)
  have F5 : Arv Z h1 r0 ka .long (2 : Int32) ([x0, x1].map Value.long) (.long 0) := A0.ext E1
  have F6 : Exa Z h1 r0 "[J" := E0.ext E1
  have sz7 : n0 ≤ h1.size := Nat.le_trans Z0 E1.1
  have K8 : Keep h0 h1 [] := K0.ext E1
  refine o_castY 13 X1 hx rfl hZ hown (wd_21 hw) e1 (Ins.self D1) (hb hby d3_10) fun T9 X9 e9 => ?_
  refine o_retA X9 hx rfl rfl hret hlk (hb hby d3_13) (by decide) (by decide) ?_
  rw [e9]
  exact ⟨a1, ka, rfl, N0, K8, ge4, gz2, A1⟩
theorem ef_1 (m : MethodId) (y0 : Addr) (y1 : Addr) : entryFrame m #[(.ref y0), (.ref y1)] 3 = mkF m 0 #[.val (.ref y0), .val (.ref y1), .unset] [] := by first | (simp [entryFrame, mkF, argsToLocals, Value.category]; done) | rfl
set_option maxRecDepth 65536 in
set_option maxHeartbeats 40000000 in
theorem rm1_0 (l : Launch) (Z : State) (a0 : Array Value) (hw : ∀ d ∈ tables_1, d.before a0 Z = true) (r0 r1 : Addr) (ka : ClassId) (x0 x1 : Int64) (h0 : Heap) (n0 : Nat) (Z0 : n0 ≤ h0.size) (ga : n0 ≤ r0) (hne : r1 ≠ r0) (E0 : Exa Z h0 r0 "com/example/whittle/whittle/model/LookUpTable") (F_w : Fld Z h0 r0 "com/example/whittle/whittle/model/LookUpTable" "words" "[J" .null) (F_h : Fld Z h0 r0 "com/example/whittle/whittle/model/LookUpTable" "highestSetBit" "J" (.long (0 : Int64))) (A1 : Arv Z h0 r1 ka .long (2 : Int32) ([x0, x1].map Value.long) (.long 0)) (E1 : Exa Z h0 r1 "[J") (hz1 : x1 = (0 : Int64)) (hz0 : x0 = (0 : Int64)) : MetP l (⟨"com/example/whittle/whittle/model/LookUpTable", "<init>", "([J)V"⟩ : MethodName) prog_35_method_1_code 3 none [] ({ frames := 2, cells := 1, slots := 0, locals := 55 } : Room) Z #[(.ref r0), (.ref r1)] h0 (fun v h L => ∃ (b : Addr) (kb : ClassId), v = none ∧ Fr n0 L ∧ Keep h0 h [r0] ∧ n0 ≤ b ∧ h0.size ≤ b ∧ Exa Z h r0 "com/example/whittle/whittle/model/LookUpTable" ∧ Fld Z h r0 "com/example/whittle/whittle/model/LookUpTable" "words" "[J" (.ref b) ∧ Fld Z h r0 "com/example/whittle/whittle/model/LookUpTable" "highestSetBit" "J" (.long (-1 : Int64)) ∧ Arv Z h b kb .long (0 : Int32) (([] : List Int64).map Value.long) (.long 0)) := by
  refine met_go pn_1 ?_
  intro p e s m below meth c s₁ hx hby hml hown hnm hret hlk hZ e0 X0
  have N0 := Fr.nil n0
  have K0 : Keep h0 h0 [r0] := Keep.refl _ _
  rw [ef_1 m r0 r1]
  refine o_aloadN 1 X0 hx rfl (hb hby d1_0) rfl rfl ?_
  refine o_initO 4 X0 hx rfl hZ hown (wd_7 hw) (wd_8 hw) (wd_9 hw) e0 (by rw [hml]; rfl) (hb hby d1_1) (by decide) 0 (Nat.le_of_eq rfl) (by decide) fun T1 X1 e1 => ?_
  refine o_aloadN 5 X1 hx rfl (hb hby d1_4) rfl rfl ?_
  refine o_alen 6 X1 hx rfl hZ e1 A1 (hb hby d1_5) ?_
  refine o_istoreN 7 X1 hx rfl (hb hby d1_6) #[.val (.ref r0), .val (.ref r1), .val (.int (2 : Int32))] rfl ?_
  refine o_iloadN 8 X1 hx rfl (hb hby d1_7) rfl ?_
  refine o_ifNo 11 X1 hx rfl (hb hby d1_8) (tlt (show (0 : Int32) < (2 : Int32) by decide)).2.2.2 ?_
  refine o_aloadN 12 X1 hx rfl (hb hby d1_11) rfl rfl ?_
  refine o_iloadN 13 X1 hx rfl (hb hby d1_12) rfl ?_
  refine o_iconst 14 X1 hx rfl (hb hby d1_13) (1 : Int32) rfl ?_
  refine o_isub 15 X1 hx rfl (hb hby d1_14) ?_
  refine o_laloadX 16 X1 hx rfl hZ e1 A1 (by decide) (hb hby d1_15) x1 rfl ?_
  refine o_lconst 17 X1 hx rfl (hb hby d1_16) (0 : Int64) rfl ?_
  refine o_lcmp 18 X1 hx rfl (hb hby d1_17) ?_
  refine o_ifNo 21 X1 hx rfl (hb hby d1_18) (teq (l_teq hz1)).2 ?_
  refine o_iinc 24 X1 hx rfl (hb hby d1_21) (-1 : Int32) rfl rfl #[.val (.ref r0), .val (.ref r1), .val (.int (1 : Int32))] rfl ?_
  refine o_goto 7 X1 hx (hb hby d1_24) (by decide) (by decide) ?_
  refine o_iloadN 8 X1 hx rfl (hb hby d1_7) rfl ?_
  refine o_ifNo 11 X1 hx rfl (hb hby d1_8) (tlt (show (0 : Int32) < (1 : Int32) by decide)).2.2.2 ?_
  refine o_aloadN 12 X1 hx rfl (hb hby d1_11) rfl rfl ?_
  refine o_iloadN 13 X1 hx rfl (hb hby d1_12) rfl ?_
  refine o_iconst 14 X1 hx rfl (hb hby d1_13) (1 : Int32) rfl ?_
  refine o_isub 15 X1 hx rfl (hb hby d1_14) ?_
  refine o_laloadX 16 X1 hx rfl hZ e1 A1 (by decide) (hb hby d1_15) x0 rfl ?_
  refine o_lconst 17 X1 hx rfl (hb hby d1_16) (0 : Int64) rfl ?_
  refine o_lcmp 18 X1 hx rfl (hb hby d1_17) ?_
  refine o_ifNo 21 X1 hx rfl (hb hby d1_18) (teq (l_teq hz0)).2 ?_
  refine o_iinc 24 X1 hx rfl (hb hby d1_21) (-1 : Int32) rfl rfl #[.val (.ref r0), .val (.ref r1), .val (.int (0 : Int32))] rfl ?_
  refine o_goto 7 X1 hx (hb hby d1_24) (by decide) (by decide) ?_
  refine o_iloadN 8 X1 hx rfl (hb hby d1_7) rfl ?_
  refine o_ifYes 27 X1 hx (hb hby d1_8) (flt (show ¬ ((0 : Int32) < (0 : Int32)) by decide)).2.2.2 (by decide) (by decide) ?_
  refine o_aloadN 28 X1 hx rfl (hb hby d1_27) rfl rfl ?_
  refine o_aloadN 29 X1 hx rfl (hb hby d1_28) rfl rfl ?_
  refine o_iloadN 30 X1 hx rfl (hb hby d1_29) rfl ?_
  refine o_callSw 33 X1 hx rfl hZ hown (wd_10 hw) (wd_11 hw) (wd_12 hw) (wd_13 hw) (by decide) e1 N0 (rm3_0 l Z a0 hw r1 ka x0 x1 h0 n0 Z0 A1 E1) pd_laJIraJ [(.ref r1), (.int (0 : Int32))] [(.ref r0)] rfl rfl (by rw [hml]; rfl) rfl (hb hby d1_30) 1 (Nat.le_of_eq rfl) (by decide) (by decide) (by decide) (by decide) fun v2 T2 L2 LL2 X2 Q2 NF2 => ?_
  obtain ⟨b2, k2, rfl, M2, K2, gb2, gz2, A2⟩ := Q2
  have NN2 := NF2 M2
  have ne3 : r0 ≠ b2 := Nat.ne_of_lt (Nat.lt_of_lt_of_le E0.lt gz2)
  have ne4 : r1 ≠ b2 := Nat.ne_of_lt (Nat.lt_of_lt_of_le A1.lt gz2)
  have F5 : Exa Z T2.heap r0 "com/example/whittle/whittle/model/LookUpTable" := E0.keep K2
  have F6 : Fld Z T2.heap r0 "com/example/whittle/whittle/model/LookUpTable" "words" "[J" .null := F_w.keep K2 nin0
  have F7 : Fld Z T2.heap r0 "com/example/whittle/whittle/model/LookUpTable" "highestSetBit" "J" (.long (0 : Int64)) := F_h.keep K2 nin0
  have F8 : Arv Z T2.heap r1 ka .long (2 : Int32) ([x0, x1].map Value.long) (.long 0) := A1.keep K2 nin0
  have F9 : Exa Z T2.heap r1 "[J" := E1.keep K2
  have K10 : Keep h0 T2.heap [r0] := K0.trans K2 (all0)
  have sz11 : n0 ≤ T2.heap.size := Nat.le_trans Z0 K2.1
  show Go p.tables e below (EndE s ({ frames := 2, cells := 1, slots := 0, locals := 55 } : Room) (fun v h L => ∃ (b : Addr) (kb : ClassId), v = none ∧ Fr n0 L ∧ Keep h0 h [r0] ∧ n0 ≤ b ∧ h0.size ≤ b ∧ Exa Z h r0 "com/example/whittle/whittle/model/LookUpTable" ∧ Fld Z h r0 "com/example/whittle/whittle/model/LookUpTable" "words" "[J" (.ref b) ∧ Fld Z h r0 "com/example/whittle/whittle/model/LookUpTable" "highestSetBit" "J" (.long (-1 : Int64)) ∧ Arv Z h b kb .long (0 : Int32) (([] : List Int64).map Value.long) (.long 0))) (T2.setTop (mkF m 33 #[.val (.ref r0), .val (.ref r1), .val (.int (0 : Int32))] [(.ref b2), (.ref r0)]))
  refine o_putF 36 X2 hx rfl hZ (.array .long) hown (wd_23 hw) Via.refl rfl F6 F5 (Or.inr ⟨(wd_24 hw), rfl, hnm⟩) (wd_1 hw) (by decide) rfl rfl NN2 ga (hb hby d1_33) fun T12 h12 L12 X12 N12 e12 W12 => ?_
  have F13 : Fld Z h12 r0 "com/example/whittle/whittle/model/LookUpTable" "words" "[J" (.ref b2) := F6.same W12
  have F14 : Exa Z h12 r0 "com/example/whittle/whittle/model/LookUpTable" := F5.wr W12
  have F15 : Fld Z h12 r0 "com/example/whittle/whittle/model/LookUpTable" "highestSetBit" "J" (.long (0 : Int64)) := F7.other W12 (Or.inr (slot_ne (Or.inr (wd_36 hw)) (Or.inr (wd_24 hw)) (by decide) (t := .long) (t' := (.array .long)) (by decide) (by decide)))
  have F16 : Arv Z h12 r1 ka .long (2 : Int32) ([x0, x1].map Value.long) (.long 0) := F8.other W12 hne
  have F17 : Exa Z h12 r1 "[J" := F9.wr W12
  have F18 : Arv Z h12 b2 k2 .long (0 : Int32) ((([] : List Int64)).map Value.long) (.long 0) := A2.other W12 ne3.symm
  have sz19 : n0 ≤ h12.size := Nat.le_trans sz11 (Keep.of_wr W12).1
  have K20 : Keep h0 h12 [r0] := K10.wr W12 (Or.inl (by simp))
  refine o_aloadN 37 X12 hx rfl (hb hby d1_36) rfl rfl ?_
  refine o_iloadN 38 X12 hx rfl (hb hby d1_37) rfl ?_
  refine o_ifNo 41 X12 hx rfl (hb hby d1_38) (teq (show (0 : Int32) = (0 : Int32) by decide)).2 ?_
  refine o_ldc2Long 44 X12 hx rfl hZ hown (wd_54 hw) (hb hby d1_41) ?_
  refine o_goto 65 X12 hx (hb hby d1_44) (by decide) (by decide) ?_
  refine o_putF 68 X12 hx rfl hZ .long hown (wd_35 hw) Via.refl e12 F15 F14 (Or.inr ⟨(wd_36 hw), rfl, hnm⟩) (wd_1 hw) (by decide) rfl rfl N12 ga (hb hby d1_65) fun T21 h21 L21 X21 N21 e21 W21 => ?_
  have F22 : Fld Z h21 r0 "com/example/whittle/whittle/model/LookUpTable" "highestSetBit" "J" (.long (-1 : Int64)) := F15.same W21
  have F23 : Exa Z h21 r0 "com/example/whittle/whittle/model/LookUpTable" := F14.wr W21
  have F24 : Fld Z h21 r0 "com/example/whittle/whittle/model/LookUpTable" "words" "[J" (.ref b2) := F13.other W21 (Or.inr (slot_ne (Or.inr (wd_24 hw)) (Or.inr (wd_36 hw)) (by decide) (t := (.array .long)) (t' := .long) (by decide) (by decide)))
  have F25 : Arv Z h21 r1 ka .long (2 : Int32) ([x0, x1].map Value.long) (.long 0) := F16.other W21 hne
  have F26 : Exa Z h21 r1 "[J" := F17.wr W21
  have F27 : Arv Z h21 b2 k2 .long (0 : Int32) ((([] : List Int64)).map Value.long) (.long 0) := F18.other W21 ne3.symm
  have sz28 : n0 ≤ h21.size := Nat.le_trans sz19 (Keep.of_wr W21).1
  have K29 : Keep h0 h21 [r0] := K20.wr W21 (Or.inl (by simp))
  refine o_retV X21 hx hret hlk (hb hby d1_68) (by decide) (by decide) ?_
  rw [e21]
  exact ⟨b2, k2, rfl, N21, K29, gb2, gz2, F23, F24, F22, F27⟩
set_option maxRecDepth 65536 in
set_option maxHeartbeats 40000000 in
theorem rm1_1 (l : Launch) (Z : State) (a0 : Array Value) (hw : ∀ d ∈ tables_1, d.before a0 Z = true) (r0 r1 : Addr) (ka : ClassId) (x0 x1 : Int64) (h0 : Heap) (n0 : Nat) (Z0 : n0 ≤ h0.size) (ga : n0 ≤ r0) (hne : r1 ≠ r0) (E0 : Exa Z h0 r0 "com/example/whittle/whittle/model/LookUpTable") (F_w : Fld Z h0 r0 "com/example/whittle/whittle/model/LookUpTable" "words" "[J" .null) (F_h : Fld Z h0 r0 "com/example/whittle/whittle/model/LookUpTable" "highestSetBit" "J" (.long (0 : Int64))) (A1 : Arv Z h0 r1 ka .long (2 : Int32) ([x0, x1].map Value.long) (.long 0)) (E1 : Exa Z h0 r1 "[J") (hz1 : x1 = (0 : Int64)) (hk : ¬ x0 = (0 : Int64)) : MetP l (⟨"com/example/whittle/whittle/model/LookUpTable", "<init>", "([J)V"⟩ : MethodName) prog_35_method_1_code 3 none [] ({ frames := 2, cells := 1, slots := 1, locals := 55 } : Room) Z #[(.ref r0), (.ref r1)] h0 (fun v h L => ∃ (b : Addr) (kb : ClassId), v = none ∧ Fr n0 L ∧ Keep h0 h [r0] ∧ n0 ≤ b ∧ h0.size ≤ b ∧ Exa Z h r0 "com/example/whittle/whittle/model/LookUpTable" ∧ Fld Z h r0 "com/example/whittle/whittle/model/LookUpTable" "words" "[J" (.ref b) ∧ Fld Z h r0 "com/example/whittle/whittle/model/LookUpTable" "highestSetBit" "J" (.long ((((64 : Int64) * ((1 : Int32).toInt64)) - (1 : Int64)) - ((fn4 x0).toInt64))) ∧ Arv Z h b kb .long (1 : Int32) ([x0].map Value.long) (.long 0)) := by
  refine met_go pn_1 ?_
  intro p e s m below meth c s₁ hx hby hml hown hnm hret hlk hZ e0 X0
  have N0 := Fr.nil n0
  have K0 : Keep h0 h0 [r0] := Keep.refl _ _
  rw [ef_1 m r0 r1]
  refine o_aloadN 1 X0 hx rfl (hb hby d1_0) rfl rfl ?_
  refine o_initO 4 X0 hx rfl hZ hown (wd_7 hw) (wd_8 hw) (wd_9 hw) e0 (by rw [hml]; rfl) (hb hby d1_1) (by decide) 0 (Nat.le_of_eq rfl) (by decide) fun T1 X1 e1 => ?_
  refine o_aloadN 5 X1 hx rfl (hb hby d1_4) rfl rfl ?_
  refine o_alen 6 X1 hx rfl hZ e1 A1 (hb hby d1_5) ?_
  refine o_istoreN 7 X1 hx rfl (hb hby d1_6) #[.val (.ref r0), .val (.ref r1), .val (.int (2 : Int32))] rfl ?_
  refine o_iloadN 8 X1 hx rfl (hb hby d1_7) rfl ?_
  refine o_ifNo 11 X1 hx rfl (hb hby d1_8) (tlt (show (0 : Int32) < (2 : Int32) by decide)).2.2.2 ?_
  refine o_aloadN 12 X1 hx rfl (hb hby d1_11) rfl rfl ?_
  refine o_iloadN 13 X1 hx rfl (hb hby d1_12) rfl ?_
  refine o_iconst 14 X1 hx rfl (hb hby d1_13) (1 : Int32) rfl ?_
  refine o_isub 15 X1 hx rfl (hb hby d1_14) ?_
  refine o_laloadX 16 X1 hx rfl hZ e1 A1 (by decide) (hb hby d1_15) x1 rfl ?_
  refine o_lconst 17 X1 hx rfl (hb hby d1_16) (0 : Int64) rfl ?_
  refine o_lcmp 18 X1 hx rfl (hb hby d1_17) ?_
  refine o_ifNo 21 X1 hx rfl (hb hby d1_18) (teq (l_teq hz1)).2 ?_
  refine o_iinc 24 X1 hx rfl (hb hby d1_21) (-1 : Int32) rfl rfl #[.val (.ref r0), .val (.ref r1), .val (.int (1 : Int32))] rfl ?_
  refine o_goto 7 X1 hx (hb hby d1_24) (by decide) (by decide) ?_
  refine o_iloadN 8 X1 hx rfl (hb hby d1_7) rfl ?_
  refine o_ifNo 11 X1 hx rfl (hb hby d1_8) (tlt (show (0 : Int32) < (1 : Int32) by decide)).2.2.2 ?_
  refine o_aloadN 12 X1 hx rfl (hb hby d1_11) rfl rfl ?_
  refine o_iloadN 13 X1 hx rfl (hb hby d1_12) rfl ?_
  refine o_iconst 14 X1 hx rfl (hb hby d1_13) (1 : Int32) rfl ?_
  refine o_isub 15 X1 hx rfl (hb hby d1_14) ?_
  refine o_laloadX 16 X1 hx rfl hZ e1 A1 (by decide) (hb hby d1_15) x0 rfl ?_
  refine o_lconst 17 X1 hx rfl (hb hby d1_16) (0 : Int64) rfl ?_
  refine o_lcmp 18 X1 hx rfl (hb hby d1_17) ?_
  refine o_ifYes 27 X1 hx (hb hby d1_18) (feq (l_feq hk)).2 (by decide) (by decide) ?_
  refine o_aloadN 28 X1 hx rfl (hb hby d1_27) rfl rfl ?_
  refine o_aloadN 29 X1 hx rfl (hb hby d1_28) rfl rfl ?_
  refine o_iloadN 30 X1 hx rfl (hb hby d1_29) rfl ?_
  refine o_callSw 33 X1 hx rfl hZ hown (wd_10 hw) (wd_11 hw) (wd_12 hw) (wd_13 hw) (by decide) e1 N0 (rm3_1 l Z a0 hw r1 ka x0 x1 h0 n0 Z0 A1 E1) pd_laJIraJ [(.ref r1), (.int (1 : Int32))] [(.ref r0)] rfl rfl (by rw [hml]; rfl) rfl (hb hby d1_30) 1 (Nat.le_of_eq rfl) (by decide) (by decide) (by decide) (by decide) fun v2 T2 L2 LL2 X2 Q2 NF2 => ?_
  obtain ⟨b2, k2, rfl, M2, K2, gb2, gz2, A2⟩ := Q2
  have NN2 := NF2 M2
  have ne3 : r0 ≠ b2 := Nat.ne_of_lt (Nat.lt_of_lt_of_le E0.lt gz2)
  have ne4 : r1 ≠ b2 := Nat.ne_of_lt (Nat.lt_of_lt_of_le A1.lt gz2)
  have F5 : Exa Z T2.heap r0 "com/example/whittle/whittle/model/LookUpTable" := E0.keep K2
  have F6 : Fld Z T2.heap r0 "com/example/whittle/whittle/model/LookUpTable" "words" "[J" .null := F_w.keep K2 nin0
  have F7 : Fld Z T2.heap r0 "com/example/whittle/whittle/model/LookUpTable" "highestSetBit" "J" (.long (0 : Int64)) := F_h.keep K2 nin0
  have F8 : Arv Z T2.heap r1 ka .long (2 : Int32) ([x0, x1].map Value.long) (.long 0) := A1.keep K2 nin0
  have F9 : Exa Z T2.heap r1 "[J" := E1.keep K2
  have K10 : Keep h0 T2.heap [r0] := K0.trans K2 (all0)
  have sz11 : n0 ≤ T2.heap.size := Nat.le_trans Z0 K2.1
  show Go p.tables e below (EndE s ({ frames := 2, cells := 1, slots := 1, locals := 55 } : Room) (fun v h L => ∃ (b : Addr) (kb : ClassId), v = none ∧ Fr n0 L ∧ Keep h0 h [r0] ∧ n0 ≤ b ∧ h0.size ≤ b ∧ Exa Z h r0 "com/example/whittle/whittle/model/LookUpTable" ∧ Fld Z h r0 "com/example/whittle/whittle/model/LookUpTable" "words" "[J" (.ref b) ∧ Fld Z h r0 "com/example/whittle/whittle/model/LookUpTable" "highestSetBit" "J" (.long ((((64 : Int64) * ((1 : Int32).toInt64)) - (1 : Int64)) - ((fn4 x0).toInt64))) ∧ Arv Z h b kb .long (1 : Int32) ([x0].map Value.long) (.long 0))) (T2.setTop (mkF m 33 #[.val (.ref r0), .val (.ref r1), .val (.int (1 : Int32))] [(.ref b2), (.ref r0)]))
  refine o_putF 36 X2 hx rfl hZ (.array .long) hown (wd_23 hw) Via.refl rfl F6 F5 (Or.inr ⟨(wd_24 hw), rfl, hnm⟩) (wd_1 hw) (by decide) rfl rfl NN2 ga (hb hby d1_33) fun T12 h12 L12 X12 N12 e12 W12 => ?_
  have F13 : Fld Z h12 r0 "com/example/whittle/whittle/model/LookUpTable" "words" "[J" (.ref b2) := F6.same W12
  have F14 : Exa Z h12 r0 "com/example/whittle/whittle/model/LookUpTable" := F5.wr W12
  have F15 : Fld Z h12 r0 "com/example/whittle/whittle/model/LookUpTable" "highestSetBit" "J" (.long (0 : Int64)) := F7.other W12 (Or.inr (slot_ne (Or.inr (wd_36 hw)) (Or.inr (wd_24 hw)) (by decide) (t := .long) (t' := (.array .long)) (by decide) (by decide)))
  have F16 : Arv Z h12 r1 ka .long (2 : Int32) ([x0, x1].map Value.long) (.long 0) := F8.other W12 hne
  have F17 : Exa Z h12 r1 "[J" := F9.wr W12
  have F18 : Arv Z h12 b2 k2 .long (1 : Int32) ([x0].map Value.long) (.long 0) := A2.other W12 ne3.symm
  have sz19 : n0 ≤ h12.size := Nat.le_trans sz11 (Keep.of_wr W12).1
  have K20 : Keep h0 h12 [r0] := K10.wr W12 (Or.inl (by simp))
  refine o_aloadN 37 X12 hx rfl (hb hby d1_36) rfl rfl ?_
  refine o_iloadN 38 X12 hx rfl (hb hby d1_37) rfl ?_
  refine o_ifYes 47 X12 hx (hb hby d1_38) (feq (show ¬ ((1 : Int32) = (0 : Int32)) by decide)).2 (by decide) (by decide) ?_
  refine o_ldc2Long 50 X12 hx rfl hZ hown (wd_25 hw) (hb hby d1_47) ?_
  refine o_iloadN 51 X12 hx rfl (hb hby d1_50) rfl ?_
  refine o_i2l 52 X12 hx rfl (hb hby d1_51) ?_
  refine o_lmul 53 X12 hx rfl (hb hby d1_52) ?_
  refine o_lconst 54 X12 hx rfl (hb hby d1_53) (1 : Int64) rfl ?_
  refine o_lsub 55 X12 hx rfl (hb hby d1_54) ?_
  refine o_aloadN 56 X12 hx rfl (hb hby d1_55) rfl rfl ?_
  refine o_iloadN 57 X12 hx rfl (hb hby d1_56) rfl ?_
  refine o_iconst 58 X12 hx rfl (hb hby d1_57) (1 : Int32) rfl ?_
  refine o_isub 59 X12 hx rfl (hb hby d1_58) ?_
  refine o_laloadX 60 X12 hx rfl hZ e12 F16 (by decide) (hb hby d1_59) x0 rfl ?_
  refine o_callP (rv := (.int (fn4 x0))) 63 X12 hx rfl hZ hown (wd_26 hw) (wd_27 hw) (wd_28 hw) (wd_29 hw) (by decide) e12 (rm4 l Z a0 hw x0 h12) pd_lJrI [(.long x0)] [(.long (((64 : Int64) * ((1 : Int32).toInt64)) - (1 : Int64))), (.ref r0)] rfl rfl (by rw [hml]; rfl) rfl (hb hby d1_60) 3 (Nat.le_of_eq rfl) (by decide) (by decide) (by decide) (by decide) rfl rfl fun T21 X21 e21 => ?_
  refine o_i2l 64 X21 hx rfl (hb hby d1_63) ?_
  refine o_lsub 65 X21 hx rfl (hb hby d1_64) ?_
  refine o_putF 68 X21 hx rfl hZ .long hown (wd_35 hw) Via.refl e21 F15 F14 (Or.inr ⟨(wd_36 hw), rfl, hnm⟩) (wd_1 hw) (by decide) rfl rfl N12 ga (hb hby d1_65) fun T22 h22 L22 X22 N22 e22 W22 => ?_
  have F23 : Fld Z h22 r0 "com/example/whittle/whittle/model/LookUpTable" "highestSetBit" "J" (.long ((((64 : Int64) * ((1 : Int32).toInt64)) - (1 : Int64)) - ((fn4 x0).toInt64))) := F15.same W22
  have F24 : Exa Z h22 r0 "com/example/whittle/whittle/model/LookUpTable" := F14.wr W22
  have F25 : Fld Z h22 r0 "com/example/whittle/whittle/model/LookUpTable" "words" "[J" (.ref b2) := F13.other W22 (Or.inr (slot_ne (Or.inr (wd_24 hw)) (Or.inr (wd_36 hw)) (by decide) (t := (.array .long)) (t' := .long) (by decide) (by decide)))
  have F26 : Arv Z h22 r1 ka .long (2 : Int32) ([x0, x1].map Value.long) (.long 0) := F16.other W22 hne
  have F27 : Exa Z h22 r1 "[J" := F17.wr W22
  have F28 : Arv Z h22 b2 k2 .long (1 : Int32) ([x0].map Value.long) (.long 0) := F18.other W22 ne3.symm
  have sz29 : n0 ≤ h22.size := Nat.le_trans sz19 (Keep.of_wr W22).1
  have K30 : Keep h0 h22 [r0] := K20.wr W22 (Or.inl (by simp))
  refine o_retV X22 hx hret hlk (hb hby d1_68) (by decide) (by decide) ?_
  rw [e22]
  exact ⟨b2, k2, rfl, N22, K30, gb2, gz2, F24, F25, F23, F28⟩
set_option maxRecDepth 65536 in
set_option maxHeartbeats 40000000 in
theorem rm1_2 (l : Launch) (Z : State) (a0 : Array Value) (hw : ∀ d ∈ tables_1, d.before a0 Z = true) (r0 r1 : Addr) (ka : ClassId) (x0 x1 : Int64) (h0 : Heap) (n0 : Nat) (Z0 : n0 ≤ h0.size) (ga : n0 ≤ r0) (hne : r1 ≠ r0) (E0 : Exa Z h0 r0 "com/example/whittle/whittle/model/LookUpTable") (F_w : Fld Z h0 r0 "com/example/whittle/whittle/model/LookUpTable" "words" "[J" .null) (F_h : Fld Z h0 r0 "com/example/whittle/whittle/model/LookUpTable" "highestSetBit" "J" (.long (0 : Int64))) (A1 : Arv Z h0 r1 ka .long (2 : Int32) ([x0, x1].map Value.long) (.long 0)) (E1 : Exa Z h0 r1 "[J") (hk : ¬ x1 = (0 : Int64)) : MetP l (⟨"com/example/whittle/whittle/model/LookUpTable", "<init>", "([J)V"⟩ : MethodName) prog_35_method_1_code 3 none [] ({ frames := 2, cells := 1, slots := 2, locals := 31 } : Room) Z #[(.ref r0), (.ref r1)] h0 (fun v h L => ∃ (b : Addr) (kb : ClassId), v = none ∧ Fr n0 L ∧ Keep h0 h [r0] ∧ n0 ≤ b ∧ h0.size ≤ b ∧ Exa Z h r0 "com/example/whittle/whittle/model/LookUpTable" ∧ Fld Z h r0 "com/example/whittle/whittle/model/LookUpTable" "words" "[J" (.ref b) ∧ Fld Z h r0 "com/example/whittle/whittle/model/LookUpTable" "highestSetBit" "J" (.long ((((64 : Int64) * ((2 : Int32).toInt64)) - (1 : Int64)) - ((fn4 x1).toInt64))) ∧ Arv Z h b kb .long (2 : Int32) ([x0, x1].map Value.long) (.long 0)) := by
  refine met_go pn_1 ?_
  intro p e s m below meth c s₁ hx hby hml hown hnm hret hlk hZ e0 X0
  have N0 := Fr.nil n0
  have K0 : Keep h0 h0 [r0] := Keep.refl _ _
  rw [ef_1 m r0 r1]
  refine o_aloadN 1 X0 hx rfl (hb hby d1_0) rfl rfl ?_
  refine o_initO 4 X0 hx rfl hZ hown (wd_7 hw) (wd_8 hw) (wd_9 hw) e0 (by rw [hml]; rfl) (hb hby d1_1) (by decide) 0 (Nat.le_of_eq rfl) (by decide) fun T1 X1 e1 => ?_
  refine o_aloadN 5 X1 hx rfl (hb hby d1_4) rfl rfl ?_
  refine o_alen 6 X1 hx rfl hZ e1 A1 (hb hby d1_5) ?_
  refine o_istoreN 7 X1 hx rfl (hb hby d1_6) #[.val (.ref r0), .val (.ref r1), .val (.int (2 : Int32))] rfl ?_
  refine o_iloadN 8 X1 hx rfl (hb hby d1_7) rfl ?_
  refine o_ifNo 11 X1 hx rfl (hb hby d1_8) (tlt (show (0 : Int32) < (2 : Int32) by decide)).2.2.2 ?_
  refine o_aloadN 12 X1 hx rfl (hb hby d1_11) rfl rfl ?_
  refine o_iloadN 13 X1 hx rfl (hb hby d1_12) rfl ?_
  refine o_iconst 14 X1 hx rfl (hb hby d1_13) (1 : Int32) rfl ?_
  refine o_isub 15 X1 hx rfl (hb hby d1_14) ?_
  refine o_laloadX 16 X1 hx rfl hZ e1 A1 (by decide) (hb hby d1_15) x1 rfl ?_
  refine o_lconst 17 X1 hx rfl (hb hby d1_16) (0 : Int64) rfl ?_
  refine o_lcmp 18 X1 hx rfl (hb hby d1_17) ?_
  refine o_ifYes 27 X1 hx (hb hby d1_18) (feq (l_feq hk)).2 (by decide) (by decide) ?_
  refine o_aloadN 28 X1 hx rfl (hb hby d1_27) rfl rfl ?_
  refine o_aloadN 29 X1 hx rfl (hb hby d1_28) rfl rfl ?_
  refine o_iloadN 30 X1 hx rfl (hb hby d1_29) rfl ?_
  refine o_callSw 33 X1 hx rfl hZ hown (wd_10 hw) (wd_11 hw) (wd_12 hw) (wd_13 hw) (by decide) e1 N0 (rm3_2 l Z a0 hw r1 ka x0 x1 h0 n0 Z0 A1 E1) pd_laJIraJ [(.ref r1), (.int (2 : Int32))] [(.ref r0)] rfl rfl (by rw [hml]; rfl) rfl (hb hby d1_30) 1 (Nat.le_of_eq rfl) (by decide) (by decide) (by decide) (by decide) fun v2 T2 L2 LL2 X2 Q2 NF2 => ?_
  obtain ⟨b2, k2, rfl, M2, K2, gb2, gz2, A2⟩ := Q2
  have NN2 := NF2 M2
  have ne3 : r0 ≠ b2 := Nat.ne_of_lt (Nat.lt_of_lt_of_le E0.lt gz2)
  have ne4 : r1 ≠ b2 := Nat.ne_of_lt (Nat.lt_of_lt_of_le A1.lt gz2)
  have F5 : Exa Z T2.heap r0 "com/example/whittle/whittle/model/LookUpTable" := E0.keep K2
  have F6 : Fld Z T2.heap r0 "com/example/whittle/whittle/model/LookUpTable" "words" "[J" .null := F_w.keep K2 nin0
  have F7 : Fld Z T2.heap r0 "com/example/whittle/whittle/model/LookUpTable" "highestSetBit" "J" (.long (0 : Int64)) := F_h.keep K2 nin0
  have F8 : Arv Z T2.heap r1 ka .long (2 : Int32) ([x0, x1].map Value.long) (.long 0) := A1.keep K2 nin0
  have F9 : Exa Z T2.heap r1 "[J" := E1.keep K2
  have K10 : Keep h0 T2.heap [r0] := K0.trans K2 (all0)
  have sz11 : n0 ≤ T2.heap.size := Nat.le_trans Z0 K2.1
  show Go p.tables e below (EndE s ({ frames := 2, cells := 1, slots := 2, locals := 31 } : Room) (fun v h L => ∃ (b : Addr) (kb : ClassId), v = none ∧ Fr n0 L ∧ Keep h0 h [r0] ∧ n0 ≤ b ∧ h0.size ≤ b ∧ Exa Z h r0 "com/example/whittle/whittle/model/LookUpTable" ∧ Fld Z h r0 "com/example/whittle/whittle/model/LookUpTable" "words" "[J" (.ref b) ∧ Fld Z h r0 "com/example/whittle/whittle/model/LookUpTable" "highestSetBit" "J" (.long ((((64 : Int64) * ((2 : Int32).toInt64)) - (1 : Int64)) - ((fn4 x1).toInt64))) ∧ Arv Z h b kb .long (2 : Int32) ([x0, x1].map Value.long) (.long 0))) (T2.setTop (mkF m 33 #[.val (.ref r0), .val (.ref r1), .val (.int (2 : Int32))] [(.ref b2), (.ref r0)]))
  refine o_putF 36 X2 hx rfl hZ (.array .long) hown (wd_23 hw) Via.refl rfl F6 F5 (Or.inr ⟨(wd_24 hw), rfl, hnm⟩) (wd_1 hw) (by decide) rfl rfl NN2 ga (hb hby d1_33) fun T12 h12 L12 X12 N12 e12 W12 => ?_
  have F13 : Fld Z h12 r0 "com/example/whittle/whittle/model/LookUpTable" "words" "[J" (.ref b2) := F6.same W12
  have F14 : Exa Z h12 r0 "com/example/whittle/whittle/model/LookUpTable" := F5.wr W12
  have F15 : Fld Z h12 r0 "com/example/whittle/whittle/model/LookUpTable" "highestSetBit" "J" (.long (0 : Int64)) := F7.other W12 (Or.inr (slot_ne (Or.inr (wd_36 hw)) (Or.inr (wd_24 hw)) (by decide) (t := .long) (t' := (.array .long)) (by decide) (by decide)))
  have F16 : Arv Z h12 r1 ka .long (2 : Int32) ([x0, x1].map Value.long) (.long 0) := F8.other W12 hne
  have F17 : Exa Z h12 r1 "[J" := F9.wr W12
  have F18 : Arv Z h12 b2 k2 .long (2 : Int32) ([x0, x1].map Value.long) (.long 0) := A2.other W12 ne3.symm
  have sz19 : n0 ≤ h12.size := Nat.le_trans sz11 (Keep.of_wr W12).1
  have K20 : Keep h0 h12 [r0] := K10.wr W12 (Or.inl (by simp))
  refine o_aloadN 37 X12 hx rfl (hb hby d1_36) rfl rfl ?_
  refine o_iloadN 38 X12 hx rfl (hb hby d1_37) rfl ?_
  refine o_ifYes 47 X12 hx (hb hby d1_38) (feq (show ¬ ((2 : Int32) = (0 : Int32)) by decide)).2 (by decide) (by decide) ?_
  refine o_ldc2Long 50 X12 hx rfl hZ hown (wd_25 hw) (hb hby d1_47) ?_
  refine o_iloadN 51 X12 hx rfl (hb hby d1_50) rfl ?_
  refine o_i2l 52 X12 hx rfl (hb hby d1_51) ?_
  refine o_lmul 53 X12 hx rfl (hb hby d1_52) ?_
  refine o_lconst 54 X12 hx rfl (hb hby d1_53) (1 : Int64) rfl ?_
  refine o_lsub 55 X12 hx rfl (hb hby d1_54) ?_
  refine o_aloadN 56 X12 hx rfl (hb hby d1_55) rfl rfl ?_
  refine o_iloadN 57 X12 hx rfl (hb hby d1_56) rfl ?_
  refine o_iconst 58 X12 hx rfl (hb hby d1_57) (1 : Int32) rfl ?_
  refine o_isub 59 X12 hx rfl (hb hby d1_58) ?_
  refine o_laloadX 60 X12 hx rfl hZ e12 F16 (by decide) (hb hby d1_59) x1 rfl ?_
  refine o_callP (rv := (.int (fn4 x1))) 63 X12 hx rfl hZ hown (wd_26 hw) (wd_27 hw) (wd_28 hw) (wd_29 hw) (by decide) e12 (rm4 l Z a0 hw x1 h12) pd_lJrI [(.long x1)] [(.long (((64 : Int64) * ((2 : Int32).toInt64)) - (1 : Int64))), (.ref r0)] rfl rfl (by rw [hml]; rfl) rfl (hb hby d1_60) 3 (Nat.le_of_eq rfl) (by decide) (by decide) (by decide) (by decide) rfl rfl fun T21 X21 e21 => ?_
  refine o_i2l 64 X21 hx rfl (hb hby d1_63) ?_
  refine o_lsub 65 X21 hx rfl (hb hby d1_64) ?_
  refine o_putF 68 X21 hx rfl hZ .long hown (wd_35 hw) Via.refl e21 F15 F14 (Or.inr ⟨(wd_36 hw), rfl, hnm⟩) (wd_1 hw) (by decide) rfl rfl N12 ga (hb hby d1_65) fun T22 h22 L22 X22 N22 e22 W22 => ?_
  have F23 : Fld Z h22 r0 "com/example/whittle/whittle/model/LookUpTable" "highestSetBit" "J" (.long ((((64 : Int64) * ((2 : Int32).toInt64)) - (1 : Int64)) - ((fn4 x1).toInt64))) := F15.same W22
  have F24 : Exa Z h22 r0 "com/example/whittle/whittle/model/LookUpTable" := F14.wr W22
  have F25 : Fld Z h22 r0 "com/example/whittle/whittle/model/LookUpTable" "words" "[J" (.ref b2) := F13.other W22 (Or.inr (slot_ne (Or.inr (wd_24 hw)) (Or.inr (wd_36 hw)) (by decide) (t := (.array .long)) (t' := .long) (by decide) (by decide)))
  have F26 : Arv Z h22 r1 ka .long (2 : Int32) ([x0, x1].map Value.long) (.long 0) := F16.other W22 hne
  have F27 : Exa Z h22 r1 "[J" := F17.wr W22
  have F28 : Arv Z h22 b2 k2 .long (2 : Int32) ([x0, x1].map Value.long) (.long 0) := F18.other W22 ne3.symm
  have sz29 : n0 ≤ h22.size := Nat.le_trans sz19 (Keep.of_wr W22).1
  have K30 : Keep h0 h22 [r0] := K20.wr W22 (Or.inl (by simp))
  refine o_retV X22 hx hret hlk (hb hby d1_68) (by decide) (by decide) ?_
  rw [e22]
  exact ⟨b2, k2, rfl, N22, K30, gb2, gz2, F24, F25, F23, F28⟩
def own_ix (xs : List Int32) : Nat → Nat → Int64 → Option Int64
  | _, 0, v => some v
  | i, k + 1, v => if xs.getD i 0 = (0 : Int32) then own_ix xs (i + 1) k v else if i < 63 then own_ix xs (i + 1) k (v ||| ((1 : Int64) <<< ((Int32.ofNat i) &&& 0x3f).toInt64)) else none
def own_bt (H : Int64) (ws : List Int64) (v : Int64) : Int32 := if H < v then nar .boolean (0 : Int32) else if (((((ws.getD ((v / (64 : Int64)).toInt32).toNatClampNeg 0).toUInt64 >>> ((((v % (64 : Int64)).toInt32)) &&& 0x3f).toInt64.toUInt64).toInt64)) &&& (1 : Int64)) = (0 : Int64) then nar .boolean (0 : Int32) else nar .boolean (1 : Int32)
def own_evv (xs : List Int32) (H : Int64) (ws : List Int64) : Int32 := match own_ix xs 0 66 0 with
  | none => nar .boolean (0 : Int32)
  | some v => own_bt H ws v
theorem own_nle {i n : Nat} (h : n ≤ i) (hn : i < 2147483648) : ¬ Int32.ofNat i < Int32.ofNat n := by
  rw [Int32.lt_iff_toInt_lt, Int32.toInt_ofNat_of_lt (by omega), Int32.toInt_ofNat_of_lt (by omega)]
  omega
theorem ef_6 (m : MethodId) (y0 : Addr) (y1 : Addr) (y2 : Addr) : entryFrame m #[(.ref y0), (.ref y1), (.ref y2)] 6 = mkF m 0 #[.val (.ref y0), .val (.ref y1), .val (.ref y2), .unset, .unset, .unset] [] := by first | (simp [entryFrame, mkF, argsToLocals, Value.category]; done) | rfl
set_option maxRecDepth 65536 in
set_option maxHeartbeats 40000000 in
theorem rm6 (l : Launch) (Z : State) (a0 : Array Value) (hw : ∀ d ∈ tables_1, d.before a0 Z = true) (r0 r1 r2 b : Addr) (ka kb kc : ClassId) (kn : Int32) (H : Int64) (ws : List Int64) (xs : List Int32) (h0 : Heap) (E0 : Exa Z h0 r0 "com/example/whittle/whittle/model/LookUpTable") (F_w : Fld Z h0 r0 "com/example/whittle/whittle/model/LookUpTable" "words" "[J" (.ref b)) (F_h : Fld Z h0 r0 "com/example/whittle/whittle/model/LookUpTable" "highestSetBit" "J" (.long H)) (Aw : Arv Z h0 b kb .long kn (ws.map Value.long) (.long 0)) (Av : Arv Z h0 r1 ka .boolean (2 : Int32) ([(0 : Int32), (1 : Int32)].map Value.int) (.int 0)) (Ai : Arv Z h0 r2 kc .int (66 : Int32) (xs.map Value.int) (.int 0)) (hx01 : ∀ i, i < 66 → xs.getD i 0 = 0 ∨ xs.getD i 0 = 1) (hix : ∀ v, own_ix xs 0 66 0 = some v → ¬ H < v → ¬ ((v / (64 : Int64)).toInt32) < 0 ∧ ((v / (64 : Int64)).toInt32) < kn) : MetP l (⟨"com/example/whittle/whittle/model/LookUpTable", "evaluate", "([Z[I)Z"⟩ : MethodName) prog_35_method_3_code 6 (some .boolean) [] ({ frames := 0, cells := 0, slots := 0, locals := 0 } : Room) Z #[(.ref r0), (.ref r1), (.ref r2)] h0 (Pure (.int (own_evv xs H ws)) h0) := by
  refine met_go pn_6 ?_
  intro p e s m below meth c s₁ hx hby hml hown hnm hret hlk hZ e0 X0
  rw [ef_6 m r0 r1 r2]
  refine o_lconst 1 X0 hx rfl (hb hby d6_0) (0 : Int64) rfl ?_
  refine o_lstoreN 2 X0 hx rfl (hb hby d6_1) #[.val (.ref r0), .val (.ref r1), .val (.ref r2), .val (.long (0 : Int64)), .second, .unset] rfl ?_
  refine o_iconst 3 X0 hx rfl (hb hby d6_2) (0 : Int32) rfl ?_
  refine o_istore 5 X0 hx rfl (hb hby d6_3) #[.val (.ref r0), .val (.ref r1), .val (.ref r2), .val (.long (0 : Int64)), .second, .val (.int (0 : Int32))] rfl ?_
  suffices loop : ∀ (k i : Nat) (v : Int64), i + k = 66 → own_ix xs i k v = own_ix xs 0 66 0 → Go p.tables e below (EndE s ({ frames := 0, cells := 0, slots := 0, locals := 0 } : Room) (Pure (.int (own_evv xs H ws)) h0)) (s₁.setTop (mkF m 5 #[.val (.ref r0), .val (.ref r1), .val (.ref r2), .val (.long v), .second, .val (.int (Int32.ofNat i))] [])) by
    exact loop 66 0 0 rfl rfl
  intro k
  induction k with
  | zero =>
    intro i v hi hval
    have hi' : i = 66 := by omega
    subst hi'
    refine o_iload 7 X0 hx rfl (hb hby d6_5) rfl ?_
    refine o_aloadN 8 X0 hx rfl (hb hby d6_7) rfl rfl ?_
    refine o_alen 9 X0 hx rfl hZ e0 Ai (hb hby d6_8) ?_
    refine o_icmpYes 43 X0 hx (hb hby d6_9) (flt (show ¬ Int32.ofNat 66 < (66 : Int32) by decide)).2.1 (by decide) (by decide) ?_
    have hv : own_ix xs 0 66 0 = some v := hval.symm
    refine o_lloadN 44 X0 hx rfl (hb hby d6_43) rfl ?_
    refine o_aloadN 45 X0 hx rfl (hb hby d6_44) rfl rfl ?_
    refine o_getF 48 X0 hx rfl hZ hown (wd_35 hw) Via.refl e0 F_h (hb hby d6_45) fun T1 X1 e1 => ?_
    refine o_lcmp 49 X1 hx rfl (hb hby d6_48) ?_
    by_cases hH : H < v
    · refine o_ifYes 81 X1 hx (hb hby d6_49) (tlt (l_tgt hH)).2.2.1 (by decide) (by decide) ?_
      refine o_iconst 82 X1 hx rfl (hb hby d6_81) (0 : Int32) rfl ?_
      refine o_retN X1 hx .boolean (by simp) hret hlk (hb hby d6_82) (by decide) (by decide) ?_
      exact ⟨show some (Value.int (0 : Int32)) = some (Value.int (own_evv xs H ws)) from by rw [own_evv, hv]; show _ = some (Value.int (own_bt H ws v)); rw [own_bt, if_pos hH] <;> rfl, rfl, e1⟩
    · refine o_ifNo 52 X1 hx rfl (hb hby d6_49) (flt (l_fgt hH)).2.2.1 ?_
      refine o_aloadN 53 X1 hx rfl (hb hby d6_52) rfl rfl ?_
      refine o_getF 56 X1 hx rfl hZ hown (wd_23 hw) Via.refl e1 F_w (hb hby d6_53) fun T2 X2 e2 => ?_
      refine o_lloadN 57 X2 hx rfl (hb hby d6_56) rfl ?_
      refine o_ldc2Long 60 X2 hx rfl hZ hown (wd_25 hw) (hb hby d6_57) ?_
      refine o_ldiv 61 X2 hx rfl (hb hby d6_60) (by decide) ?_
      refine o_l2i 62 X2 hx rfl (hb hby d6_61) ?_
      refine o_laloadX 63 X2 hx rfl hZ e2 Aw (hix v hv hH) (hb hby d6_62) (ws.getD ((v / (64 : Int64)).toInt32).toNatClampNeg 0) rfl ?_
      refine o_lloadN 64 X2 hx rfl (hb hby d6_63) rfl ?_
      refine o_ldc2Long 67 X2 hx rfl hZ hown (wd_25 hw) (hb hby d6_64) ?_
      refine o_lrem 68 X2 hx rfl (hb hby d6_67) (by decide) ?_
      refine o_l2i 69 X2 hx rfl (hb hby d6_68) ?_
      refine o_lushr 70 X2 hx rfl (hb hby d6_69) ?_
      refine o_lconst 71 X2 hx rfl (hb hby d6_70) (1 : Int64) rfl ?_
      refine o_land 72 X2 hx rfl (hb hby d6_71) ?_
      refine o_lconst 73 X2 hx rfl (hb hby d6_72) (0 : Int64) rfl ?_
      refine o_lcmp 74 X2 hx rfl (hb hby d6_73) ?_
      by_cases hB : ((((ws.getD ((v / (64 : Int64)).toInt32).toNatClampNeg 0).toUInt64 >>> (((v % (64 : Int64)).toInt32) &&& 0x3f).toInt64.toUInt64).toInt64) &&& (1 : Int64)) = (0 : Int64)
      · refine o_ifYes 81 X2 hx (hb hby d6_74) (teq (l_teq hB)).1 (by decide) (by decide) ?_
        refine o_iconst 82 X2 hx rfl (hb hby d6_81) (0 : Int32) rfl ?_
        refine o_retN X2 hx .boolean (by simp) hret hlk (hb hby d6_82) (by decide) (by decide) ?_
        exact ⟨show some (Value.int (0 : Int32)) = some (Value.int (own_evv xs H ws)) from by rw [own_evv, hv]; show _ = some (Value.int (own_bt H ws v)); rw [own_bt, if_neg hH, if_pos hB] <;> rfl, rfl, e2⟩
      · refine o_ifNo 77 X2 hx rfl (hb hby d6_74) (feq (l_feq hB)).1 ?_
        refine o_iconst 78 X2 hx rfl (hb hby d6_77) (1 : Int32) rfl ?_
        refine o_goto 82 X2 hx (hb hby d6_78) (by decide) (by decide) ?_
        refine o_retN X2 hx .boolean (by simp) hret hlk (hb hby d6_82) (by decide) (by decide) ?_
        exact ⟨show some (Value.int (1 : Int32)) = some (Value.int (own_evv xs H ws)) from by rw [own_evv, hv]; show _ = some (Value.int (own_bt H ws v)); rw [own_bt, if_neg hH, if_neg hB] <;> rfl, rfl, e2⟩
  | succ k ih =>
    intro i v hi hval
    have hi2 : i < 2147483648 := by omega
    refine o_iload 7 X0 hx rfl (hb hby d6_5) rfl ?_
    refine o_aloadN 8 X0 hx rfl (hb hby d6_7) rfl rfl ?_
    refine o_alen 9 X0 hx rfl hZ e0 Ai (hb hby d6_8) ?_
    refine o_icmpNo 12 X0 hx rfl (hb hby d6_9) (tlt (own_lt (n := 66) (by omega) (by decide))).2.1 ?_
    obtain ⟨y, hy⟩ : ∃ y, xs.getD i 0 = y := ⟨_, rfl⟩
    refine o_aloadN 13 X0 hx rfl (hb hby d6_12) rfl rfl ?_
    refine o_aloadN 14 X0 hx rfl (hb hby d6_13) rfl rfl ?_
    refine o_iload 16 X0 hx rfl (hb hby d6_14) rfl ?_
    refine o_ialoadX 17 X0 hx rfl hZ e0 Ai ⟨own_nn hi2, own_lt (n := 66) (by omega) (by decide)⟩ (hb hby d6_16) y (by rw [own_n32 hi2]; exact hy) ?_
    rcases hx01 i (by omega) with h01 | h01
    · rw [hy] at h01
      subst h01
      refine o_baloadZX 18 X0 hx rfl hZ e0 Av (by decide) (hb hby d6_17) (0 : Int32) rfl ?_
      refine o_ifYes 37 X0 hx (hb hby d6_18) (teq (show (0 : Int32) = 0 from rfl)).1 (by decide) (by decide) ?_
      refine o_iinc 40 X0 hx rfl (hb hby d6_37) (1 : Int32) rfl rfl #[.val (.ref r0), .val (.ref r1), .val (.ref r2), .val (.long v), .second, .val (.int ((Int32.ofNat i) + (1 : Int32)))] rfl ?_
      refine o_goto 5 X0 hx (hb hby d6_40) (by decide) (by decide) ?_
      rw [own_one]
      exact ih (i + 1) _ (by omega) (by rw [← hval, own_ix, hy, if_pos rfl])
    · rw [hy] at h01
      subst h01
      refine o_baloadZX 18 X0 hx rfl hZ e0 Av (by decide) (hb hby d6_17) (1 : Int32) rfl ?_
      refine o_ifNo 21 X0 hx rfl (hb hby d6_18) (feq (show ¬ (1 : Int32) = 0 by decide)).1 ?_
      refine o_iload 23 X0 hx rfl (hb hby d6_21) rfl ?_
      refine o_bipush 25 X0 hx rfl (hb hby d6_23) (63 : Int32) rfl ?_
      by_cases h63 : i < 63
      · refine o_icmpYes 30 X0 hx (hb hby d6_25) (tlt (own_lt (n := 63) h63 (by decide))).1 (by decide) (by decide) ?_
        refine o_lloadN 31 X0 hx rfl (hb hby d6_30) rfl ?_
        refine o_lconst 32 X0 hx rfl (hb hby d6_31) (1 : Int64) rfl ?_
        refine o_iload 34 X0 hx rfl (hb hby d6_32) rfl ?_
        refine o_lshl 35 X0 hx rfl (hb hby d6_34) ?_
        refine o_lor 36 X0 hx rfl (hb hby d6_35) ?_
        refine o_lstoreN 37 X0 hx rfl (hb hby d6_36) #[.val (.ref r0), .val (.ref r1), .val (.ref r2), .val (.long (v ||| ((1 : Int64) <<< ((Int32.ofNat i) &&& 0x3f).toInt64))), .second, .val (.int (Int32.ofNat i))] rfl ?_
        refine o_iinc 40 X0 hx rfl (hb hby d6_37) (1 : Int32) rfl rfl #[.val (.ref r0), .val (.ref r1), .val (.ref r2), .val (.long (v ||| ((1 : Int64) <<< ((Int32.ofNat i) &&& 0x3f).toInt64))), .second, .val (.int ((Int32.ofNat i) + (1 : Int32)))] rfl ?_
        refine o_goto 5 X0 hx (hb hby d6_40) (by decide) (by decide) ?_
        rw [own_one]
        exact ih (i + 1) _ (by omega) (by rw [← hval, own_ix, hy, if_neg (by decide), if_pos h63])
      · refine o_icmpNo 28 X0 hx rfl (hb hby d6_25) (flt (own_nle (n := 63) (by omega) hi2)).1 ?_
        have hv : own_ix xs 0 66 0 = none := by rw [← hval, own_ix, hy, if_neg (by decide), if_neg h63]
        refine o_iconst 29 X0 hx rfl (hb hby d6_28) (0 : Int32) rfl ?_
        refine o_retN X0 hx .boolean (by simp) hret hlk (hb hby d6_29) (by decide) (by decide) ?_
        exact ⟨show some (Value.int (0 : Int32)) = some (Value.int (own_evv xs H ws)) from by rw [own_evv, hv] <;> rfl, rfl, e0⟩
def own_in (i2 : Int32) : List Int32 := [(i2 &&& (1 : Int32)), (((i2.toUInt32 >>> ((1 : Int32) &&& 31).toUInt32).toInt32) &&& (1 : Int32)), (((i2.toUInt32 >>> ((2 : Int32) &&& 31).toUInt32).toInt32) &&& (1 : Int32)), (((i2.toUInt32 >>> ((3 : Int32) &&& 31).toUInt32).toInt32) &&& (1 : Int32)), (((i2.toUInt32 >>> ((4 : Int32) &&& 31).toUInt32).toInt32) &&& (1 : Int32)), (((i2.toUInt32 >>> ((5 : Int32) &&& 31).toUInt32).toInt32) &&& (1 : Int32)), (((i2.toUInt32 >>> ((6 : Int32) &&& 31).toUInt32).toInt32) &&& (1 : Int32)), (((i2.toUInt32 >>> ((7 : Int32) &&& 31).toUInt32).toInt32) &&& (1 : Int32))] ++ List.replicate 58 (0 : Int32)
theorem ef_0 (m : MethodId) (y0 : Int64) (y1 : Int64) (y2 : Int32) (y3 : Int32) (y4 : Int32) : entryFrame m #[(.long y0), (.long y1), (.int y2), (.int y3), (.int y4)] maxLocals = mkF m 0 #[.val (.long y0), .second, .val (.long y1), .second, .val (.int y2), .val (.int y3), .val (.int y4), .unset, .unset, .unset, .unset, .unset, .unset, .unset, .unset, .unset, .unset, .unset, .unset] [] := by first | (simp [entryFrame, mkF, argsToLocals, Value.category, maxLocals]; done) | rfl
def f0_12_s0 (i4 : Int32) (q0 : Int64) : Int64 := (if (i4 &&& (2 : Int32)) = (0 : Int32) then q0 else (0 : Int64))
def f0_26_s0 (i4 : Int32) (q1 : Int64) : Int64 := (if (i4 &&& (1 : Int32)) = (0 : Int32) then q1 else (0 : Int64))
def f0_163_s0 (i4 : Int32) : Int32 := (if (i4 &&& (4 : Int32)) = (0 : Int32) then (0 : Int32) else (1 : Int32))
def f0_298_l16 (A : Int64) (B : Int64) (i2 : Int32) : Int32 := (if (((i2 &&& (255 : Int32)).toInt64) ||| (0 : Int64)) < (64 : Int64) then (if (((A.toUInt64 >>> (((((i2 &&& (255 : Int32)).toInt64) ||| (0 : Int64)).toInt32) &&& 0x3f).toInt64.toUInt64).toInt64) &&& (1 : Int64)) = (0 : Int64) then (0 : Int32) else (1 : Int32)) else (if (((i2 &&& (255 : Int32)).toInt64) ||| (0 : Int64)) < (128 : Int64) then (if (((B.toUInt64 >>> ((((((i2 &&& (255 : Int32)).toInt64) ||| (0 : Int64)) - (64 : Int64)).toInt32) &&& 0x3f).toInt64.toUInt64).toInt64) &&& (1 : Int64)) = (0 : Int64) then (0 : Int32) else (1 : Int32)) else (0 : Int32)))
def f0_298_l16' (A : Int64) (B : Int64) (P : Nat) (i2 : Int32) : Int32 := (if (((i2 &&& (255 : Int32)).toInt64) ||| ((1 : Int64) <<< ((Int32.ofNat P) &&& 0x3f).toInt64)) < (64 : Int64) then (if (((A.toUInt64 >>> (((((i2 &&& (255 : Int32)).toInt64) ||| ((1 : Int64) <<< ((Int32.ofNat P) &&& 0x3f).toInt64)).toInt32) &&& 0x3f).toInt64.toUInt64).toInt64) &&& (1 : Int64)) = (0 : Int64) then (0 : Int32) else (1 : Int32)) else (if (((i2 &&& (255 : Int32)).toInt64) ||| ((1 : Int64) <<< ((Int32.ofNat P) &&& 0x3f).toInt64)) < (128 : Int64) then (if (((B.toUInt64 >>> ((((((i2 &&& (255 : Int32)).toInt64) ||| ((1 : Int64) <<< ((Int32.ofNat P) &&& 0x3f).toInt64)) - (64 : Int64)).toInt32) &&& 0x3f).toInt64.toUInt64).toInt64) &&& (1 : Int64)) = (0 : Int64) then (0 : Int32) else (1 : Int32)) else (0 : Int32)))
def f0_163_s0' (i4 : Int32) : Int32 := (if (i4 &&& (4 : Int32)) = (0 : Int32) then (0 : Int32) else (1 : Int32))
def f0_298_l16'' (A : Int64) (B : Int64) (i2 : Int32) : Int32 := (if (((i2 &&& (255 : Int32)).toInt64) ||| (0 : Int64)) < (64 : Int64) then (if (((A.toUInt64 >>> (((((i2 &&& (255 : Int32)).toInt64) ||| (0 : Int64)).toInt32) &&& 0x3f).toInt64.toUInt64).toInt64) &&& (1 : Int64)) = (0 : Int64) then (0 : Int32) else (1 : Int32)) else (if (((i2 &&& (255 : Int32)).toInt64) ||| (0 : Int64)) < (128 : Int64) then (if (((B.toUInt64 >>> ((((((i2 &&& (255 : Int32)).toInt64) ||| (0 : Int64)) - (64 : Int64)).toInt32) &&& 0x3f).toInt64.toUInt64).toInt64) &&& (1 : Int64)) = (0 : Int64) then (0 : Int32) else (1 : Int32)) else (0 : Int32)))
def f0_298_l16''' (A : Int64) (B : Int64) (P : Nat) (i2 : Int32) : Int32 := (if (((i2 &&& (255 : Int32)).toInt64) ||| ((1 : Int64) <<< ((Int32.ofNat P) &&& 0x3f).toInt64)) < (64 : Int64) then (if (((A.toUInt64 >>> (((((i2 &&& (255 : Int32)).toInt64) ||| ((1 : Int64) <<< ((Int32.ofNat P) &&& 0x3f).toInt64)).toInt32) &&& 0x3f).toInt64.toUInt64).toInt64) &&& (1 : Int64)) = (0 : Int64) then (0 : Int32) else (1 : Int32)) else (if (((i2 &&& (255 : Int32)).toInt64) ||| ((1 : Int64) <<< ((Int32.ofNat P) &&& 0x3f).toInt64)) < (128 : Int64) then (if (((B.toUInt64 >>> ((((((i2 &&& (255 : Int32)).toInt64) ||| ((1 : Int64) <<< ((Int32.ofNat P) &&& 0x3f).toInt64)) - (64 : Int64)).toInt32) &&& 0x3f).toInt64.toUInt64).toInt64) &&& (1 : Int64)) = (0 : Int64) then (0 : Int32) else (1 : Int32)) else (0 : Int32)))
def f0_163_s0'' (i4 : Int32) : Int32 := (if (i4 &&& (4 : Int32)) = (0 : Int32) then (0 : Int32) else (1 : Int32))
def f0_298_l16'''' (A : Int64) (B : Int64) (i2 : Int32) : Int32 := (if (((i2 &&& (255 : Int32)).toInt64) ||| (0 : Int64)) < (64 : Int64) then (if (((A.toUInt64 >>> (((((i2 &&& (255 : Int32)).toInt64) ||| (0 : Int64)).toInt32) &&& 0x3f).toInt64.toUInt64).toInt64) &&& (1 : Int64)) = (0 : Int64) then (0 : Int32) else (1 : Int32)) else (if (((i2 &&& (255 : Int32)).toInt64) ||| (0 : Int64)) < (128 : Int64) then (if (((B.toUInt64 >>> ((((((i2 &&& (255 : Int32)).toInt64) ||| (0 : Int64)) - (64 : Int64)).toInt32) &&& 0x3f).toInt64.toUInt64).toInt64) &&& (1 : Int64)) = (0 : Int64) then (0 : Int32) else (1 : Int32)) else (0 : Int32)))
def f0_298_l16''''' (A : Int64) (B : Int64) (P : Nat) (i2 : Int32) : Int32 := (if (((i2 &&& (255 : Int32)).toInt64) ||| ((1 : Int64) <<< ((Int32.ofNat P) &&& 0x3f).toInt64)) < (64 : Int64) then (if (((A.toUInt64 >>> (((((i2 &&& (255 : Int32)).toInt64) ||| ((1 : Int64) <<< ((Int32.ofNat P) &&& 0x3f).toInt64)).toInt32) &&& 0x3f).toInt64.toUInt64).toInt64) &&& (1 : Int64)) = (0 : Int64) then (0 : Int32) else (1 : Int32)) else (if (((i2 &&& (255 : Int32)).toInt64) ||| ((1 : Int64) <<< ((Int32.ofNat P) &&& 0x3f).toInt64)) < (128 : Int64) then (if (((B.toUInt64 >>> ((((((i2 &&& (255 : Int32)).toInt64) ||| ((1 : Int64) <<< ((Int32.ofNat P) &&& 0x3f).toInt64)) - (64 : Int64)).toInt32) &&& 0x3f).toInt64.toUInt64).toInt64) &&& (1 : Int64)) = (0 : Int64) then (0 : Int32) else (1 : Int32)) else (0 : Int32)))
theorem own_mr (x y : Int32) (D : Int) (hy : y.toInt = D) (hD : 0 < D) : ∃ J : Nat, (J : Int) < D ∧ ((x &&& (2147483647 : Int32)) % y) = Int32.ofNat J := by
  have e1 : (x &&& (2147483647 : Int32)).toInt = x.toInt % (2 ^ 31 : Nat) := c_mask x 2147483647 31 (by decide) (by decide)
  have e2 := (c_irem (x &&& (2147483647 : Int32)) y D hy).1 (by rw [e1]; omega)
  have r2 := Int.emod_nonneg (x &&& (2147483647 : Int32)).toInt (b := D) (by omega)
  have r3 := Int.emod_lt_of_pos (x &&& (2147483647 : Int32)).toInt hD
  have r := rng32 ((x &&& (2147483647 : Int32)) % y)
  rw [← e2] at r2 r3
  refine ⟨((x &&& (2147483647 : Int32)) % y).toInt.toNat, by omega, ?_⟩
  apply Int32.toInt_inj.mp; rw [Int32.toInt_ofNat_of_lt (by omega)]; omega
theorem own_lti {a b : Nat} (ha : a < 2147483648) (hb : b < 2147483648) : (Int32.ofNat a < Int32.ofNat b) ↔ a < b := by
  rw [Int32.lt_iff_toInt_lt, Int32.toInt_ofNat_of_lt (by omega), Int32.toInt_ofNat_of_lt (by omega)]; omega
theorem own_gs (xs : List Int32) (i j : Nat) (v : Int32) (h : i < xs.length) : (xs.set i v).getD j 0 = if i = j then v else xs.getD j 0 := by
  rw [List.getD_eq_getElem?_getD, List.getD_eq_getElem?_getD, List.getElem?_set]
  by_cases e : i = j
  · rw [if_pos e, if_pos e, if_pos h]; rfl
  · rw [if_neg e, if_neg e]
theorem own_ex (i4 : Int32) : f0_163_s0 i4 = 0 ∨ f0_163_s0 i4 = 1 := by unfold f0_163_s0; split <;> simp
theorem own_P (i3 : Int32) : ∃ P : Nat, P < 66 ∧ ((i3 &&& (2147483647 : Int32)) % (66 : Int32)) = Int32.ofNat P := by
  obtain ⟨J, h1, h2⟩ := own_mr i3 66 66 rfl (by decide)
  exact ⟨J, by omega, h2⟩
theorem own_ixz (xs : List Int32) : ∀ (k i : Nat) (v : Int64), (∀ j, i ≤ j → j < i + k → xs.getD j 0 = 0) → own_ix xs i k v = some v
  | 0, i, v, _ => rfl
  | k + 1, i, v, h => by rw [own_ix, if_pos (h i (by omega) (by omega))]; exact own_ixz xs k (i + 1) v (fun j h1 h2 => h j (by omega) (by omega))
theorem own_ixs (xs : List Int32) (r : Nat) : ∀ (k i : Nat) (v : Int64), own_ix xs i (k + r) v = (own_ix xs i k v).bind fun u => own_ix xs (i + k) r u
  | 0, i, v => by rw [Nat.zero_add]; rfl
  | k + 1, i, v => by
    rw [show k + 1 + r = (k + r) + 1 by omega, own_ix, own_ix]
    have e := fun u => own_ixs xs r k (i + 1) u
    rw [show i + 1 + k = i + (k + 1) by omega] at e
    by_cases h1 : xs.getD i 0 = 0
    · rw [if_pos h1, if_pos h1, e]
    · rw [if_neg h1, if_neg h1]
      by_cases h2 : i < 63
      · rw [if_pos h2, if_pos h2, e]
      · rw [if_neg h2, if_neg h2]; rfl
theorem own_inl (i2 : Int32) : (own_in i2).length = 66 := rfl
theorem own_inz (i2 : Int32) : ∀ j, 8 ≤ j → j < 66 → (own_in i2).getD j 0 = 0 := fun j h1 h2 => by
  unfold own_in
  rw [List.getD_eq_getElem?_getD, List.getElem?_append_right (by simpa using h1), List.getElem?_replicate]
  split <;> rfl
def own_bn (n q : Nat) : Int32 := Int32.ofNat (n / 2 ^ q % 2)
theorem own_bq (i2 : Int32) : ∃ n : Nat, n < 256 ∧ (i2 &&& (255 : Int32)) = Int32.ofNat n ∧ own_in i2 = [own_bn n 0, own_bn n 1, own_bn n 2, own_bn n 3, own_bn n 4, own_bn n 5, own_bn n 6, own_bn n 7] ++ List.replicate 58 (0 : Int32) := by
  have e : (i2 &&& (255 : Int32)).toInt = i2.toInt % (2 ^ 8 : Nat) := c_mask i2 255 8 (by decide) (by decide)
  have f0 : (i2 &&& (1 : Int32)).toInt = i2.toInt % (2 ^ 1 : Nat) := c_mask i2 1 1 (by decide) (by decide)
  have s1 := c_iushr i2 1 1 (by decide) (by decide)
  have f1 : (((i2.toUInt32 >>> ((1 : Int32) &&& 31).toUInt32).toInt32) &&& (1 : Int32)).toInt = (((i2.toUInt32 >>> ((1 : Int32) &&& 31).toUInt32).toInt32)).toInt % (2 ^ 1 : Nat) := c_mask _ 1 1 (by decide) (by decide)
  have s2 := c_iushr i2 2 2 (by decide) (by decide)
  have f2 : (((i2.toUInt32 >>> ((2 : Int32) &&& 31).toUInt32).toInt32) &&& (1 : Int32)).toInt = (((i2.toUInt32 >>> ((2 : Int32) &&& 31).toUInt32).toInt32)).toInt % (2 ^ 1 : Nat) := c_mask _ 1 1 (by decide) (by decide)
  have s3 := c_iushr i2 3 3 (by decide) (by decide)
  have f3 : (((i2.toUInt32 >>> ((3 : Int32) &&& 31).toUInt32).toInt32) &&& (1 : Int32)).toInt = (((i2.toUInt32 >>> ((3 : Int32) &&& 31).toUInt32).toInt32)).toInt % (2 ^ 1 : Nat) := c_mask _ 1 1 (by decide) (by decide)
  have s4 := c_iushr i2 4 4 (by decide) (by decide)
  have f4 : (((i2.toUInt32 >>> ((4 : Int32) &&& 31).toUInt32).toInt32) &&& (1 : Int32)).toInt = (((i2.toUInt32 >>> ((4 : Int32) &&& 31).toUInt32).toInt32)).toInt % (2 ^ 1 : Nat) := c_mask _ 1 1 (by decide) (by decide)
  have s5 := c_iushr i2 5 5 (by decide) (by decide)
  have f5 : (((i2.toUInt32 >>> ((5 : Int32) &&& 31).toUInt32).toInt32) &&& (1 : Int32)).toInt = (((i2.toUInt32 >>> ((5 : Int32) &&& 31).toUInt32).toInt32)).toInt % (2 ^ 1 : Nat) := c_mask _ 1 1 (by decide) (by decide)
  have s6 := c_iushr i2 6 6 (by decide) (by decide)
  have f6 : (((i2.toUInt32 >>> ((6 : Int32) &&& 31).toUInt32).toInt32) &&& (1 : Int32)).toInt = (((i2.toUInt32 >>> ((6 : Int32) &&& 31).toUInt32).toInt32)).toInt % (2 ^ 1 : Nat) := c_mask _ 1 1 (by decide) (by decide)
  have s7 := c_iushr i2 7 7 (by decide) (by decide)
  have f7 : (((i2.toUInt32 >>> ((7 : Int32) &&& 31).toUInt32).toInt32) &&& (1 : Int32)).toInt = (((i2.toUInt32 >>> ((7 : Int32) &&& 31).toUInt32).toInt32)).toInt % (2 ^ 1 : Nat) := c_mask _ 1 1 (by decide) (by decide)
  obtain ⟨n, hn⟩ : ∃ n : Nat, (n : Int) = i2.toInt % 256 := ⟨(i2.toInt % 256).toNat, by omega⟩
  refine ⟨n, by omega, ?_, ?_⟩
  · apply Int32.toInt_inj.mp; rw [Int32.toInt_ofNat_of_lt (by omega)]; omega
  · unfold own_in own_bn
    have g : ∀ (a : Int32) (b : Nat), b < 2 → a.toInt = (b : Int) → a = Int32.ofNat b := fun a b hb h => Int32.toInt_inj.mp (by rw [Int32.toInt_ofNat_of_lt (by omega)]; exact h)
    rw [g (i2 &&& (1 : Int32)) (n / 2 ^ 0 % 2) (by omega) (by omega), g (((i2.toUInt32 >>> ((1 : Int32) &&& 31).toUInt32).toInt32) &&& (1 : Int32)) (n / 2 ^ 1 % 2) (by omega) (by omega), g (((i2.toUInt32 >>> ((2 : Int32) &&& 31).toUInt32).toInt32) &&& (1 : Int32)) (n / 2 ^ 2 % 2) (by omega) (by omega), g (((i2.toUInt32 >>> ((3 : Int32) &&& 31).toUInt32).toInt32) &&& (1 : Int32)) (n / 2 ^ 3 % 2) (by omega) (by omega), g (((i2.toUInt32 >>> ((4 : Int32) &&& 31).toUInt32).toInt32) &&& (1 : Int32)) (n / 2 ^ 4 % 2) (by omega) (by omega), g (((i2.toUInt32 >>> ((5 : Int32) &&& 31).toUInt32).toInt32) &&& (1 : Int32)) (n / 2 ^ 5 % 2) (by omega) (by omega), g (((i2.toUInt32 >>> ((6 : Int32) &&& 31).toUInt32).toInt32) &&& (1 : Int32)) (n / 2 ^ 6 % 2) (by omega) (by omega), g (((i2.toUInt32 >>> ((7 : Int32) &&& 31).toUInt32).toInt32) &&& (1 : Int32)) (n / 2 ^ 7 % 2) (by omega) (by omega)]
theorem own_8F : ∀ n : Fin 256, own_ix [own_bn n.1 0, own_bn n.1 1, own_bn n.1 2, own_bn n.1 3, own_bn n.1 4, own_bn n.1 5, own_bn n.1 6, own_bn n.1 7] 0 8 0 = some (Int32.ofNat n.1).toInt64 := by decide +kernel
theorem own_8P : ∀ p : Fin 8, ∀ n : Fin 256, own_ix ([own_bn n.1 0, own_bn n.1 1, own_bn n.1 2, own_bn n.1 3, own_bn n.1 4, own_bn n.1 5, own_bn n.1 6, own_bn n.1 7].set p.1 1) 0 8 0 = some ((Int32.ofNat n.1).toInt64 ||| ((1 : Int64) <<< ((Int32.ofNat p.1) &&& 0x3f).toInt64)) := by decide +kernel
theorem own_cong (xs ys : List Int32) : ∀ (k i : Nat) (v : Int64), (∀ j, i ≤ j → j < i + k → xs.getD j 0 = ys.getD j 0) → own_ix xs i k v = own_ix ys i k v
  | 0, i, v, _ => rfl
  | k + 1, i, v, h => by
    have e := fun u => own_cong xs ys k (i + 1) u (fun j h1 h2 => h j (by omega) (by omega))
    rw [own_ix, own_ix, h i (by omega) (by omega), e, e]
theorem own_app (l : List Int32) (r j : Nat) (h : j < l.length) : (l ++ List.replicate r (0 : Int32)).getD j 0 = l.getD j 0 := by
  rw [List.getD_eq_getElem?_getD, List.getD_eq_getElem?_getD, List.getElem?_append_left h]
theorem own_v0 (i2 : Int32) : own_ix (own_in i2) 0 66 0 = some ((i2 &&& (255 : Int32)).toInt64) := by
  obtain ⟨n, hn, e1, e2⟩ := own_bq i2
  have h8 : own_ix (own_in i2) 0 8 0 = some ((i2 &&& (255 : Int32)).toInt64) := by
    rw [e1, ← own_8F ⟨n, hn⟩]
    exact own_cong _ _ 8 0 0 (fun j _ h2 => by rw [e2]; exact own_app _ 58 j (by simpa using h2))
  rw [show (66 : Nat) = 8 + 58 from rfl, own_ixs, h8]
  exact own_ixz _ 58 8 _ (fun j h1 h2 => own_inz i2 j (by omega) (by omega))
theorem own_bd {v : Int64} {f : Int64 → Option Int64} : (some v).bind f = f v := rfl
theorem own_v1 (i2 : Int32) (P : Nat) (hP : P < 63) : own_ix ((own_in i2).set P (1 : Int32)) 0 66 0 = some (((i2 &&& (255 : Int32)).toInt64) ||| ((1 : Int64) <<< ((Int32.ofNat P) &&& 0x3f).toInt64)) := by
  obtain ⟨n, hn, e1, e2⟩ := own_bq i2
  have gs := fun j => own_gs (own_in i2) P j 1 (by rw [own_inl]; omega)
  by_cases h8 : P < 8
  · have h : own_ix ((own_in i2).set P (1 : Int32)) 0 8 0 = some (((i2 &&& (255 : Int32)).toInt64) ||| ((1 : Int64) <<< ((Int32.ofNat P) &&& 0x3f).toInt64)) := by
      rw [e1, ← own_8P ⟨P, h8⟩ ⟨n, hn⟩]
      refine own_cong _ _ 8 0 0 (fun j _ h2 => ?_)
      show ((own_in i2).set P (1 : Int32)).getD j 0 = ([own_bn n 0, own_bn n 1, own_bn n 2, own_bn n 3, own_bn n 4, own_bn n 5, own_bn n 6, own_bn n 7].set P (1 : Int32)).getD j 0
      rw [gs j, own_gs [own_bn n 0, own_bn n 1, own_bn n 2, own_bn n 3, own_bn n 4, own_bn n 5, own_bn n 6, own_bn n 7] P j 1 (show P < List.length [own_bn n 0, own_bn n 1, own_bn n 2, own_bn n 3, own_bn n 4, own_bn n 5, own_bn n 6, own_bn n 7] from h8), e2, own_app _ 58 j (by simpa using h2)]
    rw [show (66 : Nat) = 8 + 58 from rfl, own_ixs, h, own_bd]
    exact own_ixz _ 58 (0 + 8) _ (fun j h1 h2 => by rw [gs j, if_neg (by omega)]; exact own_inz i2 j (by omega) (by omega))
  · have h : own_ix ((own_in i2).set P (1 : Int32)) 0 8 0 = some ((i2 &&& (255 : Int32)).toInt64) := by
      rw [e1, ← own_8F ⟨n, hn⟩]
      refine own_cong _ _ 8 0 0 (fun j _ h2 => ?_)
      rw [gs j, if_neg (by omega), e2]; exact own_app _ 58 j (by simpa using h2)
    rw [show (66 : Nat) = 8 + ((P - 8) + (1 + (65 - P))) by omega, own_ixs, h, own_bd]
    rw [own_ixs, own_ixz _ (P - 8) (0 + 8) _ (fun j h1 h2 => by rw [gs j, if_neg (by omega)]; exact own_inz i2 j (by omega) (by omega)), own_bd]
    rw [show 0 + 8 + (P - 8) = P by omega, show 1 + (65 - P) = (65 - P) + 1 by omega, own_ix, gs P, if_pos rfl, if_neg (by decide), if_pos hP]
    exact own_ixz _ (65 - P) (P + 1) _ (fun j h1 h2 => by rw [gs j, if_neg (by omega)]; exact own_inz i2 j (by omega) (by omega))
theorem own_v2 (i2 : Int32) (P : Nat) (hP : P < 66) (h63 : ¬ P < 63) : own_ix ((own_in i2).set P (1 : Int32)) 0 66 0 = none := by
  obtain ⟨n, hn, e1, e2⟩ := own_bq i2
  have gs := fun j => own_gs (own_in i2) P j 1 (by rw [own_inl]; omega)
  have h : own_ix ((own_in i2).set P (1 : Int32)) 0 8 0 = some ((i2 &&& (255 : Int32)).toInt64) := by
    rw [e1, ← own_8F ⟨n, hn⟩]
    refine own_cong _ _ 8 0 0 (fun j _ h2 => ?_)
    rw [gs j, if_neg (by omega), e2]; exact own_app _ 58 j (by simpa using h2)
  rw [show (66 : Nat) = 8 + ((P - 8) + (1 + (65 - P))) by omega, own_ixs, h]
  show own_ix _ (0 + 8) _ _ = _
  rw [own_ixs, own_ixz _ (P - 8) (0 + 8) _ (fun j h1 h2 => by rw [gs j, if_neg (by omega)]; exact own_inz i2 j (by omega) (by omega))]
  show own_ix _ (0 + 8 + (P - 8)) _ _ = _
  rw [show 0 + 8 + (P - 8) = P by omega, show 1 + (65 - P) = (65 - P) + 1 by omega, own_ix, gs P, if_pos rfl, if_neg (by decide), if_neg h63]
theorem own_b0 (i2 : Int32) : ∀ i, i < 66 → (own_in i2).getD i 0 = 0 ∨ (own_in i2).getD i 0 = 1 := fun i hi => by
  by_cases h8 : i < 8
  · obtain ⟨n, hn, e1, e2⟩ := own_bq i2
    have hb : ∀ q, own_bn n q = 0 ∨ own_bn n q = 1 := fun q => by
      unfold own_bn
      have : n / 2 ^ q % 2 = 0 ∨ n / 2 ^ q % 2 = 1 := by omega
      rcases this with h | h <;> rw [h]
      · left; rfl
      · right; rfl
    rw [e2, own_app _ 58 i (by simpa using h8)]
    match i, h8 with
    | 0, _ => exact hb 0
    | 1, _ => exact hb 1
    | 2, _ => exact hb 2
    | 3, _ => exact hb 3
    | 4, _ => exact hb 4
    | 5, _ => exact hb 5
    | 6, _ => exact hb 6
    | 7, _ => exact hb 7
  · left; exact own_inz i2 i (by omega) hi
theorem own_b1 (i2 : Int32) (P : Nat) : ∀ i, i < 66 → ((own_in i2).set P (1 : Int32)).getD i 0 = 0 ∨ ((own_in i2).set P (1 : Int32)).getD i 0 = 1 := fun i hi => by
  by_cases hP : P < 66
  · rw [own_gs _ P i 1 (by rw [own_inl]; exact hP)]
    by_cases e : P = i
    · right; rw [if_pos e]
    · rw [if_neg e]; exact own_b0 i2 i hi
  · rw [List.set_eq_of_length_le (by rw [own_inl]; omega)]; exact own_b0 i2 i hi
def own_exp (A B v : Int64) : Int32 := (if v < (64 : Int64) then (if (((A.toUInt64 >>> ((v.toInt32) &&& 0x3f).toInt64.toUInt64).toInt64) &&& (1 : Int64)) = (0 : Int64) then (0 : Int32) else (1 : Int32)) else (if v < (128 : Int64) then (if (((B.toUInt64 >>> (((v - (64 : Int64)).toInt32) &&& 0x3f).toInt64.toUInt64).toInt64) &&& (1 : Int64)) = (0 : Int64) then (0 : Int32) else (1 : Int32)) else (0 : Int32)))
def own_Q (x n : Int32) (u w : Nat) : Prop := ∃ s : Nat, s ≤ 31 ∧ x.toInt = ((u / 2 ^ s : Nat) : Int) ∧ n.toInt = 31 - (s : Int) ∧ 0 < u / 2 ^ s ∧ u / 2 ^ s < 2 ^ w
theorem own_stg (x n D K N : Int32) (u d : Nat) (hu : u < 2 ^ 31) (hd : d ≤ 16) (hD : D.toInt = ((2 ^ d : Nat) : Int)) (hN : N.toInt = -(d : Int)) (hs : ((x.toUInt32 >>> (K &&& 31).toUInt32).toInt32).toInt = (x.toInt % 4294967296) / ((2 ^ d : Nat) : Int)) (h : own_Q x n u (d + d)) : own_Q (if x < D then x else ((x.toUInt32 >>> (K &&& 31).toUInt32).toInt32)) (if x < D then n else n + N) u d := by
  obtain ⟨s, h1, h2, h3, h4, h5⟩ := h
  have r := rng32 x
  have hlt : x < D ↔ u / 2 ^ s < 2 ^ d := by rw [Int32.lt_iff_toInt_lt, h2, hD]; exact Int.ofNat_lt
  by_cases c : u / 2 ^ s < 2 ^ d
  · rw [if_pos (hlt.mpr c), if_pos (hlt.mpr c)]; exact ⟨s, h1, h2, h3, h4, c⟩
  · rw [if_neg (fun z => c (hlt.mp z)), if_neg (fun z => c (hlt.mp z))]
    have hp : 0 < 2 ^ d := Nat.pos_of_ne_zero (by simp)
    have hps : 0 < 2 ^ s := Nat.pos_of_ne_zero (by simp)
    have e : u / 2 ^ (s + d) = u / 2 ^ s / 2 ^ d := by rw [Nat.pow_add, Nat.div_div_eq_div_mul]
    have hsd : s + d ≤ 31 := by
      apply Classical.byContradiction
      intro z
      have q1 : 2 ^ d * 2 ^ s ≤ u := (Nat.le_div_iff_mul_le hps).mp (by omega)
      have q2 : 2 ^ 31 ≤ 2 ^ (d + s) := Nat.pow_le_pow_right (by decide) (by omega)
      rw [Nat.pow_add] at q2
      omega
    have cN := c_iadd n N
    have rN := rng32 (n + N)
    refine ⟨s + d, hsd, ?_, by omega, ?_, ?_⟩
    · rw [hs, e, h2, Int.emod_eq_of_lt (by omega) (by omega)]; rfl
    · rw [e]; exact Nat.div_pos (by omega) hp
    · rw [e]; exact Nat.div_lt_of_lt_mul (by rw [← Nat.pow_add]; exact h5)
set_option maxHeartbeats 4000000 in
theorem own_n5 (i : Int32) : 0 ≤ (fn5 i).toInt ∧ (fn5 i).toInt ≤ 32 ∧ (i ≠ 0 → (fn5 i).toInt ≤ 31) ∧ ∃ m : Nat, m ≤ 32 ∧ (fn5 i).toInt = 32 - (m : Int) ∧ i.toInt % 4294967296 < ((2 ^ m : Nat) : Int) := by
  have r := rng32 i
  unfold fn5
  by_cases h0 : (0 : Int32) < i
  · rw [if_pos h0]
    rw [Int32.lt_iff_toInt_lt, show (0 : Int32).toInt = 0 from rfl] at h0
    obtain ⟨u, hu⟩ : ∃ u : Nat, (u : Int) = i.toInt := ⟨i.toInt.toNat, by omega⟩
    have hu31 : u < 2 ^ 31 := by omega
    have q0 : own_Q i 31 u (16 + 16) := ⟨0, by decide, by rw [Nat.pow_zero, Nat.div_one]; exact hu.symm, rfl, by rw [Nat.pow_zero, Nat.div_one]; omega, by rw [Nat.pow_zero, Nat.div_one]; omega⟩
    have l1 : f5_33_l1 i = (if i < (65536 : Int32) then (31 : Int32) else (31 : Int32) + (-16 : Int32)) := by unfold f5_33_l1; rw [show (31 : Int32) + (-16 : Int32) = (15 : Int32) from by decide +kernel]
    have q1 : own_Q (f5_33_l0 i) (f5_33_l1 i) u 16 := by rw [l1]; unfold f5_33_l0; exact own_stg i 31 65536 16 (-16) u 16 hu31 (by decide) (by decide +kernel) (by decide +kernel) (c_iushr i 16 16 (by decide) (by decide)) q0
    have q2 : own_Q (f5_48_l0 i) (f5_48_l1 i) u 8 := by unfold f5_48_l0 f5_48_l1; exact own_stg (f5_33_l0 i) (f5_33_l1 i) 256 8 (-8) u 8 hu31 (by decide) (by decide +kernel) (by decide +kernel) (c_iushr (f5_33_l0 i) 8 8 (by decide) (by decide)) q1
    have q3 : own_Q (f5_61_l0 i) (f5_61_l1 i) u 4 := by unfold f5_61_l0 f5_61_l1; exact own_stg (f5_48_l0 i) (f5_48_l1 i) 16 4 (-4) u 4 hu31 (by decide) (by decide +kernel) (by decide +kernel) (c_iushr (f5_48_l0 i) 4 4 (by decide) (by decide)) q2
    have q4 : own_Q (f5_73_l0 i) (f5_73_l1 i) u 2 := by unfold f5_73_l0 f5_73_l1; exact own_stg (f5_61_l0 i) (f5_61_l1 i) 4 2 (-2) u 2 hu31 (by decide) (by decide +kernel) (by decide +kernel) (c_iushr (f5_61_l0 i) 2 2 (by decide) (by decide)) q3
    obtain ⟨s, h1, h2, h3, h4, h5⟩ := q4
    have e1 := c_iushr (f5_73_l0 i) 1 1 (by decide) (by decide)
    have e2 := c_isub (f5_73_l1 i) ((f5_73_l0 i).toUInt32 >>> ((1 : Int32) &&& 31).toUInt32).toInt32
    have r2 := rng32 ((f5_73_l1 i) - ((f5_73_l0 i).toUInt32 >>> ((1 : Int32) &&& 31).toUInt32).toInt32)
    have hps : 0 < 2 ^ s := Nat.pos_of_ne_zero (by simp)
    have hs30 : s ≤ 30 := by
      apply Classical.byContradiction
      intro z
      have : s = 31 := by omega
      subst this
      omega
    by_cases c : u / 2 ^ s = 1
    · have hu2 : u < 2 ^ (s + 1) := by
        have := Nat.lt_mul_div_succ u hps
        rw [c] at this
        rw [Nat.pow_succ]; omega
      refine ⟨by omega, by omega, fun _ => by omega, s + 1, by omega, by omega, ?_⟩
      rw [Int.emod_eq_of_lt (by omega) (by omega), ← hu]; exact Int.ofNat_lt.mpr hu2
    · have hu2 : u < 2 ^ (s + 2) := by
        have := Nat.lt_mul_div_succ u hps
        have h6 : u / 2 ^ s + 1 ≤ 4 := by omega
        have h7 : 2 ^ s * (u / 2 ^ s + 1) ≤ 2 ^ s * 4 := Nat.mul_le_mul_left _ h6
        rw [Nat.pow_add]; omega
      refine ⟨by omega, by omega, fun _ => by omega, s + 2, by omega, by omega, ?_⟩
      rw [Int.emod_eq_of_lt (by omega) (by omega), ← hu]; exact Int.ofNat_lt.mpr hu2
  · rw [if_neg h0]
    rw [Int32.lt_iff_toInt_lt, show (0 : Int32).toInt = 0 from rfl] at h0
    unfold f5_14_s0
    by_cases z : i = 0
    · rw [if_pos z]; exact ⟨by decide, by decide, fun q => absurd z q, 0, by decide, rfl, by rw [z]; decide⟩
    · rw [if_neg z]; exact ⟨by decide, by decide, fun _ => by decide, 32, by decide, rfl, by omega⟩
theorem own_n4 (x : Int64) (hx : ¬ x = 0) : 0 ≤ (fn4 x).toInt ∧ (fn4 x).toInt ≤ 63 ∧ ∃ m : Nat, m ≤ 64 ∧ (fn4 x).toInt = 64 - (m : Int) ∧ x.toInt % 18446744073709551616 < ((2 ^ m : Nat) : Int) := by
  have e1 := c_lushr x 32 32 (by decide) (by decide)
  have e2 := c_l2i ((x.toUInt64 >>> ((32 : Int32) &&& 0x3f).toInt64.toUInt64).toInt64)
  have r2 := rng32 (f4_5 x)
  have e2' : ((f4_5 x).toInt - ((x.toUInt64 >>> ((32 : Int32) &&& 0x3f).toInt64.toUInt64).toInt64).toInt) % 4294967296 = 0 := e2
  have e3 := c_l2i x
  have r3 := rng32 x.toInt32
  have rx := rng64 x
  unfold fn4 f4_25_s0
  by_cases z : f4_5 x = 0
  · rw [if_pos z]
    have z' : (f4_5 x).toInt = 0 := by rw [z]; rfl
    obtain ⟨a1, a2, a3, m, a4, a5, a6⟩ := own_n5 x.toInt32
    have c1 := c_iadd 32 (fn5 x.toInt32)
    have c2 := rng32 ((32 : Int32) + fn5 x.toInt32)
    rw [show (32 : Int32).toInt = 32 from rfl] at c1
    have hlo : x.toInt % 18446744073709551616 = x.toInt32.toInt % 4294967296 := by omega
    have hne : x.toInt32 ≠ 0 := fun q => hx (by
      have q' : x.toInt32.toInt = 0 := by rw [q]; rfl
      apply Int64.toInt_inj.mp
      rw [show (0 : Int64).toInt = 0 from rfl]
      omega)
    have a3' := a3 hne
    exact ⟨by omega, by omega, m, by omega, by omega, by rw [hlo]; exact a6⟩
  · rw [if_neg z]
    obtain ⟨a1, a2, a3, m, a4, a5, a6⟩ := own_n5 (f4_5 x)
    have a3' := a3 z
    refine ⟨by omega, by omega, m + 32, by omega, by omega, ?_⟩
    have hp : ((2 ^ (m + 32) : Nat) : Int) = ((2 ^ m : Nat) : Int) * 4294967296 := by rw [Nat.pow_add, Int.natCast_mul]; rfl
    rw [hp]
    generalize ((2 ^ m : Nat) : Int) = M at *
    omega
theorem own_bit0 (x : Int64) (q : Int32) (m : Nat) (hm : q.toBitVec.toNat % 64 = m) (h0 : 0 < m) (h : x.toInt % 18446744073709551616 < ((2 ^ m : Nat) : Int)) : (((x.toUInt64 >>> (q &&& 0x3f).toInt64.toUInt64).toInt64) &&& (1 : Int64)) = (0 : Int64) := by
  have e := c_lushr x q m hm h0
  have e2 : (((x.toUInt64 >>> (q &&& 0x3f).toInt64.toUInt64).toInt64) &&& (1 : Int64)).toInt = ((x.toUInt64 >>> (q &&& 0x3f).toInt64.toUInt64).toInt64).toInt % (2 ^ 1 : Nat) := c_maskL _ 1 1 (by decide) (by decide)
  apply Int64.toInt_inj.mp
  rw [e2, e, Int.ediv_eq_zero_of_lt (by omega) h]; rfl
theorem own_zb (q : Int32) : ((((0 : Int64).toUInt64 >>> (q &&& 0x3f).toInt64.toUInt64).toInt64) &&& (1 : Int64)) = (0 : Int64) := by
  have h : (0 : Int64).toUInt64 >>> (q &&& 0x3f).toInt64.toUInt64 = 0 := by
    show (0 : UInt64) >>> _ = 0
    exact UInt64.zero_shiftRight
  rw [h]; rfl
theorem own_cnt {v : Int64} {j : Nat} (h : v.toInt = (j : Int)) (hj : j < 64) : v.toInt32.toBitVec.toNat % 64 = j := by
  have e := c_l2i v
  have r := rng32 v.toInt32
  have e2 : v.toInt32.toInt = (j : Int) := by omega
  have e3 : v.toInt32.toBitVec.toInt = (j : Int) := e2
  have l := v.toInt32.toBitVec.isLt
  rw [BitVec.toInt_eq_toNat_cond] at e3
  split at e3 <;> omega
theorem own_core (A B H v : Int64) (ws : List Int64) (k : Nat) (hv : 0 ≤ v.toInt) (hH : (H.toInt < v.toInt ∧ own_exp A B v = 0) ∨ (v.toInt ≤ H.toInt ∧ ((v.toInt < 64 ∧ ws.getD 0 0 = A) ∨ (64 ≤ v.toInt ∧ v.toInt < 128 ∧ ws.getD 1 0 = B)))) : own_bt H ws v = own_exp A B v := by
  unfold own_bt
  rcases hH with ⟨h1, h2⟩ | ⟨h1, h2⟩
  · rw [if_pos (Int64.lt_iff_toInt_lt.mpr h1), h2]; rfl
  · rw [if_neg (fun z => absurd (Int64.lt_iff_toInt_lt.mp z) (by omega))]
    have d1 := (c_ldiv v 64 64 rfl (by decide)).1 hv
    have d2 := c_l2i (v / (64 : Int64))
    have d3 := rng32 (v / (64 : Int64)).toInt32
    have m1 : (v % (64 : Int64)).toInt = v.toInt % 64 := by rw [Int64.toInt_mod]; exact (tr _ _).1 hv
    unfold own_exp
    rcases h2 with ⟨h3, h4⟩ | ⟨h3, h4, h5⟩
    · have i0 : (v / (64 : Int64)).toInt32 = 0 := Int32.toInt_inj.mp (by rw [show (0 : Int32).toInt = 0 from rfl]; omega)
      have i1 : v % (64 : Int64) = v := Int64.toInt_inj.mp (by omega)
      rw [i0, i1, show (0 : Int32).toNatClampNeg = 0 from rfl, h4, if_pos (show v < (64 : Int64) from Int64.lt_iff_toInt_lt.mpr h3)]
      split <;> rfl
    · have i0 : (v / (64 : Int64)).toInt32 = 1 := Int32.toInt_inj.mp (by rw [show (1 : Int32).toInt = 1 from rfl]; omega)
      have s1 := c_lsub v 64
      have s2 := rng64 (v - (64 : Int64))
      rw [show (64 : Int64).toInt = 64 from rfl] at s1
      have i1 : v % (64 : Int64) = v - (64 : Int64) := Int64.toInt_inj.mp (by omega)
      rw [i0, i1, show (1 : Int32).toNatClampNeg = 1 from rfl, h5, if_neg (show ¬ v < (64 : Int64) from fun z => absurd (Int64.lt_iff_toInt_lt.mp z) (by rw [show (64 : Int64).toInt = 64 from rfl]; omega)), if_pos (show v < (128 : Int64) from Int64.lt_iff_toInt_lt.mpr h4)]
      split <;> rfl
theorem own_exp0 (A B v : Int64) (hv : 0 ≤ v.toInt) (hA : v.toInt < 64 → (((A.toUInt64 >>> ((v.toInt32) &&& 0x3f).toInt64.toUInt64).toInt64) &&& (1 : Int64)) = (0 : Int64)) (hB : 64 ≤ v.toInt → v.toInt < 128 → (((B.toUInt64 >>> (((v - (64 : Int64)).toInt32) &&& 0x3f).toInt64.toUInt64).toInt64) &&& (1 : Int64)) = (0 : Int64)) : own_exp A B v = 0 := by
  unfold own_exp
  by_cases h1 : v < (64 : Int64)
  · rw [if_pos h1, if_pos (hA (Int64.lt_iff_toInt_lt.mp h1))]
  · rw [if_neg h1]
    by_cases h2 : v < (128 : Int64)
    · rw [if_pos h2, if_pos (hB (Int.not_lt.mp (fun z => h1 (Int64.lt_iff_toInt_lt.mpr z))) (Int64.lt_iff_toInt_lt.mp h2))]
    · rw [if_neg h2]
theorem own_k0 (A B v : Int64) (hA : A = 0) (hB : B = 0) (hv : 0 ≤ v.toInt) : own_bt (-1 : Int64) ([] : List Int64) v = own_exp A B v := by
  subst hA hB
  exact own_core 0 0 (-1) v [] 0 hv (Or.inl ⟨by rw [show (-1 : Int64).toInt = -1 from rfl]; omega, own_exp0 0 0 v hv (fun _ => own_zb _) (fun _ _ => own_zb _)⟩)
theorem own_H1 (A : Int64) (hA : ¬ A = 0) : ((((64 : Int64) * ((1 : Int32).toInt64)) - (1 : Int64)) - ((fn4 A).toInt64)).toInt = 63 - (fn4 A).toInt := by
  obtain ⟨n1, n2, -⟩ := own_n4 A hA
  have c := c_lsub (((64 : Int64) * ((1 : Int32).toInt64)) - (1 : Int64)) ((fn4 A).toInt64)
  have r := rng64 ((((64 : Int64) * ((1 : Int32).toInt64)) - (1 : Int64)) - ((fn4 A).toInt64))
  have i := c_i2l (fn4 A)
  rw [show (((64 : Int64) * ((1 : Int32).toInt64)) - (1 : Int64)).toInt = 63 from by decide] at c
  omega
theorem own_H2 (B : Int64) (hB : ¬ B = 0) : ((((64 : Int64) * ((2 : Int32).toInt64)) - (1 : Int64)) - ((fn4 B).toInt64)).toInt = 127 - (fn4 B).toInt := by
  obtain ⟨n1, n2, -⟩ := own_n4 B hB
  have c := c_lsub (((64 : Int64) * ((2 : Int32).toInt64)) - (1 : Int64)) ((fn4 B).toInt64)
  have r := rng64 ((((64 : Int64) * ((2 : Int32).toInt64)) - (1 : Int64)) - ((fn4 B).toInt64))
  have i := c_i2l (fn4 B)
  rw [show (((64 : Int64) * ((2 : Int32).toInt64)) - (1 : Int64)).toInt = 127 from by decide] at c
  omega
theorem own_up {m j : Nat} {x : Int} (h : x < ((2 ^ m : Nat) : Int)) (hm : m ≤ j) : x < ((2 ^ j : Nat) : Int) := Int.lt_of_lt_of_le h (Int.ofNat_le.mpr (Nat.pow_le_pow_right (by decide) hm))
theorem own_k1 (A B v : Int64) (hA : ¬ A = 0) (hB : B = 0) (hv : 0 ≤ v.toInt) : own_bt ((((64 : Int64) * ((1 : Int32).toInt64)) - (1 : Int64)) - ((fn4 A).toInt64)) [A] v = own_exp A B v := by
  subst hB
  obtain ⟨n1, n2, m, n3, n4, n5⟩ := own_n4 A hA
  have hH := own_H1 A hA
  apply own_core A 0 _ v [A] 1 hv
  by_cases c : v.toInt ≤ 63 - (fn4 A).toInt
  · right; exact ⟨by omega, Or.inl ⟨by omega, rfl⟩⟩
  · left
    refine ⟨by omega, own_exp0 A 0 v hv (fun h => ?_) (fun _ _ => own_zb _)⟩
    obtain ⟨j, hj⟩ : ∃ j : Nat, v.toInt = (j : Int) := ⟨v.toInt.toNat, by omega⟩
    exact own_bit0 A _ j (own_cnt hj (by omega)) (by omega) (own_up n5 (by omega))
theorem own_k2 (A B v : Int64) (hB : ¬ B = 0) (hv : 0 ≤ v.toInt) : own_bt ((((64 : Int64) * ((2 : Int32).toInt64)) - (1 : Int64)) - ((fn4 B).toInt64)) [A, B] v = own_exp A B v := by
  obtain ⟨n1, n2, m, n3, n4, n5⟩ := own_n4 B hB
  have hH := own_H2 B hB
  apply own_core A B _ v [A, B] 2 hv
  by_cases c : v.toInt ≤ 127 - (fn4 B).toInt
  · right
    refine ⟨by omega, ?_⟩
    by_cases c2 : v.toInt < 64
    · exact Or.inl ⟨c2, rfl⟩
    · exact Or.inr ⟨by omega, by omega, rfl⟩
  · left
    refine ⟨by omega, own_exp0 A B v hv (fun h => absurd h (by omega)) (fun h1 h2 => ?_)⟩
    obtain ⟨j, hj⟩ : ∃ j : Nat, (v - (64 : Int64)).toInt = (j : Int) ∧ v.toInt = (j : Int) + 64 := by
      have s1 := c_lsub v 64
      have s2 := rng64 (v - (64 : Int64))
      rw [show (64 : Int64).toInt = 64 from rfl] at s1
      exact ⟨(v.toInt - 64).toNat, by omega, by omega⟩
    exact own_bit0 B _ j (own_cnt hj.1 (by omega)) (by omega) (own_up n5 (by omega))
theorem own_255 (i2 : Int32) : 0 ≤ ((i2 &&& (255 : Int32)).toInt64).toInt := by
  have e : (i2 &&& (255 : Int32)).toInt = i2.toInt % (2 ^ 8 : Nat) := c_mask i2 255 8 (by decide) (by decide)
  rw [c_i2l]; omega
theorem own_orn (x y : Int64) (hx : 0 ≤ x.toInt) (hy : 0 ≤ y.toInt) : 0 ≤ (x ||| y).toInt := by
  have g : ∀ z : Int64, 0 ≤ z.toInt ↔ z.toBitVec.msb = false := fun z => by
    show 0 ≤ z.toBitVec.toInt ↔ _
    rw [BitVec.msb_eq_toInt]; simp
  rw [g] at hx hy ⊢
  rw [Int64.toBitVec_or, BitVec.msb_or, hx, hy]; rfl
theorem own_1P : ∀ P : Fin 63, 0 ≤ ((1 : Int64) <<< ((Int32.ofNat P.1) &&& 0x3f).toInt64).toInt := by decide +kernel
theorem own_n1 (i2 : Int32) (P : Nat) (h : P < 63) : 0 ≤ (((i2 &&& (255 : Int32)).toInt64) ||| ((1 : Int64) <<< ((Int32.ofNat P) &&& 0x3f).toInt64)).toInt := own_orn _ _ (own_255 i2) (own_1P ⟨P, h⟩)
theorem own_nnx (i2 : Int32) (P : Nat) (hP : P < 66) {v : Int64} (h : own_ix ((own_in i2).set P (1 : Int32)) 0 66 0 = some v) : 0 ≤ v.toInt := by
  by_cases h63 : P < 63
  · rw [own_v1 i2 P h63] at h; cases h; exact own_n1 i2 P h63
  · rw [own_v2 i2 P hP h63] at h; cases h
theorem own_nn0 (i2 : Int32) {v : Int64} (h : own_ix (own_in i2) 0 66 0 = some v) : 0 ≤ v.toInt := by rw [own_v0 i2] at h; cases h; exact own_255 i2
theorem own_rgx {v : Int64} {k : Nat} {K : Int32} (hK : K.toInt = (k : Int)) (hv : 0 ≤ v.toInt) (h : v.toInt < 64 * (k : Int)) (hk : k ≤ 2) : ¬ ((v / (64 : Int64)).toInt32) < 0 ∧ ((v / (64 : Int64)).toInt32) < K := by
  have d1 := (c_ldiv v 64 64 rfl (by decide)).1 hv
  have d2 := c_l2i (v / (64 : Int64))
  have d3 := rng32 (v / (64 : Int64)).toInt32
  rw [Int32.lt_iff_toInt_lt, Int32.lt_iff_toInt_lt, hK, show (0 : Int32).toInt = 0 from rfl]
  omega
theorem own_r0 {v : Int64} (hv : 0 ≤ v.toInt) (h : ¬ (-1 : Int64) < v) : ¬ ((v / (64 : Int64)).toInt32) < 0 ∧ ((v / (64 : Int64)).toInt32) < (0 : Int32) := absurd (Int64.lt_iff_toInt_lt.mpr (by rw [show (-1 : Int64).toInt = -1 from rfl]; omega)) h
theorem own_r1 {A v : Int64} (hA : ¬ A = 0) (hv : 0 ≤ v.toInt) (h : ¬ ((((64 : Int64) * ((1 : Int32).toInt64)) - (1 : Int64)) - ((fn4 A).toInt64)) < v) : ¬ ((v / (64 : Int64)).toInt32) < 0 ∧ ((v / (64 : Int64)).toInt32) < (1 : Int32) := by
  rw [Int64.lt_iff_toInt_lt, own_H1 A hA] at h
  have n := (own_n4 A hA).1
  exact own_rgx (k := 1) rfl hv (by omega) (by decide)
theorem own_r2 {B v : Int64} (hB : ¬ B = 0) (hv : 0 ≤ v.toInt) (h : ¬ ((((64 : Int64) * ((2 : Int32).toInt64)) - (1 : Int64)) - ((fn4 B).toInt64)) < v) : ¬ ((v / (64 : Int64)).toInt32) < 0 ∧ ((v / (64 : Int64)).toInt32) < (2 : Int32) := by
  rw [Int64.lt_iff_toInt_lt, own_H2 B hB] at h
  have n := (own_n4 B hB).1
  exact own_rgx (k := 2) rfl hv (by omega) (by decide)
theorem own_or0 (x : Int64) : x ||| (0 : Int64) = x := Int64.toBitVec_inj.mp (by rw [Int64.toBitVec_or]; exact BitVec.or_zero)
theorem own_x0_0 (i2 : Int32) (A B : Int64) (hA : A = 0) (hB : B = 0) : ∀ v, own_ix (own_in i2) 0 66 0 = some v → ¬ (-1 : Int64) < v → ¬ ((v / (64 : Int64)).toInt32) < 0 ∧ ((v / (64 : Int64)).toInt32) < (0 : Int32) := fun v h q => own_r0 (own_nn0 i2 h) q
theorem own_x1_0 (i2 : Int32) (P : Nat) (hP : P < 66) (A B : Int64) (hA : A = 0) (hB : B = 0) : ∀ v, own_ix ((own_in i2).set P (1 : Int32)) 0 66 0 = some v → ¬ (-1 : Int64) < v → ¬ ((v / (64 : Int64)).toInt32) < 0 ∧ ((v / (64 : Int64)).toInt32) < (0 : Int32) := fun v h q => own_r0 (own_nnx i2 P hP h) q
theorem own_f0_0 (i2 : Int32) (A B : Int64) (hA : A = 0) (hB : B = 0) : own_evv (own_in i2) (-1 : Int64) ([] : List Int64) = own_exp A B (((i2 &&& (255 : Int32)).toInt64) ||| (0 : Int64)) := by
  rw [own_or0, own_evv, own_v0 i2]; exact own_k0 A B _ hA hB (own_255 i2)
theorem own_f1_0 (i2 : Int32) (P : Nat) (h63 : P < 63) (A B : Int64) (hA : A = 0) (hB : B = 0) : own_evv ((own_in i2).set P (1 : Int32)) (-1 : Int64) ([] : List Int64) = own_exp A B (((i2 &&& (255 : Int32)).toInt64) ||| ((1 : Int64) <<< ((Int32.ofNat P) &&& 0x3f).toInt64)) := by
  rw [own_evv, own_v1 i2 P h63]; exact own_k0 A B _ hA hB (own_n1 i2 P h63)
theorem own_f2_0 (i2 : Int32) (P : Nat) (hP : P < 66) (h63 : ¬ P < 63) (A B : Int64) (hA : A = 0) (hB : B = 0) : own_evv ((own_in i2).set P (1 : Int32)) (-1 : Int64) ([] : List Int64) = (0 : Int32) := by
  rw [own_evv, own_v2 i2 P hP h63]; rfl
theorem own_x0_1 (i2 : Int32) (A B : Int64) (hA : ¬ A = 0) (hB : B = 0) : ∀ v, own_ix (own_in i2) 0 66 0 = some v → ¬ ((((64 : Int64) * ((1 : Int32).toInt64)) - (1 : Int64)) - ((fn4 A).toInt64)) < v → ¬ ((v / (64 : Int64)).toInt32) < 0 ∧ ((v / (64 : Int64)).toInt32) < (1 : Int32) := fun v h q => own_r1 hA (own_nn0 i2 h) q
theorem own_x1_1 (i2 : Int32) (P : Nat) (hP : P < 66) (A B : Int64) (hA : ¬ A = 0) (hB : B = 0) : ∀ v, own_ix ((own_in i2).set P (1 : Int32)) 0 66 0 = some v → ¬ ((((64 : Int64) * ((1 : Int32).toInt64)) - (1 : Int64)) - ((fn4 A).toInt64)) < v → ¬ ((v / (64 : Int64)).toInt32) < 0 ∧ ((v / (64 : Int64)).toInt32) < (1 : Int32) := fun v h q => own_r1 hA (own_nnx i2 P hP h) q
theorem own_f0_1 (i2 : Int32) (A B : Int64) (hA : ¬ A = 0) (hB : B = 0) : own_evv (own_in i2) ((((64 : Int64) * ((1 : Int32).toInt64)) - (1 : Int64)) - ((fn4 A).toInt64)) [A] = own_exp A B (((i2 &&& (255 : Int32)).toInt64) ||| (0 : Int64)) := by
  rw [own_or0, own_evv, own_v0 i2]; exact own_k1 A B _ hA hB (own_255 i2)
theorem own_f1_1 (i2 : Int32) (P : Nat) (h63 : P < 63) (A B : Int64) (hA : ¬ A = 0) (hB : B = 0) : own_evv ((own_in i2).set P (1 : Int32)) ((((64 : Int64) * ((1 : Int32).toInt64)) - (1 : Int64)) - ((fn4 A).toInt64)) [A] = own_exp A B (((i2 &&& (255 : Int32)).toInt64) ||| ((1 : Int64) <<< ((Int32.ofNat P) &&& 0x3f).toInt64)) := by
  rw [own_evv, own_v1 i2 P h63]; exact own_k1 A B _ hA hB (own_n1 i2 P h63)
theorem own_f2_1 (i2 : Int32) (P : Nat) (hP : P < 66) (h63 : ¬ P < 63) (A B : Int64) (hA : ¬ A = 0) (hB : B = 0) : own_evv ((own_in i2).set P (1 : Int32)) ((((64 : Int64) * ((1 : Int32).toInt64)) - (1 : Int64)) - ((fn4 A).toInt64)) [A] = (0 : Int32) := by
  rw [own_evv, own_v2 i2 P hP h63]; rfl
theorem own_x0_2 (i2 : Int32) (A B : Int64) (hB : ¬ B = 0) : ∀ v, own_ix (own_in i2) 0 66 0 = some v → ¬ ((((64 : Int64) * ((2 : Int32).toInt64)) - (1 : Int64)) - ((fn4 B).toInt64)) < v → ¬ ((v / (64 : Int64)).toInt32) < 0 ∧ ((v / (64 : Int64)).toInt32) < (2 : Int32) := fun v h q => own_r2 hB (own_nn0 i2 h) q
theorem own_x1_2 (i2 : Int32) (P : Nat) (hP : P < 66) (A B : Int64) (hB : ¬ B = 0) : ∀ v, own_ix ((own_in i2).set P (1 : Int32)) 0 66 0 = some v → ¬ ((((64 : Int64) * ((2 : Int32).toInt64)) - (1 : Int64)) - ((fn4 B).toInt64)) < v → ¬ ((v / (64 : Int64)).toInt32) < 0 ∧ ((v / (64 : Int64)).toInt32) < (2 : Int32) := fun v h q => own_r2 hB (own_nnx i2 P hP h) q
theorem own_f0_2 (i2 : Int32) (A B : Int64) (hB : ¬ B = 0) : own_evv (own_in i2) ((((64 : Int64) * ((2 : Int32).toInt64)) - (1 : Int64)) - ((fn4 B).toInt64)) [A, B] = own_exp A B (((i2 &&& (255 : Int32)).toInt64) ||| (0 : Int64)) := by
  rw [own_or0, own_evv, own_v0 i2]; exact own_k2 A B _ hB (own_255 i2)
theorem own_f1_2 (i2 : Int32) (P : Nat) (h63 : P < 63) (A B : Int64) (hB : ¬ B = 0) : own_evv ((own_in i2).set P (1 : Int32)) ((((64 : Int64) * ((2 : Int32).toInt64)) - (1 : Int64)) - ((fn4 B).toInt64)) [A, B] = own_exp A B (((i2 &&& (255 : Int32)).toInt64) ||| ((1 : Int64) <<< ((Int32.ofNat P) &&& 0x3f).toInt64)) := by
  rw [own_evv, own_v1 i2 P h63]; exact own_k2 A B _ hB (own_n1 i2 P h63)
theorem own_f2_2 (i2 : Int32) (P : Nat) (hP : P < 66) (h63 : ¬ P < 63) (A B : Int64) (hB : ¬ B = 0) : own_evv ((own_in i2).set P (1 : Int32)) ((((64 : Int64) * ((2 : Int32).toInt64)) - (1 : Int64)) - ((fn4 B).toInt64)) [A, B] = (0 : Int32) := by
  rw [own_evv, own_v2 i2 P hP h63]; rfl
set_option maxRecDepth 65536 in
set_option maxHeartbeats 40000000 in
theorem rm0 (l : Launch) (Z : State) (a0 : Array Value) (hw : ∀ d ∈ tables_1, d.before a0 Z = true) (ws : List Jvm.Cond) (q0 : Int64) (q1 : Int64) (i2 : Int32) (i3 : Int32) (i4 : Int32) (h0 : Heap) (n0 : Nat) (Z0 : n0 ≤ h0.size) : MetP l x code maxLocals ret ws room_1 Z #[(.long q0), (.long q1), (.int i2), (.int i3), (.int i4)] h0 (fun v h L => v = some (.int (1 : Int32)) ∧ Fr n0 L) := by
  refine met_go pn_0 ?_
  intro p e s m below meth c s₁ hx hby hml hown hnm hret hlk hZ e0 X0
  have N0 := Fr.nil n0
  rw [ef_0 m q0 q1 i2 i3 i4]
  refine o_iload 2 X0 hx rfl (hb hby at_0) rfl ?_
  refine o_iconst 3 X0 hx rfl (hb hby at_2) (2 : Int32) rfl ?_
  refine o_iand 4 X0 hx rfl (hb hby at_3) ?_
  suffices j12_1 : Go p.tables e below (EndE s room_1 (fun v h L => v = some (.int (1 : Int32)) ∧ Fr n0 L)) (s₁.setTop (mkF m 12 #[.val (.long q0), .second, .val (.long q1), .second, .val (.int i2), .val (.int i3), .val (.int i4), .unset, .unset, .unset, .unset, .unset, .unset, .unset, .unset, .unset, .unset, .unset, .unset] [(.long (f0_12_s0 i4 q0))])) by
    by_cases hc4_2 : (i4 &&& (2 : Int32)) = (0 : Int32)
    · refine o_ifYes 11 X0 hx (hb hby at_4) (teq hc4_2).1 (by decide) (by decide) ?_
      refine o_lloadN 12 X0 hx rfl (hb hby at_11) rfl ?_
      rw [show (f0_12_s0 i4 q0) = q0 from by unfold f0_12_s0; simp only [if_pos hc4_2]] at j12_1
      exact j12_1
    · refine o_ifNo 7 X0 hx rfl (hb hby at_4) (feq hc4_2).1 ?_
      refine o_lconst 8 X0 hx rfl (hb hby at_7) (0 : Int64) rfl ?_
      refine o_goto 12 X0 hx (hb hby at_8) (by decide) (by decide) ?_
      rw [show (f0_12_s0 i4 q0) = (0 : Int64) from by unfold f0_12_s0; simp only [if_neg hc4_2]] at j12_1
      exact j12_1
  refine o_lstore 14 X0 hx rfl (hb hby at_12) #[.val (.long q0), .second, .val (.long q1), .second, .val (.int i2), .val (.int i3), .val (.int i4), .val (.long (f0_12_s0 i4 q0)), .second, .unset, .unset, .unset, .unset, .unset, .unset, .unset, .unset, .unset, .unset] rfl ?_
  refine o_iload 16 X0 hx rfl (hb hby at_14) rfl ?_
  refine o_iconst 17 X0 hx rfl (hb hby at_16) (1 : Int32) rfl ?_
  refine o_iand 18 X0 hx rfl (hb hby at_17) ?_
  suffices j26_3 : Go p.tables e below (EndE s room_1 (fun v h L => v = some (.int (1 : Int32)) ∧ Fr n0 L)) (s₁.setTop (mkF m 26 #[.val (.long q0), .second, .val (.long q1), .second, .val (.int i2), .val (.int i3), .val (.int i4), .val (.long (f0_12_s0 i4 q0)), .second, .unset, .unset, .unset, .unset, .unset, .unset, .unset, .unset, .unset, .unset] [(.long (f0_26_s0 i4 q1))])) by
    by_cases hc18_4 : (i4 &&& (1 : Int32)) = (0 : Int32)
    · refine o_ifYes 25 X0 hx (hb hby at_18) (teq hc18_4).1 (by decide) (by decide) ?_
      refine o_lloadN 26 X0 hx rfl (hb hby at_25) rfl ?_
      rw [show (f0_26_s0 i4 q1) = q1 from by unfold f0_26_s0; simp only [if_pos hc18_4]] at j26_3
      exact j26_3
    · refine o_ifNo 21 X0 hx rfl (hb hby at_18) (feq hc18_4).1 ?_
      refine o_lconst 22 X0 hx rfl (hb hby at_21) (0 : Int64) rfl ?_
      refine o_goto 26 X0 hx (hb hby at_22) (by decide) (by decide) ?_
      rw [show (f0_26_s0 i4 q1) = (0 : Int64) from by unfold f0_26_s0; simp only [if_neg hc18_4]] at j26_3
      exact j26_3
  refine o_lstore 28 X0 hx rfl (hb hby at_26) #[.val (.long q0), .second, .val (.long q1), .second, .val (.int i2), .val (.int i3), .val (.int i4), .val (.long (f0_12_s0 i4 q0)), .second, .val (.long (f0_26_s0 i4 q1)), .second, .unset, .unset, .unset, .unset, .unset, .unset, .unset, .unset] rfl ?_
  obtain ⟨A, eA⟩ : ∃ A : Int64, (f0_12_s0 i4 q0) = A := ⟨_, rfl⟩
  obtain ⟨B, eB⟩ : ∃ B : Int64, (f0_26_s0 i4 q1) = B := ⟨_, rfl⟩
  rw [eA, eB]
  by_cases hB : B = (0 : Int64)
  · by_cases hA : A = (0 : Int64)
    · refine o_new 31 X0 hx rfl hZ hown (wd_0 hw) (wd_1 hw) (wd_2 hw) e0 (hb hby at_28) (by decide) (by decide) fun T5 h5 a5 g5 X5 e5 E5 A5 D5 => ?_
      have ge6 : n0 ≤ a5 := Nat.le_trans Z0 (Nat.le_of_eq g5.symm)
      have sz7 : n0 ≤ h5.size := Nat.le_trans Z0 E5.1
      have F8 : Fld Z h5 a5 "com/example/whittle/whittle/model/LookUpTable" "words" "[J" .null := D5 (Or.inr (wd_24 hw)) (ty := (.array .long)) (by decide)
      have F9 : Fld Z h5 a5 "com/example/whittle/whittle/model/LookUpTable" "highestSetBit" "J" (.long (0 : Int64)) := D5 (Or.inr (wd_36 hw)) (ty := .long) (by decide)
      refine o_dup 32 X5 hx rfl (hb hby at_31) rfl ?_
      refine o_iconst 33 X5 hx rfl (hb hby at_32) (2 : Int32) rfl ?_
      refine o_newJE 35 X5 hx rfl hZ .long .long rfl rfl (wd_3 hw) e5 (hb hby at_33) (by decide) 2 (by decide) (by decide) (by decide) (by decide) [(0 : Int64), (0 : Int64)] rfl "[J" rfl fun T10 h10 a10 k10 g10 X10 e10 E10 A10 D10 => ?_
      have ne11 : a5 ≠ a10 := Nat.ne_of_lt (Nat.lt_of_lt_of_eq A5.lt g10.symm)
      have ge12 : n0 ≤ a10 := Nat.le_trans sz7 (Nat.le_of_eq g10.symm)
      have F13 : Exa Z h10 a5 "com/example/whittle/whittle/model/LookUpTable" := A5.ext E10
      have F14 : Fld Z h10 a5 "com/example/whittle/whittle/model/LookUpTable" "words" "[J" .null := F8.ext E10
      have F15 : Fld Z h10 a5 "com/example/whittle/whittle/model/LookUpTable" "highestSetBit" "J" (.long (0 : Int64)) := F9.ext E10
      have sz16 : n0 ≤ h10.size := Nat.le_trans sz7 E10.1
      refine o_dup 36 X10 hx rfl (hb hby at_35) rfl ?_
      refine o_iconst 37 X10 hx rfl (hb hby at_36) (0 : Int32) rfl ?_
      refine o_lload 39 X10 hx rfl (hb hby at_37) rfl ?_
      refine o_lastoreX 40 X10 hx rfl hZ e10 A10 (by decide) (Nat.le_of_ble_eq_true rfl) [A, (0 : Int64)] rfl N0 ge12 (hb hby at_39) fun T17 h17 L17 X17 N17 e17 W17 A17 => ?_
      have F18 : Exa Z h17 a5 "com/example/whittle/whittle/model/LookUpTable" := F13.wr W17
      have F19 : Fld Z h17 a5 "com/example/whittle/whittle/model/LookUpTable" "words" "[J" .null := F14.other W17 (Or.inl ne11)
      have F20 : Fld Z h17 a5 "com/example/whittle/whittle/model/LookUpTable" "highestSetBit" "J" (.long (0 : Int64)) := F15.other W17 (Or.inl ne11)
      have F21 : Exa Z h17 a10 "[J" := D10.wr W17
      have sz22 : n0 ≤ h17.size := Nat.le_trans sz16 (Keep.of_wr W17).1
      refine o_dup 41 X17 hx rfl (hb hby at_40) rfl ?_
      refine o_iconst 42 X17 hx rfl (hb hby at_41) (1 : Int32) rfl ?_
      refine o_lload 44 X17 hx rfl (hb hby at_42) rfl ?_
      refine o_lastoreX 45 X17 hx rfl hZ e17 A17 (by decide) (Nat.le_of_ble_eq_true rfl) [A, B] rfl N17 ge12 (hb hby at_44) fun T23 h23 L23 X23 N23 e23 W23 A23 => ?_
      have F24 : Exa Z h23 a5 "com/example/whittle/whittle/model/LookUpTable" := F18.wr W23
      have F25 : Fld Z h23 a5 "com/example/whittle/whittle/model/LookUpTable" "words" "[J" .null := F19.other W23 (Or.inl ne11)
      have F26 : Fld Z h23 a5 "com/example/whittle/whittle/model/LookUpTable" "highestSetBit" "J" (.long (0 : Int64)) := F20.other W23 (Or.inl ne11)
      have F27 : Exa Z h23 a10 "[J" := F21.wr W23
      have sz28 : n0 ≤ h23.size := Nat.le_trans sz22 (Keep.of_wr W23).1
      refine o_callIw 48 X23 hx rfl hZ rfl hown (wd_4 hw) (wd_5 hw) (wd_2 hw) (wd_6 hw) (by decide) e23 N23 (rm1_0 l Z a0 hw a5 a10 k10 A B h23 n0 sz28 ge6 ne11.symm F24 F25 F26 A23 F27 hB hA) pd_laJrV a5 [(.ref a10)] [(.ref a5)] rfl rfl (by rw [hml]; rfl) rfl (hb hby at_45) 1 (Nat.le_of_eq rfl) (by decide) (by decide) (by decide) (by decide) fun v29 T29 L29 LL29 X29 Q29 NF29 => ?_
      obtain ⟨b29, k29, rfl, M29, K29, gb29, gz29, E29, Fw29, Fh29, A29⟩ := Q29
      have NN29 := NF29 M29
      have ne30 : a5 ≠ b29 := Nat.ne_of_lt (Nat.lt_of_lt_of_le F24.lt gz29)
      have ne31 : a10 ≠ b29 := Nat.ne_of_lt (Nat.lt_of_lt_of_le A23.lt gz29)
      have sz32 : n0 ≤ T29.heap.size := Nat.le_trans sz28 K29.1
      show Go p.tables e below (EndE s room_1 (fun v h L => v = some (.int (1 : Int32)) ∧ Fr n0 L)) (T29.setTop (mkF m 48 #[.val (.long q0), .second, .val (.long q1), .second, .val (.int i2), .val (.int i3), .val (.int i4), .val (.long A), .second, .val (.long B), .second, .unset, .unset, .unset, .unset, .unset, .unset, .unset, .unset] [(.ref a5)]))
      refine o_astore 50 X29 hx rfl (hb hby at_48) rfl #[.val (.long q0), .second, .val (.long q1), .second, .val (.int i2), .val (.int i3), .val (.int i4), .val (.long A), .second, .val (.long B), .second, .val (.ref a5), .unset, .unset, .unset, .unset, .unset, .unset, .unset] rfl ?_
      refine o_iconst 51 X29 hx rfl (hb hby at_50) (2 : Int32) rfl ?_
      refine o_newarrI 53 X29 hx rfl hZ .boolean .boolean rfl rfl (wd_37 hw) rfl (hb hby at_51) (by decide) 2 (by decide) (by decide) (by decide) (by decide) [(0 : Int32), (0 : Int32)] rfl fun T33 h33 a33 k33 g33 X33 e33 E33 A33 => ?_
      have ne34 : a5 ≠ a33 := Nat.ne_of_lt (Nat.lt_of_lt_of_eq E29.lt g33.symm)
      have ne35 : b29 ≠ a33 := Nat.ne_of_lt (Nat.lt_of_lt_of_eq A29.lt g33.symm)
      have ge36 : n0 ≤ a33 := Nat.le_trans sz32 (Nat.le_of_eq g33.symm)
      have F37 : Exa Z h33 a5 "com/example/whittle/whittle/model/LookUpTable" := E29.ext E33
      have F38 : Fld Z h33 a5 "com/example/whittle/whittle/model/LookUpTable" "words" "[J" (.ref b29) := Fw29.ext E33
      have F39 : Fld Z h33 a5 "com/example/whittle/whittle/model/LookUpTable" "highestSetBit" "J" (.long (-1 : Int64)) := Fh29.ext E33
      have F40 : Arv Z h33 b29 k29 .long (0 : Int32) ((([] : List Int64)).map Value.long) (.long 0) := A29.ext E33
      have sz41 : n0 ≤ h33.size := Nat.le_trans sz32 E33.1
      refine o_dup 54 X33 hx rfl (hb hby at_53) rfl ?_
      refine o_iconst 55 X33 hx rfl (hb hby at_54) (0 : Int32) rfl ?_
      refine o_iconst 56 X33 hx rfl (hb hby at_55) (0 : Int32) rfl ?_
      refine o_bastoreZX 57 X33 hx rfl hZ e33 A33 (by decide) (Nat.le_of_ble_eq_true rfl) [(nar .boolean (0 : Int32)), (0 : Int32)] rfl NN29 ge36 (hb hby at_56) fun T42 h42 L42 X42 N42 e42 W42 A42 => ?_
      have F43 : Exa Z h42 a5 "com/example/whittle/whittle/model/LookUpTable" := F37.wr W42
      have F44 : Fld Z h42 a5 "com/example/whittle/whittle/model/LookUpTable" "words" "[J" (.ref b29) := F38.other W42 (Or.inl ne34)
      have F45 : Fld Z h42 a5 "com/example/whittle/whittle/model/LookUpTable" "highestSetBit" "J" (.long (-1 : Int64)) := F39.other W42 (Or.inl ne34)
      have F46 : Arv Z h42 b29 k29 .long (0 : Int32) ((([] : List Int64)).map Value.long) (.long 0) := F40.other W42 ne35
      have sz47 : n0 ≤ h42.size := Nat.le_trans sz41 (Keep.of_wr W42).1
      refine o_dup 58 X42 hx rfl (hb hby at_57) rfl ?_
      refine o_iconst 59 X42 hx rfl (hb hby at_58) (1 : Int32) rfl ?_
      refine o_iconst 60 X42 hx rfl (hb hby at_59) (1 : Int32) rfl ?_
      refine o_bastoreZX 61 X42 hx rfl hZ e42 A42 (by decide) (Nat.le_of_ble_eq_true rfl) [(nar .boolean (0 : Int32)), (nar .boolean (1 : Int32))] rfl N42 ge36 (hb hby at_60) fun T48 h48 L48 X48 N48 e48 W48 A48 => ?_
      have F49 : Exa Z h48 a5 "com/example/whittle/whittle/model/LookUpTable" := F43.wr W48
      have F50 : Fld Z h48 a5 "com/example/whittle/whittle/model/LookUpTable" "words" "[J" (.ref b29) := F44.other W48 (Or.inl ne34)
      have F51 : Fld Z h48 a5 "com/example/whittle/whittle/model/LookUpTable" "highestSetBit" "J" (.long (-1 : Int64)) := F45.other W48 (Or.inl ne34)
      have F52 : Arv Z h48 b29 k29 .long (0 : Int32) ((([] : List Int64)).map Value.long) (.long 0) := F46.other W48 ne35
      have sz53 : n0 ≤ h48.size := Nat.le_trans sz47 (Keep.of_wr W48).1
      refine o_astore 63 X48 hx rfl (hb hby at_61) rfl #[.val (.long q0), .second, .val (.long q1), .second, .val (.int i2), .val (.int i3), .val (.int i4), .val (.long A), .second, .val (.long B), .second, .val (.ref a5), .val (.ref a33), .unset, .unset, .unset, .unset, .unset, .unset] rfl ?_
      have F54 : Arv Z h48 a33 k33 .boolean (2 : Int32) ([(0 : Int32), (1 : Int32)].map Value.int) (.int 0) := A48
      refine o_bipush 65 X48 hx rfl (hb hby at_63) (66 : Int32) rfl ?_
      refine o_newarrI 67 X48 hx rfl hZ .int .int rfl rfl (wd_38 hw) e48 (hb hby at_65) (by decide) 66 (by decide) (by decide) (by decide) (by decide) [(0 : Int32), (0 : Int32), (0 : Int32), (0 : Int32), (0 : Int32), (0 : Int32), (0 : Int32), (0 : Int32), (0 : Int32), (0 : Int32), (0 : Int32), (0 : Int32), (0 : Int32), (0 : Int32), (0 : Int32), (0 : Int32), (0 : Int32), (0 : Int32), (0 : Int32), (0 : Int32), (0 : Int32), (0 : Int32), (0 : Int32), (0 : Int32), (0 : Int32), (0 : Int32), (0 : Int32), (0 : Int32), (0 : Int32), (0 : Int32), (0 : Int32), (0 : Int32), (0 : Int32), (0 : Int32), (0 : Int32), (0 : Int32), (0 : Int32), (0 : Int32), (0 : Int32), (0 : Int32), (0 : Int32), (0 : Int32), (0 : Int32), (0 : Int32), (0 : Int32), (0 : Int32), (0 : Int32), (0 : Int32), (0 : Int32), (0 : Int32), (0 : Int32), (0 : Int32), (0 : Int32), (0 : Int32), (0 : Int32), (0 : Int32), (0 : Int32), (0 : Int32), (0 : Int32), (0 : Int32), (0 : Int32), (0 : Int32), (0 : Int32), (0 : Int32), (0 : Int32), (0 : Int32)] rfl fun T55 h55 a55 k55 g55 X55 e55 E55 A55 => ?_
      have ne56 : a5 ≠ a55 := Nat.ne_of_lt (Nat.lt_of_lt_of_eq F49.lt g55.symm)
      have ne57 : b29 ≠ a55 := Nat.ne_of_lt (Nat.lt_of_lt_of_eq F52.lt g55.symm)
      have ne58 : a33 ≠ a55 := Nat.ne_of_lt (Nat.lt_of_lt_of_eq F54.lt g55.symm)
      have ge59 : n0 ≤ a55 := Nat.le_trans sz53 (Nat.le_of_eq g55.symm)
      have F60 : Exa Z h55 a5 "com/example/whittle/whittle/model/LookUpTable" := F49.ext E55
      have F61 : Fld Z h55 a5 "com/example/whittle/whittle/model/LookUpTable" "words" "[J" (.ref b29) := F50.ext E55
      have F62 : Fld Z h55 a5 "com/example/whittle/whittle/model/LookUpTable" "highestSetBit" "J" (.long (-1 : Int64)) := F51.ext E55
      have F63 : Arv Z h55 b29 k29 .long (0 : Int32) ((([] : List Int64)).map Value.long) (.long 0) := F52.ext E55
      have F64 : Arv Z h55 a33 k33 .boolean (2 : Int32) ([(0 : Int32), (1 : Int32)].map Value.int) (.int 0) := F54.ext E55
      have sz65 : n0 ≤ h55.size := Nat.le_trans sz53 E55.1
      refine o_astore 69 X55 hx rfl (hb hby at_67) rfl #[.val (.long q0), .second, .val (.long q1), .second, .val (.int i2), .val (.int i3), .val (.int i4), .val (.long A), .second, .val (.long B), .second, .val (.ref a5), .val (.ref a33), .val (.ref a55), .unset, .unset, .unset, .unset, .unset] rfl ?_
      refine o_aload 71 X55 hx rfl (hb hby at_69) rfl rfl ?_
      refine o_iconst 72 X55 hx rfl (hb hby at_71) (0 : Int32) rfl ?_
      refine o_iload 74 X55 hx rfl (hb hby at_72) rfl ?_
      refine o_iconst 75 X55 hx rfl (hb hby at_74) (1 : Int32) rfl ?_
      refine o_iand 76 X55 hx rfl (hb hby at_75) ?_
      refine o_iastoreX 77 X55 hx rfl hZ e55 A55 (by decide) (Nat.le_of_ble_eq_true rfl) [(i2 &&& (1 : Int32)), (0 : Int32), (0 : Int32), (0 : Int32), (0 : Int32), (0 : Int32), (0 : Int32), (0 : Int32), (0 : Int32), (0 : Int32), (0 : Int32), (0 : Int32), (0 : Int32), (0 : Int32), (0 : Int32), (0 : Int32), (0 : Int32), (0 : Int32), (0 : Int32), (0 : Int32), (0 : Int32), (0 : Int32), (0 : Int32), (0 : Int32), (0 : Int32), (0 : Int32), (0 : Int32), (0 : Int32), (0 : Int32), (0 : Int32), (0 : Int32), (0 : Int32), (0 : Int32), (0 : Int32), (0 : Int32), (0 : Int32), (0 : Int32), (0 : Int32), (0 : Int32), (0 : Int32), (0 : Int32), (0 : Int32), (0 : Int32), (0 : Int32), (0 : Int32), (0 : Int32), (0 : Int32), (0 : Int32), (0 : Int32), (0 : Int32), (0 : Int32), (0 : Int32), (0 : Int32), (0 : Int32), (0 : Int32), (0 : Int32), (0 : Int32), (0 : Int32), (0 : Int32), (0 : Int32), (0 : Int32), (0 : Int32), (0 : Int32), (0 : Int32), (0 : Int32), (0 : Int32)] rfl N48 ge59 (hb hby at_76) fun T66 h66 L66 X66 N66 e66 W66 A66 => ?_
      have F67 : Exa Z h66 a5 "com/example/whittle/whittle/model/LookUpTable" := F60.wr W66
      have F68 : Fld Z h66 a5 "com/example/whittle/whittle/model/LookUpTable" "words" "[J" (.ref b29) := F61.other W66 (Or.inl ne56)
      have F69 : Fld Z h66 a5 "com/example/whittle/whittle/model/LookUpTable" "highestSetBit" "J" (.long (-1 : Int64)) := F62.other W66 (Or.inl ne56)
      have F70 : Arv Z h66 b29 k29 .long (0 : Int32) ((([] : List Int64)).map Value.long) (.long 0) := F63.other W66 ne57
      have F71 : Arv Z h66 a33 k33 .boolean (2 : Int32) ([(0 : Int32), (1 : Int32)].map Value.int) (.int 0) := F64.other W66 ne58
      have sz72 : n0 ≤ h66.size := Nat.le_trans sz65 (Keep.of_wr W66).1
      refine o_aload 79 X66 hx rfl (hb hby at_77) rfl rfl ?_
      refine o_iconst 80 X66 hx rfl (hb hby at_79) (1 : Int32) rfl ?_
      refine o_iload 82 X66 hx rfl (hb hby at_80) rfl ?_
      refine o_iconst 83 X66 hx rfl (hb hby at_82) (1 : Int32) rfl ?_
      refine o_iushr 84 X66 hx rfl (hb hby at_83) ?_
      refine o_iconst 85 X66 hx rfl (hb hby at_84) (1 : Int32) rfl ?_
      refine o_iand 86 X66 hx rfl (hb hby at_85) ?_
      refine o_iastoreX 87 X66 hx rfl hZ e66 A66 (by decide) (Nat.le_of_ble_eq_true rfl) [(i2 &&& (1 : Int32)), (((i2.toUInt32 >>> ((1 : Int32) &&& 31).toUInt32).toInt32) &&& (1 : Int32)), (0 : Int32), (0 : Int32), (0 : Int32), (0 : Int32), (0 : Int32), (0 : Int32), (0 : Int32), (0 : Int32), (0 : Int32), (0 : Int32), (0 : Int32), (0 : Int32), (0 : Int32), (0 : Int32), (0 : Int32), (0 : Int32), (0 : Int32), (0 : Int32), (0 : Int32), (0 : Int32), (0 : Int32), (0 : Int32), (0 : Int32), (0 : Int32), (0 : Int32), (0 : Int32), (0 : Int32), (0 : Int32), (0 : Int32), (0 : Int32), (0 : Int32), (0 : Int32), (0 : Int32), (0 : Int32), (0 : Int32), (0 : Int32), (0 : Int32), (0 : Int32), (0 : Int32), (0 : Int32), (0 : Int32), (0 : Int32), (0 : Int32), (0 : Int32), (0 : Int32), (0 : Int32), (0 : Int32), (0 : Int32), (0 : Int32), (0 : Int32), (0 : Int32), (0 : Int32), (0 : Int32), (0 : Int32), (0 : Int32), (0 : Int32), (0 : Int32), (0 : Int32), (0 : Int32), (0 : Int32), (0 : Int32), (0 : Int32), (0 : Int32), (0 : Int32)] rfl N66 ge59 (hb hby at_86) fun T73 h73 L73 X73 N73 e73 W73 A73 => ?_
      have F74 : Exa Z h73 a5 "com/example/whittle/whittle/model/LookUpTable" := F67.wr W73
      have F75 : Fld Z h73 a5 "com/example/whittle/whittle/model/LookUpTable" "words" "[J" (.ref b29) := F68.other W73 (Or.inl ne56)
      have F76 : Fld Z h73 a5 "com/example/whittle/whittle/model/LookUpTable" "highestSetBit" "J" (.long (-1 : Int64)) := F69.other W73 (Or.inl ne56)
      have F77 : Arv Z h73 b29 k29 .long (0 : Int32) ((([] : List Int64)).map Value.long) (.long 0) := F70.other W73 ne57
      have F78 : Arv Z h73 a33 k33 .boolean (2 : Int32) ([(0 : Int32), (1 : Int32)].map Value.int) (.int 0) := F71.other W73 ne58
      have sz79 : n0 ≤ h73.size := Nat.le_trans sz72 (Keep.of_wr W73).1
      refine o_aload 89 X73 hx rfl (hb hby at_87) rfl rfl ?_
      refine o_iconst 90 X73 hx rfl (hb hby at_89) (2 : Int32) rfl ?_
      refine o_iload 92 X73 hx rfl (hb hby at_90) rfl ?_
      refine o_iconst 93 X73 hx rfl (hb hby at_92) (2 : Int32) rfl ?_
      refine o_iushr 94 X73 hx rfl (hb hby at_93) ?_
      refine o_iconst 95 X73 hx rfl (hb hby at_94) (1 : Int32) rfl ?_
      refine o_iand 96 X73 hx rfl (hb hby at_95) ?_
      refine o_iastoreX 97 X73 hx rfl hZ e73 A73 (by decide) (Nat.le_of_ble_eq_true rfl) [(i2 &&& (1 : Int32)), (((i2.toUInt32 >>> ((1 : Int32) &&& 31).toUInt32).toInt32) &&& (1 : Int32)), (((i2.toUInt32 >>> ((2 : Int32) &&& 31).toUInt32).toInt32) &&& (1 : Int32)), (0 : Int32), (0 : Int32), (0 : Int32), (0 : Int32), (0 : Int32), (0 : Int32), (0 : Int32), (0 : Int32), (0 : Int32), (0 : Int32), (0 : Int32), (0 : Int32), (0 : Int32), (0 : Int32), (0 : Int32), (0 : Int32), (0 : Int32), (0 : Int32), (0 : Int32), (0 : Int32), (0 : Int32), (0 : Int32), (0 : Int32), (0 : Int32), (0 : Int32), (0 : Int32), (0 : Int32), (0 : Int32), (0 : Int32), (0 : Int32), (0 : Int32), (0 : Int32), (0 : Int32), (0 : Int32), (0 : Int32), (0 : Int32), (0 : Int32), (0 : Int32), (0 : Int32), (0 : Int32), (0 : Int32), (0 : Int32), (0 : Int32), (0 : Int32), (0 : Int32), (0 : Int32), (0 : Int32), (0 : Int32), (0 : Int32), (0 : Int32), (0 : Int32), (0 : Int32), (0 : Int32), (0 : Int32), (0 : Int32), (0 : Int32), (0 : Int32), (0 : Int32), (0 : Int32), (0 : Int32), (0 : Int32), (0 : Int32), (0 : Int32)] rfl N73 ge59 (hb hby at_96) fun T80 h80 L80 X80 N80 e80 W80 A80 => ?_
      have F81 : Exa Z h80 a5 "com/example/whittle/whittle/model/LookUpTable" := F74.wr W80
      have F82 : Fld Z h80 a5 "com/example/whittle/whittle/model/LookUpTable" "words" "[J" (.ref b29) := F75.other W80 (Or.inl ne56)
      have F83 : Fld Z h80 a5 "com/example/whittle/whittle/model/LookUpTable" "highestSetBit" "J" (.long (-1 : Int64)) := F76.other W80 (Or.inl ne56)
      have F84 : Arv Z h80 b29 k29 .long (0 : Int32) ((([] : List Int64)).map Value.long) (.long 0) := F77.other W80 ne57
      have F85 : Arv Z h80 a33 k33 .boolean (2 : Int32) ([(0 : Int32), (1 : Int32)].map Value.int) (.int 0) := F78.other W80 ne58
      have sz86 : n0 ≤ h80.size := Nat.le_trans sz79 (Keep.of_wr W80).1
      refine o_aload 99 X80 hx rfl (hb hby at_97) rfl rfl ?_
      refine o_iconst 100 X80 hx rfl (hb hby at_99) (3 : Int32) rfl ?_
      refine o_iload 102 X80 hx rfl (hb hby at_100) rfl ?_
      refine o_iconst 103 X80 hx rfl (hb hby at_102) (3 : Int32) rfl ?_
      refine o_iushr 104 X80 hx rfl (hb hby at_103) ?_
      refine o_iconst 105 X80 hx rfl (hb hby at_104) (1 : Int32) rfl ?_
      refine o_iand 106 X80 hx rfl (hb hby at_105) ?_
      refine o_iastoreX 107 X80 hx rfl hZ e80 A80 (by decide) (Nat.le_of_ble_eq_true rfl) [(i2 &&& (1 : Int32)), (((i2.toUInt32 >>> ((1 : Int32) &&& 31).toUInt32).toInt32) &&& (1 : Int32)), (((i2.toUInt32 >>> ((2 : Int32) &&& 31).toUInt32).toInt32) &&& (1 : Int32)), (((i2.toUInt32 >>> ((3 : Int32) &&& 31).toUInt32).toInt32) &&& (1 : Int32)), (0 : Int32), (0 : Int32), (0 : Int32), (0 : Int32), (0 : Int32), (0 : Int32), (0 : Int32), (0 : Int32), (0 : Int32), (0 : Int32), (0 : Int32), (0 : Int32), (0 : Int32), (0 : Int32), (0 : Int32), (0 : Int32), (0 : Int32), (0 : Int32), (0 : Int32), (0 : Int32), (0 : Int32), (0 : Int32), (0 : Int32), (0 : Int32), (0 : Int32), (0 : Int32), (0 : Int32), (0 : Int32), (0 : Int32), (0 : Int32), (0 : Int32), (0 : Int32), (0 : Int32), (0 : Int32), (0 : Int32), (0 : Int32), (0 : Int32), (0 : Int32), (0 : Int32), (0 : Int32), (0 : Int32), (0 : Int32), (0 : Int32), (0 : Int32), (0 : Int32), (0 : Int32), (0 : Int32), (0 : Int32), (0 : Int32), (0 : Int32), (0 : Int32), (0 : Int32), (0 : Int32), (0 : Int32), (0 : Int32), (0 : Int32), (0 : Int32), (0 : Int32), (0 : Int32), (0 : Int32), (0 : Int32), (0 : Int32)] rfl N80 ge59 (hb hby at_106) fun T87 h87 L87 X87 N87 e87 W87 A87 => ?_
      have F88 : Exa Z h87 a5 "com/example/whittle/whittle/model/LookUpTable" := F81.wr W87
      have F89 : Fld Z h87 a5 "com/example/whittle/whittle/model/LookUpTable" "words" "[J" (.ref b29) := F82.other W87 (Or.inl ne56)
      have F90 : Fld Z h87 a5 "com/example/whittle/whittle/model/LookUpTable" "highestSetBit" "J" (.long (-1 : Int64)) := F83.other W87 (Or.inl ne56)
      have F91 : Arv Z h87 b29 k29 .long (0 : Int32) ((([] : List Int64)).map Value.long) (.long 0) := F84.other W87 ne57
      have F92 : Arv Z h87 a33 k33 .boolean (2 : Int32) ([(0 : Int32), (1 : Int32)].map Value.int) (.int 0) := F85.other W87 ne58
      have sz93 : n0 ≤ h87.size := Nat.le_trans sz86 (Keep.of_wr W87).1
      refine o_aload 109 X87 hx rfl (hb hby at_107) rfl rfl ?_
      refine o_iconst 110 X87 hx rfl (hb hby at_109) (4 : Int32) rfl ?_
      refine o_iload 112 X87 hx rfl (hb hby at_110) rfl ?_
      refine o_iconst 113 X87 hx rfl (hb hby at_112) (4 : Int32) rfl ?_
      refine o_iushr 114 X87 hx rfl (hb hby at_113) ?_
      refine o_iconst 115 X87 hx rfl (hb hby at_114) (1 : Int32) rfl ?_
      refine o_iand 116 X87 hx rfl (hb hby at_115) ?_
      refine o_iastoreX 117 X87 hx rfl hZ e87 A87 (by decide) (Nat.le_of_ble_eq_true rfl) [(i2 &&& (1 : Int32)), (((i2.toUInt32 >>> ((1 : Int32) &&& 31).toUInt32).toInt32) &&& (1 : Int32)), (((i2.toUInt32 >>> ((2 : Int32) &&& 31).toUInt32).toInt32) &&& (1 : Int32)), (((i2.toUInt32 >>> ((3 : Int32) &&& 31).toUInt32).toInt32) &&& (1 : Int32)), (((i2.toUInt32 >>> ((4 : Int32) &&& 31).toUInt32).toInt32) &&& (1 : Int32)), (0 : Int32), (0 : Int32), (0 : Int32), (0 : Int32), (0 : Int32), (0 : Int32), (0 : Int32), (0 : Int32), (0 : Int32), (0 : Int32), (0 : Int32), (0 : Int32), (0 : Int32), (0 : Int32), (0 : Int32), (0 : Int32), (0 : Int32), (0 : Int32), (0 : Int32), (0 : Int32), (0 : Int32), (0 : Int32), (0 : Int32), (0 : Int32), (0 : Int32), (0 : Int32), (0 : Int32), (0 : Int32), (0 : Int32), (0 : Int32), (0 : Int32), (0 : Int32), (0 : Int32), (0 : Int32), (0 : Int32), (0 : Int32), (0 : Int32), (0 : Int32), (0 : Int32), (0 : Int32), (0 : Int32), (0 : Int32), (0 : Int32), (0 : Int32), (0 : Int32), (0 : Int32), (0 : Int32), (0 : Int32), (0 : Int32), (0 : Int32), (0 : Int32), (0 : Int32), (0 : Int32), (0 : Int32), (0 : Int32), (0 : Int32), (0 : Int32), (0 : Int32), (0 : Int32), (0 : Int32), (0 : Int32)] rfl N87 ge59 (hb hby at_116) fun T94 h94 L94 X94 N94 e94 W94 A94 => ?_
      have F95 : Exa Z h94 a5 "com/example/whittle/whittle/model/LookUpTable" := F88.wr W94
      have F96 : Fld Z h94 a5 "com/example/whittle/whittle/model/LookUpTable" "words" "[J" (.ref b29) := F89.other W94 (Or.inl ne56)
      have F97 : Fld Z h94 a5 "com/example/whittle/whittle/model/LookUpTable" "highestSetBit" "J" (.long (-1 : Int64)) := F90.other W94 (Or.inl ne56)
      have F98 : Arv Z h94 b29 k29 .long (0 : Int32) ((([] : List Int64)).map Value.long) (.long 0) := F91.other W94 ne57
      have F99 : Arv Z h94 a33 k33 .boolean (2 : Int32) ([(0 : Int32), (1 : Int32)].map Value.int) (.int 0) := F92.other W94 ne58
      have sz100 : n0 ≤ h94.size := Nat.le_trans sz93 (Keep.of_wr W94).1
      refine o_aload 119 X94 hx rfl (hb hby at_117) rfl rfl ?_
      refine o_iconst 120 X94 hx rfl (hb hby at_119) (5 : Int32) rfl ?_
      refine o_iload 122 X94 hx rfl (hb hby at_120) rfl ?_
      refine o_iconst 123 X94 hx rfl (hb hby at_122) (5 : Int32) rfl ?_
      refine o_iushr 124 X94 hx rfl (hb hby at_123) ?_
      refine o_iconst 125 X94 hx rfl (hb hby at_124) (1 : Int32) rfl ?_
      refine o_iand 126 X94 hx rfl (hb hby at_125) ?_
      refine o_iastoreX 127 X94 hx rfl hZ e94 A94 (by decide) (Nat.le_of_ble_eq_true rfl) [(i2 &&& (1 : Int32)), (((i2.toUInt32 >>> ((1 : Int32) &&& 31).toUInt32).toInt32) &&& (1 : Int32)), (((i2.toUInt32 >>> ((2 : Int32) &&& 31).toUInt32).toInt32) &&& (1 : Int32)), (((i2.toUInt32 >>> ((3 : Int32) &&& 31).toUInt32).toInt32) &&& (1 : Int32)), (((i2.toUInt32 >>> ((4 : Int32) &&& 31).toUInt32).toInt32) &&& (1 : Int32)), (((i2.toUInt32 >>> ((5 : Int32) &&& 31).toUInt32).toInt32) &&& (1 : Int32)), (0 : Int32), (0 : Int32), (0 : Int32), (0 : Int32), (0 : Int32), (0 : Int32), (0 : Int32), (0 : Int32), (0 : Int32), (0 : Int32), (0 : Int32), (0 : Int32), (0 : Int32), (0 : Int32), (0 : Int32), (0 : Int32), (0 : Int32), (0 : Int32), (0 : Int32), (0 : Int32), (0 : Int32), (0 : Int32), (0 : Int32), (0 : Int32), (0 : Int32), (0 : Int32), (0 : Int32), (0 : Int32), (0 : Int32), (0 : Int32), (0 : Int32), (0 : Int32), (0 : Int32), (0 : Int32), (0 : Int32), (0 : Int32), (0 : Int32), (0 : Int32), (0 : Int32), (0 : Int32), (0 : Int32), (0 : Int32), (0 : Int32), (0 : Int32), (0 : Int32), (0 : Int32), (0 : Int32), (0 : Int32), (0 : Int32), (0 : Int32), (0 : Int32), (0 : Int32), (0 : Int32), (0 : Int32), (0 : Int32), (0 : Int32), (0 : Int32), (0 : Int32), (0 : Int32), (0 : Int32)] rfl N94 ge59 (hb hby at_126) fun T101 h101 L101 X101 N101 e101 W101 A101 => ?_
      have F102 : Exa Z h101 a5 "com/example/whittle/whittle/model/LookUpTable" := F95.wr W101
      have F103 : Fld Z h101 a5 "com/example/whittle/whittle/model/LookUpTable" "words" "[J" (.ref b29) := F96.other W101 (Or.inl ne56)
      have F104 : Fld Z h101 a5 "com/example/whittle/whittle/model/LookUpTable" "highestSetBit" "J" (.long (-1 : Int64)) := F97.other W101 (Or.inl ne56)
      have F105 : Arv Z h101 b29 k29 .long (0 : Int32) ((([] : List Int64)).map Value.long) (.long 0) := F98.other W101 ne57
      have F106 : Arv Z h101 a33 k33 .boolean (2 : Int32) ([(0 : Int32), (1 : Int32)].map Value.int) (.int 0) := F99.other W101 ne58
      have sz107 : n0 ≤ h101.size := Nat.le_trans sz100 (Keep.of_wr W101).1
      refine o_aload 129 X101 hx rfl (hb hby at_127) rfl rfl ?_
      refine o_bipush 131 X101 hx rfl (hb hby at_129) (6 : Int32) rfl ?_
      refine o_iload 133 X101 hx rfl (hb hby at_131) rfl ?_
      refine o_bipush 135 X101 hx rfl (hb hby at_133) (6 : Int32) rfl ?_
      refine o_iushr 136 X101 hx rfl (hb hby at_135) ?_
      refine o_iconst 137 X101 hx rfl (hb hby at_136) (1 : Int32) rfl ?_
      refine o_iand 138 X101 hx rfl (hb hby at_137) ?_
      refine o_iastoreX 139 X101 hx rfl hZ e101 A101 (by decide) (Nat.le_of_ble_eq_true rfl) [(i2 &&& (1 : Int32)), (((i2.toUInt32 >>> ((1 : Int32) &&& 31).toUInt32).toInt32) &&& (1 : Int32)), (((i2.toUInt32 >>> ((2 : Int32) &&& 31).toUInt32).toInt32) &&& (1 : Int32)), (((i2.toUInt32 >>> ((3 : Int32) &&& 31).toUInt32).toInt32) &&& (1 : Int32)), (((i2.toUInt32 >>> ((4 : Int32) &&& 31).toUInt32).toInt32) &&& (1 : Int32)), (((i2.toUInt32 >>> ((5 : Int32) &&& 31).toUInt32).toInt32) &&& (1 : Int32)), (((i2.toUInt32 >>> ((6 : Int32) &&& 31).toUInt32).toInt32) &&& (1 : Int32)), (0 : Int32), (0 : Int32), (0 : Int32), (0 : Int32), (0 : Int32), (0 : Int32), (0 : Int32), (0 : Int32), (0 : Int32), (0 : Int32), (0 : Int32), (0 : Int32), (0 : Int32), (0 : Int32), (0 : Int32), (0 : Int32), (0 : Int32), (0 : Int32), (0 : Int32), (0 : Int32), (0 : Int32), (0 : Int32), (0 : Int32), (0 : Int32), (0 : Int32), (0 : Int32), (0 : Int32), (0 : Int32), (0 : Int32), (0 : Int32), (0 : Int32), (0 : Int32), (0 : Int32), (0 : Int32), (0 : Int32), (0 : Int32), (0 : Int32), (0 : Int32), (0 : Int32), (0 : Int32), (0 : Int32), (0 : Int32), (0 : Int32), (0 : Int32), (0 : Int32), (0 : Int32), (0 : Int32), (0 : Int32), (0 : Int32), (0 : Int32), (0 : Int32), (0 : Int32), (0 : Int32), (0 : Int32), (0 : Int32), (0 : Int32), (0 : Int32), (0 : Int32), (0 : Int32)] rfl N101 ge59 (hb hby at_138) fun T108 h108 L108 X108 N108 e108 W108 A108 => ?_
      have F109 : Exa Z h108 a5 "com/example/whittle/whittle/model/LookUpTable" := F102.wr W108
      have F110 : Fld Z h108 a5 "com/example/whittle/whittle/model/LookUpTable" "words" "[J" (.ref b29) := F103.other W108 (Or.inl ne56)
      have F111 : Fld Z h108 a5 "com/example/whittle/whittle/model/LookUpTable" "highestSetBit" "J" (.long (-1 : Int64)) := F104.other W108 (Or.inl ne56)
      have F112 : Arv Z h108 b29 k29 .long (0 : Int32) ((([] : List Int64)).map Value.long) (.long 0) := F105.other W108 ne57
      have F113 : Arv Z h108 a33 k33 .boolean (2 : Int32) ([(0 : Int32), (1 : Int32)].map Value.int) (.int 0) := F106.other W108 ne58
      have sz114 : n0 ≤ h108.size := Nat.le_trans sz107 (Keep.of_wr W108).1
      refine o_aload 141 X108 hx rfl (hb hby at_139) rfl rfl ?_
      refine o_bipush 143 X108 hx rfl (hb hby at_141) (7 : Int32) rfl ?_
      refine o_iload 145 X108 hx rfl (hb hby at_143) rfl ?_
      refine o_bipush 147 X108 hx rfl (hb hby at_145) (7 : Int32) rfl ?_
      refine o_iushr 148 X108 hx rfl (hb hby at_147) ?_
      refine o_iconst 149 X108 hx rfl (hb hby at_148) (1 : Int32) rfl ?_
      refine o_iand 150 X108 hx rfl (hb hby at_149) ?_
      refine o_iastoreX 151 X108 hx rfl hZ e108 A108 (by decide) (Nat.le_of_ble_eq_true rfl) [(i2 &&& (1 : Int32)), (((i2.toUInt32 >>> ((1 : Int32) &&& 31).toUInt32).toInt32) &&& (1 : Int32)), (((i2.toUInt32 >>> ((2 : Int32) &&& 31).toUInt32).toInt32) &&& (1 : Int32)), (((i2.toUInt32 >>> ((3 : Int32) &&& 31).toUInt32).toInt32) &&& (1 : Int32)), (((i2.toUInt32 >>> ((4 : Int32) &&& 31).toUInt32).toInt32) &&& (1 : Int32)), (((i2.toUInt32 >>> ((5 : Int32) &&& 31).toUInt32).toInt32) &&& (1 : Int32)), (((i2.toUInt32 >>> ((6 : Int32) &&& 31).toUInt32).toInt32) &&& (1 : Int32)), (((i2.toUInt32 >>> ((7 : Int32) &&& 31).toUInt32).toInt32) &&& (1 : Int32)), (0 : Int32), (0 : Int32), (0 : Int32), (0 : Int32), (0 : Int32), (0 : Int32), (0 : Int32), (0 : Int32), (0 : Int32), (0 : Int32), (0 : Int32), (0 : Int32), (0 : Int32), (0 : Int32), (0 : Int32), (0 : Int32), (0 : Int32), (0 : Int32), (0 : Int32), (0 : Int32), (0 : Int32), (0 : Int32), (0 : Int32), (0 : Int32), (0 : Int32), (0 : Int32), (0 : Int32), (0 : Int32), (0 : Int32), (0 : Int32), (0 : Int32), (0 : Int32), (0 : Int32), (0 : Int32), (0 : Int32), (0 : Int32), (0 : Int32), (0 : Int32), (0 : Int32), (0 : Int32), (0 : Int32), (0 : Int32), (0 : Int32), (0 : Int32), (0 : Int32), (0 : Int32), (0 : Int32), (0 : Int32), (0 : Int32), (0 : Int32), (0 : Int32), (0 : Int32), (0 : Int32), (0 : Int32), (0 : Int32), (0 : Int32), (0 : Int32), (0 : Int32)] rfl N108 ge59 (hb hby at_150) fun T115 h115 L115 X115 N115 e115 W115 A115 => ?_
      have F116 : Exa Z h115 a5 "com/example/whittle/whittle/model/LookUpTable" := F109.wr W115
      have F117 : Fld Z h115 a5 "com/example/whittle/whittle/model/LookUpTable" "words" "[J" (.ref b29) := F110.other W115 (Or.inl ne56)
      have F118 : Fld Z h115 a5 "com/example/whittle/whittle/model/LookUpTable" "highestSetBit" "J" (.long (-1 : Int64)) := F111.other W115 (Or.inl ne56)
      have F119 : Arv Z h115 b29 k29 .long (0 : Int32) ((([] : List Int64)).map Value.long) (.long 0) := F112.other W115 ne57
      have F120 : Arv Z h115 a33 k33 .boolean (2 : Int32) ([(0 : Int32), (1 : Int32)].map Value.int) (.int 0) := F113.other W115 ne58
      have sz121 : n0 ≤ h115.size := Nat.le_trans sz114 (Keep.of_wr W115).1
      have F122 : Arv Z h115 a55 k55 .int (66 : Int32) (((own_in i2)).map Value.int) (.int 0) := A115
      refine o_iload 153 X115 hx rfl (hb hby at_151) rfl ?_
      refine o_iconst 154 X115 hx rfl (hb hby at_153) (4 : Int32) rfl ?_
      refine o_iand 155 X115 hx rfl (hb hby at_154) ?_
      suffices j163_123 : Go p.tables e below (EndE s room_1 (fun v h L => v = some (.int (1 : Int32)) ∧ Fr n0 L)) (T115.setTop (mkF m 163 #[.val (.long q0), .second, .val (.long q1), .second, .val (.int i2), .val (.int i3), .val (.int i4), .val (.long A), .second, .val (.long B), .second, .val (.ref a5), .val (.ref a33), .val (.ref a55), .unset, .unset, .unset, .unset, .unset] [(.int (f0_163_s0 i4))])) by
        by_cases hc155_124 : (i4 &&& (4 : Int32)) = (0 : Int32)
        · refine o_ifYes 162 X115 hx (hb hby at_155) (teq hc155_124).1 (by decide) (by decide) ?_
          refine o_iconst 163 X115 hx rfl (hb hby at_162) (0 : Int32) rfl ?_
          rw [show (f0_163_s0 i4) = (0 : Int32) from by unfold f0_163_s0; simp only [if_pos hc155_124]] at j163_123
          exact j163_123
        · refine o_ifNo 158 X115 hx rfl (hb hby at_155) (feq hc155_124).1 ?_
          refine o_iconst 159 X115 hx rfl (hb hby at_158) (1 : Int32) rfl ?_
          refine o_goto 163 X115 hx (hb hby at_159) (by decide) (by decide) ?_
          rw [show (f0_163_s0 i4) = (1 : Int32) from by unfold f0_163_s0; simp only [if_neg hc155_124]] at j163_123
          exact j163_123
      refine o_istore 165 X115 hx rfl (hb hby at_163) #[.val (.long q0), .second, .val (.long q1), .second, .val (.int i2), .val (.int i3), .val (.int i4), .val (.long A), .second, .val (.long B), .second, .val (.ref a5), .val (.ref a33), .val (.ref a55), .val (.int (f0_163_s0 i4)), .unset, .unset, .unset, .unset] rfl ?_
      have hex : (f0_163_s0 i4) = 0 ∨ (f0_163_s0 i4) = 1 := own_ex i4
      generalize (f0_163_s0 i4) = ex at hex ⊢
      refine o_iload 167 X115 hx rfl (hb hby at_165) rfl ?_
      refine o_ldcInt 169 X115 hx rfl hZ hown (wd_39 hw) (hb hby at_167) ?_
      refine o_iand 170 X115 hx rfl (hb hby at_169) ?_
      refine o_bipush 172 X115 hx rfl (hb hby at_170) (66 : Int32) rfl ?_
      refine o_irem 173 X115 hx rfl (hb hby at_172) (by decide) ?_
      obtain ⟨P, hP, hp⟩ := own_P i3
      rw [hp]
      refine o_istore 175 X115 hx rfl (hb hby at_173) #[.val (.long q0), .second, .val (.long q1), .second, .val (.int i2), .val (.int i3), .val (.int i4), .val (.long A), .second, .val (.long B), .second, .val (.ref a5), .val (.ref a33), .val (.ref a55), .val (.int ex), .val (.int (Int32.ofNat P)), .unset, .unset, .unset] rfl ?_
      refine o_iload 177 X115 hx rfl (hb hby at_175) rfl ?_
      rcases hex with rfl | rfl
      · refine o_ifYes 186 X115 hx (hb hby at_177) (teq rfl).1 (by decide) (by decide) ?_
        refine o_iload 188 X115 hx rfl (hb hby at_186) rfl ?_
        refine o_ifYes 204 X115 hx (hb hby at_188) (teq rfl).1 (by decide) (by decide) ?_
        refine o_iload 206 X115 hx rfl (hb hby at_204) rfl ?_
        refine o_sipush 209 X115 hx rfl (hb hby at_206) (255 : Int32) rfl ?_
        refine o_iand 210 X115 hx rfl (hb hby at_209) ?_
        refine o_i2l 211 X115 hx rfl (hb hby at_210) ?_
        refine o_iload 213 X115 hx rfl (hb hby at_211) rfl ?_
        refine o_ifYes 223 X115 hx (hb hby at_213) (teq rfl).1 (by decide) (by decide) ?_
        refine o_lconst 224 X115 hx rfl (hb hby at_223) (0 : Int64) rfl ?_
        refine o_lor 225 X115 hx rfl (hb hby at_224) ?_
        refine o_lstore 227 X115 hx rfl (hb hby at_225) #[.val (.long q0), .second, .val (.long q1), .second, .val (.int i2), .val (.int i3), .val (.int i4), .val (.long A), .second, .val (.long B), .second, .val (.ref a5), .val (.ref a33), .val (.ref a55), .val (.int (0 : Int32)), .val (.int (Int32.ofNat P)), .unset, .val (.long (((i2 &&& (255 : Int32)).toInt64) ||| (0 : Int64))), .second] rfl ?_
        refine o_lload 229 X115 hx rfl (hb hby at_227) rfl ?_
        refine o_ldc2Long 232 X115 hx rfl hZ hown (wd_40 hw) (hb hby at_229) ?_
        refine o_lcmp 233 X115 hx rfl (hb hby at_232) ?_
        suffices j298_125 : Go p.tables e below (EndE s room_1 (fun v h L => v = some (.int (1 : Int32)) ∧ Fr n0 L)) (T115.setTop (mkF m 298 #[.val (.long q0), .second, .val (.long q1), .second, .val (.int i2), .val (.int i3), .val (.int i4), .val (.long A), .second, .val (.long B), .second, .val (.ref a5), .val (.ref a33), .val (.ref a55), .val (.int (0 : Int32)), .val (.int (Int32.ofNat P)), .val (.int (f0_298_l16 A B i2)), .val (.long (((i2 &&& (255 : Int32)).toInt64) ||| (0 : Int64))), .second] [])) by
          by_cases hc233_126 : (((i2 &&& (255 : Int32)).toInt64) ||| (0 : Int64)) < (64 : Int64)
          · refine o_ifNo 236 X115 hx rfl (hb hby at_233) (tlt (l_tlt hc233_126)).2.1 ?_
            refine o_lload 238 X115 hx rfl (hb hby at_236) rfl ?_
            refine o_lload 240 X115 hx rfl (hb hby at_238) rfl ?_
            refine o_l2i 241 X115 hx rfl (hb hby at_240) ?_
            refine o_lushr 242 X115 hx rfl (hb hby at_241) ?_
            refine o_lconst 243 X115 hx rfl (hb hby at_242) (1 : Int64) rfl ?_
            refine o_land 244 X115 hx rfl (hb hby at_243) ?_
            refine o_lconst 245 X115 hx rfl (hb hby at_244) (0 : Int64) rfl ?_
            refine o_lcmp 246 X115 hx rfl (hb hby at_245) ?_
            by_cases hc246_127 : (((A.toUInt64 >>> (((((i2 &&& (255 : Int32)).toInt64) ||| (0 : Int64)).toInt32) &&& 0x3f).toInt64.toUInt64).toInt64) &&& (1 : Int64)) = (0 : Int64)
            · refine o_ifYes 253 X115 hx (hb hby at_246) (teq (l_teq hc246_127)).1 (by decide) (by decide) ?_
              refine o_iconst 254 X115 hx rfl (hb hby at_253) (0 : Int32) rfl ?_
              refine o_istore 256 X115 hx rfl (hb hby at_254) #[.val (.long q0), .second, .val (.long q1), .second, .val (.int i2), .val (.int i3), .val (.int i4), .val (.long A), .second, .val (.long B), .second, .val (.ref a5), .val (.ref a33), .val (.ref a55), .val (.int (0 : Int32)), .val (.int (Int32.ofNat P)), .val (.int (0 : Int32)), .val (.long (((i2 &&& (255 : Int32)).toInt64) ||| (0 : Int64))), .second] rfl ?_
              refine o_goto 298 X115 hx (hb hby at_256) (by decide) (by decide) ?_
              rw [show (f0_298_l16 A B i2) = (0 : Int32) from by unfold f0_298_l16; simp only [if_pos hc233_126, if_pos hc246_127]] at j298_125
              exact j298_125
            · refine o_ifNo 249 X115 hx rfl (hb hby at_246) (feq (l_feq hc246_127)).1 ?_
              refine o_iconst 250 X115 hx rfl (hb hby at_249) (1 : Int32) rfl ?_
              refine o_goto 254 X115 hx (hb hby at_250) (by decide) (by decide) ?_
              refine o_istore 256 X115 hx rfl (hb hby at_254) #[.val (.long q0), .second, .val (.long q1), .second, .val (.int i2), .val (.int i3), .val (.int i4), .val (.long A), .second, .val (.long B), .second, .val (.ref a5), .val (.ref a33), .val (.ref a55), .val (.int (0 : Int32)), .val (.int (Int32.ofNat P)), .val (.int (1 : Int32)), .val (.long (((i2 &&& (255 : Int32)).toInt64) ||| (0 : Int64))), .second] rfl ?_
              refine o_goto 298 X115 hx (hb hby at_256) (by decide) (by decide) ?_
              rw [show (f0_298_l16 A B i2) = (1 : Int32) from by unfold f0_298_l16; simp only [if_pos hc233_126, if_neg hc246_127]] at j298_125
              exact j298_125
          · refine o_ifYes 259 X115 hx (hb hby at_233) (flt (l_flt hc233_126)).2.1 (by decide) (by decide) ?_
            refine o_lload 261 X115 hx rfl (hb hby at_259) rfl ?_
            refine o_ldc2Long 264 X115 hx rfl hZ hown (wd_55 hw) (hb hby at_261) ?_
            refine o_lcmp 265 X115 hx rfl (hb hby at_264) ?_
            by_cases hc265_128 : (((i2 &&& (255 : Int32)).toInt64) ||| (0 : Int64)) < (128 : Int64)
            · refine o_ifNo 268 X115 hx rfl (hb hby at_265) (tlt (l_tlt hc265_128)).2.1 ?_
              refine o_lload 270 X115 hx rfl (hb hby at_268) rfl ?_
              refine o_lload 272 X115 hx rfl (hb hby at_270) rfl ?_
              refine o_ldc2Long 275 X115 hx rfl hZ hown (wd_40 hw) (hb hby at_272) ?_
              refine o_lsub 276 X115 hx rfl (hb hby at_275) ?_
              refine o_l2i 277 X115 hx rfl (hb hby at_276) ?_
              refine o_lushr 278 X115 hx rfl (hb hby at_277) ?_
              refine o_lconst 279 X115 hx rfl (hb hby at_278) (1 : Int64) rfl ?_
              refine o_land 280 X115 hx rfl (hb hby at_279) ?_
              refine o_lconst 281 X115 hx rfl (hb hby at_280) (0 : Int64) rfl ?_
              refine o_lcmp 282 X115 hx rfl (hb hby at_281) ?_
              by_cases hc282_129 : (((B.toUInt64 >>> ((((((i2 &&& (255 : Int32)).toInt64) ||| (0 : Int64)) - (64 : Int64)).toInt32) &&& 0x3f).toInt64.toUInt64).toInt64) &&& (1 : Int64)) = (0 : Int64)
              · refine o_ifYes 289 X115 hx (hb hby at_282) (teq (l_teq hc282_129)).1 (by decide) (by decide) ?_
                refine o_iconst 290 X115 hx rfl (hb hby at_289) (0 : Int32) rfl ?_
                refine o_istore 292 X115 hx rfl (hb hby at_290) #[.val (.long q0), .second, .val (.long q1), .second, .val (.int i2), .val (.int i3), .val (.int i4), .val (.long A), .second, .val (.long B), .second, .val (.ref a5), .val (.ref a33), .val (.ref a55), .val (.int (0 : Int32)), .val (.int (Int32.ofNat P)), .val (.int (0 : Int32)), .val (.long (((i2 &&& (255 : Int32)).toInt64) ||| (0 : Int64))), .second] rfl ?_
                refine o_goto 298 X115 hx (hb hby at_292) (by decide) (by decide) ?_
                rw [show (f0_298_l16 A B i2) = (0 : Int32) from by unfold f0_298_l16; simp only [if_neg hc233_126, if_pos hc265_128, if_pos hc282_129]] at j298_125
                exact j298_125
              · refine o_ifNo 285 X115 hx rfl (hb hby at_282) (feq (l_feq hc282_129)).1 ?_
                refine o_iconst 286 X115 hx rfl (hb hby at_285) (1 : Int32) rfl ?_
                refine o_goto 290 X115 hx (hb hby at_286) (by decide) (by decide) ?_
                refine o_istore 292 X115 hx rfl (hb hby at_290) #[.val (.long q0), .second, .val (.long q1), .second, .val (.int i2), .val (.int i3), .val (.int i4), .val (.long A), .second, .val (.long B), .second, .val (.ref a5), .val (.ref a33), .val (.ref a55), .val (.int (0 : Int32)), .val (.int (Int32.ofNat P)), .val (.int (1 : Int32)), .val (.long (((i2 &&& (255 : Int32)).toInt64) ||| (0 : Int64))), .second] rfl ?_
                refine o_goto 298 X115 hx (hb hby at_292) (by decide) (by decide) ?_
                rw [show (f0_298_l16 A B i2) = (1 : Int32) from by unfold f0_298_l16; simp only [if_neg hc233_126, if_pos hc265_128, if_neg hc282_129]] at j298_125
                exact j298_125
            · refine o_ifYes 295 X115 hx (hb hby at_265) (flt (l_flt hc265_128)).2.1 (by decide) (by decide) ?_
              refine o_iconst 296 X115 hx rfl (hb hby at_295) (0 : Int32) rfl ?_
              refine o_istore 298 X115 hx rfl (hb hby at_296) #[.val (.long q0), .second, .val (.long q1), .second, .val (.int i2), .val (.int i3), .val (.int i4), .val (.long A), .second, .val (.long B), .second, .val (.ref a5), .val (.ref a33), .val (.ref a55), .val (.int (0 : Int32)), .val (.int (Int32.ofNat P)), .val (.int (0 : Int32)), .val (.long (((i2 &&& (255 : Int32)).toInt64) ||| (0 : Int64))), .second] rfl ?_
              rw [show (f0_298_l16 A B i2) = (0 : Int32) from by unfold f0_298_l16; simp only [if_neg hc233_126, if_neg hc265_128]] at j298_125
              exact j298_125
        refine o_aload 300 X115 hx rfl (hb hby at_298) rfl rfl ?_
        refine o_aload 302 X115 hx rfl (hb hby at_300) rfl rfl ?_
        refine o_aload 304 X115 hx rfl (hb hby at_302) rfl rfl ?_
        refine o_callVP (rv := (.int (own_evv (own_in i2) (-1 : Int64) ([] : List Int64)))) 307 X115 hx rfl hZ hown (wd_41 hw) (wd_42 hw) (wd_44 hw) (wd_43 hw) (wd_2 hw) (wd_45 hw) (by decide) e115 (rm6 l Z a0 hw a5 a33 a55 b29 k33 k29 k55 (0 : Int32) (-1 : Int64) ([] : List Int64) (own_in i2) h115 F116 F117 F118 F119 F120 F122 (own_b0 i2) (own_x0_0 i2 A B hA hB)) pd_laZaIrZ [(.ref a33), (.ref a55)] [] rfl F116 rfl (by rw [hml]; rfl) rfl (hb hby at_304) 0 (Nat.le_of_eq rfl) (by decide) (by decide) (by decide) (by decide) rfl rfl fun T130 X130 e130 => ?_
        refine o_iload 309 X130 hx rfl (hb hby at_307) rfl ?_
        refine o_icmpNo 312 X130 hx rfl (hb hby at_309) (teq (own_f0_0 i2 A B hA hB)).2 ?_
        refine o_iconst 313 X130 hx rfl (hb hby at_312) (1 : Int32) rfl ?_
        refine o_goto 317 X130 hx (hb hby at_313) (by decide) (by decide) ?_
        refine o_retN X130 hx .boolean (by simp) hret hlk (hb hby at_317) (by decide) (by decide) ?_
        exact ⟨rfl, N115⟩
      · refine o_ifNo 180 X115 hx rfl (hb hby at_177) (feq (show ¬ ((1 : Int32) = (0 : Int32)) by decide)).1 ?_
        refine o_aload 182 X115 hx rfl (hb hby at_180) rfl rfl ?_
        refine o_iload 184 X115 hx rfl (hb hby at_182) rfl ?_
        refine o_iconst 185 X115 hx rfl (hb hby at_184) (1 : Int32) rfl ?_
        refine o_iastoreX 186 X115 hx rfl hZ e115 F122 ⟨own_nn (by omega), own_lt (n := 66) hP (by decide)⟩ (by rw [own_n32 (by omega)]; exact hP) (((own_in i2).set P (1 : Int32))) (by rw [own_n32 (by omega)]) N115 ge59 (hb hby at_185) fun T131 h131 L131 X131 N131 e131 W131 A131 => ?_
        have F132 : Exa Z h131 a5 "com/example/whittle/whittle/model/LookUpTable" := F116.wr W131
        have F133 : Fld Z h131 a5 "com/example/whittle/whittle/model/LookUpTable" "words" "[J" (.ref b29) := F117.other W131 (Or.inl ne56)
        have F134 : Fld Z h131 a5 "com/example/whittle/whittle/model/LookUpTable" "highestSetBit" "J" (.long (-1 : Int64)) := F118.other W131 (Or.inl ne56)
        have F135 : Arv Z h131 b29 k29 .long (0 : Int32) ((([] : List Int64)).map Value.long) (.long 0) := F119.other W131 ne57
        have F136 : Arv Z h131 a33 k33 .boolean (2 : Int32) ([(0 : Int32), (1 : Int32)].map Value.int) (.int 0) := F120.other W131 ne58
        have sz137 : n0 ≤ h131.size := Nat.le_trans sz121 (Keep.of_wr W131).1
        refine o_iload 188 X131 hx rfl (hb hby at_186) rfl ?_
        refine o_ifNo 191 X131 hx rfl (hb hby at_188) (feq (show ¬ ((1 : Int32) = (0 : Int32)) by decide)).1 ?_
        refine o_iload 193 X131 hx rfl (hb hby at_191) rfl ?_
        refine o_bipush 195 X131 hx rfl (hb hby at_193) (63 : Int32) rfl ?_
        by_cases h63 : P < 63
        · refine o_icmpYes 204 X131 hx (hb hby at_195) (tlt (own_lt (n := 63) h63 (by decide))).1 (by decide) (by decide) ?_
          refine o_iload 206 X131 hx rfl (hb hby at_204) rfl ?_
          refine o_sipush 209 X131 hx rfl (hb hby at_206) (255 : Int32) rfl ?_
          refine o_iand 210 X131 hx rfl (hb hby at_209) ?_
          refine o_i2l 211 X131 hx rfl (hb hby at_210) ?_
          refine o_iload 213 X131 hx rfl (hb hby at_211) rfl ?_
          refine o_ifNo 216 X131 hx rfl (hb hby at_213) (feq (show ¬ ((1 : Int32) = (0 : Int32)) by decide)).1 ?_
          refine o_lconst 217 X131 hx rfl (hb hby at_216) (1 : Int64) rfl ?_
          refine o_iload 219 X131 hx rfl (hb hby at_217) rfl ?_
          refine o_lshl 220 X131 hx rfl (hb hby at_219) ?_
          refine o_goto 224 X131 hx (hb hby at_220) (by decide) (by decide) ?_
          refine o_lor 225 X131 hx rfl (hb hby at_224) ?_
          refine o_lstore 227 X131 hx rfl (hb hby at_225) #[.val (.long q0), .second, .val (.long q1), .second, .val (.int i2), .val (.int i3), .val (.int i4), .val (.long A), .second, .val (.long B), .second, .val (.ref a5), .val (.ref a33), .val (.ref a55), .val (.int (1 : Int32)), .val (.int (Int32.ofNat P)), .unset, .val (.long (((i2 &&& (255 : Int32)).toInt64) ||| ((1 : Int64) <<< ((Int32.ofNat P) &&& 0x3f).toInt64))), .second] rfl ?_
          refine o_lload 229 X131 hx rfl (hb hby at_227) rfl ?_
          refine o_ldc2Long 232 X131 hx rfl hZ hown (wd_40 hw) (hb hby at_229) ?_
          refine o_lcmp 233 X131 hx rfl (hb hby at_232) ?_
          suffices j298_138 : Go p.tables e below (EndE s room_1 (fun v h L => v = some (.int (1 : Int32)) ∧ Fr n0 L)) (T131.setTop (mkF m 298 #[.val (.long q0), .second, .val (.long q1), .second, .val (.int i2), .val (.int i3), .val (.int i4), .val (.long A), .second, .val (.long B), .second, .val (.ref a5), .val (.ref a33), .val (.ref a55), .val (.int (1 : Int32)), .val (.int (Int32.ofNat P)), .val (.int (f0_298_l16' A B P i2)), .val (.long (((i2 &&& (255 : Int32)).toInt64) ||| ((1 : Int64) <<< ((Int32.ofNat P) &&& 0x3f).toInt64))), .second] [])) by
            by_cases hc233_139 : (((i2 &&& (255 : Int32)).toInt64) ||| ((1 : Int64) <<< ((Int32.ofNat P) &&& 0x3f).toInt64)) < (64 : Int64)
            · refine o_ifNo 236 X131 hx rfl (hb hby at_233) (tlt (l_tlt hc233_139)).2.1 ?_
              refine o_lload 238 X131 hx rfl (hb hby at_236) rfl ?_
              refine o_lload 240 X131 hx rfl (hb hby at_238) rfl ?_
              refine o_l2i 241 X131 hx rfl (hb hby at_240) ?_
              refine o_lushr 242 X131 hx rfl (hb hby at_241) ?_
              refine o_lconst 243 X131 hx rfl (hb hby at_242) (1 : Int64) rfl ?_
              refine o_land 244 X131 hx rfl (hb hby at_243) ?_
              refine o_lconst 245 X131 hx rfl (hb hby at_244) (0 : Int64) rfl ?_
              refine o_lcmp 246 X131 hx rfl (hb hby at_245) ?_
              by_cases hc246_140 : (((A.toUInt64 >>> (((((i2 &&& (255 : Int32)).toInt64) ||| ((1 : Int64) <<< ((Int32.ofNat P) &&& 0x3f).toInt64)).toInt32) &&& 0x3f).toInt64.toUInt64).toInt64) &&& (1 : Int64)) = (0 : Int64)
              · refine o_ifYes 253 X131 hx (hb hby at_246) (teq (l_teq hc246_140)).1 (by decide) (by decide) ?_
                refine o_iconst 254 X131 hx rfl (hb hby at_253) (0 : Int32) rfl ?_
                refine o_istore 256 X131 hx rfl (hb hby at_254) #[.val (.long q0), .second, .val (.long q1), .second, .val (.int i2), .val (.int i3), .val (.int i4), .val (.long A), .second, .val (.long B), .second, .val (.ref a5), .val (.ref a33), .val (.ref a55), .val (.int (1 : Int32)), .val (.int (Int32.ofNat P)), .val (.int (0 : Int32)), .val (.long (((i2 &&& (255 : Int32)).toInt64) ||| ((1 : Int64) <<< ((Int32.ofNat P) &&& 0x3f).toInt64))), .second] rfl ?_
                refine o_goto 298 X131 hx (hb hby at_256) (by decide) (by decide) ?_
                rw [show (f0_298_l16' A B P i2) = (0 : Int32) from by unfold f0_298_l16'; simp only [if_pos hc233_139, if_pos hc246_140]] at j298_138
                exact j298_138
              · refine o_ifNo 249 X131 hx rfl (hb hby at_246) (feq (l_feq hc246_140)).1 ?_
                refine o_iconst 250 X131 hx rfl (hb hby at_249) (1 : Int32) rfl ?_
                refine o_goto 254 X131 hx (hb hby at_250) (by decide) (by decide) ?_
                refine o_istore 256 X131 hx rfl (hb hby at_254) #[.val (.long q0), .second, .val (.long q1), .second, .val (.int i2), .val (.int i3), .val (.int i4), .val (.long A), .second, .val (.long B), .second, .val (.ref a5), .val (.ref a33), .val (.ref a55), .val (.int (1 : Int32)), .val (.int (Int32.ofNat P)), .val (.int (1 : Int32)), .val (.long (((i2 &&& (255 : Int32)).toInt64) ||| ((1 : Int64) <<< ((Int32.ofNat P) &&& 0x3f).toInt64))), .second] rfl ?_
                refine o_goto 298 X131 hx (hb hby at_256) (by decide) (by decide) ?_
                rw [show (f0_298_l16' A B P i2) = (1 : Int32) from by unfold f0_298_l16'; simp only [if_pos hc233_139, if_neg hc246_140]] at j298_138
                exact j298_138
            · refine o_ifYes 259 X131 hx (hb hby at_233) (flt (l_flt hc233_139)).2.1 (by decide) (by decide) ?_
              refine o_lload 261 X131 hx rfl (hb hby at_259) rfl ?_
              refine o_ldc2Long 264 X131 hx rfl hZ hown (wd_55 hw) (hb hby at_261) ?_
              refine o_lcmp 265 X131 hx rfl (hb hby at_264) ?_
              by_cases hc265_141 : (((i2 &&& (255 : Int32)).toInt64) ||| ((1 : Int64) <<< ((Int32.ofNat P) &&& 0x3f).toInt64)) < (128 : Int64)
              · refine o_ifNo 268 X131 hx rfl (hb hby at_265) (tlt (l_tlt hc265_141)).2.1 ?_
                refine o_lload 270 X131 hx rfl (hb hby at_268) rfl ?_
                refine o_lload 272 X131 hx rfl (hb hby at_270) rfl ?_
                refine o_ldc2Long 275 X131 hx rfl hZ hown (wd_40 hw) (hb hby at_272) ?_
                refine o_lsub 276 X131 hx rfl (hb hby at_275) ?_
                refine o_l2i 277 X131 hx rfl (hb hby at_276) ?_
                refine o_lushr 278 X131 hx rfl (hb hby at_277) ?_
                refine o_lconst 279 X131 hx rfl (hb hby at_278) (1 : Int64) rfl ?_
                refine o_land 280 X131 hx rfl (hb hby at_279) ?_
                refine o_lconst 281 X131 hx rfl (hb hby at_280) (0 : Int64) rfl ?_
                refine o_lcmp 282 X131 hx rfl (hb hby at_281) ?_
                by_cases hc282_142 : (((B.toUInt64 >>> ((((((i2 &&& (255 : Int32)).toInt64) ||| ((1 : Int64) <<< ((Int32.ofNat P) &&& 0x3f).toInt64)) - (64 : Int64)).toInt32) &&& 0x3f).toInt64.toUInt64).toInt64) &&& (1 : Int64)) = (0 : Int64)
                · refine o_ifYes 289 X131 hx (hb hby at_282) (teq (l_teq hc282_142)).1 (by decide) (by decide) ?_
                  refine o_iconst 290 X131 hx rfl (hb hby at_289) (0 : Int32) rfl ?_
                  refine o_istore 292 X131 hx rfl (hb hby at_290) #[.val (.long q0), .second, .val (.long q1), .second, .val (.int i2), .val (.int i3), .val (.int i4), .val (.long A), .second, .val (.long B), .second, .val (.ref a5), .val (.ref a33), .val (.ref a55), .val (.int (1 : Int32)), .val (.int (Int32.ofNat P)), .val (.int (0 : Int32)), .val (.long (((i2 &&& (255 : Int32)).toInt64) ||| ((1 : Int64) <<< ((Int32.ofNat P) &&& 0x3f).toInt64))), .second] rfl ?_
                  refine o_goto 298 X131 hx (hb hby at_292) (by decide) (by decide) ?_
                  rw [show (f0_298_l16' A B P i2) = (0 : Int32) from by unfold f0_298_l16'; simp only [if_neg hc233_139, if_pos hc265_141, if_pos hc282_142]] at j298_138
                  exact j298_138
                · refine o_ifNo 285 X131 hx rfl (hb hby at_282) (feq (l_feq hc282_142)).1 ?_
                  refine o_iconst 286 X131 hx rfl (hb hby at_285) (1 : Int32) rfl ?_
                  refine o_goto 290 X131 hx (hb hby at_286) (by decide) (by decide) ?_
                  refine o_istore 292 X131 hx rfl (hb hby at_290) #[.val (.long q0), .second, .val (.long q1), .second, .val (.int i2), .val (.int i3), .val (.int i4), .val (.long A), .second, .val (.long B), .second, .val (.ref a5), .val (.ref a33), .val (.ref a55), .val (.int (1 : Int32)), .val (.int (Int32.ofNat P)), .val (.int (1 : Int32)), .val (.long (((i2 &&& (255 : Int32)).toInt64) ||| ((1 : Int64) <<< ((Int32.ofNat P) &&& 0x3f).toInt64))), .second] rfl ?_
                  refine o_goto 298 X131 hx (hb hby at_292) (by decide) (by decide) ?_
                  rw [show (f0_298_l16' A B P i2) = (1 : Int32) from by unfold f0_298_l16'; simp only [if_neg hc233_139, if_pos hc265_141, if_neg hc282_142]] at j298_138
                  exact j298_138
              · refine o_ifYes 295 X131 hx (hb hby at_265) (flt (l_flt hc265_141)).2.1 (by decide) (by decide) ?_
                refine o_iconst 296 X131 hx rfl (hb hby at_295) (0 : Int32) rfl ?_
                refine o_istore 298 X131 hx rfl (hb hby at_296) #[.val (.long q0), .second, .val (.long q1), .second, .val (.int i2), .val (.int i3), .val (.int i4), .val (.long A), .second, .val (.long B), .second, .val (.ref a5), .val (.ref a33), .val (.ref a55), .val (.int (1 : Int32)), .val (.int (Int32.ofNat P)), .val (.int (0 : Int32)), .val (.long (((i2 &&& (255 : Int32)).toInt64) ||| ((1 : Int64) <<< ((Int32.ofNat P) &&& 0x3f).toInt64))), .second] rfl ?_
                rw [show (f0_298_l16' A B P i2) = (0 : Int32) from by unfold f0_298_l16'; simp only [if_neg hc233_139, if_neg hc265_141]] at j298_138
                exact j298_138
          refine o_aload 300 X131 hx rfl (hb hby at_298) rfl rfl ?_
          refine o_aload 302 X131 hx rfl (hb hby at_300) rfl rfl ?_
          refine o_aload 304 X131 hx rfl (hb hby at_302) rfl rfl ?_
          refine o_callVP (rv := (.int (own_evv ((own_in i2).set P (1 : Int32)) (-1 : Int64) ([] : List Int64)))) 307 X131 hx rfl hZ hown (wd_41 hw) (wd_42 hw) (wd_44 hw) (wd_43 hw) (wd_2 hw) (wd_45 hw) (by decide) e131 (rm6 l Z a0 hw a5 a33 a55 b29 k33 k29 k55 (0 : Int32) (-1 : Int64) ([] : List Int64) ((own_in i2).set P (1 : Int32)) h131 F132 F133 F134 F135 F136 A131 (own_b1 i2 P) (own_x1_0 i2 P hP A B hA hB)) pd_laZaIrZ [(.ref a33), (.ref a55)] [] rfl F132 rfl (by rw [hml]; rfl) rfl (hb hby at_304) 0 (Nat.le_of_eq rfl) (by decide) (by decide) (by decide) (by decide) rfl rfl fun T143 X143 e143 => ?_
          refine o_iload 309 X143 hx rfl (hb hby at_307) rfl ?_
          refine o_icmpNo 312 X143 hx rfl (hb hby at_309) (teq (own_f1_0 i2 P h63 A B hA hB)).2 ?_
          refine o_iconst 313 X143 hx rfl (hb hby at_312) (1 : Int32) rfl ?_
          refine o_goto 317 X143 hx (hb hby at_313) (by decide) (by decide) ?_
          refine o_retN X143 hx .boolean (by simp) hret hlk (hb hby at_317) (by decide) (by decide) ?_
          exact ⟨rfl, N131⟩
        · refine o_icmpNo 198 X131 hx rfl (hb hby at_195) (flt (own_nle (n := 63) (by omega) (by omega))).1 ?_
          refine o_iconst 199 X131 hx rfl (hb hby at_198) (0 : Int32) rfl ?_
          refine o_istore 201 X131 hx rfl (hb hby at_199) #[.val (.long q0), .second, .val (.long q1), .second, .val (.int i2), .val (.int i3), .val (.int i4), .val (.long A), .second, .val (.long B), .second, .val (.ref a5), .val (.ref a33), .val (.ref a55), .val (.int (1 : Int32)), .val (.int (Int32.ofNat P)), .val (.int (0 : Int32)), .unset, .unset] rfl ?_
          refine o_goto 298 X131 hx (hb hby at_201) (by decide) (by decide) ?_
          refine o_aload 300 X131 hx rfl (hb hby at_298) rfl rfl ?_
          refine o_aload 302 X131 hx rfl (hb hby at_300) rfl rfl ?_
          refine o_aload 304 X131 hx rfl (hb hby at_302) rfl rfl ?_
          refine o_callVP (rv := (.int (own_evv ((own_in i2).set P (1 : Int32)) (-1 : Int64) ([] : List Int64)))) 307 X131 hx rfl hZ hown (wd_41 hw) (wd_42 hw) (wd_44 hw) (wd_43 hw) (wd_2 hw) (wd_45 hw) (by decide) e131 (rm6 l Z a0 hw a5 a33 a55 b29 k33 k29 k55 (0 : Int32) (-1 : Int64) ([] : List Int64) ((own_in i2).set P (1 : Int32)) h131 F132 F133 F134 F135 F136 A131 (own_b1 i2 P) (own_x1_0 i2 P hP A B hA hB)) pd_laZaIrZ [(.ref a33), (.ref a55)] [] rfl F132 rfl (by rw [hml]; rfl) rfl (hb hby at_304) 0 (Nat.le_of_eq rfl) (by decide) (by decide) (by decide) (by decide) rfl rfl fun T144 X144 e144 => ?_
          refine o_iload 309 X144 hx rfl (hb hby at_307) rfl ?_
          refine o_icmpNo 312 X144 hx rfl (hb hby at_309) (teq (own_f2_0 i2 P hP h63 A B hA hB)).2 ?_
          refine o_iconst 313 X144 hx rfl (hb hby at_312) (1 : Int32) rfl ?_
          refine o_goto 317 X144 hx (hb hby at_313) (by decide) (by decide) ?_
          refine o_retN X144 hx .boolean (by simp) hret hlk (hb hby at_317) (by decide) (by decide) ?_
          exact ⟨rfl, N131⟩
    · refine o_new 31 X0 hx rfl hZ hown (wd_0 hw) (wd_1 hw) (wd_2 hw) e0 (hb hby at_28) (by decide) (by decide) fun T145 h145 a145 g145 X145 e145 E145 A145 D145 => ?_
      have ge146 : n0 ≤ a145 := Nat.le_trans Z0 (Nat.le_of_eq g145.symm)
      have sz147 : n0 ≤ h145.size := Nat.le_trans Z0 E145.1
      have F148 : Fld Z h145 a145 "com/example/whittle/whittle/model/LookUpTable" "words" "[J" .null := D145 (Or.inr (wd_24 hw)) (ty := (.array .long)) (by decide)
      have F149 : Fld Z h145 a145 "com/example/whittle/whittle/model/LookUpTable" "highestSetBit" "J" (.long (0 : Int64)) := D145 (Or.inr (wd_36 hw)) (ty := .long) (by decide)
      refine o_dup 32 X145 hx rfl (hb hby at_31) rfl ?_
      refine o_iconst 33 X145 hx rfl (hb hby at_32) (2 : Int32) rfl ?_
      refine o_newJE 35 X145 hx rfl hZ .long .long rfl rfl (wd_3 hw) e145 (hb hby at_33) (by decide) 2 (by decide) (by decide) (by decide) (by decide) [(0 : Int64), (0 : Int64)] rfl "[J" rfl fun T150 h150 a150 k150 g150 X150 e150 E150 A150 D150 => ?_
      have ne151 : a145 ≠ a150 := Nat.ne_of_lt (Nat.lt_of_lt_of_eq A145.lt g150.symm)
      have ge152 : n0 ≤ a150 := Nat.le_trans sz147 (Nat.le_of_eq g150.symm)
      have F153 : Exa Z h150 a145 "com/example/whittle/whittle/model/LookUpTable" := A145.ext E150
      have F154 : Fld Z h150 a145 "com/example/whittle/whittle/model/LookUpTable" "words" "[J" .null := F148.ext E150
      have F155 : Fld Z h150 a145 "com/example/whittle/whittle/model/LookUpTable" "highestSetBit" "J" (.long (0 : Int64)) := F149.ext E150
      have sz156 : n0 ≤ h150.size := Nat.le_trans sz147 E150.1
      refine o_dup 36 X150 hx rfl (hb hby at_35) rfl ?_
      refine o_iconst 37 X150 hx rfl (hb hby at_36) (0 : Int32) rfl ?_
      refine o_lload 39 X150 hx rfl (hb hby at_37) rfl ?_
      refine o_lastoreX 40 X150 hx rfl hZ e150 A150 (by decide) (Nat.le_of_ble_eq_true rfl) [A, (0 : Int64)] rfl N0 ge152 (hb hby at_39) fun T157 h157 L157 X157 N157 e157 W157 A157 => ?_
      have F158 : Exa Z h157 a145 "com/example/whittle/whittle/model/LookUpTable" := F153.wr W157
      have F159 : Fld Z h157 a145 "com/example/whittle/whittle/model/LookUpTable" "words" "[J" .null := F154.other W157 (Or.inl ne151)
      have F160 : Fld Z h157 a145 "com/example/whittle/whittle/model/LookUpTable" "highestSetBit" "J" (.long (0 : Int64)) := F155.other W157 (Or.inl ne151)
      have F161 : Exa Z h157 a150 "[J" := D150.wr W157
      have sz162 : n0 ≤ h157.size := Nat.le_trans sz156 (Keep.of_wr W157).1
      refine o_dup 41 X157 hx rfl (hb hby at_40) rfl ?_
      refine o_iconst 42 X157 hx rfl (hb hby at_41) (1 : Int32) rfl ?_
      refine o_lload 44 X157 hx rfl (hb hby at_42) rfl ?_
      refine o_lastoreX 45 X157 hx rfl hZ e157 A157 (by decide) (Nat.le_of_ble_eq_true rfl) [A, B] rfl N157 ge152 (hb hby at_44) fun T163 h163 L163 X163 N163 e163 W163 A163 => ?_
      have F164 : Exa Z h163 a145 "com/example/whittle/whittle/model/LookUpTable" := F158.wr W163
      have F165 : Fld Z h163 a145 "com/example/whittle/whittle/model/LookUpTable" "words" "[J" .null := F159.other W163 (Or.inl ne151)
      have F166 : Fld Z h163 a145 "com/example/whittle/whittle/model/LookUpTable" "highestSetBit" "J" (.long (0 : Int64)) := F160.other W163 (Or.inl ne151)
      have F167 : Exa Z h163 a150 "[J" := F161.wr W163
      have sz168 : n0 ≤ h163.size := Nat.le_trans sz162 (Keep.of_wr W163).1
      refine o_callIw 48 X163 hx rfl hZ rfl hown (wd_4 hw) (wd_5 hw) (wd_2 hw) (wd_6 hw) (by decide) e163 N163 (rm1_1 l Z a0 hw a145 a150 k150 A B h163 n0 sz168 ge146 ne151.symm F164 F165 F166 A163 F167 hB hA) pd_laJrV a145 [(.ref a150)] [(.ref a145)] rfl rfl (by rw [hml]; rfl) rfl (hb hby at_45) 1 (Nat.le_of_eq rfl) (by decide) (by decide) (by decide) (by decide) fun v169 T169 L169 LL169 X169 Q169 NF169 => ?_
      obtain ⟨b169, k169, rfl, M169, K169, gb169, gz169, E169, Fw169, Fh169, A169⟩ := Q169
      have NN169 := NF169 M169
      have ne170 : a145 ≠ b169 := Nat.ne_of_lt (Nat.lt_of_lt_of_le F164.lt gz169)
      have ne171 : a150 ≠ b169 := Nat.ne_of_lt (Nat.lt_of_lt_of_le A163.lt gz169)
      have sz172 : n0 ≤ T169.heap.size := Nat.le_trans sz168 K169.1
      show Go p.tables e below (EndE s room_1 (fun v h L => v = some (.int (1 : Int32)) ∧ Fr n0 L)) (T169.setTop (mkF m 48 #[.val (.long q0), .second, .val (.long q1), .second, .val (.int i2), .val (.int i3), .val (.int i4), .val (.long A), .second, .val (.long B), .second, .unset, .unset, .unset, .unset, .unset, .unset, .unset, .unset] [(.ref a145)]))
      refine o_astore 50 X169 hx rfl (hb hby at_48) rfl #[.val (.long q0), .second, .val (.long q1), .second, .val (.int i2), .val (.int i3), .val (.int i4), .val (.long A), .second, .val (.long B), .second, .val (.ref a145), .unset, .unset, .unset, .unset, .unset, .unset, .unset] rfl ?_
      refine o_iconst 51 X169 hx rfl (hb hby at_50) (2 : Int32) rfl ?_
      refine o_newarrI 53 X169 hx rfl hZ .boolean .boolean rfl rfl (wd_37 hw) rfl (hb hby at_51) (by decide) 2 (by decide) (by decide) (by decide) (by decide) [(0 : Int32), (0 : Int32)] rfl fun T173 h173 a173 k173 g173 X173 e173 E173 A173 => ?_
      have ne174 : a145 ≠ a173 := Nat.ne_of_lt (Nat.lt_of_lt_of_eq E169.lt g173.symm)
      have ne175 : b169 ≠ a173 := Nat.ne_of_lt (Nat.lt_of_lt_of_eq A169.lt g173.symm)
      have ge176 : n0 ≤ a173 := Nat.le_trans sz172 (Nat.le_of_eq g173.symm)
      have F177 : Exa Z h173 a145 "com/example/whittle/whittle/model/LookUpTable" := E169.ext E173
      have F178 : Fld Z h173 a145 "com/example/whittle/whittle/model/LookUpTable" "words" "[J" (.ref b169) := Fw169.ext E173
      have F179 : Fld Z h173 a145 "com/example/whittle/whittle/model/LookUpTable" "highestSetBit" "J" (.long ((((64 : Int64) * ((1 : Int32).toInt64)) - (1 : Int64)) - ((fn4 A).toInt64))) := Fh169.ext E173
      have F180 : Arv Z h173 b169 k169 .long (1 : Int32) ([A].map Value.long) (.long 0) := A169.ext E173
      have sz181 : n0 ≤ h173.size := Nat.le_trans sz172 E173.1
      refine o_dup 54 X173 hx rfl (hb hby at_53) rfl ?_
      refine o_iconst 55 X173 hx rfl (hb hby at_54) (0 : Int32) rfl ?_
      refine o_iconst 56 X173 hx rfl (hb hby at_55) (0 : Int32) rfl ?_
      refine o_bastoreZX 57 X173 hx rfl hZ e173 A173 (by decide) (Nat.le_of_ble_eq_true rfl) [(nar .boolean (0 : Int32)), (0 : Int32)] rfl NN169 ge176 (hb hby at_56) fun T182 h182 L182 X182 N182 e182 W182 A182 => ?_
      have F183 : Exa Z h182 a145 "com/example/whittle/whittle/model/LookUpTable" := F177.wr W182
      have F184 : Fld Z h182 a145 "com/example/whittle/whittle/model/LookUpTable" "words" "[J" (.ref b169) := F178.other W182 (Or.inl ne174)
      have F185 : Fld Z h182 a145 "com/example/whittle/whittle/model/LookUpTable" "highestSetBit" "J" (.long ((((64 : Int64) * ((1 : Int32).toInt64)) - (1 : Int64)) - ((fn4 A).toInt64))) := F179.other W182 (Or.inl ne174)
      have F186 : Arv Z h182 b169 k169 .long (1 : Int32) ([A].map Value.long) (.long 0) := F180.other W182 ne175
      have sz187 : n0 ≤ h182.size := Nat.le_trans sz181 (Keep.of_wr W182).1
      refine o_dup 58 X182 hx rfl (hb hby at_57) rfl ?_
      refine o_iconst 59 X182 hx rfl (hb hby at_58) (1 : Int32) rfl ?_
      refine o_iconst 60 X182 hx rfl (hb hby at_59) (1 : Int32) rfl ?_
      refine o_bastoreZX 61 X182 hx rfl hZ e182 A182 (by decide) (Nat.le_of_ble_eq_true rfl) [(nar .boolean (0 : Int32)), (nar .boolean (1 : Int32))] rfl N182 ge176 (hb hby at_60) fun T188 h188 L188 X188 N188 e188 W188 A188 => ?_
      have F189 : Exa Z h188 a145 "com/example/whittle/whittle/model/LookUpTable" := F183.wr W188
      have F190 : Fld Z h188 a145 "com/example/whittle/whittle/model/LookUpTable" "words" "[J" (.ref b169) := F184.other W188 (Or.inl ne174)
      have F191 : Fld Z h188 a145 "com/example/whittle/whittle/model/LookUpTable" "highestSetBit" "J" (.long ((((64 : Int64) * ((1 : Int32).toInt64)) - (1 : Int64)) - ((fn4 A).toInt64))) := F185.other W188 (Or.inl ne174)
      have F192 : Arv Z h188 b169 k169 .long (1 : Int32) ([A].map Value.long) (.long 0) := F186.other W188 ne175
      have sz193 : n0 ≤ h188.size := Nat.le_trans sz187 (Keep.of_wr W188).1
      refine o_astore 63 X188 hx rfl (hb hby at_61) rfl #[.val (.long q0), .second, .val (.long q1), .second, .val (.int i2), .val (.int i3), .val (.int i4), .val (.long A), .second, .val (.long B), .second, .val (.ref a145), .val (.ref a173), .unset, .unset, .unset, .unset, .unset, .unset] rfl ?_
      have F194 : Arv Z h188 a173 k173 .boolean (2 : Int32) ([(0 : Int32), (1 : Int32)].map Value.int) (.int 0) := A188
      refine o_bipush 65 X188 hx rfl (hb hby at_63) (66 : Int32) rfl ?_
      refine o_newarrI 67 X188 hx rfl hZ .int .int rfl rfl (wd_38 hw) e188 (hb hby at_65) (by decide) 66 (by decide) (by decide) (by decide) (by decide) [(0 : Int32), (0 : Int32), (0 : Int32), (0 : Int32), (0 : Int32), (0 : Int32), (0 : Int32), (0 : Int32), (0 : Int32), (0 : Int32), (0 : Int32), (0 : Int32), (0 : Int32), (0 : Int32), (0 : Int32), (0 : Int32), (0 : Int32), (0 : Int32), (0 : Int32), (0 : Int32), (0 : Int32), (0 : Int32), (0 : Int32), (0 : Int32), (0 : Int32), (0 : Int32), (0 : Int32), (0 : Int32), (0 : Int32), (0 : Int32), (0 : Int32), (0 : Int32), (0 : Int32), (0 : Int32), (0 : Int32), (0 : Int32), (0 : Int32), (0 : Int32), (0 : Int32), (0 : Int32), (0 : Int32), (0 : Int32), (0 : Int32), (0 : Int32), (0 : Int32), (0 : Int32), (0 : Int32), (0 : Int32), (0 : Int32), (0 : Int32), (0 : Int32), (0 : Int32), (0 : Int32), (0 : Int32), (0 : Int32), (0 : Int32), (0 : Int32), (0 : Int32), (0 : Int32), (0 : Int32), (0 : Int32), (0 : Int32), (0 : Int32), (0 : Int32), (0 : Int32), (0 : Int32)] rfl fun T195 h195 a195 k195 g195 X195 e195 E195 A195 => ?_
      have ne196 : a145 ≠ a195 := Nat.ne_of_lt (Nat.lt_of_lt_of_eq F189.lt g195.symm)
      have ne197 : b169 ≠ a195 := Nat.ne_of_lt (Nat.lt_of_lt_of_eq F192.lt g195.symm)
      have ne198 : a173 ≠ a195 := Nat.ne_of_lt (Nat.lt_of_lt_of_eq F194.lt g195.symm)
      have ge199 : n0 ≤ a195 := Nat.le_trans sz193 (Nat.le_of_eq g195.symm)
      have F200 : Exa Z h195 a145 "com/example/whittle/whittle/model/LookUpTable" := F189.ext E195
      have F201 : Fld Z h195 a145 "com/example/whittle/whittle/model/LookUpTable" "words" "[J" (.ref b169) := F190.ext E195
      have F202 : Fld Z h195 a145 "com/example/whittle/whittle/model/LookUpTable" "highestSetBit" "J" (.long ((((64 : Int64) * ((1 : Int32).toInt64)) - (1 : Int64)) - ((fn4 A).toInt64))) := F191.ext E195
      have F203 : Arv Z h195 b169 k169 .long (1 : Int32) ([A].map Value.long) (.long 0) := F192.ext E195
      have F204 : Arv Z h195 a173 k173 .boolean (2 : Int32) ([(0 : Int32), (1 : Int32)].map Value.int) (.int 0) := F194.ext E195
      have sz205 : n0 ≤ h195.size := Nat.le_trans sz193 E195.1
      refine o_astore 69 X195 hx rfl (hb hby at_67) rfl #[.val (.long q0), .second, .val (.long q1), .second, .val (.int i2), .val (.int i3), .val (.int i4), .val (.long A), .second, .val (.long B), .second, .val (.ref a145), .val (.ref a173), .val (.ref a195), .unset, .unset, .unset, .unset, .unset] rfl ?_
      refine o_aload 71 X195 hx rfl (hb hby at_69) rfl rfl ?_
      refine o_iconst 72 X195 hx rfl (hb hby at_71) (0 : Int32) rfl ?_
      refine o_iload 74 X195 hx rfl (hb hby at_72) rfl ?_
      refine o_iconst 75 X195 hx rfl (hb hby at_74) (1 : Int32) rfl ?_
      refine o_iand 76 X195 hx rfl (hb hby at_75) ?_
      refine o_iastoreX 77 X195 hx rfl hZ e195 A195 (by decide) (Nat.le_of_ble_eq_true rfl) [(i2 &&& (1 : Int32)), (0 : Int32), (0 : Int32), (0 : Int32), (0 : Int32), (0 : Int32), (0 : Int32), (0 : Int32), (0 : Int32), (0 : Int32), (0 : Int32), (0 : Int32), (0 : Int32), (0 : Int32), (0 : Int32), (0 : Int32), (0 : Int32), (0 : Int32), (0 : Int32), (0 : Int32), (0 : Int32), (0 : Int32), (0 : Int32), (0 : Int32), (0 : Int32), (0 : Int32), (0 : Int32), (0 : Int32), (0 : Int32), (0 : Int32), (0 : Int32), (0 : Int32), (0 : Int32), (0 : Int32), (0 : Int32), (0 : Int32), (0 : Int32), (0 : Int32), (0 : Int32), (0 : Int32), (0 : Int32), (0 : Int32), (0 : Int32), (0 : Int32), (0 : Int32), (0 : Int32), (0 : Int32), (0 : Int32), (0 : Int32), (0 : Int32), (0 : Int32), (0 : Int32), (0 : Int32), (0 : Int32), (0 : Int32), (0 : Int32), (0 : Int32), (0 : Int32), (0 : Int32), (0 : Int32), (0 : Int32), (0 : Int32), (0 : Int32), (0 : Int32), (0 : Int32), (0 : Int32)] rfl N188 ge199 (hb hby at_76) fun T206 h206 L206 X206 N206 e206 W206 A206 => ?_
      have F207 : Exa Z h206 a145 "com/example/whittle/whittle/model/LookUpTable" := F200.wr W206
      have F208 : Fld Z h206 a145 "com/example/whittle/whittle/model/LookUpTable" "words" "[J" (.ref b169) := F201.other W206 (Or.inl ne196)
      have F209 : Fld Z h206 a145 "com/example/whittle/whittle/model/LookUpTable" "highestSetBit" "J" (.long ((((64 : Int64) * ((1 : Int32).toInt64)) - (1 : Int64)) - ((fn4 A).toInt64))) := F202.other W206 (Or.inl ne196)
      have F210 : Arv Z h206 b169 k169 .long (1 : Int32) ([A].map Value.long) (.long 0) := F203.other W206 ne197
      have F211 : Arv Z h206 a173 k173 .boolean (2 : Int32) ([(0 : Int32), (1 : Int32)].map Value.int) (.int 0) := F204.other W206 ne198
      have sz212 : n0 ≤ h206.size := Nat.le_trans sz205 (Keep.of_wr W206).1
      refine o_aload 79 X206 hx rfl (hb hby at_77) rfl rfl ?_
      refine o_iconst 80 X206 hx rfl (hb hby at_79) (1 : Int32) rfl ?_
      refine o_iload 82 X206 hx rfl (hb hby at_80) rfl ?_
      refine o_iconst 83 X206 hx rfl (hb hby at_82) (1 : Int32) rfl ?_
      refine o_iushr 84 X206 hx rfl (hb hby at_83) ?_
      refine o_iconst 85 X206 hx rfl (hb hby at_84) (1 : Int32) rfl ?_
      refine o_iand 86 X206 hx rfl (hb hby at_85) ?_
      refine o_iastoreX 87 X206 hx rfl hZ e206 A206 (by decide) (Nat.le_of_ble_eq_true rfl) [(i2 &&& (1 : Int32)), (((i2.toUInt32 >>> ((1 : Int32) &&& 31).toUInt32).toInt32) &&& (1 : Int32)), (0 : Int32), (0 : Int32), (0 : Int32), (0 : Int32), (0 : Int32), (0 : Int32), (0 : Int32), (0 : Int32), (0 : Int32), (0 : Int32), (0 : Int32), (0 : Int32), (0 : Int32), (0 : Int32), (0 : Int32), (0 : Int32), (0 : Int32), (0 : Int32), (0 : Int32), (0 : Int32), (0 : Int32), (0 : Int32), (0 : Int32), (0 : Int32), (0 : Int32), (0 : Int32), (0 : Int32), (0 : Int32), (0 : Int32), (0 : Int32), (0 : Int32), (0 : Int32), (0 : Int32), (0 : Int32), (0 : Int32), (0 : Int32), (0 : Int32), (0 : Int32), (0 : Int32), (0 : Int32), (0 : Int32), (0 : Int32), (0 : Int32), (0 : Int32), (0 : Int32), (0 : Int32), (0 : Int32), (0 : Int32), (0 : Int32), (0 : Int32), (0 : Int32), (0 : Int32), (0 : Int32), (0 : Int32), (0 : Int32), (0 : Int32), (0 : Int32), (0 : Int32), (0 : Int32), (0 : Int32), (0 : Int32), (0 : Int32), (0 : Int32), (0 : Int32)] rfl N206 ge199 (hb hby at_86) fun T213 h213 L213 X213 N213 e213 W213 A213 => ?_
      have F214 : Exa Z h213 a145 "com/example/whittle/whittle/model/LookUpTable" := F207.wr W213
      have F215 : Fld Z h213 a145 "com/example/whittle/whittle/model/LookUpTable" "words" "[J" (.ref b169) := F208.other W213 (Or.inl ne196)
      have F216 : Fld Z h213 a145 "com/example/whittle/whittle/model/LookUpTable" "highestSetBit" "J" (.long ((((64 : Int64) * ((1 : Int32).toInt64)) - (1 : Int64)) - ((fn4 A).toInt64))) := F209.other W213 (Or.inl ne196)
      have F217 : Arv Z h213 b169 k169 .long (1 : Int32) ([A].map Value.long) (.long 0) := F210.other W213 ne197
      have F218 : Arv Z h213 a173 k173 .boolean (2 : Int32) ([(0 : Int32), (1 : Int32)].map Value.int) (.int 0) := F211.other W213 ne198
      have sz219 : n0 ≤ h213.size := Nat.le_trans sz212 (Keep.of_wr W213).1
      refine o_aload 89 X213 hx rfl (hb hby at_87) rfl rfl ?_
      refine o_iconst 90 X213 hx rfl (hb hby at_89) (2 : Int32) rfl ?_
      refine o_iload 92 X213 hx rfl (hb hby at_90) rfl ?_
      refine o_iconst 93 X213 hx rfl (hb hby at_92) (2 : Int32) rfl ?_
      refine o_iushr 94 X213 hx rfl (hb hby at_93) ?_
      refine o_iconst 95 X213 hx rfl (hb hby at_94) (1 : Int32) rfl ?_
      refine o_iand 96 X213 hx rfl (hb hby at_95) ?_
      refine o_iastoreX 97 X213 hx rfl hZ e213 A213 (by decide) (Nat.le_of_ble_eq_true rfl) [(i2 &&& (1 : Int32)), (((i2.toUInt32 >>> ((1 : Int32) &&& 31).toUInt32).toInt32) &&& (1 : Int32)), (((i2.toUInt32 >>> ((2 : Int32) &&& 31).toUInt32).toInt32) &&& (1 : Int32)), (0 : Int32), (0 : Int32), (0 : Int32), (0 : Int32), (0 : Int32), (0 : Int32), (0 : Int32), (0 : Int32), (0 : Int32), (0 : Int32), (0 : Int32), (0 : Int32), (0 : Int32), (0 : Int32), (0 : Int32), (0 : Int32), (0 : Int32), (0 : Int32), (0 : Int32), (0 : Int32), (0 : Int32), (0 : Int32), (0 : Int32), (0 : Int32), (0 : Int32), (0 : Int32), (0 : Int32), (0 : Int32), (0 : Int32), (0 : Int32), (0 : Int32), (0 : Int32), (0 : Int32), (0 : Int32), (0 : Int32), (0 : Int32), (0 : Int32), (0 : Int32), (0 : Int32), (0 : Int32), (0 : Int32), (0 : Int32), (0 : Int32), (0 : Int32), (0 : Int32), (0 : Int32), (0 : Int32), (0 : Int32), (0 : Int32), (0 : Int32), (0 : Int32), (0 : Int32), (0 : Int32), (0 : Int32), (0 : Int32), (0 : Int32), (0 : Int32), (0 : Int32), (0 : Int32), (0 : Int32), (0 : Int32), (0 : Int32), (0 : Int32)] rfl N213 ge199 (hb hby at_96) fun T220 h220 L220 X220 N220 e220 W220 A220 => ?_
      have F221 : Exa Z h220 a145 "com/example/whittle/whittle/model/LookUpTable" := F214.wr W220
      have F222 : Fld Z h220 a145 "com/example/whittle/whittle/model/LookUpTable" "words" "[J" (.ref b169) := F215.other W220 (Or.inl ne196)
      have F223 : Fld Z h220 a145 "com/example/whittle/whittle/model/LookUpTable" "highestSetBit" "J" (.long ((((64 : Int64) * ((1 : Int32).toInt64)) - (1 : Int64)) - ((fn4 A).toInt64))) := F216.other W220 (Or.inl ne196)
      have F224 : Arv Z h220 b169 k169 .long (1 : Int32) ([A].map Value.long) (.long 0) := F217.other W220 ne197
      have F225 : Arv Z h220 a173 k173 .boolean (2 : Int32) ([(0 : Int32), (1 : Int32)].map Value.int) (.int 0) := F218.other W220 ne198
      have sz226 : n0 ≤ h220.size := Nat.le_trans sz219 (Keep.of_wr W220).1
      refine o_aload 99 X220 hx rfl (hb hby at_97) rfl rfl ?_
      refine o_iconst 100 X220 hx rfl (hb hby at_99) (3 : Int32) rfl ?_
      refine o_iload 102 X220 hx rfl (hb hby at_100) rfl ?_
      refine o_iconst 103 X220 hx rfl (hb hby at_102) (3 : Int32) rfl ?_
      refine o_iushr 104 X220 hx rfl (hb hby at_103) ?_
      refine o_iconst 105 X220 hx rfl (hb hby at_104) (1 : Int32) rfl ?_
      refine o_iand 106 X220 hx rfl (hb hby at_105) ?_
      refine o_iastoreX 107 X220 hx rfl hZ e220 A220 (by decide) (Nat.le_of_ble_eq_true rfl) [(i2 &&& (1 : Int32)), (((i2.toUInt32 >>> ((1 : Int32) &&& 31).toUInt32).toInt32) &&& (1 : Int32)), (((i2.toUInt32 >>> ((2 : Int32) &&& 31).toUInt32).toInt32) &&& (1 : Int32)), (((i2.toUInt32 >>> ((3 : Int32) &&& 31).toUInt32).toInt32) &&& (1 : Int32)), (0 : Int32), (0 : Int32), (0 : Int32), (0 : Int32), (0 : Int32), (0 : Int32), (0 : Int32), (0 : Int32), (0 : Int32), (0 : Int32), (0 : Int32), (0 : Int32), (0 : Int32), (0 : Int32), (0 : Int32), (0 : Int32), (0 : Int32), (0 : Int32), (0 : Int32), (0 : Int32), (0 : Int32), (0 : Int32), (0 : Int32), (0 : Int32), (0 : Int32), (0 : Int32), (0 : Int32), (0 : Int32), (0 : Int32), (0 : Int32), (0 : Int32), (0 : Int32), (0 : Int32), (0 : Int32), (0 : Int32), (0 : Int32), (0 : Int32), (0 : Int32), (0 : Int32), (0 : Int32), (0 : Int32), (0 : Int32), (0 : Int32), (0 : Int32), (0 : Int32), (0 : Int32), (0 : Int32), (0 : Int32), (0 : Int32), (0 : Int32), (0 : Int32), (0 : Int32), (0 : Int32), (0 : Int32), (0 : Int32), (0 : Int32), (0 : Int32), (0 : Int32), (0 : Int32), (0 : Int32), (0 : Int32), (0 : Int32)] rfl N220 ge199 (hb hby at_106) fun T227 h227 L227 X227 N227 e227 W227 A227 => ?_
      have F228 : Exa Z h227 a145 "com/example/whittle/whittle/model/LookUpTable" := F221.wr W227
      have F229 : Fld Z h227 a145 "com/example/whittle/whittle/model/LookUpTable" "words" "[J" (.ref b169) := F222.other W227 (Or.inl ne196)
      have F230 : Fld Z h227 a145 "com/example/whittle/whittle/model/LookUpTable" "highestSetBit" "J" (.long ((((64 : Int64) * ((1 : Int32).toInt64)) - (1 : Int64)) - ((fn4 A).toInt64))) := F223.other W227 (Or.inl ne196)
      have F231 : Arv Z h227 b169 k169 .long (1 : Int32) ([A].map Value.long) (.long 0) := F224.other W227 ne197
      have F232 : Arv Z h227 a173 k173 .boolean (2 : Int32) ([(0 : Int32), (1 : Int32)].map Value.int) (.int 0) := F225.other W227 ne198
      have sz233 : n0 ≤ h227.size := Nat.le_trans sz226 (Keep.of_wr W227).1
      refine o_aload 109 X227 hx rfl (hb hby at_107) rfl rfl ?_
      refine o_iconst 110 X227 hx rfl (hb hby at_109) (4 : Int32) rfl ?_
      refine o_iload 112 X227 hx rfl (hb hby at_110) rfl ?_
      refine o_iconst 113 X227 hx rfl (hb hby at_112) (4 : Int32) rfl ?_
      refine o_iushr 114 X227 hx rfl (hb hby at_113) ?_
      refine o_iconst 115 X227 hx rfl (hb hby at_114) (1 : Int32) rfl ?_
      refine o_iand 116 X227 hx rfl (hb hby at_115) ?_
      refine o_iastoreX 117 X227 hx rfl hZ e227 A227 (by decide) (Nat.le_of_ble_eq_true rfl) [(i2 &&& (1 : Int32)), (((i2.toUInt32 >>> ((1 : Int32) &&& 31).toUInt32).toInt32) &&& (1 : Int32)), (((i2.toUInt32 >>> ((2 : Int32) &&& 31).toUInt32).toInt32) &&& (1 : Int32)), (((i2.toUInt32 >>> ((3 : Int32) &&& 31).toUInt32).toInt32) &&& (1 : Int32)), (((i2.toUInt32 >>> ((4 : Int32) &&& 31).toUInt32).toInt32) &&& (1 : Int32)), (0 : Int32), (0 : Int32), (0 : Int32), (0 : Int32), (0 : Int32), (0 : Int32), (0 : Int32), (0 : Int32), (0 : Int32), (0 : Int32), (0 : Int32), (0 : Int32), (0 : Int32), (0 : Int32), (0 : Int32), (0 : Int32), (0 : Int32), (0 : Int32), (0 : Int32), (0 : Int32), (0 : Int32), (0 : Int32), (0 : Int32), (0 : Int32), (0 : Int32), (0 : Int32), (0 : Int32), (0 : Int32), (0 : Int32), (0 : Int32), (0 : Int32), (0 : Int32), (0 : Int32), (0 : Int32), (0 : Int32), (0 : Int32), (0 : Int32), (0 : Int32), (0 : Int32), (0 : Int32), (0 : Int32), (0 : Int32), (0 : Int32), (0 : Int32), (0 : Int32), (0 : Int32), (0 : Int32), (0 : Int32), (0 : Int32), (0 : Int32), (0 : Int32), (0 : Int32), (0 : Int32), (0 : Int32), (0 : Int32), (0 : Int32), (0 : Int32), (0 : Int32), (0 : Int32), (0 : Int32), (0 : Int32)] rfl N227 ge199 (hb hby at_116) fun T234 h234 L234 X234 N234 e234 W234 A234 => ?_
      have F235 : Exa Z h234 a145 "com/example/whittle/whittle/model/LookUpTable" := F228.wr W234
      have F236 : Fld Z h234 a145 "com/example/whittle/whittle/model/LookUpTable" "words" "[J" (.ref b169) := F229.other W234 (Or.inl ne196)
      have F237 : Fld Z h234 a145 "com/example/whittle/whittle/model/LookUpTable" "highestSetBit" "J" (.long ((((64 : Int64) * ((1 : Int32).toInt64)) - (1 : Int64)) - ((fn4 A).toInt64))) := F230.other W234 (Or.inl ne196)
      have F238 : Arv Z h234 b169 k169 .long (1 : Int32) ([A].map Value.long) (.long 0) := F231.other W234 ne197
      have F239 : Arv Z h234 a173 k173 .boolean (2 : Int32) ([(0 : Int32), (1 : Int32)].map Value.int) (.int 0) := F232.other W234 ne198
      have sz240 : n0 ≤ h234.size := Nat.le_trans sz233 (Keep.of_wr W234).1
      refine o_aload 119 X234 hx rfl (hb hby at_117) rfl rfl ?_
      refine o_iconst 120 X234 hx rfl (hb hby at_119) (5 : Int32) rfl ?_
      refine o_iload 122 X234 hx rfl (hb hby at_120) rfl ?_
      refine o_iconst 123 X234 hx rfl (hb hby at_122) (5 : Int32) rfl ?_
      refine o_iushr 124 X234 hx rfl (hb hby at_123) ?_
      refine o_iconst 125 X234 hx rfl (hb hby at_124) (1 : Int32) rfl ?_
      refine o_iand 126 X234 hx rfl (hb hby at_125) ?_
      refine o_iastoreX 127 X234 hx rfl hZ e234 A234 (by decide) (Nat.le_of_ble_eq_true rfl) [(i2 &&& (1 : Int32)), (((i2.toUInt32 >>> ((1 : Int32) &&& 31).toUInt32).toInt32) &&& (1 : Int32)), (((i2.toUInt32 >>> ((2 : Int32) &&& 31).toUInt32).toInt32) &&& (1 : Int32)), (((i2.toUInt32 >>> ((3 : Int32) &&& 31).toUInt32).toInt32) &&& (1 : Int32)), (((i2.toUInt32 >>> ((4 : Int32) &&& 31).toUInt32).toInt32) &&& (1 : Int32)), (((i2.toUInt32 >>> ((5 : Int32) &&& 31).toUInt32).toInt32) &&& (1 : Int32)), (0 : Int32), (0 : Int32), (0 : Int32), (0 : Int32), (0 : Int32), (0 : Int32), (0 : Int32), (0 : Int32), (0 : Int32), (0 : Int32), (0 : Int32), (0 : Int32), (0 : Int32), (0 : Int32), (0 : Int32), (0 : Int32), (0 : Int32), (0 : Int32), (0 : Int32), (0 : Int32), (0 : Int32), (0 : Int32), (0 : Int32), (0 : Int32), (0 : Int32), (0 : Int32), (0 : Int32), (0 : Int32), (0 : Int32), (0 : Int32), (0 : Int32), (0 : Int32), (0 : Int32), (0 : Int32), (0 : Int32), (0 : Int32), (0 : Int32), (0 : Int32), (0 : Int32), (0 : Int32), (0 : Int32), (0 : Int32), (0 : Int32), (0 : Int32), (0 : Int32), (0 : Int32), (0 : Int32), (0 : Int32), (0 : Int32), (0 : Int32), (0 : Int32), (0 : Int32), (0 : Int32), (0 : Int32), (0 : Int32), (0 : Int32), (0 : Int32), (0 : Int32), (0 : Int32), (0 : Int32)] rfl N234 ge199 (hb hby at_126) fun T241 h241 L241 X241 N241 e241 W241 A241 => ?_
      have F242 : Exa Z h241 a145 "com/example/whittle/whittle/model/LookUpTable" := F235.wr W241
      have F243 : Fld Z h241 a145 "com/example/whittle/whittle/model/LookUpTable" "words" "[J" (.ref b169) := F236.other W241 (Or.inl ne196)
      have F244 : Fld Z h241 a145 "com/example/whittle/whittle/model/LookUpTable" "highestSetBit" "J" (.long ((((64 : Int64) * ((1 : Int32).toInt64)) - (1 : Int64)) - ((fn4 A).toInt64))) := F237.other W241 (Or.inl ne196)
      have F245 : Arv Z h241 b169 k169 .long (1 : Int32) ([A].map Value.long) (.long 0) := F238.other W241 ne197
      have F246 : Arv Z h241 a173 k173 .boolean (2 : Int32) ([(0 : Int32), (1 : Int32)].map Value.int) (.int 0) := F239.other W241 ne198
      have sz247 : n0 ≤ h241.size := Nat.le_trans sz240 (Keep.of_wr W241).1
      refine o_aload 129 X241 hx rfl (hb hby at_127) rfl rfl ?_
      refine o_bipush 131 X241 hx rfl (hb hby at_129) (6 : Int32) rfl ?_
      refine o_iload 133 X241 hx rfl (hb hby at_131) rfl ?_
      refine o_bipush 135 X241 hx rfl (hb hby at_133) (6 : Int32) rfl ?_
      refine o_iushr 136 X241 hx rfl (hb hby at_135) ?_
      refine o_iconst 137 X241 hx rfl (hb hby at_136) (1 : Int32) rfl ?_
      refine o_iand 138 X241 hx rfl (hb hby at_137) ?_
      refine o_iastoreX 139 X241 hx rfl hZ e241 A241 (by decide) (Nat.le_of_ble_eq_true rfl) [(i2 &&& (1 : Int32)), (((i2.toUInt32 >>> ((1 : Int32) &&& 31).toUInt32).toInt32) &&& (1 : Int32)), (((i2.toUInt32 >>> ((2 : Int32) &&& 31).toUInt32).toInt32) &&& (1 : Int32)), (((i2.toUInt32 >>> ((3 : Int32) &&& 31).toUInt32).toInt32) &&& (1 : Int32)), (((i2.toUInt32 >>> ((4 : Int32) &&& 31).toUInt32).toInt32) &&& (1 : Int32)), (((i2.toUInt32 >>> ((5 : Int32) &&& 31).toUInt32).toInt32) &&& (1 : Int32)), (((i2.toUInt32 >>> ((6 : Int32) &&& 31).toUInt32).toInt32) &&& (1 : Int32)), (0 : Int32), (0 : Int32), (0 : Int32), (0 : Int32), (0 : Int32), (0 : Int32), (0 : Int32), (0 : Int32), (0 : Int32), (0 : Int32), (0 : Int32), (0 : Int32), (0 : Int32), (0 : Int32), (0 : Int32), (0 : Int32), (0 : Int32), (0 : Int32), (0 : Int32), (0 : Int32), (0 : Int32), (0 : Int32), (0 : Int32), (0 : Int32), (0 : Int32), (0 : Int32), (0 : Int32), (0 : Int32), (0 : Int32), (0 : Int32), (0 : Int32), (0 : Int32), (0 : Int32), (0 : Int32), (0 : Int32), (0 : Int32), (0 : Int32), (0 : Int32), (0 : Int32), (0 : Int32), (0 : Int32), (0 : Int32), (0 : Int32), (0 : Int32), (0 : Int32), (0 : Int32), (0 : Int32), (0 : Int32), (0 : Int32), (0 : Int32), (0 : Int32), (0 : Int32), (0 : Int32), (0 : Int32), (0 : Int32), (0 : Int32), (0 : Int32), (0 : Int32), (0 : Int32)] rfl N241 ge199 (hb hby at_138) fun T248 h248 L248 X248 N248 e248 W248 A248 => ?_
      have F249 : Exa Z h248 a145 "com/example/whittle/whittle/model/LookUpTable" := F242.wr W248
      have F250 : Fld Z h248 a145 "com/example/whittle/whittle/model/LookUpTable" "words" "[J" (.ref b169) := F243.other W248 (Or.inl ne196)
      have F251 : Fld Z h248 a145 "com/example/whittle/whittle/model/LookUpTable" "highestSetBit" "J" (.long ((((64 : Int64) * ((1 : Int32).toInt64)) - (1 : Int64)) - ((fn4 A).toInt64))) := F244.other W248 (Or.inl ne196)
      have F252 : Arv Z h248 b169 k169 .long (1 : Int32) ([A].map Value.long) (.long 0) := F245.other W248 ne197
      have F253 : Arv Z h248 a173 k173 .boolean (2 : Int32) ([(0 : Int32), (1 : Int32)].map Value.int) (.int 0) := F246.other W248 ne198
      have sz254 : n0 ≤ h248.size := Nat.le_trans sz247 (Keep.of_wr W248).1
      refine o_aload 141 X248 hx rfl (hb hby at_139) rfl rfl ?_
      refine o_bipush 143 X248 hx rfl (hb hby at_141) (7 : Int32) rfl ?_
      refine o_iload 145 X248 hx rfl (hb hby at_143) rfl ?_
      refine o_bipush 147 X248 hx rfl (hb hby at_145) (7 : Int32) rfl ?_
      refine o_iushr 148 X248 hx rfl (hb hby at_147) ?_
      refine o_iconst 149 X248 hx rfl (hb hby at_148) (1 : Int32) rfl ?_
      refine o_iand 150 X248 hx rfl (hb hby at_149) ?_
      refine o_iastoreX 151 X248 hx rfl hZ e248 A248 (by decide) (Nat.le_of_ble_eq_true rfl) [(i2 &&& (1 : Int32)), (((i2.toUInt32 >>> ((1 : Int32) &&& 31).toUInt32).toInt32) &&& (1 : Int32)), (((i2.toUInt32 >>> ((2 : Int32) &&& 31).toUInt32).toInt32) &&& (1 : Int32)), (((i2.toUInt32 >>> ((3 : Int32) &&& 31).toUInt32).toInt32) &&& (1 : Int32)), (((i2.toUInt32 >>> ((4 : Int32) &&& 31).toUInt32).toInt32) &&& (1 : Int32)), (((i2.toUInt32 >>> ((5 : Int32) &&& 31).toUInt32).toInt32) &&& (1 : Int32)), (((i2.toUInt32 >>> ((6 : Int32) &&& 31).toUInt32).toInt32) &&& (1 : Int32)), (((i2.toUInt32 >>> ((7 : Int32) &&& 31).toUInt32).toInt32) &&& (1 : Int32)), (0 : Int32), (0 : Int32), (0 : Int32), (0 : Int32), (0 : Int32), (0 : Int32), (0 : Int32), (0 : Int32), (0 : Int32), (0 : Int32), (0 : Int32), (0 : Int32), (0 : Int32), (0 : Int32), (0 : Int32), (0 : Int32), (0 : Int32), (0 : Int32), (0 : Int32), (0 : Int32), (0 : Int32), (0 : Int32), (0 : Int32), (0 : Int32), (0 : Int32), (0 : Int32), (0 : Int32), (0 : Int32), (0 : Int32), (0 : Int32), (0 : Int32), (0 : Int32), (0 : Int32), (0 : Int32), (0 : Int32), (0 : Int32), (0 : Int32), (0 : Int32), (0 : Int32), (0 : Int32), (0 : Int32), (0 : Int32), (0 : Int32), (0 : Int32), (0 : Int32), (0 : Int32), (0 : Int32), (0 : Int32), (0 : Int32), (0 : Int32), (0 : Int32), (0 : Int32), (0 : Int32), (0 : Int32), (0 : Int32), (0 : Int32), (0 : Int32), (0 : Int32)] rfl N248 ge199 (hb hby at_150) fun T255 h255 L255 X255 N255 e255 W255 A255 => ?_
      have F256 : Exa Z h255 a145 "com/example/whittle/whittle/model/LookUpTable" := F249.wr W255
      have F257 : Fld Z h255 a145 "com/example/whittle/whittle/model/LookUpTable" "words" "[J" (.ref b169) := F250.other W255 (Or.inl ne196)
      have F258 : Fld Z h255 a145 "com/example/whittle/whittle/model/LookUpTable" "highestSetBit" "J" (.long ((((64 : Int64) * ((1 : Int32).toInt64)) - (1 : Int64)) - ((fn4 A).toInt64))) := F251.other W255 (Or.inl ne196)
      have F259 : Arv Z h255 b169 k169 .long (1 : Int32) ([A].map Value.long) (.long 0) := F252.other W255 ne197
      have F260 : Arv Z h255 a173 k173 .boolean (2 : Int32) ([(0 : Int32), (1 : Int32)].map Value.int) (.int 0) := F253.other W255 ne198
      have sz261 : n0 ≤ h255.size := Nat.le_trans sz254 (Keep.of_wr W255).1
      have F262 : Arv Z h255 a195 k195 .int (66 : Int32) (((own_in i2)).map Value.int) (.int 0) := A255
      refine o_iload 153 X255 hx rfl (hb hby at_151) rfl ?_
      refine o_iconst 154 X255 hx rfl (hb hby at_153) (4 : Int32) rfl ?_
      refine o_iand 155 X255 hx rfl (hb hby at_154) ?_
      suffices j163_263 : Go p.tables e below (EndE s room_1 (fun v h L => v = some (.int (1 : Int32)) ∧ Fr n0 L)) (T255.setTop (mkF m 163 #[.val (.long q0), .second, .val (.long q1), .second, .val (.int i2), .val (.int i3), .val (.int i4), .val (.long A), .second, .val (.long B), .second, .val (.ref a145), .val (.ref a173), .val (.ref a195), .unset, .unset, .unset, .unset, .unset] [(.int (f0_163_s0' i4))])) by
        by_cases hc155_264 : (i4 &&& (4 : Int32)) = (0 : Int32)
        · refine o_ifYes 162 X255 hx (hb hby at_155) (teq hc155_264).1 (by decide) (by decide) ?_
          refine o_iconst 163 X255 hx rfl (hb hby at_162) (0 : Int32) rfl ?_
          rw [show (f0_163_s0' i4) = (0 : Int32) from by unfold f0_163_s0'; simp only [if_pos hc155_264]] at j163_263
          exact j163_263
        · refine o_ifNo 158 X255 hx rfl (hb hby at_155) (feq hc155_264).1 ?_
          refine o_iconst 159 X255 hx rfl (hb hby at_158) (1 : Int32) rfl ?_
          refine o_goto 163 X255 hx (hb hby at_159) (by decide) (by decide) ?_
          rw [show (f0_163_s0' i4) = (1 : Int32) from by unfold f0_163_s0'; simp only [if_neg hc155_264]] at j163_263
          exact j163_263
      refine o_istore 165 X255 hx rfl (hb hby at_163) #[.val (.long q0), .second, .val (.long q1), .second, .val (.int i2), .val (.int i3), .val (.int i4), .val (.long A), .second, .val (.long B), .second, .val (.ref a145), .val (.ref a173), .val (.ref a195), .val (.int (f0_163_s0' i4)), .unset, .unset, .unset, .unset] rfl ?_
      have hex : (f0_163_s0' i4) = 0 ∨ (f0_163_s0' i4) = 1 := own_ex i4
      generalize (f0_163_s0' i4) = ex at hex ⊢
      refine o_iload 167 X255 hx rfl (hb hby at_165) rfl ?_
      refine o_ldcInt 169 X255 hx rfl hZ hown (wd_39 hw) (hb hby at_167) ?_
      refine o_iand 170 X255 hx rfl (hb hby at_169) ?_
      refine o_bipush 172 X255 hx rfl (hb hby at_170) (66 : Int32) rfl ?_
      refine o_irem 173 X255 hx rfl (hb hby at_172) (by decide) ?_
      obtain ⟨P, hP, hp⟩ := own_P i3
      rw [hp]
      refine o_istore 175 X255 hx rfl (hb hby at_173) #[.val (.long q0), .second, .val (.long q1), .second, .val (.int i2), .val (.int i3), .val (.int i4), .val (.long A), .second, .val (.long B), .second, .val (.ref a145), .val (.ref a173), .val (.ref a195), .val (.int ex), .val (.int (Int32.ofNat P)), .unset, .unset, .unset] rfl ?_
      refine o_iload 177 X255 hx rfl (hb hby at_175) rfl ?_
      rcases hex with rfl | rfl
      · refine o_ifYes 186 X255 hx (hb hby at_177) (teq rfl).1 (by decide) (by decide) ?_
        refine o_iload 188 X255 hx rfl (hb hby at_186) rfl ?_
        refine o_ifYes 204 X255 hx (hb hby at_188) (teq rfl).1 (by decide) (by decide) ?_
        refine o_iload 206 X255 hx rfl (hb hby at_204) rfl ?_
        refine o_sipush 209 X255 hx rfl (hb hby at_206) (255 : Int32) rfl ?_
        refine o_iand 210 X255 hx rfl (hb hby at_209) ?_
        refine o_i2l 211 X255 hx rfl (hb hby at_210) ?_
        refine o_iload 213 X255 hx rfl (hb hby at_211) rfl ?_
        refine o_ifYes 223 X255 hx (hb hby at_213) (teq rfl).1 (by decide) (by decide) ?_
        refine o_lconst 224 X255 hx rfl (hb hby at_223) (0 : Int64) rfl ?_
        refine o_lor 225 X255 hx rfl (hb hby at_224) ?_
        refine o_lstore 227 X255 hx rfl (hb hby at_225) #[.val (.long q0), .second, .val (.long q1), .second, .val (.int i2), .val (.int i3), .val (.int i4), .val (.long A), .second, .val (.long B), .second, .val (.ref a145), .val (.ref a173), .val (.ref a195), .val (.int (0 : Int32)), .val (.int (Int32.ofNat P)), .unset, .val (.long (((i2 &&& (255 : Int32)).toInt64) ||| (0 : Int64))), .second] rfl ?_
        refine o_lload 229 X255 hx rfl (hb hby at_227) rfl ?_
        refine o_ldc2Long 232 X255 hx rfl hZ hown (wd_40 hw) (hb hby at_229) ?_
        refine o_lcmp 233 X255 hx rfl (hb hby at_232) ?_
        suffices j298_265 : Go p.tables e below (EndE s room_1 (fun v h L => v = some (.int (1 : Int32)) ∧ Fr n0 L)) (T255.setTop (mkF m 298 #[.val (.long q0), .second, .val (.long q1), .second, .val (.int i2), .val (.int i3), .val (.int i4), .val (.long A), .second, .val (.long B), .second, .val (.ref a145), .val (.ref a173), .val (.ref a195), .val (.int (0 : Int32)), .val (.int (Int32.ofNat P)), .val (.int (f0_298_l16'' A B i2)), .val (.long (((i2 &&& (255 : Int32)).toInt64) ||| (0 : Int64))), .second] [])) by
          by_cases hc233_266 : (((i2 &&& (255 : Int32)).toInt64) ||| (0 : Int64)) < (64 : Int64)
          · refine o_ifNo 236 X255 hx rfl (hb hby at_233) (tlt (l_tlt hc233_266)).2.1 ?_
            refine o_lload 238 X255 hx rfl (hb hby at_236) rfl ?_
            refine o_lload 240 X255 hx rfl (hb hby at_238) rfl ?_
            refine o_l2i 241 X255 hx rfl (hb hby at_240) ?_
            refine o_lushr 242 X255 hx rfl (hb hby at_241) ?_
            refine o_lconst 243 X255 hx rfl (hb hby at_242) (1 : Int64) rfl ?_
            refine o_land 244 X255 hx rfl (hb hby at_243) ?_
            refine o_lconst 245 X255 hx rfl (hb hby at_244) (0 : Int64) rfl ?_
            refine o_lcmp 246 X255 hx rfl (hb hby at_245) ?_
            by_cases hc246_267 : (((A.toUInt64 >>> (((((i2 &&& (255 : Int32)).toInt64) ||| (0 : Int64)).toInt32) &&& 0x3f).toInt64.toUInt64).toInt64) &&& (1 : Int64)) = (0 : Int64)
            · refine o_ifYes 253 X255 hx (hb hby at_246) (teq (l_teq hc246_267)).1 (by decide) (by decide) ?_
              refine o_iconst 254 X255 hx rfl (hb hby at_253) (0 : Int32) rfl ?_
              refine o_istore 256 X255 hx rfl (hb hby at_254) #[.val (.long q0), .second, .val (.long q1), .second, .val (.int i2), .val (.int i3), .val (.int i4), .val (.long A), .second, .val (.long B), .second, .val (.ref a145), .val (.ref a173), .val (.ref a195), .val (.int (0 : Int32)), .val (.int (Int32.ofNat P)), .val (.int (0 : Int32)), .val (.long (((i2 &&& (255 : Int32)).toInt64) ||| (0 : Int64))), .second] rfl ?_
              refine o_goto 298 X255 hx (hb hby at_256) (by decide) (by decide) ?_
              rw [show (f0_298_l16'' A B i2) = (0 : Int32) from by unfold f0_298_l16''; simp only [if_pos hc233_266, if_pos hc246_267]] at j298_265
              exact j298_265
            · refine o_ifNo 249 X255 hx rfl (hb hby at_246) (feq (l_feq hc246_267)).1 ?_
              refine o_iconst 250 X255 hx rfl (hb hby at_249) (1 : Int32) rfl ?_
              refine o_goto 254 X255 hx (hb hby at_250) (by decide) (by decide) ?_
              refine o_istore 256 X255 hx rfl (hb hby at_254) #[.val (.long q0), .second, .val (.long q1), .second, .val (.int i2), .val (.int i3), .val (.int i4), .val (.long A), .second, .val (.long B), .second, .val (.ref a145), .val (.ref a173), .val (.ref a195), .val (.int (0 : Int32)), .val (.int (Int32.ofNat P)), .val (.int (1 : Int32)), .val (.long (((i2 &&& (255 : Int32)).toInt64) ||| (0 : Int64))), .second] rfl ?_
              refine o_goto 298 X255 hx (hb hby at_256) (by decide) (by decide) ?_
              rw [show (f0_298_l16'' A B i2) = (1 : Int32) from by unfold f0_298_l16''; simp only [if_pos hc233_266, if_neg hc246_267]] at j298_265
              exact j298_265
          · refine o_ifYes 259 X255 hx (hb hby at_233) (flt (l_flt hc233_266)).2.1 (by decide) (by decide) ?_
            refine o_lload 261 X255 hx rfl (hb hby at_259) rfl ?_
            refine o_ldc2Long 264 X255 hx rfl hZ hown (wd_55 hw) (hb hby at_261) ?_
            refine o_lcmp 265 X255 hx rfl (hb hby at_264) ?_
            by_cases hc265_268 : (((i2 &&& (255 : Int32)).toInt64) ||| (0 : Int64)) < (128 : Int64)
            · refine o_ifNo 268 X255 hx rfl (hb hby at_265) (tlt (l_tlt hc265_268)).2.1 ?_
              refine o_lload 270 X255 hx rfl (hb hby at_268) rfl ?_
              refine o_lload 272 X255 hx rfl (hb hby at_270) rfl ?_
              refine o_ldc2Long 275 X255 hx rfl hZ hown (wd_40 hw) (hb hby at_272) ?_
              refine o_lsub 276 X255 hx rfl (hb hby at_275) ?_
              refine o_l2i 277 X255 hx rfl (hb hby at_276) ?_
              refine o_lushr 278 X255 hx rfl (hb hby at_277) ?_
              refine o_lconst 279 X255 hx rfl (hb hby at_278) (1 : Int64) rfl ?_
              refine o_land 280 X255 hx rfl (hb hby at_279) ?_
              refine o_lconst 281 X255 hx rfl (hb hby at_280) (0 : Int64) rfl ?_
              refine o_lcmp 282 X255 hx rfl (hb hby at_281) ?_
              by_cases hc282_269 : (((B.toUInt64 >>> ((((((i2 &&& (255 : Int32)).toInt64) ||| (0 : Int64)) - (64 : Int64)).toInt32) &&& 0x3f).toInt64.toUInt64).toInt64) &&& (1 : Int64)) = (0 : Int64)
              · refine o_ifYes 289 X255 hx (hb hby at_282) (teq (l_teq hc282_269)).1 (by decide) (by decide) ?_
                refine o_iconst 290 X255 hx rfl (hb hby at_289) (0 : Int32) rfl ?_
                refine o_istore 292 X255 hx rfl (hb hby at_290) #[.val (.long q0), .second, .val (.long q1), .second, .val (.int i2), .val (.int i3), .val (.int i4), .val (.long A), .second, .val (.long B), .second, .val (.ref a145), .val (.ref a173), .val (.ref a195), .val (.int (0 : Int32)), .val (.int (Int32.ofNat P)), .val (.int (0 : Int32)), .val (.long (((i2 &&& (255 : Int32)).toInt64) ||| (0 : Int64))), .second] rfl ?_
                refine o_goto 298 X255 hx (hb hby at_292) (by decide) (by decide) ?_
                rw [show (f0_298_l16'' A B i2) = (0 : Int32) from by unfold f0_298_l16''; simp only [if_neg hc233_266, if_pos hc265_268, if_pos hc282_269]] at j298_265
                exact j298_265
              · refine o_ifNo 285 X255 hx rfl (hb hby at_282) (feq (l_feq hc282_269)).1 ?_
                refine o_iconst 286 X255 hx rfl (hb hby at_285) (1 : Int32) rfl ?_
                refine o_goto 290 X255 hx (hb hby at_286) (by decide) (by decide) ?_
                refine o_istore 292 X255 hx rfl (hb hby at_290) #[.val (.long q0), .second, .val (.long q1), .second, .val (.int i2), .val (.int i3), .val (.int i4), .val (.long A), .second, .val (.long B), .second, .val (.ref a145), .val (.ref a173), .val (.ref a195), .val (.int (0 : Int32)), .val (.int (Int32.ofNat P)), .val (.int (1 : Int32)), .val (.long (((i2 &&& (255 : Int32)).toInt64) ||| (0 : Int64))), .second] rfl ?_
                refine o_goto 298 X255 hx (hb hby at_292) (by decide) (by decide) ?_
                rw [show (f0_298_l16'' A B i2) = (1 : Int32) from by unfold f0_298_l16''; simp only [if_neg hc233_266, if_pos hc265_268, if_neg hc282_269]] at j298_265
                exact j298_265
            · refine o_ifYes 295 X255 hx (hb hby at_265) (flt (l_flt hc265_268)).2.1 (by decide) (by decide) ?_
              refine o_iconst 296 X255 hx rfl (hb hby at_295) (0 : Int32) rfl ?_
              refine o_istore 298 X255 hx rfl (hb hby at_296) #[.val (.long q0), .second, .val (.long q1), .second, .val (.int i2), .val (.int i3), .val (.int i4), .val (.long A), .second, .val (.long B), .second, .val (.ref a145), .val (.ref a173), .val (.ref a195), .val (.int (0 : Int32)), .val (.int (Int32.ofNat P)), .val (.int (0 : Int32)), .val (.long (((i2 &&& (255 : Int32)).toInt64) ||| (0 : Int64))), .second] rfl ?_
              rw [show (f0_298_l16'' A B i2) = (0 : Int32) from by unfold f0_298_l16''; simp only [if_neg hc233_266, if_neg hc265_268]] at j298_265
              exact j298_265
        refine o_aload 300 X255 hx rfl (hb hby at_298) rfl rfl ?_
        refine o_aload 302 X255 hx rfl (hb hby at_300) rfl rfl ?_
        refine o_aload 304 X255 hx rfl (hb hby at_302) rfl rfl ?_
        refine o_callVP (rv := (.int (own_evv (own_in i2) ((((64 : Int64) * ((1 : Int32).toInt64)) - (1 : Int64)) - ((fn4 A).toInt64)) [A]))) 307 X255 hx rfl hZ hown (wd_41 hw) (wd_42 hw) (wd_44 hw) (wd_43 hw) (wd_2 hw) (wd_45 hw) (by decide) e255 (rm6 l Z a0 hw a145 a173 a195 b169 k173 k169 k195 (1 : Int32) ((((64 : Int64) * ((1 : Int32).toInt64)) - (1 : Int64)) - ((fn4 A).toInt64)) [A] (own_in i2) h255 F256 F257 F258 F259 F260 F262 (own_b0 i2) (own_x0_1 i2 A B hA hB)) pd_laZaIrZ [(.ref a173), (.ref a195)] [] rfl F256 rfl (by rw [hml]; rfl) rfl (hb hby at_304) 0 (Nat.le_of_eq rfl) (by decide) (by decide) (by decide) (by decide) rfl rfl fun T270 X270 e270 => ?_
        refine o_iload 309 X270 hx rfl (hb hby at_307) rfl ?_
        refine o_icmpNo 312 X270 hx rfl (hb hby at_309) (teq (own_f0_1 i2 A B hA hB)).2 ?_
        refine o_iconst 313 X270 hx rfl (hb hby at_312) (1 : Int32) rfl ?_
        refine o_goto 317 X270 hx (hb hby at_313) (by decide) (by decide) ?_
        refine o_retN X270 hx .boolean (by simp) hret hlk (hb hby at_317) (by decide) (by decide) ?_
        exact ⟨rfl, N255⟩
      · refine o_ifNo 180 X255 hx rfl (hb hby at_177) (feq (show ¬ ((1 : Int32) = (0 : Int32)) by decide)).1 ?_
        refine o_aload 182 X255 hx rfl (hb hby at_180) rfl rfl ?_
        refine o_iload 184 X255 hx rfl (hb hby at_182) rfl ?_
        refine o_iconst 185 X255 hx rfl (hb hby at_184) (1 : Int32) rfl ?_
        refine o_iastoreX 186 X255 hx rfl hZ e255 F262 ⟨own_nn (by omega), own_lt (n := 66) hP (by decide)⟩ (by rw [own_n32 (by omega)]; exact hP) (((own_in i2).set P (1 : Int32))) (by rw [own_n32 (by omega)]) N255 ge199 (hb hby at_185) fun T271 h271 L271 X271 N271 e271 W271 A271 => ?_
        have F272 : Exa Z h271 a145 "com/example/whittle/whittle/model/LookUpTable" := F256.wr W271
        have F273 : Fld Z h271 a145 "com/example/whittle/whittle/model/LookUpTable" "words" "[J" (.ref b169) := F257.other W271 (Or.inl ne196)
        have F274 : Fld Z h271 a145 "com/example/whittle/whittle/model/LookUpTable" "highestSetBit" "J" (.long ((((64 : Int64) * ((1 : Int32).toInt64)) - (1 : Int64)) - ((fn4 A).toInt64))) := F258.other W271 (Or.inl ne196)
        have F275 : Arv Z h271 b169 k169 .long (1 : Int32) ([A].map Value.long) (.long 0) := F259.other W271 ne197
        have F276 : Arv Z h271 a173 k173 .boolean (2 : Int32) ([(0 : Int32), (1 : Int32)].map Value.int) (.int 0) := F260.other W271 ne198
        have sz277 : n0 ≤ h271.size := Nat.le_trans sz261 (Keep.of_wr W271).1
        refine o_iload 188 X271 hx rfl (hb hby at_186) rfl ?_
        refine o_ifNo 191 X271 hx rfl (hb hby at_188) (feq (show ¬ ((1 : Int32) = (0 : Int32)) by decide)).1 ?_
        refine o_iload 193 X271 hx rfl (hb hby at_191) rfl ?_
        refine o_bipush 195 X271 hx rfl (hb hby at_193) (63 : Int32) rfl ?_
        by_cases h63 : P < 63
        · refine o_icmpYes 204 X271 hx (hb hby at_195) (tlt (own_lt (n := 63) h63 (by decide))).1 (by decide) (by decide) ?_
          refine o_iload 206 X271 hx rfl (hb hby at_204) rfl ?_
          refine o_sipush 209 X271 hx rfl (hb hby at_206) (255 : Int32) rfl ?_
          refine o_iand 210 X271 hx rfl (hb hby at_209) ?_
          refine o_i2l 211 X271 hx rfl (hb hby at_210) ?_
          refine o_iload 213 X271 hx rfl (hb hby at_211) rfl ?_
          refine o_ifNo 216 X271 hx rfl (hb hby at_213) (feq (show ¬ ((1 : Int32) = (0 : Int32)) by decide)).1 ?_
          refine o_lconst 217 X271 hx rfl (hb hby at_216) (1 : Int64) rfl ?_
          refine o_iload 219 X271 hx rfl (hb hby at_217) rfl ?_
          refine o_lshl 220 X271 hx rfl (hb hby at_219) ?_
          refine o_goto 224 X271 hx (hb hby at_220) (by decide) (by decide) ?_
          refine o_lor 225 X271 hx rfl (hb hby at_224) ?_
          refine o_lstore 227 X271 hx rfl (hb hby at_225) #[.val (.long q0), .second, .val (.long q1), .second, .val (.int i2), .val (.int i3), .val (.int i4), .val (.long A), .second, .val (.long B), .second, .val (.ref a145), .val (.ref a173), .val (.ref a195), .val (.int (1 : Int32)), .val (.int (Int32.ofNat P)), .unset, .val (.long (((i2 &&& (255 : Int32)).toInt64) ||| ((1 : Int64) <<< ((Int32.ofNat P) &&& 0x3f).toInt64))), .second] rfl ?_
          refine o_lload 229 X271 hx rfl (hb hby at_227) rfl ?_
          refine o_ldc2Long 232 X271 hx rfl hZ hown (wd_40 hw) (hb hby at_229) ?_
          refine o_lcmp 233 X271 hx rfl (hb hby at_232) ?_
          suffices j298_278 : Go p.tables e below (EndE s room_1 (fun v h L => v = some (.int (1 : Int32)) ∧ Fr n0 L)) (T271.setTop (mkF m 298 #[.val (.long q0), .second, .val (.long q1), .second, .val (.int i2), .val (.int i3), .val (.int i4), .val (.long A), .second, .val (.long B), .second, .val (.ref a145), .val (.ref a173), .val (.ref a195), .val (.int (1 : Int32)), .val (.int (Int32.ofNat P)), .val (.int (f0_298_l16''' A B P i2)), .val (.long (((i2 &&& (255 : Int32)).toInt64) ||| ((1 : Int64) <<< ((Int32.ofNat P) &&& 0x3f).toInt64))), .second] [])) by
            by_cases hc233_279 : (((i2 &&& (255 : Int32)).toInt64) ||| ((1 : Int64) <<< ((Int32.ofNat P) &&& 0x3f).toInt64)) < (64 : Int64)
            · refine o_ifNo 236 X271 hx rfl (hb hby at_233) (tlt (l_tlt hc233_279)).2.1 ?_
              refine o_lload 238 X271 hx rfl (hb hby at_236) rfl ?_
              refine o_lload 240 X271 hx rfl (hb hby at_238) rfl ?_
              refine o_l2i 241 X271 hx rfl (hb hby at_240) ?_
              refine o_lushr 242 X271 hx rfl (hb hby at_241) ?_
              refine o_lconst 243 X271 hx rfl (hb hby at_242) (1 : Int64) rfl ?_
              refine o_land 244 X271 hx rfl (hb hby at_243) ?_
              refine o_lconst 245 X271 hx rfl (hb hby at_244) (0 : Int64) rfl ?_
              refine o_lcmp 246 X271 hx rfl (hb hby at_245) ?_
              by_cases hc246_280 : (((A.toUInt64 >>> (((((i2 &&& (255 : Int32)).toInt64) ||| ((1 : Int64) <<< ((Int32.ofNat P) &&& 0x3f).toInt64)).toInt32) &&& 0x3f).toInt64.toUInt64).toInt64) &&& (1 : Int64)) = (0 : Int64)
              · refine o_ifYes 253 X271 hx (hb hby at_246) (teq (l_teq hc246_280)).1 (by decide) (by decide) ?_
                refine o_iconst 254 X271 hx rfl (hb hby at_253) (0 : Int32) rfl ?_
                refine o_istore 256 X271 hx rfl (hb hby at_254) #[.val (.long q0), .second, .val (.long q1), .second, .val (.int i2), .val (.int i3), .val (.int i4), .val (.long A), .second, .val (.long B), .second, .val (.ref a145), .val (.ref a173), .val (.ref a195), .val (.int (1 : Int32)), .val (.int (Int32.ofNat P)), .val (.int (0 : Int32)), .val (.long (((i2 &&& (255 : Int32)).toInt64) ||| ((1 : Int64) <<< ((Int32.ofNat P) &&& 0x3f).toInt64))), .second] rfl ?_
                refine o_goto 298 X271 hx (hb hby at_256) (by decide) (by decide) ?_
                rw [show (f0_298_l16''' A B P i2) = (0 : Int32) from by unfold f0_298_l16'''; simp only [if_pos hc233_279, if_pos hc246_280]] at j298_278
                exact j298_278
              · refine o_ifNo 249 X271 hx rfl (hb hby at_246) (feq (l_feq hc246_280)).1 ?_
                refine o_iconst 250 X271 hx rfl (hb hby at_249) (1 : Int32) rfl ?_
                refine o_goto 254 X271 hx (hb hby at_250) (by decide) (by decide) ?_
                refine o_istore 256 X271 hx rfl (hb hby at_254) #[.val (.long q0), .second, .val (.long q1), .second, .val (.int i2), .val (.int i3), .val (.int i4), .val (.long A), .second, .val (.long B), .second, .val (.ref a145), .val (.ref a173), .val (.ref a195), .val (.int (1 : Int32)), .val (.int (Int32.ofNat P)), .val (.int (1 : Int32)), .val (.long (((i2 &&& (255 : Int32)).toInt64) ||| ((1 : Int64) <<< ((Int32.ofNat P) &&& 0x3f).toInt64))), .second] rfl ?_
                refine o_goto 298 X271 hx (hb hby at_256) (by decide) (by decide) ?_
                rw [show (f0_298_l16''' A B P i2) = (1 : Int32) from by unfold f0_298_l16'''; simp only [if_pos hc233_279, if_neg hc246_280]] at j298_278
                exact j298_278
            · refine o_ifYes 259 X271 hx (hb hby at_233) (flt (l_flt hc233_279)).2.1 (by decide) (by decide) ?_
              refine o_lload 261 X271 hx rfl (hb hby at_259) rfl ?_
              refine o_ldc2Long 264 X271 hx rfl hZ hown (wd_55 hw) (hb hby at_261) ?_
              refine o_lcmp 265 X271 hx rfl (hb hby at_264) ?_
              by_cases hc265_281 : (((i2 &&& (255 : Int32)).toInt64) ||| ((1 : Int64) <<< ((Int32.ofNat P) &&& 0x3f).toInt64)) < (128 : Int64)
              · refine o_ifNo 268 X271 hx rfl (hb hby at_265) (tlt (l_tlt hc265_281)).2.1 ?_
                refine o_lload 270 X271 hx rfl (hb hby at_268) rfl ?_
                refine o_lload 272 X271 hx rfl (hb hby at_270) rfl ?_
                refine o_ldc2Long 275 X271 hx rfl hZ hown (wd_40 hw) (hb hby at_272) ?_
                refine o_lsub 276 X271 hx rfl (hb hby at_275) ?_
                refine o_l2i 277 X271 hx rfl (hb hby at_276) ?_
                refine o_lushr 278 X271 hx rfl (hb hby at_277) ?_
                refine o_lconst 279 X271 hx rfl (hb hby at_278) (1 : Int64) rfl ?_
                refine o_land 280 X271 hx rfl (hb hby at_279) ?_
                refine o_lconst 281 X271 hx rfl (hb hby at_280) (0 : Int64) rfl ?_
                refine o_lcmp 282 X271 hx rfl (hb hby at_281) ?_
                by_cases hc282_282 : (((B.toUInt64 >>> ((((((i2 &&& (255 : Int32)).toInt64) ||| ((1 : Int64) <<< ((Int32.ofNat P) &&& 0x3f).toInt64)) - (64 : Int64)).toInt32) &&& 0x3f).toInt64.toUInt64).toInt64) &&& (1 : Int64)) = (0 : Int64)
                · refine o_ifYes 289 X271 hx (hb hby at_282) (teq (l_teq hc282_282)).1 (by decide) (by decide) ?_
                  refine o_iconst 290 X271 hx rfl (hb hby at_289) (0 : Int32) rfl ?_
                  refine o_istore 292 X271 hx rfl (hb hby at_290) #[.val (.long q0), .second, .val (.long q1), .second, .val (.int i2), .val (.int i3), .val (.int i4), .val (.long A), .second, .val (.long B), .second, .val (.ref a145), .val (.ref a173), .val (.ref a195), .val (.int (1 : Int32)), .val (.int (Int32.ofNat P)), .val (.int (0 : Int32)), .val (.long (((i2 &&& (255 : Int32)).toInt64) ||| ((1 : Int64) <<< ((Int32.ofNat P) &&& 0x3f).toInt64))), .second] rfl ?_
                  refine o_goto 298 X271 hx (hb hby at_292) (by decide) (by decide) ?_
                  rw [show (f0_298_l16''' A B P i2) = (0 : Int32) from by unfold f0_298_l16'''; simp only [if_neg hc233_279, if_pos hc265_281, if_pos hc282_282]] at j298_278
                  exact j298_278
                · refine o_ifNo 285 X271 hx rfl (hb hby at_282) (feq (l_feq hc282_282)).1 ?_
                  refine o_iconst 286 X271 hx rfl (hb hby at_285) (1 : Int32) rfl ?_
                  refine o_goto 290 X271 hx (hb hby at_286) (by decide) (by decide) ?_
                  refine o_istore 292 X271 hx rfl (hb hby at_290) #[.val (.long q0), .second, .val (.long q1), .second, .val (.int i2), .val (.int i3), .val (.int i4), .val (.long A), .second, .val (.long B), .second, .val (.ref a145), .val (.ref a173), .val (.ref a195), .val (.int (1 : Int32)), .val (.int (Int32.ofNat P)), .val (.int (1 : Int32)), .val (.long (((i2 &&& (255 : Int32)).toInt64) ||| ((1 : Int64) <<< ((Int32.ofNat P) &&& 0x3f).toInt64))), .second] rfl ?_
                  refine o_goto 298 X271 hx (hb hby at_292) (by decide) (by decide) ?_
                  rw [show (f0_298_l16''' A B P i2) = (1 : Int32) from by unfold f0_298_l16'''; simp only [if_neg hc233_279, if_pos hc265_281, if_neg hc282_282]] at j298_278
                  exact j298_278
              · refine o_ifYes 295 X271 hx (hb hby at_265) (flt (l_flt hc265_281)).2.1 (by decide) (by decide) ?_
                refine o_iconst 296 X271 hx rfl (hb hby at_295) (0 : Int32) rfl ?_
                refine o_istore 298 X271 hx rfl (hb hby at_296) #[.val (.long q0), .second, .val (.long q1), .second, .val (.int i2), .val (.int i3), .val (.int i4), .val (.long A), .second, .val (.long B), .second, .val (.ref a145), .val (.ref a173), .val (.ref a195), .val (.int (1 : Int32)), .val (.int (Int32.ofNat P)), .val (.int (0 : Int32)), .val (.long (((i2 &&& (255 : Int32)).toInt64) ||| ((1 : Int64) <<< ((Int32.ofNat P) &&& 0x3f).toInt64))), .second] rfl ?_
                rw [show (f0_298_l16''' A B P i2) = (0 : Int32) from by unfold f0_298_l16'''; simp only [if_neg hc233_279, if_neg hc265_281]] at j298_278
                exact j298_278
          refine o_aload 300 X271 hx rfl (hb hby at_298) rfl rfl ?_
          refine o_aload 302 X271 hx rfl (hb hby at_300) rfl rfl ?_
          refine o_aload 304 X271 hx rfl (hb hby at_302) rfl rfl ?_
          refine o_callVP (rv := (.int (own_evv ((own_in i2).set P (1 : Int32)) ((((64 : Int64) * ((1 : Int32).toInt64)) - (1 : Int64)) - ((fn4 A).toInt64)) [A]))) 307 X271 hx rfl hZ hown (wd_41 hw) (wd_42 hw) (wd_44 hw) (wd_43 hw) (wd_2 hw) (wd_45 hw) (by decide) e271 (rm6 l Z a0 hw a145 a173 a195 b169 k173 k169 k195 (1 : Int32) ((((64 : Int64) * ((1 : Int32).toInt64)) - (1 : Int64)) - ((fn4 A).toInt64)) [A] ((own_in i2).set P (1 : Int32)) h271 F272 F273 F274 F275 F276 A271 (own_b1 i2 P) (own_x1_1 i2 P hP A B hA hB)) pd_laZaIrZ [(.ref a173), (.ref a195)] [] rfl F272 rfl (by rw [hml]; rfl) rfl (hb hby at_304) 0 (Nat.le_of_eq rfl) (by decide) (by decide) (by decide) (by decide) rfl rfl fun T283 X283 e283 => ?_
          refine o_iload 309 X283 hx rfl (hb hby at_307) rfl ?_
          refine o_icmpNo 312 X283 hx rfl (hb hby at_309) (teq (own_f1_1 i2 P h63 A B hA hB)).2 ?_
          refine o_iconst 313 X283 hx rfl (hb hby at_312) (1 : Int32) rfl ?_
          refine o_goto 317 X283 hx (hb hby at_313) (by decide) (by decide) ?_
          refine o_retN X283 hx .boolean (by simp) hret hlk (hb hby at_317) (by decide) (by decide) ?_
          exact ⟨rfl, N271⟩
        · refine o_icmpNo 198 X271 hx rfl (hb hby at_195) (flt (own_nle (n := 63) (by omega) (by omega))).1 ?_
          refine o_iconst 199 X271 hx rfl (hb hby at_198) (0 : Int32) rfl ?_
          refine o_istore 201 X271 hx rfl (hb hby at_199) #[.val (.long q0), .second, .val (.long q1), .second, .val (.int i2), .val (.int i3), .val (.int i4), .val (.long A), .second, .val (.long B), .second, .val (.ref a145), .val (.ref a173), .val (.ref a195), .val (.int (1 : Int32)), .val (.int (Int32.ofNat P)), .val (.int (0 : Int32)), .unset, .unset] rfl ?_
          refine o_goto 298 X271 hx (hb hby at_201) (by decide) (by decide) ?_
          refine o_aload 300 X271 hx rfl (hb hby at_298) rfl rfl ?_
          refine o_aload 302 X271 hx rfl (hb hby at_300) rfl rfl ?_
          refine o_aload 304 X271 hx rfl (hb hby at_302) rfl rfl ?_
          refine o_callVP (rv := (.int (own_evv ((own_in i2).set P (1 : Int32)) ((((64 : Int64) * ((1 : Int32).toInt64)) - (1 : Int64)) - ((fn4 A).toInt64)) [A]))) 307 X271 hx rfl hZ hown (wd_41 hw) (wd_42 hw) (wd_44 hw) (wd_43 hw) (wd_2 hw) (wd_45 hw) (by decide) e271 (rm6 l Z a0 hw a145 a173 a195 b169 k173 k169 k195 (1 : Int32) ((((64 : Int64) * ((1 : Int32).toInt64)) - (1 : Int64)) - ((fn4 A).toInt64)) [A] ((own_in i2).set P (1 : Int32)) h271 F272 F273 F274 F275 F276 A271 (own_b1 i2 P) (own_x1_1 i2 P hP A B hA hB)) pd_laZaIrZ [(.ref a173), (.ref a195)] [] rfl F272 rfl (by rw [hml]; rfl) rfl (hb hby at_304) 0 (Nat.le_of_eq rfl) (by decide) (by decide) (by decide) (by decide) rfl rfl fun T284 X284 e284 => ?_
          refine o_iload 309 X284 hx rfl (hb hby at_307) rfl ?_
          refine o_icmpNo 312 X284 hx rfl (hb hby at_309) (teq (own_f2_1 i2 P hP h63 A B hA hB)).2 ?_
          refine o_iconst 313 X284 hx rfl (hb hby at_312) (1 : Int32) rfl ?_
          refine o_goto 317 X284 hx (hb hby at_313) (by decide) (by decide) ?_
          refine o_retN X284 hx .boolean (by simp) hret hlk (hb hby at_317) (by decide) (by decide) ?_
          exact ⟨rfl, N271⟩
  · refine o_new 31 X0 hx rfl hZ hown (wd_0 hw) (wd_1 hw) (wd_2 hw) e0 (hb hby at_28) (by decide) (by decide) fun T285 h285 a285 g285 X285 e285 E285 A285 D285 => ?_
    have ge286 : n0 ≤ a285 := Nat.le_trans Z0 (Nat.le_of_eq g285.symm)
    have sz287 : n0 ≤ h285.size := Nat.le_trans Z0 E285.1
    have F288 : Fld Z h285 a285 "com/example/whittle/whittle/model/LookUpTable" "words" "[J" .null := D285 (Or.inr (wd_24 hw)) (ty := (.array .long)) (by decide)
    have F289 : Fld Z h285 a285 "com/example/whittle/whittle/model/LookUpTable" "highestSetBit" "J" (.long (0 : Int64)) := D285 (Or.inr (wd_36 hw)) (ty := .long) (by decide)
    refine o_dup 32 X285 hx rfl (hb hby at_31) rfl ?_
    refine o_iconst 33 X285 hx rfl (hb hby at_32) (2 : Int32) rfl ?_
    refine o_newJE 35 X285 hx rfl hZ .long .long rfl rfl (wd_3 hw) e285 (hb hby at_33) (by decide) 2 (by decide) (by decide) (by decide) (by decide) [(0 : Int64), (0 : Int64)] rfl "[J" rfl fun T290 h290 a290 k290 g290 X290 e290 E290 A290 D290 => ?_
    have ne291 : a285 ≠ a290 := Nat.ne_of_lt (Nat.lt_of_lt_of_eq A285.lt g290.symm)
    have ge292 : n0 ≤ a290 := Nat.le_trans sz287 (Nat.le_of_eq g290.symm)
    have F293 : Exa Z h290 a285 "com/example/whittle/whittle/model/LookUpTable" := A285.ext E290
    have F294 : Fld Z h290 a285 "com/example/whittle/whittle/model/LookUpTable" "words" "[J" .null := F288.ext E290
    have F295 : Fld Z h290 a285 "com/example/whittle/whittle/model/LookUpTable" "highestSetBit" "J" (.long (0 : Int64)) := F289.ext E290
    have sz296 : n0 ≤ h290.size := Nat.le_trans sz287 E290.1
    refine o_dup 36 X290 hx rfl (hb hby at_35) rfl ?_
    refine o_iconst 37 X290 hx rfl (hb hby at_36) (0 : Int32) rfl ?_
    refine o_lload 39 X290 hx rfl (hb hby at_37) rfl ?_
    refine o_lastoreX 40 X290 hx rfl hZ e290 A290 (by decide) (Nat.le_of_ble_eq_true rfl) [A, (0 : Int64)] rfl N0 ge292 (hb hby at_39) fun T297 h297 L297 X297 N297 e297 W297 A297 => ?_
    have F298 : Exa Z h297 a285 "com/example/whittle/whittle/model/LookUpTable" := F293.wr W297
    have F299 : Fld Z h297 a285 "com/example/whittle/whittle/model/LookUpTable" "words" "[J" .null := F294.other W297 (Or.inl ne291)
    have F300 : Fld Z h297 a285 "com/example/whittle/whittle/model/LookUpTable" "highestSetBit" "J" (.long (0 : Int64)) := F295.other W297 (Or.inl ne291)
    have F301 : Exa Z h297 a290 "[J" := D290.wr W297
    have sz302 : n0 ≤ h297.size := Nat.le_trans sz296 (Keep.of_wr W297).1
    refine o_dup 41 X297 hx rfl (hb hby at_40) rfl ?_
    refine o_iconst 42 X297 hx rfl (hb hby at_41) (1 : Int32) rfl ?_
    refine o_lload 44 X297 hx rfl (hb hby at_42) rfl ?_
    refine o_lastoreX 45 X297 hx rfl hZ e297 A297 (by decide) (Nat.le_of_ble_eq_true rfl) [A, B] rfl N297 ge292 (hb hby at_44) fun T303 h303 L303 X303 N303 e303 W303 A303 => ?_
    have F304 : Exa Z h303 a285 "com/example/whittle/whittle/model/LookUpTable" := F298.wr W303
    have F305 : Fld Z h303 a285 "com/example/whittle/whittle/model/LookUpTable" "words" "[J" .null := F299.other W303 (Or.inl ne291)
    have F306 : Fld Z h303 a285 "com/example/whittle/whittle/model/LookUpTable" "highestSetBit" "J" (.long (0 : Int64)) := F300.other W303 (Or.inl ne291)
    have F307 : Exa Z h303 a290 "[J" := F301.wr W303
    have sz308 : n0 ≤ h303.size := Nat.le_trans sz302 (Keep.of_wr W303).1
    refine o_callIw 48 X303 hx rfl hZ rfl hown (wd_4 hw) (wd_5 hw) (wd_2 hw) (wd_6 hw) (by decide) e303 N303 (rm1_2 l Z a0 hw a285 a290 k290 A B h303 n0 sz308 ge286 ne291.symm F304 F305 F306 A303 F307 hB) pd_laJrV a285 [(.ref a290)] [(.ref a285)] rfl rfl (by rw [hml]; rfl) rfl (hb hby at_45) 1 (Nat.le_of_eq rfl) (by decide) (by decide) (by decide) (by decide) fun v309 T309 L309 LL309 X309 Q309 NF309 => ?_
    obtain ⟨b309, k309, rfl, M309, K309, gb309, gz309, E309, Fw309, Fh309, A309⟩ := Q309
    have NN309 := NF309 M309
    have ne310 : a285 ≠ b309 := Nat.ne_of_lt (Nat.lt_of_lt_of_le F304.lt gz309)
    have ne311 : a290 ≠ b309 := Nat.ne_of_lt (Nat.lt_of_lt_of_le A303.lt gz309)
    have sz312 : n0 ≤ T309.heap.size := Nat.le_trans sz308 K309.1
    show Go p.tables e below (EndE s room_1 (fun v h L => v = some (.int (1 : Int32)) ∧ Fr n0 L)) (T309.setTop (mkF m 48 #[.val (.long q0), .second, .val (.long q1), .second, .val (.int i2), .val (.int i3), .val (.int i4), .val (.long A), .second, .val (.long B), .second, .unset, .unset, .unset, .unset, .unset, .unset, .unset, .unset] [(.ref a285)]))
    refine o_astore 50 X309 hx rfl (hb hby at_48) rfl #[.val (.long q0), .second, .val (.long q1), .second, .val (.int i2), .val (.int i3), .val (.int i4), .val (.long A), .second, .val (.long B), .second, .val (.ref a285), .unset, .unset, .unset, .unset, .unset, .unset, .unset] rfl ?_
    refine o_iconst 51 X309 hx rfl (hb hby at_50) (2 : Int32) rfl ?_
    refine o_newarrI 53 X309 hx rfl hZ .boolean .boolean rfl rfl (wd_37 hw) rfl (hb hby at_51) (by decide) 2 (by decide) (by decide) (by decide) (by decide) [(0 : Int32), (0 : Int32)] rfl fun T313 h313 a313 k313 g313 X313 e313 E313 A313 => ?_
    have ne314 : a285 ≠ a313 := Nat.ne_of_lt (Nat.lt_of_lt_of_eq E309.lt g313.symm)
    have ne315 : b309 ≠ a313 := Nat.ne_of_lt (Nat.lt_of_lt_of_eq A309.lt g313.symm)
    have ge316 : n0 ≤ a313 := Nat.le_trans sz312 (Nat.le_of_eq g313.symm)
    have F317 : Exa Z h313 a285 "com/example/whittle/whittle/model/LookUpTable" := E309.ext E313
    have F318 : Fld Z h313 a285 "com/example/whittle/whittle/model/LookUpTable" "words" "[J" (.ref b309) := Fw309.ext E313
    have F319 : Fld Z h313 a285 "com/example/whittle/whittle/model/LookUpTable" "highestSetBit" "J" (.long ((((64 : Int64) * ((2 : Int32).toInt64)) - (1 : Int64)) - ((fn4 B).toInt64))) := Fh309.ext E313
    have F320 : Arv Z h313 b309 k309 .long (2 : Int32) ([A, B].map Value.long) (.long 0) := A309.ext E313
    have sz321 : n0 ≤ h313.size := Nat.le_trans sz312 E313.1
    refine o_dup 54 X313 hx rfl (hb hby at_53) rfl ?_
    refine o_iconst 55 X313 hx rfl (hb hby at_54) (0 : Int32) rfl ?_
    refine o_iconst 56 X313 hx rfl (hb hby at_55) (0 : Int32) rfl ?_
    refine o_bastoreZX 57 X313 hx rfl hZ e313 A313 (by decide) (Nat.le_of_ble_eq_true rfl) [(nar .boolean (0 : Int32)), (0 : Int32)] rfl NN309 ge316 (hb hby at_56) fun T322 h322 L322 X322 N322 e322 W322 A322 => ?_
    have F323 : Exa Z h322 a285 "com/example/whittle/whittle/model/LookUpTable" := F317.wr W322
    have F324 : Fld Z h322 a285 "com/example/whittle/whittle/model/LookUpTable" "words" "[J" (.ref b309) := F318.other W322 (Or.inl ne314)
    have F325 : Fld Z h322 a285 "com/example/whittle/whittle/model/LookUpTable" "highestSetBit" "J" (.long ((((64 : Int64) * ((2 : Int32).toInt64)) - (1 : Int64)) - ((fn4 B).toInt64))) := F319.other W322 (Or.inl ne314)
    have F326 : Arv Z h322 b309 k309 .long (2 : Int32) ([A, B].map Value.long) (.long 0) := F320.other W322 ne315
    have sz327 : n0 ≤ h322.size := Nat.le_trans sz321 (Keep.of_wr W322).1
    refine o_dup 58 X322 hx rfl (hb hby at_57) rfl ?_
    refine o_iconst 59 X322 hx rfl (hb hby at_58) (1 : Int32) rfl ?_
    refine o_iconst 60 X322 hx rfl (hb hby at_59) (1 : Int32) rfl ?_
    refine o_bastoreZX 61 X322 hx rfl hZ e322 A322 (by decide) (Nat.le_of_ble_eq_true rfl) [(nar .boolean (0 : Int32)), (nar .boolean (1 : Int32))] rfl N322 ge316 (hb hby at_60) fun T328 h328 L328 X328 N328 e328 W328 A328 => ?_
    have F329 : Exa Z h328 a285 "com/example/whittle/whittle/model/LookUpTable" := F323.wr W328
    have F330 : Fld Z h328 a285 "com/example/whittle/whittle/model/LookUpTable" "words" "[J" (.ref b309) := F324.other W328 (Or.inl ne314)
    have F331 : Fld Z h328 a285 "com/example/whittle/whittle/model/LookUpTable" "highestSetBit" "J" (.long ((((64 : Int64) * ((2 : Int32).toInt64)) - (1 : Int64)) - ((fn4 B).toInt64))) := F325.other W328 (Or.inl ne314)
    have F332 : Arv Z h328 b309 k309 .long (2 : Int32) ([A, B].map Value.long) (.long 0) := F326.other W328 ne315
    have sz333 : n0 ≤ h328.size := Nat.le_trans sz327 (Keep.of_wr W328).1
    refine o_astore 63 X328 hx rfl (hb hby at_61) rfl #[.val (.long q0), .second, .val (.long q1), .second, .val (.int i2), .val (.int i3), .val (.int i4), .val (.long A), .second, .val (.long B), .second, .val (.ref a285), .val (.ref a313), .unset, .unset, .unset, .unset, .unset, .unset] rfl ?_
    have F334 : Arv Z h328 a313 k313 .boolean (2 : Int32) ([(0 : Int32), (1 : Int32)].map Value.int) (.int 0) := A328
    refine o_bipush 65 X328 hx rfl (hb hby at_63) (66 : Int32) rfl ?_
    refine o_newarrI 67 X328 hx rfl hZ .int .int rfl rfl (wd_38 hw) e328 (hb hby at_65) (by decide) 66 (by decide) (by decide) (by decide) (by decide) [(0 : Int32), (0 : Int32), (0 : Int32), (0 : Int32), (0 : Int32), (0 : Int32), (0 : Int32), (0 : Int32), (0 : Int32), (0 : Int32), (0 : Int32), (0 : Int32), (0 : Int32), (0 : Int32), (0 : Int32), (0 : Int32), (0 : Int32), (0 : Int32), (0 : Int32), (0 : Int32), (0 : Int32), (0 : Int32), (0 : Int32), (0 : Int32), (0 : Int32), (0 : Int32), (0 : Int32), (0 : Int32), (0 : Int32), (0 : Int32), (0 : Int32), (0 : Int32), (0 : Int32), (0 : Int32), (0 : Int32), (0 : Int32), (0 : Int32), (0 : Int32), (0 : Int32), (0 : Int32), (0 : Int32), (0 : Int32), (0 : Int32), (0 : Int32), (0 : Int32), (0 : Int32), (0 : Int32), (0 : Int32), (0 : Int32), (0 : Int32), (0 : Int32), (0 : Int32), (0 : Int32), (0 : Int32), (0 : Int32), (0 : Int32), (0 : Int32), (0 : Int32), (0 : Int32), (0 : Int32), (0 : Int32), (0 : Int32), (0 : Int32), (0 : Int32), (0 : Int32), (0 : Int32)] rfl fun T335 h335 a335 k335 g335 X335 e335 E335 A335 => ?_
    have ne336 : a285 ≠ a335 := Nat.ne_of_lt (Nat.lt_of_lt_of_eq F329.lt g335.symm)
    have ne337 : b309 ≠ a335 := Nat.ne_of_lt (Nat.lt_of_lt_of_eq F332.lt g335.symm)
    have ne338 : a313 ≠ a335 := Nat.ne_of_lt (Nat.lt_of_lt_of_eq F334.lt g335.symm)
    have ge339 : n0 ≤ a335 := Nat.le_trans sz333 (Nat.le_of_eq g335.symm)
    have F340 : Exa Z h335 a285 "com/example/whittle/whittle/model/LookUpTable" := F329.ext E335
    have F341 : Fld Z h335 a285 "com/example/whittle/whittle/model/LookUpTable" "words" "[J" (.ref b309) := F330.ext E335
    have F342 : Fld Z h335 a285 "com/example/whittle/whittle/model/LookUpTable" "highestSetBit" "J" (.long ((((64 : Int64) * ((2 : Int32).toInt64)) - (1 : Int64)) - ((fn4 B).toInt64))) := F331.ext E335
    have F343 : Arv Z h335 b309 k309 .long (2 : Int32) ([A, B].map Value.long) (.long 0) := F332.ext E335
    have F344 : Arv Z h335 a313 k313 .boolean (2 : Int32) ([(0 : Int32), (1 : Int32)].map Value.int) (.int 0) := F334.ext E335
    have sz345 : n0 ≤ h335.size := Nat.le_trans sz333 E335.1
    refine o_astore 69 X335 hx rfl (hb hby at_67) rfl #[.val (.long q0), .second, .val (.long q1), .second, .val (.int i2), .val (.int i3), .val (.int i4), .val (.long A), .second, .val (.long B), .second, .val (.ref a285), .val (.ref a313), .val (.ref a335), .unset, .unset, .unset, .unset, .unset] rfl ?_
    refine o_aload 71 X335 hx rfl (hb hby at_69) rfl rfl ?_
    refine o_iconst 72 X335 hx rfl (hb hby at_71) (0 : Int32) rfl ?_
    refine o_iload 74 X335 hx rfl (hb hby at_72) rfl ?_
    refine o_iconst 75 X335 hx rfl (hb hby at_74) (1 : Int32) rfl ?_
    refine o_iand 76 X335 hx rfl (hb hby at_75) ?_
    refine o_iastoreX 77 X335 hx rfl hZ e335 A335 (by decide) (Nat.le_of_ble_eq_true rfl) [(i2 &&& (1 : Int32)), (0 : Int32), (0 : Int32), (0 : Int32), (0 : Int32), (0 : Int32), (0 : Int32), (0 : Int32), (0 : Int32), (0 : Int32), (0 : Int32), (0 : Int32), (0 : Int32), (0 : Int32), (0 : Int32), (0 : Int32), (0 : Int32), (0 : Int32), (0 : Int32), (0 : Int32), (0 : Int32), (0 : Int32), (0 : Int32), (0 : Int32), (0 : Int32), (0 : Int32), (0 : Int32), (0 : Int32), (0 : Int32), (0 : Int32), (0 : Int32), (0 : Int32), (0 : Int32), (0 : Int32), (0 : Int32), (0 : Int32), (0 : Int32), (0 : Int32), (0 : Int32), (0 : Int32), (0 : Int32), (0 : Int32), (0 : Int32), (0 : Int32), (0 : Int32), (0 : Int32), (0 : Int32), (0 : Int32), (0 : Int32), (0 : Int32), (0 : Int32), (0 : Int32), (0 : Int32), (0 : Int32), (0 : Int32), (0 : Int32), (0 : Int32), (0 : Int32), (0 : Int32), (0 : Int32), (0 : Int32), (0 : Int32), (0 : Int32), (0 : Int32), (0 : Int32), (0 : Int32)] rfl N328 ge339 (hb hby at_76) fun T346 h346 L346 X346 N346 e346 W346 A346 => ?_
    have F347 : Exa Z h346 a285 "com/example/whittle/whittle/model/LookUpTable" := F340.wr W346
    have F348 : Fld Z h346 a285 "com/example/whittle/whittle/model/LookUpTable" "words" "[J" (.ref b309) := F341.other W346 (Or.inl ne336)
    have F349 : Fld Z h346 a285 "com/example/whittle/whittle/model/LookUpTable" "highestSetBit" "J" (.long ((((64 : Int64) * ((2 : Int32).toInt64)) - (1 : Int64)) - ((fn4 B).toInt64))) := F342.other W346 (Or.inl ne336)
    have F350 : Arv Z h346 b309 k309 .long (2 : Int32) ([A, B].map Value.long) (.long 0) := F343.other W346 ne337
    have F351 : Arv Z h346 a313 k313 .boolean (2 : Int32) ([(0 : Int32), (1 : Int32)].map Value.int) (.int 0) := F344.other W346 ne338
    have sz352 : n0 ≤ h346.size := Nat.le_trans sz345 (Keep.of_wr W346).1
    refine o_aload 79 X346 hx rfl (hb hby at_77) rfl rfl ?_
    refine o_iconst 80 X346 hx rfl (hb hby at_79) (1 : Int32) rfl ?_
    refine o_iload 82 X346 hx rfl (hb hby at_80) rfl ?_
    refine o_iconst 83 X346 hx rfl (hb hby at_82) (1 : Int32) rfl ?_
    refine o_iushr 84 X346 hx rfl (hb hby at_83) ?_
    refine o_iconst 85 X346 hx rfl (hb hby at_84) (1 : Int32) rfl ?_
    refine o_iand 86 X346 hx rfl (hb hby at_85) ?_
    refine o_iastoreX 87 X346 hx rfl hZ e346 A346 (by decide) (Nat.le_of_ble_eq_true rfl) [(i2 &&& (1 : Int32)), (((i2.toUInt32 >>> ((1 : Int32) &&& 31).toUInt32).toInt32) &&& (1 : Int32)), (0 : Int32), (0 : Int32), (0 : Int32), (0 : Int32), (0 : Int32), (0 : Int32), (0 : Int32), (0 : Int32), (0 : Int32), (0 : Int32), (0 : Int32), (0 : Int32), (0 : Int32), (0 : Int32), (0 : Int32), (0 : Int32), (0 : Int32), (0 : Int32), (0 : Int32), (0 : Int32), (0 : Int32), (0 : Int32), (0 : Int32), (0 : Int32), (0 : Int32), (0 : Int32), (0 : Int32), (0 : Int32), (0 : Int32), (0 : Int32), (0 : Int32), (0 : Int32), (0 : Int32), (0 : Int32), (0 : Int32), (0 : Int32), (0 : Int32), (0 : Int32), (0 : Int32), (0 : Int32), (0 : Int32), (0 : Int32), (0 : Int32), (0 : Int32), (0 : Int32), (0 : Int32), (0 : Int32), (0 : Int32), (0 : Int32), (0 : Int32), (0 : Int32), (0 : Int32), (0 : Int32), (0 : Int32), (0 : Int32), (0 : Int32), (0 : Int32), (0 : Int32), (0 : Int32), (0 : Int32), (0 : Int32), (0 : Int32), (0 : Int32), (0 : Int32)] rfl N346 ge339 (hb hby at_86) fun T353 h353 L353 X353 N353 e353 W353 A353 => ?_
    have F354 : Exa Z h353 a285 "com/example/whittle/whittle/model/LookUpTable" := F347.wr W353
    have F355 : Fld Z h353 a285 "com/example/whittle/whittle/model/LookUpTable" "words" "[J" (.ref b309) := F348.other W353 (Or.inl ne336)
    have F356 : Fld Z h353 a285 "com/example/whittle/whittle/model/LookUpTable" "highestSetBit" "J" (.long ((((64 : Int64) * ((2 : Int32).toInt64)) - (1 : Int64)) - ((fn4 B).toInt64))) := F349.other W353 (Or.inl ne336)
    have F357 : Arv Z h353 b309 k309 .long (2 : Int32) ([A, B].map Value.long) (.long 0) := F350.other W353 ne337
    have F358 : Arv Z h353 a313 k313 .boolean (2 : Int32) ([(0 : Int32), (1 : Int32)].map Value.int) (.int 0) := F351.other W353 ne338
    have sz359 : n0 ≤ h353.size := Nat.le_trans sz352 (Keep.of_wr W353).1
    refine o_aload 89 X353 hx rfl (hb hby at_87) rfl rfl ?_
    refine o_iconst 90 X353 hx rfl (hb hby at_89) (2 : Int32) rfl ?_
    refine o_iload 92 X353 hx rfl (hb hby at_90) rfl ?_
    refine o_iconst 93 X353 hx rfl (hb hby at_92) (2 : Int32) rfl ?_
    refine o_iushr 94 X353 hx rfl (hb hby at_93) ?_
    refine o_iconst 95 X353 hx rfl (hb hby at_94) (1 : Int32) rfl ?_
    refine o_iand 96 X353 hx rfl (hb hby at_95) ?_
    refine o_iastoreX 97 X353 hx rfl hZ e353 A353 (by decide) (Nat.le_of_ble_eq_true rfl) [(i2 &&& (1 : Int32)), (((i2.toUInt32 >>> ((1 : Int32) &&& 31).toUInt32).toInt32) &&& (1 : Int32)), (((i2.toUInt32 >>> ((2 : Int32) &&& 31).toUInt32).toInt32) &&& (1 : Int32)), (0 : Int32), (0 : Int32), (0 : Int32), (0 : Int32), (0 : Int32), (0 : Int32), (0 : Int32), (0 : Int32), (0 : Int32), (0 : Int32), (0 : Int32), (0 : Int32), (0 : Int32), (0 : Int32), (0 : Int32), (0 : Int32), (0 : Int32), (0 : Int32), (0 : Int32), (0 : Int32), (0 : Int32), (0 : Int32), (0 : Int32), (0 : Int32), (0 : Int32), (0 : Int32), (0 : Int32), (0 : Int32), (0 : Int32), (0 : Int32), (0 : Int32), (0 : Int32), (0 : Int32), (0 : Int32), (0 : Int32), (0 : Int32), (0 : Int32), (0 : Int32), (0 : Int32), (0 : Int32), (0 : Int32), (0 : Int32), (0 : Int32), (0 : Int32), (0 : Int32), (0 : Int32), (0 : Int32), (0 : Int32), (0 : Int32), (0 : Int32), (0 : Int32), (0 : Int32), (0 : Int32), (0 : Int32), (0 : Int32), (0 : Int32), (0 : Int32), (0 : Int32), (0 : Int32), (0 : Int32), (0 : Int32), (0 : Int32), (0 : Int32)] rfl N353 ge339 (hb hby at_96) fun T360 h360 L360 X360 N360 e360 W360 A360 => ?_
    have F361 : Exa Z h360 a285 "com/example/whittle/whittle/model/LookUpTable" := F354.wr W360
    have F362 : Fld Z h360 a285 "com/example/whittle/whittle/model/LookUpTable" "words" "[J" (.ref b309) := F355.other W360 (Or.inl ne336)
    have F363 : Fld Z h360 a285 "com/example/whittle/whittle/model/LookUpTable" "highestSetBit" "J" (.long ((((64 : Int64) * ((2 : Int32).toInt64)) - (1 : Int64)) - ((fn4 B).toInt64))) := F356.other W360 (Or.inl ne336)
    have F364 : Arv Z h360 b309 k309 .long (2 : Int32) ([A, B].map Value.long) (.long 0) := F357.other W360 ne337
    have F365 : Arv Z h360 a313 k313 .boolean (2 : Int32) ([(0 : Int32), (1 : Int32)].map Value.int) (.int 0) := F358.other W360 ne338
    have sz366 : n0 ≤ h360.size := Nat.le_trans sz359 (Keep.of_wr W360).1
    refine o_aload 99 X360 hx rfl (hb hby at_97) rfl rfl ?_
    refine o_iconst 100 X360 hx rfl (hb hby at_99) (3 : Int32) rfl ?_
    refine o_iload 102 X360 hx rfl (hb hby at_100) rfl ?_
    refine o_iconst 103 X360 hx rfl (hb hby at_102) (3 : Int32) rfl ?_
    refine o_iushr 104 X360 hx rfl (hb hby at_103) ?_
    refine o_iconst 105 X360 hx rfl (hb hby at_104) (1 : Int32) rfl ?_
    refine o_iand 106 X360 hx rfl (hb hby at_105) ?_
    refine o_iastoreX 107 X360 hx rfl hZ e360 A360 (by decide) (Nat.le_of_ble_eq_true rfl) [(i2 &&& (1 : Int32)), (((i2.toUInt32 >>> ((1 : Int32) &&& 31).toUInt32).toInt32) &&& (1 : Int32)), (((i2.toUInt32 >>> ((2 : Int32) &&& 31).toUInt32).toInt32) &&& (1 : Int32)), (((i2.toUInt32 >>> ((3 : Int32) &&& 31).toUInt32).toInt32) &&& (1 : Int32)), (0 : Int32), (0 : Int32), (0 : Int32), (0 : Int32), (0 : Int32), (0 : Int32), (0 : Int32), (0 : Int32), (0 : Int32), (0 : Int32), (0 : Int32), (0 : Int32), (0 : Int32), (0 : Int32), (0 : Int32), (0 : Int32), (0 : Int32), (0 : Int32), (0 : Int32), (0 : Int32), (0 : Int32), (0 : Int32), (0 : Int32), (0 : Int32), (0 : Int32), (0 : Int32), (0 : Int32), (0 : Int32), (0 : Int32), (0 : Int32), (0 : Int32), (0 : Int32), (0 : Int32), (0 : Int32), (0 : Int32), (0 : Int32), (0 : Int32), (0 : Int32), (0 : Int32), (0 : Int32), (0 : Int32), (0 : Int32), (0 : Int32), (0 : Int32), (0 : Int32), (0 : Int32), (0 : Int32), (0 : Int32), (0 : Int32), (0 : Int32), (0 : Int32), (0 : Int32), (0 : Int32), (0 : Int32), (0 : Int32), (0 : Int32), (0 : Int32), (0 : Int32), (0 : Int32), (0 : Int32), (0 : Int32), (0 : Int32)] rfl N360 ge339 (hb hby at_106) fun T367 h367 L367 X367 N367 e367 W367 A367 => ?_
    have F368 : Exa Z h367 a285 "com/example/whittle/whittle/model/LookUpTable" := F361.wr W367
    have F369 : Fld Z h367 a285 "com/example/whittle/whittle/model/LookUpTable" "words" "[J" (.ref b309) := F362.other W367 (Or.inl ne336)
    have F370 : Fld Z h367 a285 "com/example/whittle/whittle/model/LookUpTable" "highestSetBit" "J" (.long ((((64 : Int64) * ((2 : Int32).toInt64)) - (1 : Int64)) - ((fn4 B).toInt64))) := F363.other W367 (Or.inl ne336)
    have F371 : Arv Z h367 b309 k309 .long (2 : Int32) ([A, B].map Value.long) (.long 0) := F364.other W367 ne337
    have F372 : Arv Z h367 a313 k313 .boolean (2 : Int32) ([(0 : Int32), (1 : Int32)].map Value.int) (.int 0) := F365.other W367 ne338
    have sz373 : n0 ≤ h367.size := Nat.le_trans sz366 (Keep.of_wr W367).1
    refine o_aload 109 X367 hx rfl (hb hby at_107) rfl rfl ?_
    refine o_iconst 110 X367 hx rfl (hb hby at_109) (4 : Int32) rfl ?_
    refine o_iload 112 X367 hx rfl (hb hby at_110) rfl ?_
    refine o_iconst 113 X367 hx rfl (hb hby at_112) (4 : Int32) rfl ?_
    refine o_iushr 114 X367 hx rfl (hb hby at_113) ?_
    refine o_iconst 115 X367 hx rfl (hb hby at_114) (1 : Int32) rfl ?_
    refine o_iand 116 X367 hx rfl (hb hby at_115) ?_
    refine o_iastoreX 117 X367 hx rfl hZ e367 A367 (by decide) (Nat.le_of_ble_eq_true rfl) [(i2 &&& (1 : Int32)), (((i2.toUInt32 >>> ((1 : Int32) &&& 31).toUInt32).toInt32) &&& (1 : Int32)), (((i2.toUInt32 >>> ((2 : Int32) &&& 31).toUInt32).toInt32) &&& (1 : Int32)), (((i2.toUInt32 >>> ((3 : Int32) &&& 31).toUInt32).toInt32) &&& (1 : Int32)), (((i2.toUInt32 >>> ((4 : Int32) &&& 31).toUInt32).toInt32) &&& (1 : Int32)), (0 : Int32), (0 : Int32), (0 : Int32), (0 : Int32), (0 : Int32), (0 : Int32), (0 : Int32), (0 : Int32), (0 : Int32), (0 : Int32), (0 : Int32), (0 : Int32), (0 : Int32), (0 : Int32), (0 : Int32), (0 : Int32), (0 : Int32), (0 : Int32), (0 : Int32), (0 : Int32), (0 : Int32), (0 : Int32), (0 : Int32), (0 : Int32), (0 : Int32), (0 : Int32), (0 : Int32), (0 : Int32), (0 : Int32), (0 : Int32), (0 : Int32), (0 : Int32), (0 : Int32), (0 : Int32), (0 : Int32), (0 : Int32), (0 : Int32), (0 : Int32), (0 : Int32), (0 : Int32), (0 : Int32), (0 : Int32), (0 : Int32), (0 : Int32), (0 : Int32), (0 : Int32), (0 : Int32), (0 : Int32), (0 : Int32), (0 : Int32), (0 : Int32), (0 : Int32), (0 : Int32), (0 : Int32), (0 : Int32), (0 : Int32), (0 : Int32), (0 : Int32), (0 : Int32), (0 : Int32), (0 : Int32)] rfl N367 ge339 (hb hby at_116) fun T374 h374 L374 X374 N374 e374 W374 A374 => ?_
    have F375 : Exa Z h374 a285 "com/example/whittle/whittle/model/LookUpTable" := F368.wr W374
    have F376 : Fld Z h374 a285 "com/example/whittle/whittle/model/LookUpTable" "words" "[J" (.ref b309) := F369.other W374 (Or.inl ne336)
    have F377 : Fld Z h374 a285 "com/example/whittle/whittle/model/LookUpTable" "highestSetBit" "J" (.long ((((64 : Int64) * ((2 : Int32).toInt64)) - (1 : Int64)) - ((fn4 B).toInt64))) := F370.other W374 (Or.inl ne336)
    have F378 : Arv Z h374 b309 k309 .long (2 : Int32) ([A, B].map Value.long) (.long 0) := F371.other W374 ne337
    have F379 : Arv Z h374 a313 k313 .boolean (2 : Int32) ([(0 : Int32), (1 : Int32)].map Value.int) (.int 0) := F372.other W374 ne338
    have sz380 : n0 ≤ h374.size := Nat.le_trans sz373 (Keep.of_wr W374).1
    refine o_aload 119 X374 hx rfl (hb hby at_117) rfl rfl ?_
    refine o_iconst 120 X374 hx rfl (hb hby at_119) (5 : Int32) rfl ?_
    refine o_iload 122 X374 hx rfl (hb hby at_120) rfl ?_
    refine o_iconst 123 X374 hx rfl (hb hby at_122) (5 : Int32) rfl ?_
    refine o_iushr 124 X374 hx rfl (hb hby at_123) ?_
    refine o_iconst 125 X374 hx rfl (hb hby at_124) (1 : Int32) rfl ?_
    refine o_iand 126 X374 hx rfl (hb hby at_125) ?_
    refine o_iastoreX 127 X374 hx rfl hZ e374 A374 (by decide) (Nat.le_of_ble_eq_true rfl) [(i2 &&& (1 : Int32)), (((i2.toUInt32 >>> ((1 : Int32) &&& 31).toUInt32).toInt32) &&& (1 : Int32)), (((i2.toUInt32 >>> ((2 : Int32) &&& 31).toUInt32).toInt32) &&& (1 : Int32)), (((i2.toUInt32 >>> ((3 : Int32) &&& 31).toUInt32).toInt32) &&& (1 : Int32)), (((i2.toUInt32 >>> ((4 : Int32) &&& 31).toUInt32).toInt32) &&& (1 : Int32)), (((i2.toUInt32 >>> ((5 : Int32) &&& 31).toUInt32).toInt32) &&& (1 : Int32)), (0 : Int32), (0 : Int32), (0 : Int32), (0 : Int32), (0 : Int32), (0 : Int32), (0 : Int32), (0 : Int32), (0 : Int32), (0 : Int32), (0 : Int32), (0 : Int32), (0 : Int32), (0 : Int32), (0 : Int32), (0 : Int32), (0 : Int32), (0 : Int32), (0 : Int32), (0 : Int32), (0 : Int32), (0 : Int32), (0 : Int32), (0 : Int32), (0 : Int32), (0 : Int32), (0 : Int32), (0 : Int32), (0 : Int32), (0 : Int32), (0 : Int32), (0 : Int32), (0 : Int32), (0 : Int32), (0 : Int32), (0 : Int32), (0 : Int32), (0 : Int32), (0 : Int32), (0 : Int32), (0 : Int32), (0 : Int32), (0 : Int32), (0 : Int32), (0 : Int32), (0 : Int32), (0 : Int32), (0 : Int32), (0 : Int32), (0 : Int32), (0 : Int32), (0 : Int32), (0 : Int32), (0 : Int32), (0 : Int32), (0 : Int32), (0 : Int32), (0 : Int32), (0 : Int32), (0 : Int32)] rfl N374 ge339 (hb hby at_126) fun T381 h381 L381 X381 N381 e381 W381 A381 => ?_
    have F382 : Exa Z h381 a285 "com/example/whittle/whittle/model/LookUpTable" := F375.wr W381
    have F383 : Fld Z h381 a285 "com/example/whittle/whittle/model/LookUpTable" "words" "[J" (.ref b309) := F376.other W381 (Or.inl ne336)
    have F384 : Fld Z h381 a285 "com/example/whittle/whittle/model/LookUpTable" "highestSetBit" "J" (.long ((((64 : Int64) * ((2 : Int32).toInt64)) - (1 : Int64)) - ((fn4 B).toInt64))) := F377.other W381 (Or.inl ne336)
    have F385 : Arv Z h381 b309 k309 .long (2 : Int32) ([A, B].map Value.long) (.long 0) := F378.other W381 ne337
    have F386 : Arv Z h381 a313 k313 .boolean (2 : Int32) ([(0 : Int32), (1 : Int32)].map Value.int) (.int 0) := F379.other W381 ne338
    have sz387 : n0 ≤ h381.size := Nat.le_trans sz380 (Keep.of_wr W381).1
    refine o_aload 129 X381 hx rfl (hb hby at_127) rfl rfl ?_
    refine o_bipush 131 X381 hx rfl (hb hby at_129) (6 : Int32) rfl ?_
    refine o_iload 133 X381 hx rfl (hb hby at_131) rfl ?_
    refine o_bipush 135 X381 hx rfl (hb hby at_133) (6 : Int32) rfl ?_
    refine o_iushr 136 X381 hx rfl (hb hby at_135) ?_
    refine o_iconst 137 X381 hx rfl (hb hby at_136) (1 : Int32) rfl ?_
    refine o_iand 138 X381 hx rfl (hb hby at_137) ?_
    refine o_iastoreX 139 X381 hx rfl hZ e381 A381 (by decide) (Nat.le_of_ble_eq_true rfl) [(i2 &&& (1 : Int32)), (((i2.toUInt32 >>> ((1 : Int32) &&& 31).toUInt32).toInt32) &&& (1 : Int32)), (((i2.toUInt32 >>> ((2 : Int32) &&& 31).toUInt32).toInt32) &&& (1 : Int32)), (((i2.toUInt32 >>> ((3 : Int32) &&& 31).toUInt32).toInt32) &&& (1 : Int32)), (((i2.toUInt32 >>> ((4 : Int32) &&& 31).toUInt32).toInt32) &&& (1 : Int32)), (((i2.toUInt32 >>> ((5 : Int32) &&& 31).toUInt32).toInt32) &&& (1 : Int32)), (((i2.toUInt32 >>> ((6 : Int32) &&& 31).toUInt32).toInt32) &&& (1 : Int32)), (0 : Int32), (0 : Int32), (0 : Int32), (0 : Int32), (0 : Int32), (0 : Int32), (0 : Int32), (0 : Int32), (0 : Int32), (0 : Int32), (0 : Int32), (0 : Int32), (0 : Int32), (0 : Int32), (0 : Int32), (0 : Int32), (0 : Int32), (0 : Int32), (0 : Int32), (0 : Int32), (0 : Int32), (0 : Int32), (0 : Int32), (0 : Int32), (0 : Int32), (0 : Int32), (0 : Int32), (0 : Int32), (0 : Int32), (0 : Int32), (0 : Int32), (0 : Int32), (0 : Int32), (0 : Int32), (0 : Int32), (0 : Int32), (0 : Int32), (0 : Int32), (0 : Int32), (0 : Int32), (0 : Int32), (0 : Int32), (0 : Int32), (0 : Int32), (0 : Int32), (0 : Int32), (0 : Int32), (0 : Int32), (0 : Int32), (0 : Int32), (0 : Int32), (0 : Int32), (0 : Int32), (0 : Int32), (0 : Int32), (0 : Int32), (0 : Int32), (0 : Int32), (0 : Int32)] rfl N381 ge339 (hb hby at_138) fun T388 h388 L388 X388 N388 e388 W388 A388 => ?_
    have F389 : Exa Z h388 a285 "com/example/whittle/whittle/model/LookUpTable" := F382.wr W388
    have F390 : Fld Z h388 a285 "com/example/whittle/whittle/model/LookUpTable" "words" "[J" (.ref b309) := F383.other W388 (Or.inl ne336)
    have F391 : Fld Z h388 a285 "com/example/whittle/whittle/model/LookUpTable" "highestSetBit" "J" (.long ((((64 : Int64) * ((2 : Int32).toInt64)) - (1 : Int64)) - ((fn4 B).toInt64))) := F384.other W388 (Or.inl ne336)
    have F392 : Arv Z h388 b309 k309 .long (2 : Int32) ([A, B].map Value.long) (.long 0) := F385.other W388 ne337
    have F393 : Arv Z h388 a313 k313 .boolean (2 : Int32) ([(0 : Int32), (1 : Int32)].map Value.int) (.int 0) := F386.other W388 ne338
    have sz394 : n0 ≤ h388.size := Nat.le_trans sz387 (Keep.of_wr W388).1
    refine o_aload 141 X388 hx rfl (hb hby at_139) rfl rfl ?_
    refine o_bipush 143 X388 hx rfl (hb hby at_141) (7 : Int32) rfl ?_
    refine o_iload 145 X388 hx rfl (hb hby at_143) rfl ?_
    refine o_bipush 147 X388 hx rfl (hb hby at_145) (7 : Int32) rfl ?_
    refine o_iushr 148 X388 hx rfl (hb hby at_147) ?_
    refine o_iconst 149 X388 hx rfl (hb hby at_148) (1 : Int32) rfl ?_
    refine o_iand 150 X388 hx rfl (hb hby at_149) ?_
    refine o_iastoreX 151 X388 hx rfl hZ e388 A388 (by decide) (Nat.le_of_ble_eq_true rfl) [(i2 &&& (1 : Int32)), (((i2.toUInt32 >>> ((1 : Int32) &&& 31).toUInt32).toInt32) &&& (1 : Int32)), (((i2.toUInt32 >>> ((2 : Int32) &&& 31).toUInt32).toInt32) &&& (1 : Int32)), (((i2.toUInt32 >>> ((3 : Int32) &&& 31).toUInt32).toInt32) &&& (1 : Int32)), (((i2.toUInt32 >>> ((4 : Int32) &&& 31).toUInt32).toInt32) &&& (1 : Int32)), (((i2.toUInt32 >>> ((5 : Int32) &&& 31).toUInt32).toInt32) &&& (1 : Int32)), (((i2.toUInt32 >>> ((6 : Int32) &&& 31).toUInt32).toInt32) &&& (1 : Int32)), (((i2.toUInt32 >>> ((7 : Int32) &&& 31).toUInt32).toInt32) &&& (1 : Int32)), (0 : Int32), (0 : Int32), (0 : Int32), (0 : Int32), (0 : Int32), (0 : Int32), (0 : Int32), (0 : Int32), (0 : Int32), (0 : Int32), (0 : Int32), (0 : Int32), (0 : Int32), (0 : Int32), (0 : Int32), (0 : Int32), (0 : Int32), (0 : Int32), (0 : Int32), (0 : Int32), (0 : Int32), (0 : Int32), (0 : Int32), (0 : Int32), (0 : Int32), (0 : Int32), (0 : Int32), (0 : Int32), (0 : Int32), (0 : Int32), (0 : Int32), (0 : Int32), (0 : Int32), (0 : Int32), (0 : Int32), (0 : Int32), (0 : Int32), (0 : Int32), (0 : Int32), (0 : Int32), (0 : Int32), (0 : Int32), (0 : Int32), (0 : Int32), (0 : Int32), (0 : Int32), (0 : Int32), (0 : Int32), (0 : Int32), (0 : Int32), (0 : Int32), (0 : Int32), (0 : Int32), (0 : Int32), (0 : Int32), (0 : Int32), (0 : Int32), (0 : Int32)] rfl N388 ge339 (hb hby at_150) fun T395 h395 L395 X395 N395 e395 W395 A395 => ?_
    have F396 : Exa Z h395 a285 "com/example/whittle/whittle/model/LookUpTable" := F389.wr W395
    have F397 : Fld Z h395 a285 "com/example/whittle/whittle/model/LookUpTable" "words" "[J" (.ref b309) := F390.other W395 (Or.inl ne336)
    have F398 : Fld Z h395 a285 "com/example/whittle/whittle/model/LookUpTable" "highestSetBit" "J" (.long ((((64 : Int64) * ((2 : Int32).toInt64)) - (1 : Int64)) - ((fn4 B).toInt64))) := F391.other W395 (Or.inl ne336)
    have F399 : Arv Z h395 b309 k309 .long (2 : Int32) ([A, B].map Value.long) (.long 0) := F392.other W395 ne337
    have F400 : Arv Z h395 a313 k313 .boolean (2 : Int32) ([(0 : Int32), (1 : Int32)].map Value.int) (.int 0) := F393.other W395 ne338
    have sz401 : n0 ≤ h395.size := Nat.le_trans sz394 (Keep.of_wr W395).1
    have F402 : Arv Z h395 a335 k335 .int (66 : Int32) (((own_in i2)).map Value.int) (.int 0) := A395
    refine o_iload 153 X395 hx rfl (hb hby at_151) rfl ?_
    refine o_iconst 154 X395 hx rfl (hb hby at_153) (4 : Int32) rfl ?_
    refine o_iand 155 X395 hx rfl (hb hby at_154) ?_
    suffices j163_403 : Go p.tables e below (EndE s room_1 (fun v h L => v = some (.int (1 : Int32)) ∧ Fr n0 L)) (T395.setTop (mkF m 163 #[.val (.long q0), .second, .val (.long q1), .second, .val (.int i2), .val (.int i3), .val (.int i4), .val (.long A), .second, .val (.long B), .second, .val (.ref a285), .val (.ref a313), .val (.ref a335), .unset, .unset, .unset, .unset, .unset] [(.int (f0_163_s0'' i4))])) by
      by_cases hc155_404 : (i4 &&& (4 : Int32)) = (0 : Int32)
      · refine o_ifYes 162 X395 hx (hb hby at_155) (teq hc155_404).1 (by decide) (by decide) ?_
        refine o_iconst 163 X395 hx rfl (hb hby at_162) (0 : Int32) rfl ?_
        rw [show (f0_163_s0'' i4) = (0 : Int32) from by unfold f0_163_s0''; simp only [if_pos hc155_404]] at j163_403
        exact j163_403
      · refine o_ifNo 158 X395 hx rfl (hb hby at_155) (feq hc155_404).1 ?_
        refine o_iconst 159 X395 hx rfl (hb hby at_158) (1 : Int32) rfl ?_
        refine o_goto 163 X395 hx (hb hby at_159) (by decide) (by decide) ?_
        rw [show (f0_163_s0'' i4) = (1 : Int32) from by unfold f0_163_s0''; simp only [if_neg hc155_404]] at j163_403
        exact j163_403
    refine o_istore 165 X395 hx rfl (hb hby at_163) #[.val (.long q0), .second, .val (.long q1), .second, .val (.int i2), .val (.int i3), .val (.int i4), .val (.long A), .second, .val (.long B), .second, .val (.ref a285), .val (.ref a313), .val (.ref a335), .val (.int (f0_163_s0'' i4)), .unset, .unset, .unset, .unset] rfl ?_
    have hex : (f0_163_s0'' i4) = 0 ∨ (f0_163_s0'' i4) = 1 := own_ex i4
    generalize (f0_163_s0'' i4) = ex at hex ⊢
    refine o_iload 167 X395 hx rfl (hb hby at_165) rfl ?_
    refine o_ldcInt 169 X395 hx rfl hZ hown (wd_39 hw) (hb hby at_167) ?_
    refine o_iand 170 X395 hx rfl (hb hby at_169) ?_
    refine o_bipush 172 X395 hx rfl (hb hby at_170) (66 : Int32) rfl ?_
    refine o_irem 173 X395 hx rfl (hb hby at_172) (by decide) ?_
    obtain ⟨P, hP, hp⟩ := own_P i3
    rw [hp]
    refine o_istore 175 X395 hx rfl (hb hby at_173) #[.val (.long q0), .second, .val (.long q1), .second, .val (.int i2), .val (.int i3), .val (.int i4), .val (.long A), .second, .val (.long B), .second, .val (.ref a285), .val (.ref a313), .val (.ref a335), .val (.int ex), .val (.int (Int32.ofNat P)), .unset, .unset, .unset] rfl ?_
    refine o_iload 177 X395 hx rfl (hb hby at_175) rfl ?_
    rcases hex with rfl | rfl
    · refine o_ifYes 186 X395 hx (hb hby at_177) (teq rfl).1 (by decide) (by decide) ?_
      refine o_iload 188 X395 hx rfl (hb hby at_186) rfl ?_
      refine o_ifYes 204 X395 hx (hb hby at_188) (teq rfl).1 (by decide) (by decide) ?_
      refine o_iload 206 X395 hx rfl (hb hby at_204) rfl ?_
      refine o_sipush 209 X395 hx rfl (hb hby at_206) (255 : Int32) rfl ?_
      refine o_iand 210 X395 hx rfl (hb hby at_209) ?_
      refine o_i2l 211 X395 hx rfl (hb hby at_210) ?_
      refine o_iload 213 X395 hx rfl (hb hby at_211) rfl ?_
      refine o_ifYes 223 X395 hx (hb hby at_213) (teq rfl).1 (by decide) (by decide) ?_
      refine o_lconst 224 X395 hx rfl (hb hby at_223) (0 : Int64) rfl ?_
      refine o_lor 225 X395 hx rfl (hb hby at_224) ?_
      refine o_lstore 227 X395 hx rfl (hb hby at_225) #[.val (.long q0), .second, .val (.long q1), .second, .val (.int i2), .val (.int i3), .val (.int i4), .val (.long A), .second, .val (.long B), .second, .val (.ref a285), .val (.ref a313), .val (.ref a335), .val (.int (0 : Int32)), .val (.int (Int32.ofNat P)), .unset, .val (.long (((i2 &&& (255 : Int32)).toInt64) ||| (0 : Int64))), .second] rfl ?_
      refine o_lload 229 X395 hx rfl (hb hby at_227) rfl ?_
      refine o_ldc2Long 232 X395 hx rfl hZ hown (wd_40 hw) (hb hby at_229) ?_
      refine o_lcmp 233 X395 hx rfl (hb hby at_232) ?_
      suffices j298_405 : Go p.tables e below (EndE s room_1 (fun v h L => v = some (.int (1 : Int32)) ∧ Fr n0 L)) (T395.setTop (mkF m 298 #[.val (.long q0), .second, .val (.long q1), .second, .val (.int i2), .val (.int i3), .val (.int i4), .val (.long A), .second, .val (.long B), .second, .val (.ref a285), .val (.ref a313), .val (.ref a335), .val (.int (0 : Int32)), .val (.int (Int32.ofNat P)), .val (.int (f0_298_l16'''' A B i2)), .val (.long (((i2 &&& (255 : Int32)).toInt64) ||| (0 : Int64))), .second] [])) by
        by_cases hc233_406 : (((i2 &&& (255 : Int32)).toInt64) ||| (0 : Int64)) < (64 : Int64)
        · refine o_ifNo 236 X395 hx rfl (hb hby at_233) (tlt (l_tlt hc233_406)).2.1 ?_
          refine o_lload 238 X395 hx rfl (hb hby at_236) rfl ?_
          refine o_lload 240 X395 hx rfl (hb hby at_238) rfl ?_
          refine o_l2i 241 X395 hx rfl (hb hby at_240) ?_
          refine o_lushr 242 X395 hx rfl (hb hby at_241) ?_
          refine o_lconst 243 X395 hx rfl (hb hby at_242) (1 : Int64) rfl ?_
          refine o_land 244 X395 hx rfl (hb hby at_243) ?_
          refine o_lconst 245 X395 hx rfl (hb hby at_244) (0 : Int64) rfl ?_
          refine o_lcmp 246 X395 hx rfl (hb hby at_245) ?_
          by_cases hc246_407 : (((A.toUInt64 >>> (((((i2 &&& (255 : Int32)).toInt64) ||| (0 : Int64)).toInt32) &&& 0x3f).toInt64.toUInt64).toInt64) &&& (1 : Int64)) = (0 : Int64)
          · refine o_ifYes 253 X395 hx (hb hby at_246) (teq (l_teq hc246_407)).1 (by decide) (by decide) ?_
            refine o_iconst 254 X395 hx rfl (hb hby at_253) (0 : Int32) rfl ?_
            refine o_istore 256 X395 hx rfl (hb hby at_254) #[.val (.long q0), .second, .val (.long q1), .second, .val (.int i2), .val (.int i3), .val (.int i4), .val (.long A), .second, .val (.long B), .second, .val (.ref a285), .val (.ref a313), .val (.ref a335), .val (.int (0 : Int32)), .val (.int (Int32.ofNat P)), .val (.int (0 : Int32)), .val (.long (((i2 &&& (255 : Int32)).toInt64) ||| (0 : Int64))), .second] rfl ?_
            refine o_goto 298 X395 hx (hb hby at_256) (by decide) (by decide) ?_
            rw [show (f0_298_l16'''' A B i2) = (0 : Int32) from by unfold f0_298_l16''''; simp only [if_pos hc233_406, if_pos hc246_407]] at j298_405
            exact j298_405
          · refine o_ifNo 249 X395 hx rfl (hb hby at_246) (feq (l_feq hc246_407)).1 ?_
            refine o_iconst 250 X395 hx rfl (hb hby at_249) (1 : Int32) rfl ?_
            refine o_goto 254 X395 hx (hb hby at_250) (by decide) (by decide) ?_
            refine o_istore 256 X395 hx rfl (hb hby at_254) #[.val (.long q0), .second, .val (.long q1), .second, .val (.int i2), .val (.int i3), .val (.int i4), .val (.long A), .second, .val (.long B), .second, .val (.ref a285), .val (.ref a313), .val (.ref a335), .val (.int (0 : Int32)), .val (.int (Int32.ofNat P)), .val (.int (1 : Int32)), .val (.long (((i2 &&& (255 : Int32)).toInt64) ||| (0 : Int64))), .second] rfl ?_
            refine o_goto 298 X395 hx (hb hby at_256) (by decide) (by decide) ?_
            rw [show (f0_298_l16'''' A B i2) = (1 : Int32) from by unfold f0_298_l16''''; simp only [if_pos hc233_406, if_neg hc246_407]] at j298_405
            exact j298_405
        · refine o_ifYes 259 X395 hx (hb hby at_233) (flt (l_flt hc233_406)).2.1 (by decide) (by decide) ?_
          refine o_lload 261 X395 hx rfl (hb hby at_259) rfl ?_
          refine o_ldc2Long 264 X395 hx rfl hZ hown (wd_55 hw) (hb hby at_261) ?_
          refine o_lcmp 265 X395 hx rfl (hb hby at_264) ?_
          by_cases hc265_408 : (((i2 &&& (255 : Int32)).toInt64) ||| (0 : Int64)) < (128 : Int64)
          · refine o_ifNo 268 X395 hx rfl (hb hby at_265) (tlt (l_tlt hc265_408)).2.1 ?_
            refine o_lload 270 X395 hx rfl (hb hby at_268) rfl ?_
            refine o_lload 272 X395 hx rfl (hb hby at_270) rfl ?_
            refine o_ldc2Long 275 X395 hx rfl hZ hown (wd_40 hw) (hb hby at_272) ?_
            refine o_lsub 276 X395 hx rfl (hb hby at_275) ?_
            refine o_l2i 277 X395 hx rfl (hb hby at_276) ?_
            refine o_lushr 278 X395 hx rfl (hb hby at_277) ?_
            refine o_lconst 279 X395 hx rfl (hb hby at_278) (1 : Int64) rfl ?_
            refine o_land 280 X395 hx rfl (hb hby at_279) ?_
            refine o_lconst 281 X395 hx rfl (hb hby at_280) (0 : Int64) rfl ?_
            refine o_lcmp 282 X395 hx rfl (hb hby at_281) ?_
            by_cases hc282_409 : (((B.toUInt64 >>> ((((((i2 &&& (255 : Int32)).toInt64) ||| (0 : Int64)) - (64 : Int64)).toInt32) &&& 0x3f).toInt64.toUInt64).toInt64) &&& (1 : Int64)) = (0 : Int64)
            · refine o_ifYes 289 X395 hx (hb hby at_282) (teq (l_teq hc282_409)).1 (by decide) (by decide) ?_
              refine o_iconst 290 X395 hx rfl (hb hby at_289) (0 : Int32) rfl ?_
              refine o_istore 292 X395 hx rfl (hb hby at_290) #[.val (.long q0), .second, .val (.long q1), .second, .val (.int i2), .val (.int i3), .val (.int i4), .val (.long A), .second, .val (.long B), .second, .val (.ref a285), .val (.ref a313), .val (.ref a335), .val (.int (0 : Int32)), .val (.int (Int32.ofNat P)), .val (.int (0 : Int32)), .val (.long (((i2 &&& (255 : Int32)).toInt64) ||| (0 : Int64))), .second] rfl ?_
              refine o_goto 298 X395 hx (hb hby at_292) (by decide) (by decide) ?_
              rw [show (f0_298_l16'''' A B i2) = (0 : Int32) from by unfold f0_298_l16''''; simp only [if_neg hc233_406, if_pos hc265_408, if_pos hc282_409]] at j298_405
              exact j298_405
            · refine o_ifNo 285 X395 hx rfl (hb hby at_282) (feq (l_feq hc282_409)).1 ?_
              refine o_iconst 286 X395 hx rfl (hb hby at_285) (1 : Int32) rfl ?_
              refine o_goto 290 X395 hx (hb hby at_286) (by decide) (by decide) ?_
              refine o_istore 292 X395 hx rfl (hb hby at_290) #[.val (.long q0), .second, .val (.long q1), .second, .val (.int i2), .val (.int i3), .val (.int i4), .val (.long A), .second, .val (.long B), .second, .val (.ref a285), .val (.ref a313), .val (.ref a335), .val (.int (0 : Int32)), .val (.int (Int32.ofNat P)), .val (.int (1 : Int32)), .val (.long (((i2 &&& (255 : Int32)).toInt64) ||| (0 : Int64))), .second] rfl ?_
              refine o_goto 298 X395 hx (hb hby at_292) (by decide) (by decide) ?_
              rw [show (f0_298_l16'''' A B i2) = (1 : Int32) from by unfold f0_298_l16''''; simp only [if_neg hc233_406, if_pos hc265_408, if_neg hc282_409]] at j298_405
              exact j298_405
          · refine o_ifYes 295 X395 hx (hb hby at_265) (flt (l_flt hc265_408)).2.1 (by decide) (by decide) ?_
            refine o_iconst 296 X395 hx rfl (hb hby at_295) (0 : Int32) rfl ?_
            refine o_istore 298 X395 hx rfl (hb hby at_296) #[.val (.long q0), .second, .val (.long q1), .second, .val (.int i2), .val (.int i3), .val (.int i4), .val (.long A), .second, .val (.long B), .second, .val (.ref a285), .val (.ref a313), .val (.ref a335), .val (.int (0 : Int32)), .val (.int (Int32.ofNat P)), .val (.int (0 : Int32)), .val (.long (((i2 &&& (255 : Int32)).toInt64) ||| (0 : Int64))), .second] rfl ?_
            rw [show (f0_298_l16'''' A B i2) = (0 : Int32) from by unfold f0_298_l16''''; simp only [if_neg hc233_406, if_neg hc265_408]] at j298_405
            exact j298_405
      refine o_aload 300 X395 hx rfl (hb hby at_298) rfl rfl ?_
      refine o_aload 302 X395 hx rfl (hb hby at_300) rfl rfl ?_
      refine o_aload 304 X395 hx rfl (hb hby at_302) rfl rfl ?_
      refine o_callVP (rv := (.int (own_evv (own_in i2) ((((64 : Int64) * ((2 : Int32).toInt64)) - (1 : Int64)) - ((fn4 B).toInt64)) [A, B]))) 307 X395 hx rfl hZ hown (wd_41 hw) (wd_42 hw) (wd_44 hw) (wd_43 hw) (wd_2 hw) (wd_45 hw) (by decide) e395 (rm6 l Z a0 hw a285 a313 a335 b309 k313 k309 k335 (2 : Int32) ((((64 : Int64) * ((2 : Int32).toInt64)) - (1 : Int64)) - ((fn4 B).toInt64)) [A, B] (own_in i2) h395 F396 F397 F398 F399 F400 F402 (own_b0 i2) (own_x0_2 i2 A B hB)) pd_laZaIrZ [(.ref a313), (.ref a335)] [] rfl F396 rfl (by rw [hml]; rfl) rfl (hb hby at_304) 0 (Nat.le_of_eq rfl) (by decide) (by decide) (by decide) (by decide) rfl rfl fun T410 X410 e410 => ?_
      refine o_iload 309 X410 hx rfl (hb hby at_307) rfl ?_
      refine o_icmpNo 312 X410 hx rfl (hb hby at_309) (teq (own_f0_2 i2 A B hB)).2 ?_
      refine o_iconst 313 X410 hx rfl (hb hby at_312) (1 : Int32) rfl ?_
      refine o_goto 317 X410 hx (hb hby at_313) (by decide) (by decide) ?_
      refine o_retN X410 hx .boolean (by simp) hret hlk (hb hby at_317) (by decide) (by decide) ?_
      exact ⟨rfl, N395⟩
    · refine o_ifNo 180 X395 hx rfl (hb hby at_177) (feq (show ¬ ((1 : Int32) = (0 : Int32)) by decide)).1 ?_
      refine o_aload 182 X395 hx rfl (hb hby at_180) rfl rfl ?_
      refine o_iload 184 X395 hx rfl (hb hby at_182) rfl ?_
      refine o_iconst 185 X395 hx rfl (hb hby at_184) (1 : Int32) rfl ?_
      refine o_iastoreX 186 X395 hx rfl hZ e395 F402 ⟨own_nn (by omega), own_lt (n := 66) hP (by decide)⟩ (by rw [own_n32 (by omega)]; exact hP) (((own_in i2).set P (1 : Int32))) (by rw [own_n32 (by omega)]) N395 ge339 (hb hby at_185) fun T411 h411 L411 X411 N411 e411 W411 A411 => ?_
      have F412 : Exa Z h411 a285 "com/example/whittle/whittle/model/LookUpTable" := F396.wr W411
      have F413 : Fld Z h411 a285 "com/example/whittle/whittle/model/LookUpTable" "words" "[J" (.ref b309) := F397.other W411 (Or.inl ne336)
      have F414 : Fld Z h411 a285 "com/example/whittle/whittle/model/LookUpTable" "highestSetBit" "J" (.long ((((64 : Int64) * ((2 : Int32).toInt64)) - (1 : Int64)) - ((fn4 B).toInt64))) := F398.other W411 (Or.inl ne336)
      have F415 : Arv Z h411 b309 k309 .long (2 : Int32) ([A, B].map Value.long) (.long 0) := F399.other W411 ne337
      have F416 : Arv Z h411 a313 k313 .boolean (2 : Int32) ([(0 : Int32), (1 : Int32)].map Value.int) (.int 0) := F400.other W411 ne338
      have sz417 : n0 ≤ h411.size := Nat.le_trans sz401 (Keep.of_wr W411).1
      refine o_iload 188 X411 hx rfl (hb hby at_186) rfl ?_
      refine o_ifNo 191 X411 hx rfl (hb hby at_188) (feq (show ¬ ((1 : Int32) = (0 : Int32)) by decide)).1 ?_
      refine o_iload 193 X411 hx rfl (hb hby at_191) rfl ?_
      refine o_bipush 195 X411 hx rfl (hb hby at_193) (63 : Int32) rfl ?_
      by_cases h63 : P < 63
      · refine o_icmpYes 204 X411 hx (hb hby at_195) (tlt (own_lt (n := 63) h63 (by decide))).1 (by decide) (by decide) ?_
        refine o_iload 206 X411 hx rfl (hb hby at_204) rfl ?_
        refine o_sipush 209 X411 hx rfl (hb hby at_206) (255 : Int32) rfl ?_
        refine o_iand 210 X411 hx rfl (hb hby at_209) ?_
        refine o_i2l 211 X411 hx rfl (hb hby at_210) ?_
        refine o_iload 213 X411 hx rfl (hb hby at_211) rfl ?_
        refine o_ifNo 216 X411 hx rfl (hb hby at_213) (feq (show ¬ ((1 : Int32) = (0 : Int32)) by decide)).1 ?_
        refine o_lconst 217 X411 hx rfl (hb hby at_216) (1 : Int64) rfl ?_
        refine o_iload 219 X411 hx rfl (hb hby at_217) rfl ?_
        refine o_lshl 220 X411 hx rfl (hb hby at_219) ?_
        refine o_goto 224 X411 hx (hb hby at_220) (by decide) (by decide) ?_
        refine o_lor 225 X411 hx rfl (hb hby at_224) ?_
        refine o_lstore 227 X411 hx rfl (hb hby at_225) #[.val (.long q0), .second, .val (.long q1), .second, .val (.int i2), .val (.int i3), .val (.int i4), .val (.long A), .second, .val (.long B), .second, .val (.ref a285), .val (.ref a313), .val (.ref a335), .val (.int (1 : Int32)), .val (.int (Int32.ofNat P)), .unset, .val (.long (((i2 &&& (255 : Int32)).toInt64) ||| ((1 : Int64) <<< ((Int32.ofNat P) &&& 0x3f).toInt64))), .second] rfl ?_
        refine o_lload 229 X411 hx rfl (hb hby at_227) rfl ?_
        refine o_ldc2Long 232 X411 hx rfl hZ hown (wd_40 hw) (hb hby at_229) ?_
        refine o_lcmp 233 X411 hx rfl (hb hby at_232) ?_
        suffices j298_418 : Go p.tables e below (EndE s room_1 (fun v h L => v = some (.int (1 : Int32)) ∧ Fr n0 L)) (T411.setTop (mkF m 298 #[.val (.long q0), .second, .val (.long q1), .second, .val (.int i2), .val (.int i3), .val (.int i4), .val (.long A), .second, .val (.long B), .second, .val (.ref a285), .val (.ref a313), .val (.ref a335), .val (.int (1 : Int32)), .val (.int (Int32.ofNat P)), .val (.int (f0_298_l16''''' A B P i2)), .val (.long (((i2 &&& (255 : Int32)).toInt64) ||| ((1 : Int64) <<< ((Int32.ofNat P) &&& 0x3f).toInt64))), .second] [])) by
          by_cases hc233_419 : (((i2 &&& (255 : Int32)).toInt64) ||| ((1 : Int64) <<< ((Int32.ofNat P) &&& 0x3f).toInt64)) < (64 : Int64)
          · refine o_ifNo 236 X411 hx rfl (hb hby at_233) (tlt (l_tlt hc233_419)).2.1 ?_
            refine o_lload 238 X411 hx rfl (hb hby at_236) rfl ?_
            refine o_lload 240 X411 hx rfl (hb hby at_238) rfl ?_
            refine o_l2i 241 X411 hx rfl (hb hby at_240) ?_
            refine o_lushr 242 X411 hx rfl (hb hby at_241) ?_
            refine o_lconst 243 X411 hx rfl (hb hby at_242) (1 : Int64) rfl ?_
            refine o_land 244 X411 hx rfl (hb hby at_243) ?_
            refine o_lconst 245 X411 hx rfl (hb hby at_244) (0 : Int64) rfl ?_
            refine o_lcmp 246 X411 hx rfl (hb hby at_245) ?_
            by_cases hc246_420 : (((A.toUInt64 >>> (((((i2 &&& (255 : Int32)).toInt64) ||| ((1 : Int64) <<< ((Int32.ofNat P) &&& 0x3f).toInt64)).toInt32) &&& 0x3f).toInt64.toUInt64).toInt64) &&& (1 : Int64)) = (0 : Int64)
            · refine o_ifYes 253 X411 hx (hb hby at_246) (teq (l_teq hc246_420)).1 (by decide) (by decide) ?_
              refine o_iconst 254 X411 hx rfl (hb hby at_253) (0 : Int32) rfl ?_
              refine o_istore 256 X411 hx rfl (hb hby at_254) #[.val (.long q0), .second, .val (.long q1), .second, .val (.int i2), .val (.int i3), .val (.int i4), .val (.long A), .second, .val (.long B), .second, .val (.ref a285), .val (.ref a313), .val (.ref a335), .val (.int (1 : Int32)), .val (.int (Int32.ofNat P)), .val (.int (0 : Int32)), .val (.long (((i2 &&& (255 : Int32)).toInt64) ||| ((1 : Int64) <<< ((Int32.ofNat P) &&& 0x3f).toInt64))), .second] rfl ?_
              refine o_goto 298 X411 hx (hb hby at_256) (by decide) (by decide) ?_
              rw [show (f0_298_l16''''' A B P i2) = (0 : Int32) from by unfold f0_298_l16'''''; simp only [if_pos hc233_419, if_pos hc246_420]] at j298_418
              exact j298_418
            · refine o_ifNo 249 X411 hx rfl (hb hby at_246) (feq (l_feq hc246_420)).1 ?_
              refine o_iconst 250 X411 hx rfl (hb hby at_249) (1 : Int32) rfl ?_
              refine o_goto 254 X411 hx (hb hby at_250) (by decide) (by decide) ?_
              refine o_istore 256 X411 hx rfl (hb hby at_254) #[.val (.long q0), .second, .val (.long q1), .second, .val (.int i2), .val (.int i3), .val (.int i4), .val (.long A), .second, .val (.long B), .second, .val (.ref a285), .val (.ref a313), .val (.ref a335), .val (.int (1 : Int32)), .val (.int (Int32.ofNat P)), .val (.int (1 : Int32)), .val (.long (((i2 &&& (255 : Int32)).toInt64) ||| ((1 : Int64) <<< ((Int32.ofNat P) &&& 0x3f).toInt64))), .second] rfl ?_
              refine o_goto 298 X411 hx (hb hby at_256) (by decide) (by decide) ?_
              rw [show (f0_298_l16''''' A B P i2) = (1 : Int32) from by unfold f0_298_l16'''''; simp only [if_pos hc233_419, if_neg hc246_420]] at j298_418
              exact j298_418
          · refine o_ifYes 259 X411 hx (hb hby at_233) (flt (l_flt hc233_419)).2.1 (by decide) (by decide) ?_
            refine o_lload 261 X411 hx rfl (hb hby at_259) rfl ?_
            refine o_ldc2Long 264 X411 hx rfl hZ hown (wd_55 hw) (hb hby at_261) ?_
            refine o_lcmp 265 X411 hx rfl (hb hby at_264) ?_
            by_cases hc265_421 : (((i2 &&& (255 : Int32)).toInt64) ||| ((1 : Int64) <<< ((Int32.ofNat P) &&& 0x3f).toInt64)) < (128 : Int64)
            · refine o_ifNo 268 X411 hx rfl (hb hby at_265) (tlt (l_tlt hc265_421)).2.1 ?_
              refine o_lload 270 X411 hx rfl (hb hby at_268) rfl ?_
              refine o_lload 272 X411 hx rfl (hb hby at_270) rfl ?_
              refine o_ldc2Long 275 X411 hx rfl hZ hown (wd_40 hw) (hb hby at_272) ?_
              refine o_lsub 276 X411 hx rfl (hb hby at_275) ?_
              refine o_l2i 277 X411 hx rfl (hb hby at_276) ?_
              refine o_lushr 278 X411 hx rfl (hb hby at_277) ?_
              refine o_lconst 279 X411 hx rfl (hb hby at_278) (1 : Int64) rfl ?_
              refine o_land 280 X411 hx rfl (hb hby at_279) ?_
              refine o_lconst 281 X411 hx rfl (hb hby at_280) (0 : Int64) rfl ?_
              refine o_lcmp 282 X411 hx rfl (hb hby at_281) ?_
              by_cases hc282_422 : (((B.toUInt64 >>> ((((((i2 &&& (255 : Int32)).toInt64) ||| ((1 : Int64) <<< ((Int32.ofNat P) &&& 0x3f).toInt64)) - (64 : Int64)).toInt32) &&& 0x3f).toInt64.toUInt64).toInt64) &&& (1 : Int64)) = (0 : Int64)
              · refine o_ifYes 289 X411 hx (hb hby at_282) (teq (l_teq hc282_422)).1 (by decide) (by decide) ?_
                refine o_iconst 290 X411 hx rfl (hb hby at_289) (0 : Int32) rfl ?_
                refine o_istore 292 X411 hx rfl (hb hby at_290) #[.val (.long q0), .second, .val (.long q1), .second, .val (.int i2), .val (.int i3), .val (.int i4), .val (.long A), .second, .val (.long B), .second, .val (.ref a285), .val (.ref a313), .val (.ref a335), .val (.int (1 : Int32)), .val (.int (Int32.ofNat P)), .val (.int (0 : Int32)), .val (.long (((i2 &&& (255 : Int32)).toInt64) ||| ((1 : Int64) <<< ((Int32.ofNat P) &&& 0x3f).toInt64))), .second] rfl ?_
                refine o_goto 298 X411 hx (hb hby at_292) (by decide) (by decide) ?_
                rw [show (f0_298_l16''''' A B P i2) = (0 : Int32) from by unfold f0_298_l16'''''; simp only [if_neg hc233_419, if_pos hc265_421, if_pos hc282_422]] at j298_418
                exact j298_418
              · refine o_ifNo 285 X411 hx rfl (hb hby at_282) (feq (l_feq hc282_422)).1 ?_
                refine o_iconst 286 X411 hx rfl (hb hby at_285) (1 : Int32) rfl ?_
                refine o_goto 290 X411 hx (hb hby at_286) (by decide) (by decide) ?_
                refine o_istore 292 X411 hx rfl (hb hby at_290) #[.val (.long q0), .second, .val (.long q1), .second, .val (.int i2), .val (.int i3), .val (.int i4), .val (.long A), .second, .val (.long B), .second, .val (.ref a285), .val (.ref a313), .val (.ref a335), .val (.int (1 : Int32)), .val (.int (Int32.ofNat P)), .val (.int (1 : Int32)), .val (.long (((i2 &&& (255 : Int32)).toInt64) ||| ((1 : Int64) <<< ((Int32.ofNat P) &&& 0x3f).toInt64))), .second] rfl ?_
                refine o_goto 298 X411 hx (hb hby at_292) (by decide) (by decide) ?_
                rw [show (f0_298_l16''''' A B P i2) = (1 : Int32) from by unfold f0_298_l16'''''; simp only [if_neg hc233_419, if_pos hc265_421, if_neg hc282_422]] at j298_418
                exact j298_418
            · refine o_ifYes 295 X411 hx (hb hby at_265) (flt (l_flt hc265_421)).2.1 (by decide) (by decide) ?_
              refine o_iconst 296 X411 hx rfl (hb hby at_295) (0 : Int32) rfl ?_
              refine o_istore 298 X411 hx rfl (hb hby at_296) #[.val (.long q0), .second, .val (.long q1), .second, .val (.int i2), .val (.int i3), .val (.int i4), .val (.long A), .second, .val (.long B), .second, .val (.ref a285), .val (.ref a313), .val (.ref a335), .val (.int (1 : Int32)), .val (.int (Int32.ofNat P)), .val (.int (0 : Int32)), .val (.long (((i2 &&& (255 : Int32)).toInt64) ||| ((1 : Int64) <<< ((Int32.ofNat P) &&& 0x3f).toInt64))), .second] rfl ?_
              rw [show (f0_298_l16''''' A B P i2) = (0 : Int32) from by unfold f0_298_l16'''''; simp only [if_neg hc233_419, if_neg hc265_421]] at j298_418
              exact j298_418
        refine o_aload 300 X411 hx rfl (hb hby at_298) rfl rfl ?_
        refine o_aload 302 X411 hx rfl (hb hby at_300) rfl rfl ?_
        refine o_aload 304 X411 hx rfl (hb hby at_302) rfl rfl ?_
        refine o_callVP (rv := (.int (own_evv ((own_in i2).set P (1 : Int32)) ((((64 : Int64) * ((2 : Int32).toInt64)) - (1 : Int64)) - ((fn4 B).toInt64)) [A, B]))) 307 X411 hx rfl hZ hown (wd_41 hw) (wd_42 hw) (wd_44 hw) (wd_43 hw) (wd_2 hw) (wd_45 hw) (by decide) e411 (rm6 l Z a0 hw a285 a313 a335 b309 k313 k309 k335 (2 : Int32) ((((64 : Int64) * ((2 : Int32).toInt64)) - (1 : Int64)) - ((fn4 B).toInt64)) [A, B] ((own_in i2).set P (1 : Int32)) h411 F412 F413 F414 F415 F416 A411 (own_b1 i2 P) (own_x1_2 i2 P hP A B hB)) pd_laZaIrZ [(.ref a313), (.ref a335)] [] rfl F412 rfl (by rw [hml]; rfl) rfl (hb hby at_304) 0 (Nat.le_of_eq rfl) (by decide) (by decide) (by decide) (by decide) rfl rfl fun T423 X423 e423 => ?_
        refine o_iload 309 X423 hx rfl (hb hby at_307) rfl ?_
        refine o_icmpNo 312 X423 hx rfl (hb hby at_309) (teq (own_f1_2 i2 P h63 A B hB)).2 ?_
        refine o_iconst 313 X423 hx rfl (hb hby at_312) (1 : Int32) rfl ?_
        refine o_goto 317 X423 hx (hb hby at_313) (by decide) (by decide) ?_
        refine o_retN X423 hx .boolean (by simp) hret hlk (hb hby at_317) (by decide) (by decide) ?_
        exact ⟨rfl, N411⟩
      · refine o_icmpNo 198 X411 hx rfl (hb hby at_195) (flt (own_nle (n := 63) (by omega) (by omega))).1 ?_
        refine o_iconst 199 X411 hx rfl (hb hby at_198) (0 : Int32) rfl ?_
        refine o_istore 201 X411 hx rfl (hb hby at_199) #[.val (.long q0), .second, .val (.long q1), .second, .val (.int i2), .val (.int i3), .val (.int i4), .val (.long A), .second, .val (.long B), .second, .val (.ref a285), .val (.ref a313), .val (.ref a335), .val (.int (1 : Int32)), .val (.int (Int32.ofNat P)), .val (.int (0 : Int32)), .unset, .unset] rfl ?_
        refine o_goto 298 X411 hx (hb hby at_201) (by decide) (by decide) ?_
        refine o_aload 300 X411 hx rfl (hb hby at_298) rfl rfl ?_
        refine o_aload 302 X411 hx rfl (hb hby at_300) rfl rfl ?_
        refine o_aload 304 X411 hx rfl (hb hby at_302) rfl rfl ?_
        refine o_callVP (rv := (.int (own_evv ((own_in i2).set P (1 : Int32)) ((((64 : Int64) * ((2 : Int32).toInt64)) - (1 : Int64)) - ((fn4 B).toInt64)) [A, B]))) 307 X411 hx rfl hZ hown (wd_41 hw) (wd_42 hw) (wd_44 hw) (wd_43 hw) (wd_2 hw) (wd_45 hw) (by decide) e411 (rm6 l Z a0 hw a285 a313 a335 b309 k313 k309 k335 (2 : Int32) ((((64 : Int64) * ((2 : Int32).toInt64)) - (1 : Int64)) - ((fn4 B).toInt64)) [A, B] ((own_in i2).set P (1 : Int32)) h411 F412 F413 F414 F415 F416 A411 (own_b1 i2 P) (own_x1_2 i2 P hP A B hB)) pd_laZaIrZ [(.ref a313), (.ref a335)] [] rfl F412 rfl (by rw [hml]; rfl) rfl (hb hby at_304) 0 (Nat.le_of_eq rfl) (by decide) (by decide) (by decide) (by decide) rfl rfl fun T424 X424 e424 => ?_
        refine o_iload 309 X424 hx rfl (hb hby at_307) rfl ?_
        refine o_icmpNo 312 X424 hx rfl (hb hby at_309) (teq (own_f2_2 i2 P hP h63 A B hB)).2 ?_
        refine o_iconst 313 X424 hx rfl (hb hby at_312) (1 : Int32) rfl ?_
        refine o_goto 317 X424 hx (hb hby at_313) (by decide) (by decide) ?_
        refine o_retN X424 hx .boolean (by simp) hret hlk (hb hby at_317) (by decide) (by decide) ?_
        exact ⟨rfl, N411⟩
set_option maxRecDepth 65536 in
set_option maxHeartbeats 40000000 in
theorem comes_1 {Post : Tables → Env → Array Value → State → Outcome → State → Prop} (hpost : ∀ tb e args s v u, (limb_1_1.after args s (.returned v) u = true ∧ limb_1_2.after args s (.returned v) u = true ∧ True) → FrameEnd s (.returned v) u (Jvm.fieldLocs frame_1_writes args s ++ Jvm.arrayLocs frame_1_arrays args s ++ Jvm.staticLocs frame_1_statics s) 24 256 → Post tb e args s (.returned v) u) :
    ArmFor flags0 classFile x code maxLocals ret World_1 tables_1 room_1 Calls_1 rest_1 Pre_1 Post := by
  intro l hfl _ _ p e ha hc hk s m args below hf hA hF happ hP
  obtain ⟨hcalls, hrest, hpre⟩ := hP
  obtain ⟨-, -, -, hnamed, -, -, -, hat⟩ := (Spec.applies_iff hf).mp happ
  obtain ⟨hg, hn⟩ := and_e (Cond.before_iff.mp (show (Jvm.Cond.and given_1 narrow_1).before args s = true from hpre))
  obtain ⟨gc, g0⟩ := and_e hg
  obtain ⟨ga0, g1⟩ := and_e g0
  obtain ⟨ga1, g2⟩ := and_e g1
  obtain ⟨ga2, g3⟩ := and_e g2
  obtain ⟨ga3, g4⟩ := and_e g3
  obtain ⟨w0, w1, w2, w3, w4, rfl⟩ : ∃ w0 w1 w2 w3 w4 : Value, args = #[w0, w1, w2, w3, w4] := by
    have hs : args.size = 5 := by simpa [Cond.value, given_1] using gc
    obtain ⟨L⟩ := args
    match L, hs with
    | [w0, w1, w2, w3, w4], _ => exact ⟨w0, w1, w2, w3, w4, rfl⟩
  have hw := fun d (hd : d ∈ tables_1) => atoms_spec (ws := Jvm.Cond.code x code maxLocals ret :: tables_1) hat d (List.mem_cons_of_mem _ hd)
  obtain ⟨i0, ei0⟩ := isL_v ga0
  obtain rfl : w0 = (.long i0) := Option.some.inj ei0
  obtain ⟨i1, ei1⟩ := isL_v ga1
  obtain rfl : w1 = (.long i1) := Option.some.inj ei1
  obtain ⟨i2, ei2⟩ := is_v ga2
  obtain rfl : w2 = (.int i2) := Option.some.inj ei2
  obtain ⟨i3, ei3⟩ := is_v ga3
  obtain rfl : w3 = (.int i3) := Option.some.inj ei3
  obtain ⟨i4, ei4⟩ := is_v g4
  obtain rfl : w4 = (.int i4) := Option.some.inj ei4
  obtain ⟨n, o, h1, h2, h3, _, L, rfl, ⟨rfl, N⟩, hq⟩ := rm0 l s _ hw tables_1 i0 i1 i2 i3 i4 s.heap s.heap.size (Nat.le_refl _) p e ha hc hk s m _ below hf ((Spec.applies_iff_loose hf).mp happ).1 ⟨rfl, State.Warmed39.refl s, rfl⟩ trivial
  refine ⟨n, _, h1, h2, h3, hpost _ _ _ _ _ _ ⟨Cond.after_iff.mpr rfl, Cond.after_iff.mpr (eq_i res_at (Term.int_eval (1)) rfl), trivial⟩ ⟨hq.1, hq.2.1, (hq.2.2.sift fun y hy => Or.inr (N y hy)).mono (by decide) (by decide)⟩⟩
theorem main_1_1 : Claimed_1_1 := comes_1 fun _ _ _ _ _ _ h hF => ⟨h.1, hF⟩
theorem main_1_2 : Claimed_1_2 := comes_1 fun _ _ _ _ _ _ h hF => ⟨h.2.1, hF⟩
end Jvm.Pilot.@@N@@
namespace Jvm.Pilot.@@N@@
open Jvm Jvm.ClassFile Sem Op Lib Jvm.Free Jvm.Stand Jvm.Pilot.@@N@@.Jvm.D
/-! MADE BY PROGRAM (witnessworld.py) out of the Statement's table words and the real class files: 23 classes; the members and pool entries that the words name. The judged class is class 1, her method 1. -/
namespace start1
open Jvm.ClassFile
def u (s : String) : CpInfo := .utf8 (stringToUtf16 s)
/-- a pool by its gaps: so many unusable entries, then the entry; so many at the end -/
def gap : Nat → List CpInfo → List CpInfo
  | 0, r => r
  | n + 1, r => .unusable :: gap n r
def poolList (es : List (Nat × CpInfo)) (last : Nat) : List CpInfo := es.foldr (fun e r => gap e.1 (e.2 :: r)) (gap last [])
def pool (es : List (Nat × CpInfo)) (last : Nat) : Array CpInfo := ⟨poolList es last⟩
def fileOf (pool : Array CpInfo) (this : Nat) (attrs : Array Attribute := #[]) (ms : Array MethodInfo := #[]) (fl : Nat := 33) (sup : Nat := 0) (ifs : Array Nat := #[]) (fds : Array FieldInfo := #[]) : ClassFile where
  minorVersion := 0
  majorVersion := 65
  constantPool := pool
  accessFlags := fl
  thisClass := this
  superClass := sup
  interfaces := ifs
  fields := fds
  methods := ms
  attributes := attrs
def plain (name : String) (sup : Option ClassId) : Class where
  name := name
  kind := .ordinary
  loader := none
  accessFlags := 33
  super := sup
  interfaces := #[]
  cf := none
  fields := #[]
  methods := #[]
  instanceTypes := #[]
  staticTypes := #[]
  resolved := #[]
  callSites := []
  init := .initialized
  statics := none
  mirror := none

def pool0 : Array CpInfo := pool [(5, u "<init>"), (0, u "()V"), (1, .class_ 10), (1, u "java/lang/Object"), (85, u "clone"), (0, u "()Ljava/lang/Object;")] 26

def k0c0 : Code := { maxStack := 0, maxLocals := 1, code := object_method_1_code, exceptionTable := #[], attributes := #[] }
def k0m0 : Method := { name := "<init>", desc := "()V", sig := { parameters := [], returnType := none }, accessFlags := 1, code := some k0c0 }
def k0m1 : Method := { name := "clone", desc := "()Ljava/lang/Object;", sig := { parameters := [], returnType := some (.object "java/lang/Object") }, accessFlags := 260, code := none }
/-- java/lang/Object -/
def k0 : Class := { plain "java/lang/Object" none with
  accessFlags := 33
  interfaces := #[]
  cf := some (fileOf pool0 8 #[] #[{ accessFlags := 1, nameIndex := 5, descriptorIndex := 6, attributes := #[] }, { accessFlags := 260, nameIndex := 96, descriptorIndex := 97, attributes := #[] }] 33 0 #[] #[])
  fields := #[]
  methods := #[k0m0, k0m1]
  instanceTypes := #[]
  staticTypes := #[]
  resolved := Array.replicate 124 none
  statics := none }

def pool1 : Array CpInfo := pool [(2, .class_ 4), (1, u "java/lang/Object"), (0, u "<init>"), (0, u "()V"), (0, .class_ 8), (0, u "com/example/whittle/whittle/model/LookUpTable"), (0, .methodref 7 10), (0, .nameAndType 5 11), (0, u "([J)V"), (0, .integer 2147483647), (0, .long 64), (1, .long 128), (1, .methodref 7 18), (0, .nameAndType 19 20), (0, u "evaluate"), (0, u "([Z[I)Z"), (0, .class_ 22), (0, u "com/example/whittle/whittle/model/LookUpTableEvaluatePinLaw"), (2, u "law"), (0, u "(JJIII)Z")] 7

def k1m0 : Method := { name := "<init>", desc := "()V", sig := { parameters := [], returnType := none }, accessFlags := 1, code := none }
def k1c1 : Code := { maxStack := 7, maxLocals := 19, code := code, exceptionTable := #[], attributes := #[] }
def k1m1 : Method := { name := "law", desc := "(JJIII)Z", sig := { parameters := [.long, .long, .int, .int, .int], returnType := some .boolean }, accessFlags := 9, code := some k1c1 }
/-- com/example/whittle/whittle/model/LookUpTableEvaluatePinLaw -/
def k1 : Class := { plain "com/example/whittle/whittle/model/LookUpTableEvaluatePinLaw" (some 0) with
  accessFlags := 49
  interfaces := #[]
  cf := some (fileOf pool1 21 #[] #[{ accessFlags := 1, nameIndex := 5, descriptorIndex := 6, attributes := #[] }, { accessFlags := 9, nameIndex := 25, descriptorIndex := 26, attributes := #[] }] 49 2 #[] #[])
  fields := #[]
  methods := #[k1m0, k1m1]
  instanceTypes := #[]
  staticTypes := #[]
  resolved := Array.replicate 34 none
  statics := none }

def pool2 : Array CpInfo := pool [(1, .class_ 2), (0, u "com/example/whittle/whittle/model/GateFunction"), (0, .class_ 4), (0, u "java/lang/Object")] 11

/-- com/example/whittle/whittle/model/GateFunction -/
def k2 : Class := { plain "com/example/whittle/whittle/model/GateFunction" (some 0) with
  accessFlags := 1536
  interfaces := #[]
  cf := some (fileOf pool2 1 #[] #[] 1536 3 #[] #[])
  fields := #[]
  methods := #[]
  instanceTypes := #[]
  staticTypes := #[]
  resolved := Array.replicate 16 none
  statics := none }

def pool3 : Array CpInfo := pool [(1, .methodref 2 3), (0, .class_ 4), (0, .nameAndType 5 6), (0, u "java/lang/Object"), (0, u "<init>"), (0, u "()V"), (0, .methodref 8 9), (0, .class_ 10), (0, .nameAndType 11 12), (0, u "java/util/Arrays"), (0, u "copyOf"), (0, u "([JI)[J"), (0, .fieldref 14 15), (0, .class_ 16), (0, .nameAndType 17 18), (0, u "com/example/whittle/whittle/model/LookUpTable"), (0, u "words"), (0, u "[J"), (0, .long 18446744073709551615), (1, .class_ 22), (0, u "java/lang/Long"), (0, .long 64), (1, .methodref 21 26), (0, .nameAndType 27 28), (0, u "numberOfLeadingZeros"), (0, u "(J)I"), (0, .fieldref 14 30), (0, .nameAndType 31 32), (0, u "highestSetBit"), (0, u "J"), (10, .class_ 44), (0, u "com/example/whittle/whittle/model/GateFunction"), (0, u "([J)V"), (5, u "evaluate"), (0, u "([Z[I)Z")] 5

def k3c0 : Code := { maxStack := 6, maxLocals := 3, code := prog_35_method_1_code, exceptionTable := #[], attributes := #[] }
def k3m0 : Method := { name := "<init>", desc := "([J)V", sig := { parameters := [(.array .long)], returnType := none }, accessFlags := 0, code := some k3c0 }
def k3c1 : Code := { maxStack := 6, maxLocals := 6, code := prog_35_method_3_code, exceptionTable := #[], attributes := #[] }
def k3m1 : Method := { name := "evaluate", desc := "([Z[I)Z", sig := { parameters := [(.array .boolean), (.array .int)], returnType := some .boolean }, accessFlags := 1, code := some k3c1 }
/-- com/example/whittle/whittle/model/LookUpTable -/
def k3 : Class := { plain "com/example/whittle/whittle/model/LookUpTable" (some 0) with
  accessFlags := 48
  interfaces := #[2]
  cf := some (fileOf pool3 14 #[] #[{ accessFlags := 0, nameIndex := 5, descriptorIndex := 45, attributes := #[] }, { accessFlags := 1, nameIndex := 51, descriptorIndex := 52, attributes := #[] }] 48 2 #[43] #[{ accessFlags := 18, nameIndex := 17, descriptorIndex := 18, attributes := #[] }, { accessFlags := 18, nameIndex := 31, descriptorIndex := 32, attributes := #[] }])
  fields := #[{ name := "words", type := (.array .long), accessFlags := 18, slot := 0, constantValue := 0 }, { name := "highestSetBit", type := .long, accessFlags := 18, slot := 1, constantValue := 0 }]
  methods := #[k3m0, k3m1]
  instanceTypes := #[(.array .long), .long]
  staticTypes := #[]
  resolved := Array.replicate 58 none
  statics := none }

def pool4 : Array CpInfo := pool [(2, .class_ 4), (1, u "java/lang/Object"), (0, u "<init>"), (0, u "()V"), (7, .class_ 16), (1, u "java/util/Arrays"), (57, .class_ 76), (1, u "java/util/Arrays$NaturalOrder"), (32, u "()Ljava/lang/Object;"), (3, .class_ 115), (1, u "java/util/Arrays$LegacyMergeSort"), (1, u "Z"), (10, .nameAndType 129 109), (0, u "clone"), (20, .methodref 151 152), (0, .class_ 153), (0, .nameAndType 154 155), (0, u "java/lang/System"), (0, u "arraycopy"), (0, u "(Ljava/lang/Object;ILjava/lang/Object;II)V"), (146, u "copyOf"), (1, .methodref 305 306), (0, .class_ 307), (0, .nameAndType 308 309), (0, u "java/lang/Math"), (0, u "min"), (0, u "(II)I"), (9, .methodref 320 128), (0, .class_ 321), (0, u "[J"), (53, .class_ 376), (0, u "java/util/Arrays$ArrayList"), (68, u "$assertionsDisabled"), (269, u "MIN_ARRAY_SORT_GRAN"), (0, u "I"), (2, u "INSERTIONSORT_THRESHOLD"), (152, u "([JI)[J"), (102, .class_ 976), (0, u "java/util/Arrays$ArrayItr")] 52

def k4m0 : Method := { name := "<init>", desc := "()V", sig := { parameters := [], returnType := none }, accessFlags := 2, code := none }
def k4c1 : Code := { maxStack := 6, maxLocals := 3, code := jdk_65_method_124_code, exceptionTable := #[], attributes := #[] }
def k4m1 : Method := { name := "copyOf", desc := "([JI)[J", sig := { parameters := [(.array .long), .int], returnType := some (.array .long) }, accessFlags := 9, code := some k4c1 }
/-- java/util/Arrays -/
def k4 : Class := { plain "java/util/Arrays" (some 0) with
  accessFlags := 49
  interfaces := #[]
  cf := some (fileOf pool4 14 #[.nestMembers #[975, 375, 113, 74]] #[{ accessFlags := 2, nameIndex := 5, descriptorIndex := 6, attributes := #[] }, { accessFlags := 9, nameIndex := 302, descriptorIndex := 872, attributes := #[] }] 49 2 #[] #[{ accessFlags := 26, nameIndex := 715, descriptorIndex := 716, attributes := #[] }, { accessFlags := 26, nameIndex := 719, descriptorIndex := 716, attributes := #[] }, { accessFlags := 4120, nameIndex := 445, descriptorIndex := 117, attributes := #[] }])
  fields := #[{ name := "MIN_ARRAY_SORT_GRAN", type := .int, accessFlags := 26, slot := 0, constantValue := 0 }, { name := "INSERTIONSORT_THRESHOLD", type := .int, accessFlags := 26, slot := 1, constantValue := 0 }, { name := "$assertionsDisabled", type := .boolean, accessFlags := 4120, slot := 2, constantValue := 0 }]
  methods := #[k4m0, k4m1]
  instanceTypes := #[]
  staticTypes := #[.int, .int, .boolean]
  resolved := Array.replicate 1029 none
  statics := none }

def pool5 : Array CpInfo := pool [(1, .class_ 2), (0, u "java/lang/Cloneable"), (0, .class_ 4), (0, u "java/lang/Object")] 2

/-- java/lang/Cloneable -/
def k5 : Class := { plain "java/lang/Cloneable" (some 0) with
  accessFlags := 1537
  interfaces := #[]
  cf := some (fileOf pool5 1 #[] #[] 1537 3 #[] #[])
  fields := #[]
  methods := #[]
  instanceTypes := #[]
  staticTypes := #[]
  resolved := Array.replicate 7 none
  statics := none }

def pool6 : Array CpInfo := pool [(1, .class_ 2), (0, u "java/io/Serializable"), (0, .class_ 4), (0, u "java/lang/Object")] 2

/-- java/io/Serializable -/
def k6 : Class := { plain "java/io/Serializable" (some 0) with
  accessFlags := 1537
  interfaces := #[]
  cf := some (fileOf pool6 1 #[] #[] 1537 3 #[] #[])
  fields := #[]
  methods := #[]
  instanceTypes := #[]
  staticTypes := #[]
  resolved := Array.replicate 7 none
  statics := none }

def pool7 : Array CpInfo := pool [(2, .class_ 4), (1, u "java/lang/Object"), (0, u "<init>"), (0, u "()V"), (1, .class_ 10), (1, u "java/lang/Number"), (2, .class_ 14), (0, u "java/io/Serializable"), (0, u "serialVersionUID"), (0, u "J")] 20

def k7m0 : Method := { name := "<init>", desc := "()V", sig := { parameters := [], returnType := none }, accessFlags := 1, code := none }
/-- java/lang/Number -/
def k7 : Class := { plain "java/lang/Number" (some 0) with
  accessFlags := 1057
  interfaces := #[6]
  cf := some (fileOf pool7 8 #[] #[{ accessFlags := 1, nameIndex := 5, descriptorIndex := 6, attributes := #[] }] 1057 2 #[13] #[{ accessFlags := 26, nameIndex := 15, descriptorIndex := 16, attributes := #[] }])
  fields := #[{ name := "serialVersionUID", type := .long, accessFlags := 26, slot := 0, constantValue := 0 }]
  methods := #[k7m0]
  instanceTypes := #[]
  staticTypes := #[.long]
  resolved := Array.replicate 37 none
  statics := none }

def pool8 : Array CpInfo := pool [(1, .class_ 2), (0, u "java/lang/Comparable"), (0, .class_ 4), (0, u "java/lang/Object")] 7

/-- java/lang/Comparable -/
def k8 : Class := { plain "java/lang/Comparable" (some 0) with
  accessFlags := 1537
  interfaces := #[]
  cf := some (fileOf pool8 1 #[] #[] 1537 3 #[] #[])
  fields := #[]
  methods := #[]
  instanceTypes := #[]
  staticTypes := #[]
  resolved := Array.replicate 12 none
  statics := none }

def pool9 : Array CpInfo := pool [(1, .class_ 2), (0, u "java/lang/constant/Constable"), (0, .class_ 4), (0, u "java/lang/Object")] 6

/-- java/lang/constant/Constable -/
def k9 : Class := { plain "java/lang/constant/Constable" (some 0) with
  accessFlags := 1537
  interfaces := #[]
  cf := some (fileOf pool9 1 #[] #[] 1537 3 #[] #[])
  fields := #[]
  methods := #[]
  instanceTypes := #[]
  staticTypes := #[]
  resolved := Array.replicate 11 none
  statics := none }

def pool10 : Array CpInfo := pool [(1, .class_ 2), (0, u "java/lang/constant/ConstantDesc"), (0, .class_ 4), (0, u "java/lang/Object")] 32

/-- java/lang/constant/ConstantDesc -/
def k10 : Class := { plain "java/lang/constant/ConstantDesc" (some 0) with
  accessFlags := 1537
  interfaces := #[]
  cf := some (fileOf pool10 1 #[] #[] 1537 3 #[] #[])
  fields := #[]
  methods := #[]
  instanceTypes := #[]
  staticTypes := #[]
  resolved := Array.replicate 37 none
  statics := none }

def pool11 : Array CpInfo := pool [(1, .class_ 2), (0, u "java/lang/Long"), (15, .class_ 20), (1, u "java/lang/Integer"), (79, u "numberOfLeadingZeros"), (0, u "(J)I"), (133, .class_ 237), (1, u "java/lang/Long$LongCache"), (33, .class_ 272), (0, u "java/lang/Number"), (2, u "value"), (0, u "J"), (31, .methodref 18 309), (0, .nameAndType 100 310), (0, u "(I)I"), (50, u "TYPE"), (0, u "Ljava/lang/Class;"), (0, .class_ 364), (0, u "java/lang/Comparable"), (0, .class_ 366), (0, u "java/lang/constant/Constable"), (0, .class_ 368), (0, u "java/lang/constant/ConstantDesc"), (0, u "MIN_VALUE"), (1, u "MAX_VALUE"), (4, u "SIZE"), (0, u "I"), (1, u "BYTES"), (1, u "serialVersionUID")] 142

def k11c0 : Code := { maxStack := 3, maxLocals := 3, code := jdk_35_method_48_code, exceptionTable := #[], attributes := #[] }
def k11m0 : Method := { name := "numberOfLeadingZeros", desc := "(J)I", sig := { parameters := [.long], returnType := some .int }, accessFlags := 9, code := some k11c0 }
/-- java/lang/Long -/
def k11 : Class := { plain "java/lang/Long" (some 7) with
  accessFlags := 49
  interfaces := #[8, 9, 10]
  cf := some (fileOf pool11 1 #[.nestMembers #[235]] #[{ accessFlags := 9, nameIndex := 100, descriptorIndex := 101, attributes := #[] }] 49 271 #[363, 365, 367] #[{ accessFlags := 25, nameIndex := 369, descriptorIndex := 276, attributes := #[] }, { accessFlags := 25, nameIndex := 371, descriptorIndex := 276, attributes := #[] }, { accessFlags := 25, nameIndex := 361, descriptorIndex := 362, attributes := #[] }, { accessFlags := 18, nameIndex := 275, descriptorIndex := 276, attributes := #[] }, { accessFlags := 25, nameIndex := 376, descriptorIndex := 377, attributes := #[] }, { accessFlags := 25, nameIndex := 379, descriptorIndex := 377, attributes := #[] }, { accessFlags := 26, nameIndex := 381, descriptorIndex := 276, attributes := #[] }])
  fields := #[{ name := "MIN_VALUE", type := .long, accessFlags := 25, slot := 0, constantValue := 0 }, { name := "MAX_VALUE", type := .long, accessFlags := 25, slot := 1, constantValue := 0 }, { name := "TYPE", type := (.object "java/lang/Class"), accessFlags := 25, slot := 2, constantValue := 0 }, { name := "value", type := .long, accessFlags := 18, slot := 0, constantValue := 0 }, { name := "SIZE", type := .int, accessFlags := 25, slot := 3, constantValue := 0 }, { name := "BYTES", type := .int, accessFlags := 25, slot := 4, constantValue := 0 }, { name := "serialVersionUID", type := .long, accessFlags := 26, slot := 5, constantValue := 0 }]
  methods := #[k11m0]
  instanceTypes := #[.long]
  staticTypes := #[.long, .long, (.object "java/lang/Class"), .int, .int, .long]
  resolved := Array.replicate 524 none
  statics := none }

def pool12 : Array CpInfo := pool [(1, .class_ 2), (0, u "java/lang/Integer"), (16, u "digits"), (0, u "[C"), (32, u "numberOfLeadingZeros"), (0, u "(I)I"), (30, u "DigitOnes"), (0, u "[B"), (2, u "DigitTens"), (99, .class_ 190), (0, u "java/lang/Integer$IntegerCache"), (3, u "I"), (8, .class_ 204), (0, u "java/lang/Number"), (2, u "value"), (56, .integer 65536), (37, u "TYPE"), (0, u "Ljava/lang/Class;"), (0, .class_ 305), (0, u "java/lang/Comparable"), (0, .class_ 307), (0, u "java/lang/constant/Constable"), (0, .class_ 309), (0, u "java/lang/constant/ConstantDesc"), (0, u "MIN_VALUE"), (1, u "MAX_VALUE"), (3, u "SIZE"), (1, u "BYTES"), (1, u "serialVersionUID"), (0, u "J")] 131

def k12c0 : Code := { maxStack := 3, maxLocals := 2, code := jdk_33_method_47_code, exceptionTable := #[], attributes := #[] }
def k12m0 : Method := { name := "numberOfLeadingZeros", desc := "(I)I", sig := { parameters := [.int], returnType := some .int }, accessFlags := 9, code := some k12c0 }
/-- java/lang/Integer -/
def k12 : Class := { plain "java/lang/Integer" (some 7) with
  accessFlags := 49
  interfaces := #[8, 9, 10]
  cf := some (fileOf pool12 1 #[.nestMembers #[189]] #[{ accessFlags := 9, nameIndex := 53, descriptorIndex := 54, attributes := #[] }] 49 203 #[304, 306, 308] #[{ accessFlags := 25, nameIndex := 310, descriptorIndex := 194, attributes := #[] }, { accessFlags := 25, nameIndex := 312, descriptorIndex := 194, attributes := #[] }, { accessFlags := 25, nameIndex := 302, descriptorIndex := 303, attributes := #[] }, { accessFlags := 24, nameIndex := 19, descriptorIndex := 20, attributes := #[] }, { accessFlags := 24, nameIndex := 89, descriptorIndex := 86, attributes := #[] }, { accessFlags := 24, nameIndex := 85, descriptorIndex := 86, attributes := #[] }, { accessFlags := 18, nameIndex := 207, descriptorIndex := 194, attributes := #[] }, { accessFlags := 25, nameIndex := 316, descriptorIndex := 194, attributes := #[] }, { accessFlags := 25, nameIndex := 318, descriptorIndex := 194, attributes := #[] }, { accessFlags := 26, nameIndex := 320, descriptorIndex := 321, attributes := #[] }])
  fields := #[{ name := "MIN_VALUE", type := .int, accessFlags := 25, slot := 0, constantValue := 0 }, { name := "MAX_VALUE", type := .int, accessFlags := 25, slot := 1, constantValue := 0 }, { name := "TYPE", type := (.object "java/lang/Class"), accessFlags := 25, slot := 2, constantValue := 0 }, { name := "digits", type := (.array .char), accessFlags := 24, slot := 3, constantValue := 0 }, { name := "DigitTens", type := (.array .byte), accessFlags := 24, slot := 4, constantValue := 0 }, { name := "DigitOnes", type := (.array .byte), accessFlags := 24, slot := 5, constantValue := 0 }, { name := "value", type := .int, accessFlags := 18, slot := 0, constantValue := 0 }, { name := "SIZE", type := .int, accessFlags := 25, slot := 6, constantValue := 0 }, { name := "BYTES", type := .int, accessFlags := 25, slot := 7, constantValue := 0 }, { name := "serialVersionUID", type := .long, accessFlags := 26, slot := 8, constantValue := 0 }]
  methods := #[k12m0]
  instanceTypes := #[.int]
  staticTypes := #[.int, .int, (.object "java/lang/Class"), (.array .char), (.array .byte), (.array .byte), .int, .int, .long]
  resolved := Array.replicate 453 none
  statics := none }

def pool13 : Array CpInfo := pool [(1, .class_ 2), (0, u "java/lang/Math"), (1, .class_ 6), (1, u "java/lang/Object"), (0, u "<init>"), (0, u "()V"), (89, .class_ 100), (1, u "java/lang/Math$RandomNumberGeneratorHolder"), (71, u "negativeZeroFloatBits"), (0, u "J"), (2, u "negativeZeroDoubleBits"), (24, u "min"), (43, u "$assertionsDisabled"), (0, u "Z"), (88, u "(II)I"), (2, u "twoToTheDoubleScaleDown"), (0, u "D"), (4, u "twoToTheDoubleScaleUp"), (9, u "E"), (3, u "PI"), (2, u "TAU"), (2, u "DEGREES_TO_RADIANS"), (0, u "RADIANS_TO_DEGREES")] 94

def k13m0 : Method := { name := "<init>", desc := "()V", sig := { parameters := [], returnType := none }, accessFlags := 2, code := none }
def k13c1 : Code := { maxStack := 2, maxLocals := 2, code := jdk_29_method_69_code, exceptionTable := #[], attributes := #[] }
def k13m1 : Method := { name := "min", desc := "(II)I", sig := { parameters := [.int, .int], returnType := some .int }, accessFlags := 9, code := some k13c1 }
/-- java/lang/Math -/
def k13 : Class := { plain "java/lang/Math" (some 0) with
  accessFlags := 49
  interfaces := #[]
  cf := some (fileOf pool13 1 #[.nestMembers #[98]] #[{ accessFlags := 2, nameIndex := 7, descriptorIndex := 8, attributes := #[] }, { accessFlags := 9, nameIndex := 201, descriptorIndex := 335, attributes := #[] }] 49 4 #[] #[{ accessFlags := 25, nameIndex := 354, descriptorIndex := 339, attributes := #[] }, { accessFlags := 25, nameIndex := 358, descriptorIndex := 339, attributes := #[] }, { accessFlags := 25, nameIndex := 361, descriptorIndex := 339, attributes := #[] }, { accessFlags := 26, nameIndex := 364, descriptorIndex := 339, attributes := #[] }, { accessFlags := 26, nameIndex := 365, descriptorIndex := 339, attributes := #[] }, { accessFlags := 26, nameIndex := 172, descriptorIndex := 173, attributes := #[] }, { accessFlags := 26, nameIndex := 176, descriptorIndex := 173, attributes := #[] }, { accessFlags := 8, nameIndex := 344, descriptorIndex := 339, attributes := #[] }, { accessFlags := 8, nameIndex := 338, descriptorIndex := 339, attributes := #[] }, { accessFlags := 4120, nameIndex := 245, descriptorIndex := 246, attributes := #[] }])
  fields := #[{ name := "E", type := .double, accessFlags := 25, slot := 0, constantValue := 0 }, { name := "PI", type := .double, accessFlags := 25, slot := 1, constantValue := 0 }, { name := "TAU", type := .double, accessFlags := 25, slot := 2, constantValue := 0 }, { name := "DEGREES_TO_RADIANS", type := .double, accessFlags := 26, slot := 3, constantValue := 0 }, { name := "RADIANS_TO_DEGREES", type := .double, accessFlags := 26, slot := 4, constantValue := 0 }, { name := "negativeZeroFloatBits", type := .long, accessFlags := 26, slot := 5, constantValue := 0 }, { name := "negativeZeroDoubleBits", type := .long, accessFlags := 26, slot := 6, constantValue := 0 }, { name := "twoToTheDoubleScaleUp", type := .double, accessFlags := 8, slot := 7, constantValue := 0 }, { name := "twoToTheDoubleScaleDown", type := .double, accessFlags := 8, slot := 8, constantValue := 0 }, { name := "$assertionsDisabled", type := .boolean, accessFlags := 4120, slot := 9, constantValue := 0 }]
  methods := #[k13m0, k13m1]
  instanceTypes := #[]
  staticTypes := #[.double, .double, .double, .double, .double, .long, .long, .double, .double, .boolean]
  resolved := Array.replicate 460 none
  statics := none }

def pool14 : Array CpInfo := pool [(2, .class_ 4), (1, u "java/lang/Object"), (0, u "<init>"), (0, u "()V"), (1, .class_ 10), (1, u "java/lang/System"), (0, u "allowSecurityManager"), (0, u "I"), (16, u "cons"), (0, u "Ljava/io/Console;"), (77, .class_ 110), (1, u "java/lang/System$CallersHolder"), (43, u "initialErrStream"), (0, u "Ljava/io/PrintStream;"), (19, u "security"), (0, u "Ljava/lang/SecurityManager;"), (31, .class_ 209), (0, u "java/lang/System$1"), (7, u "props"), (0, u "Ljava/util/Properties;"), (2, u "lineSeparator"), (0, u "Ljava/lang/String;"), (96, .class_ 321), (1, u "java/lang/System$LoggerFinder"), (5, .class_ 328), (0, u "java/lang/System$Logger"), (67, u "err"), (2, u "out"), (91, u "notSupportedJnuEncoding"), (15, u "in"), (17, u "initialIn"), (0, u "Ljava/io/InputStream;"), (35, u "bootLayer"), (0, u "Ljava/lang/ModuleLayer;"), (99, .class_ 664), (0, u "java/lang/System$2"), (9, u "NEVER"), (2, u "MAYBE"), (49, u "arraycopy"), (0, u "(Ljava/lang/Object;ILjava/lang/Object;II)V"), (72, .class_ 802), (0, u "java/lang/System$Logger$Level")] 31

def k14m0 : Method := { name := "<init>", desc := "()V", sig := { parameters := [], returnType := none }, accessFlags := 2, code := none }
def k14m1 : Method := { name := "arraycopy", desc := "(Ljava/lang/Object;ILjava/lang/Object;II)V", sig := { parameters := [(.object "java/lang/Object"), .int, (.object "java/lang/Object"), .int, .int], returnType := none }, accessFlags := 265, code := none }
/-- java/lang/System -/
def k14 : Class := { plain "java/lang/System" (some 0) with
  accessFlags := 49
  interfaces := #[]
  cf := some (fileOf pool14 8 #[.nestMembers #[319, 327, 801, 108, 663, 208]] #[{ accessFlags := 2, nameIndex := 5, descriptorIndex := 6, attributes := #[] }, { accessFlags := 265, nameIndex := 727, descriptorIndex := 728, attributes := #[] }] 49 2 #[] #[{ accessFlags := 25, nameIndex := 507, descriptorIndex := 526, attributes := #[] }, { accessFlags := 25, nameIndex := 399, descriptorIndex := 155, attributes := #[] }, { accessFlags := 25, nameIndex := 396, descriptorIndex := 155, attributes := #[] }, { accessFlags := 10, nameIndex := 525, descriptorIndex := 526, attributes := #[] }, { accessFlags := 26, nameIndex := 674, descriptorIndex := 12, attributes := #[] }, { accessFlags := 26, nameIndex := 677, descriptorIndex := 12, attributes := #[] }, { accessFlags := 10, nameIndex := 11, descriptorIndex := 12, attributes := #[] }, { accessFlags := 74, nameIndex := 175, descriptorIndex := 176, attributes := #[] }, { accessFlags := 10, nameIndex := 491, descriptorIndex := 222, attributes := #[] }, { accessFlags := 74, nameIndex := 29, descriptorIndex := 30, attributes := #[] }, { accessFlags := 74, nameIndex := 154, descriptorIndex := 155, attributes := #[] }, { accessFlags := 10, nameIndex := 217, descriptorIndex := 218, attributes := #[] }, { accessFlags := 10, nameIndex := 221, descriptorIndex := 222, attributes := #[] }, { accessFlags := 8, nameIndex := 562, descriptorIndex := 563, attributes := #[] }])
  fields := #[{ name := "in", type := (.object "java/io/InputStream"), accessFlags := 25, slot := 0, constantValue := 0 }, { name := "out", type := (.object "java/io/PrintStream"), accessFlags := 25, slot := 1, constantValue := 0 }, { name := "err", type := (.object "java/io/PrintStream"), accessFlags := 25, slot := 2, constantValue := 0 }, { name := "initialIn", type := (.object "java/io/InputStream"), accessFlags := 10, slot := 3, constantValue := 0 }, { name := "NEVER", type := .int, accessFlags := 26, slot := 4, constantValue := 0 }, { name := "MAYBE", type := .int, accessFlags := 26, slot := 5, constantValue := 0 }, { name := "allowSecurityManager", type := .int, accessFlags := 10, slot := 6, constantValue := 0 }, { name := "security", type := (.object "java/lang/SecurityManager"), accessFlags := 74, slot := 7, constantValue := 0 }, { name := "notSupportedJnuEncoding", type := (.object "java/lang/String"), accessFlags := 10, slot := 8, constantValue := 0 }, { name := "cons", type := (.object "java/io/Console"), accessFlags := 74, slot := 9, constantValue := 0 }, { name := "initialErrStream", type := (.object "java/io/PrintStream"), accessFlags := 74, slot := 10, constantValue := 0 }, { name := "props", type := (.object "java/util/Properties"), accessFlags := 10, slot := 11, constantValue := 0 }, { name := "lineSeparator", type := (.object "java/lang/String"), accessFlags := 10, slot := 12, constantValue := 0 }, { name := "bootLayer", type := (.object "java/lang/ModuleLayer"), accessFlags := 8, slot := 13, constantValue := 0 }]
  methods := #[k14m0, k14m1]
  instanceTypes := #[]
  staticTypes := #[(.object "java/io/InputStream"), (.object "java/io/PrintStream"), (.object "java/io/PrintStream"), (.object "java/io/InputStream"), .int, .int, .int, (.object "java/lang/SecurityManager"), (.object "java/lang/String"), (.object "java/io/Console"), (.object "java/io/PrintStream"), (.object "java/util/Properties"), (.object "java/lang/String"), (.object "java/lang/ModuleLayer")]
  resolved := Array.replicate 834 none
  statics := none }

/-- the primitive boolean -/
def k15 : Class := { plain "boolean" none with kind := .primitive 'Z', accessFlags := 0x411 }
/-- [Z -/
def k16 : Class := { plain "[Z" (some 0) with kind := .array 15 .boolean, interfaces := #[5, 6], accessFlags := 1041 }

/-- the primitive byte -/
def k17 : Class := { plain "byte" none with kind := .primitive 'B', accessFlags := 0x411 }
/-- [B -/
def k18 : Class := { plain "[B" (some 0) with kind := .array 17 .byte, interfaces := #[5, 6], accessFlags := 1041 }

/-- the primitive int -/
def k19 : Class := { plain "int" none with kind := .primitive 'I', accessFlags := 0x411 }
/-- [I -/
def k20 : Class := { plain "[I" (some 0) with kind := .array 19 .int, interfaces := #[5, 6], accessFlags := 1041 }

/-- the primitive long -/
def k21 : Class := { plain "long" none with kind := .primitive 'J', accessFlags := 0x411 }
/-- [J -/
def k22 : Class := { plain "[J" (some 0) with kind := .array 21 .long, interfaces := #[5, 6], accessFlags := 1041 }

def heap : Heap := #[]
def classes : Array Class := #[k0, k1, k2, k3, k4, k5, k6, k7, k8, k9, k10, k11, k12, k13, k14, k15, k16, k17, k18, k19, k20, k21, k22]
def interned : List (Array UInt16 × Addr) := []
def slotsUsed : Nat := 0
def theMethod : MethodId := ⟨1, 1⟩
def args0 : Array Value := #[.long 5, .long 5, .int 5, .int 5, .int 5]
def aboutOver (below : List Frame) : State where
  vm := { classes := classes, interned := interned.toArray }
  heap := heap
  slotsUsed := slotsUsed
  threads := #[{ frames := .invoking theMethod args0 :: below }]
def below0 : List Frame := [.native { method := ⟨0, 0⟩, args := #[] }]
def about1 : State := aboutOver below0
def p0 : Program := .bare "" "" ""
def e0 : Env := launch0.env 0 0 0
theorem w_frames : about1.frames = Frame.invoking theMethod args0 :: below0 := rfl
set_option maxRecDepth 65536 in
theorem w_args : argsFit about1.vm theMethod args0 = true := by decide +kernel
set_option maxRecDepth 65536 in
theorem w_heap : heapFits about1 = true := by decide +kernel
set_option maxRecDepth 65536 in
theorem w_runnable : about1.curStatus? = some .runnable := by decide +kernel
set_option maxRecDepth 65536 in
theorem w_alone : about1.alone = true := by decide +kernel
set_option maxRecDepth 65536 in
theorem w_named : about1.methodNamed? x = some theMethod := by decide +kernel
set_option maxRecDepth 65536 in
theorem w_hears : about1.hears theMethod below0 = true := by decide +kernel
set_option maxRecDepth 65536 in
theorem w_ripe : about1.ripe theMethod args0 below0 = true := by decide +kernel
theorem w_running : about1.status = .running := rfl
set_option maxRecDepth 65536 in
theorem w_room : about1.hasRoom e0.platform room_1 = true :=
  launch0.hasRoom_least _ room_1 (by decide +kernel) (by decide +kernel) (by decide +kernel) (by decide +kernel) (by decide +kernel) (by decide +kernel)
theorem allAtoms_all (ts : List Jvm.Cond) (a : Array Jvm.Value) (st : Jvm.State) : (allAtoms ts).before a st = ts.all (fun c => c.before a st) := by
  induction ts with
  | nil => rfl
  | cons c t ih =>
    show (Jvm.Cond.and c (allAtoms t)).before a st = _
    rw [Jvm.Cond.before_and, ih, List.all_cons]
def words1 : List Jvm.Cond := Jvm.Cond.code x code maxLocals ret :: tables_1
/-- a 'code' word, met by the world's own term for the bytes: nothing is compared byte by byte -/
theorem code_word {y : MethodName} {bytes : ByteArray} {mx : Nat} {rt : Option FieldType} {a : Array Value} {s : State} {m : MethodId} {meth : Method} {c : Code} (h1 : s.methodNamed? y = some m) (h2 : s.vm.method? m = some meth) (h3 : meth.code = some c) (h4 : c.code = bytes)
    (h5 : (c.maxLocals == mx && c.exceptionTable.isEmpty && decide (c.maxStack ≤ mostOperands) && decide (meth.sig.returnType = rt) && !meth.locks && decide (parseMethodDescriptor y.desc = some meth.sig)) = true) : (Jvm.Cond.code y bytes mx rt).before a s = true := by
  simp only [Bool.and_eq_true, beq_iff_eq, Bool.not_eq_true', decide_eq_true_eq] at h5
  obtain ⟨⟨⟨⟨⟨g1, g2⟩, g3⟩, g4⟩, g5⟩, g6⟩ := h5
  simp [Cond.before, Cond.holds, Cond.value, h1, h2, h3, h4, g1, g2, g3, g4, g5, g6]
def isCode : Jvm.Cond → Bool
  | .code _ _ _ _ => true
  | _ => false
theorem all_split {L : List Jvm.Cond} {P : Jvm.Cond → Bool} (h1 : L.all (fun c => isCode c || P c) = true) (h2 : ∀ c ∈ L.filter isCode, P c = true) : L.all P = true := by
  refine List.all_eq_true.mpr fun c hc => ?_
  have h := List.all_eq_true.mp h1 c hc
  rcases Bool.eq_false_or_eq_true (isCode c) with hi | hi
  · exact h2 c (List.mem_filter.mpr ⟨hc, hi⟩)
  · simpa [hi] using h
set_option maxRecDepth 65536 in
theorem w_c0 : (Jvm.Cond.code x code maxLocals ret).before args0 about1 = true := code_word (m := ⟨1, 1⟩) (meth := k1m1) (c := k1c1) (by decide +kernel) rfl rfl rfl (by decide +kernel)
set_option maxRecDepth 65536 in
theorem w_c1 : (Jvm.Cond.code ({ cls := "com/example/whittle/whittle/model/LookUpTable", name := "<init>", desc := "([J)V" } : Jvm.MethodName) prog_35_method_1_code (3 : Nat) (Option.none : Option Jvm.ClassFile.FieldType)).before args0 about1 = true := code_word (m := ⟨3, 0⟩) (meth := k3m0) (c := k3c0) (by decide +kernel) rfl rfl rfl (by decide +kernel)
set_option maxRecDepth 65536 in
theorem w_c2 : (Jvm.Cond.code ({ cls := "java/lang/Object", name := "<init>", desc := "()V" } : Jvm.MethodName) object_method_1_code (1 : Nat) (Option.none : Option Jvm.ClassFile.FieldType)).before args0 about1 = true := code_word (m := ⟨0, 0⟩) (meth := k0m0) (c := k0c0) (by decide +kernel) rfl rfl rfl (by decide +kernel)
set_option maxRecDepth 65536 in
theorem w_c3 : (Jvm.Cond.code ({ cls := "java/util/Arrays", name := "copyOf", desc := "([JI)[J" } : Jvm.MethodName) jdk_65_method_124_code (3 : Nat) (Option.some (Jvm.ClassFile.FieldType.array Jvm.ClassFile.FieldType.long))).before args0 about1 = true := code_word (m := ⟨4, 1⟩) (meth := k4m1) (c := k4c1) (by decide +kernel) rfl rfl rfl (by decide +kernel)
set_option maxRecDepth 65536 in
theorem w_c4 : (Jvm.Cond.code ({ cls := "java/lang/Long", name := "numberOfLeadingZeros", desc := "(J)I" } : Jvm.MethodName) jdk_35_method_48_code (3 : Nat) (Option.some Jvm.ClassFile.FieldType.int)).before args0 about1 = true := code_word (m := ⟨11, 0⟩) (meth := k11m0) (c := k11c0) (by decide +kernel) rfl rfl rfl (by decide +kernel)
set_option maxRecDepth 65536 in
theorem w_c5 : (Jvm.Cond.code ({ cls := "java/lang/Integer", name := "numberOfLeadingZeros", desc := "(I)I" } : Jvm.MethodName) jdk_33_method_47_code (2 : Nat) (Option.some Jvm.ClassFile.FieldType.int)).before args0 about1 = true := code_word (m := ⟨12, 0⟩) (meth := k12m0) (c := k12c0) (by decide +kernel) rfl rfl rfl (by decide +kernel)
set_option maxRecDepth 65536 in
theorem w_c6 : (Jvm.Cond.code ({ cls := "com/example/whittle/whittle/model/LookUpTable", name := "evaluate", desc := "([Z[I)Z" } : Jvm.MethodName) prog_35_method_3_code (6 : Nat) (Option.some Jvm.ClassFile.FieldType.boolean)).before args0 about1 = true := code_word (m := ⟨3, 1⟩) (meth := k3m1) (c := k3c1) (by decide +kernel) rfl rfl rfl (by decide +kernel)
set_option maxRecDepth 65536 in
theorem w_c7 : (Jvm.Cond.code ({ cls := "java/lang/Math", name := "min", desc := "(II)I" } : Jvm.MethodName) jdk_29_method_69_code (2 : Nat) (Option.some Jvm.ClassFile.FieldType.int)).before args0 about1 = true := code_word (m := ⟨13, 1⟩) (meth := k13m1) (c := k13c1) (by decide +kernel) rfl rfl rfl (by decide +kernel)
def codes1 : List Jvm.Cond := [Jvm.Cond.code x code maxLocals ret, Jvm.Cond.code ({ cls := "com/example/whittle/whittle/model/LookUpTable", name := "<init>", desc := "([J)V" } : Jvm.MethodName) prog_35_method_1_code (3 : Nat) (Option.none : Option Jvm.ClassFile.FieldType), Jvm.Cond.code ({ cls := "java/lang/Object", name := "<init>", desc := "()V" } : Jvm.MethodName) object_method_1_code (1 : Nat) (Option.none : Option Jvm.ClassFile.FieldType), Jvm.Cond.code ({ cls := "java/util/Arrays", name := "copyOf", desc := "([JI)[J" } : Jvm.MethodName) jdk_65_method_124_code (3 : Nat) (Option.some (Jvm.ClassFile.FieldType.array Jvm.ClassFile.FieldType.long)), Jvm.Cond.code ({ cls := "java/lang/Long", name := "numberOfLeadingZeros", desc := "(J)I" } : Jvm.MethodName) jdk_35_method_48_code (3 : Nat) (Option.some Jvm.ClassFile.FieldType.int), Jvm.Cond.code ({ cls := "java/lang/Integer", name := "numberOfLeadingZeros", desc := "(I)I" } : Jvm.MethodName) jdk_33_method_47_code (2 : Nat) (Option.some Jvm.ClassFile.FieldType.int), Jvm.Cond.code ({ cls := "com/example/whittle/whittle/model/LookUpTable", name := "evaluate", desc := "([Z[I)Z" } : Jvm.MethodName) prog_35_method_3_code (6 : Nat) (Option.some Jvm.ClassFile.FieldType.boolean), Jvm.Cond.code ({ cls := "java/lang/Math", name := "min", desc := "(II)I" } : Jvm.MethodName) jdk_29_method_69_code (2 : Nat) (Option.some Jvm.ClassFile.FieldType.int)]
set_option maxRecDepth 65536 in
theorem codes_eq : words1.filter isCode = codes1 := rfl
theorem w_codes : ∀ c ∈ words1.filter isCode, c.before args0 about1 = true := by
  rw [codes_eq]
  intro c hc
  simp only [codes1, List.mem_cons, List.not_mem_nil, or_false] at hc
  rcases hc with rfl | rfl | rfl | rfl | rfl | rfl | rfl | rfl
  · exact w_c0
  · exact w_c1
  · exact w_c2
  · exact w_c3
  · exact w_c4
  · exact w_c5
  · exact w_c6
  · exact w_c7
set_option maxRecDepth 65536 in
theorem w_t1 : (words1.take 24).all (fun c => isCode c || c.before args0 about1) = true := by decide +kernel
set_option maxRecDepth 65536 in
theorem w_t2 : ((words1.drop 24).take 24).all (fun c => isCode c || c.before args0 about1) = true := by decide +kernel
set_option maxRecDepth 65536 in
theorem w_t3 : ((words1.drop 24).drop 24).all (fun c => isCode c || c.before args0 about1) = true := by decide +kernel
theorem w_tables : (allAtoms (Jvm.Cond.code x code maxLocals ret :: tables_1)).before args0 about1 = true := by
  rw [allAtoms_all]
  show words1.all (fun c => c.before args0 about1) = true
  refine all_split ?_ w_codes
  rw [← List.take_append_drop 24 words1, List.all_append, w_t1, ← List.take_append_drop 24 (words1.drop 24), List.all_append, w_t2, w_t3]
  rfl
set_option maxRecDepth 65536 in
theorem w_case : (Jvm.Cond.and given_1 narrow_1).before args0 about1 = true := by decide +kernel
theorem w_applies : (headSpec (Jvm.Cond.code x code maxLocals ret :: tables_1) room_1).applies x e0.platform about1 = true :=
  (Spec.applies_iff w_frames).mpr ⟨w_running, w_runnable, w_alone, w_named, w_hears, w_ripe, w_room, w_tables⟩
theorem atStart : AtStart classFile x code maxLocals ret World_1 tables_1 room_1 Calls_1 rest_1 Pre_1 launch0 p0 e0 about1 theMethod args0 below0 :=
  ⟨lists_1, trivial, launch0.admits_env _ _ _, launch0.least_env, fairChoices_fair.cas, fairChoices_fair.clock, w_frames, w_args, w_heap, w_applies, trivial, trivial, w_case⟩
end start1
theorem witness_1 : WitnessClaimed_1 := ⟨start1.p0, start1.e0, start1.about1, start1.theMethod, start1.args0, start1.below0, start1.atStart⟩
end Jvm.Pilot.@@N@@
