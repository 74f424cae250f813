import JvmDerived
import JvmDerived.Pilot.@@N@@Statement
import JvmDerived.Pilot.@@N@@Code
set_option linter.unusedVariables false
set_option linter.unusedSimpArgs false
namespace Jvm.Pilot.@@N@@
open Jvm Jvm.ClassFile Sem Op Lib Jvm.Free Jvm.Stand Jvm.LawKit Jvm.RoadKit Bundle Jvm.Pilot.@@N@@.Jvm.D
/-- from S the run goes on below 'below', ends, and E holds of the end -/
def Go (tb : Tables) (e : Env) (below : List Frame) (E : State → Outcome → Prop) (S : State) : Prop := ∃ s₂ o, Steps tb e below S s₂ ∧ s₂.status = .running ∧ Ended s₂ below o ∧ E s₂ o
theorem Go.via {tb : Tables} {e : Env} {below : List Frame} {E : State → Outcome → Prop} {S S' : State} (k : ∀ t, Steps tb e below S' t → Steps tb e below S t) (h : Go tb e below E S') : Go tb e below E S := by
  obtain ⟨a, b, c, d⟩ := h; exact ⟨a, b, k _ c, d⟩
/-- a body's contract, short -/
abbrev MetP (l : Launch) (y : MethodName) (bytes : ByteArray) (maxL : Nat) (ret : Option FieldType) (ws : List Jvm.Cond) (rm : Room) (Z : State) (as' : Array Value) (h0 : Heap) (Q : Option Value → Heap → List Loc → Prop) : Prop :=
  MetFree l y (head1 (Jvm.Cond.code y bytes maxL ret :: ws) rm) (fun a U => a = as' ∧ Z.Warmed39 U.vm ∧ U.heap = h0) (fun _ _ _ _ _ => True) (fun _ U o U' => ∃ v L, o = .returned v ∧ Q v U'.heap L ∧ FrameEnd U o U' L rm.cells rm.slots)
/-- it returned r and wrote and made nothing -/
def Pure (r : Value) (h0 : Heap) (v : Option Value) (h : Heap) (L : List Loc) : Prop := v = some r ∧ L = [] ∧ h = h0
abbrev EndE (s : State) (rm : Room) (Q : Option Value → Heap → List Loc → Prop) : State → Outcome → Prop := fun s₂ o => ∃ v L, o = .returned v ∧ Q v s₂.heap L ∧ FrameEnd s o s₂ L rm.cells rm.slots
theorem met_go {l : Launch} {y : MethodName} {bytes : ByteArray} {maxL : Nat} {ret : Option FieldType} {ws : List Jvm.Cond} {rm : Room} {Z : State} {as' : Array Value} {h0 : Heap} {Q : Option Value → Heap → List Loc → Prop} (hpl : plainFor y = true)
    (body : ∀ (p : Program) (e : Env) (s : State) (m : MethodId) (below : List Frame) (meth : Method) (c : Code) (s₁ : State), p.tables.exec = Jvm.exec → c.code = bytes → c.maxLocals = maxL → s.vm.findClass y.cls = some m.cls → meth.name = y.name → meth.sig.returnType = ret → meth.locks = false → Z.Warmed39 s.vm → s₁.heap = h0 →
      Stand p l e rm s m as' below meth c s₁ [] 0 0 → Go p.tables e below (EndE s rm Q) (s₁.setTop (entryFrame m as' maxL))) : MetP l y bytes maxL ret ws rm Z as' h0 Q := by
  refine MetFree.of_bodySF hpl hisR ?_
  intro p e s m args below meth c s₁ Bd hml hP hK
  obtain ⟨rfl, hZ, hh⟩ := hP
  exact body p e s m below meth c s₁ Bd.exec Bd.bytes hml (findClass_of_methodNamed Bd.named) (name_of_methodNamed Bd.named Bd.method).1 Bd.returns Bd.notSynchronized hZ (by rw [← hh, Bd.state]; rfl) (Stand.of_body Bd)
abbrev EndW (s : State) (rm : Room) (Q : Option Value → Heap → List Loc → Prop) : State → Outcome → Prop := fun s₂ o => ∃ v L, o = .returned v ∧ Q v s₂.heap L ∧ ReturnedEndW s o s₂ L rm.cells rm.slots
theorem met_goW {l : Launch} {y : MethodName} {bytes : ByteArray} {maxL : Nat} {ret : Option FieldType} {ws : List Jvm.Cond} {rm : Room} {Z : State} {as' : Array Value} {h0 : Heap} {Q : Option Value → Heap → List Loc → Prop} (hpl : plainFor y = true)
    (body : ∀ (p : Program) (e : Env) (s : State) (m : MethodId) (below : List Frame) (meth : Method) (c : Code) (s₁ : State), p.tables.exec = Jvm.exec → c.code = bytes → c.maxLocals = maxL → s.vm.findClass y.cls = some m.cls → meth.name = y.name → meth.sig.returnType = ret → meth.locks = false → Z.Warmed39 s.vm → s₁.heap = h0 →
      Stand p l e rm s m as' below meth c s₁ [] 0 0 → Go p.tables e below (EndW s rm Q) (s₁.setTop (entryFrame m as' maxL))) : MetFree l y (head1 (Jvm.Cond.code y bytes maxL ret :: ws) rm) (fun a U => a = as' ∧ Z.Warmed39 U.vm ∧ U.heap = h0) (fun _ _ _ _ _ => True) (fun _ U o U' => ∃ v L, o = .returned v ∧ Q v U'.heap L ∧ ReturnedEndW U o U' L rm.cells rm.slots) := by
  refine MetFree.of_bodySF hpl hisR ?_
  intro p e s m args below meth c s₁ Bd hml hP hK
  obtain ⟨rfl, hZ, hh⟩ := hP
  exact body p e s m below meth c s₁ Bd.exec Bd.bytes hml (findClass_of_methodNamed Bd.named) (name_of_methodNamed Bd.named Bd.method).1 Bd.returns Bd.notSynchronized hZ (by rw [← hh, Bd.state]; rfl) (Stand.of_body Bd)
theorem met_goZ {l : Launch} {y : MethodName} {bytes : ByteArray} {maxL : Nat} {ret : Option FieldType} {ws : List Jvm.Cond} {rm : Room} {Z : State} {as' : Array Value} {Q : Option Value → Heap → List Loc → Prop} (hpl : plainFor y = true)
    (body : ∀ (p : Program) (e : Env) (s : State) (m : MethodId) (below : List Frame) (meth : Method) (c : Code) (s₁ : State), p.tables.exec = Jvm.exec → c.code = bytes → c.maxLocals = maxL → s.vm.findClass y.cls = some m.cls → meth.name = y.name → meth.sig.returnType = ret → meth.locks = false → s = Z → s₁.heap = Z.heap →
      Stand p l e rm s m as' below meth c s₁ [] 0 0 → Go p.tables e below (EndW s rm Q) (s₁.setTop (entryFrame m as' maxL))) : MetFree l y (head1 (Jvm.Cond.code y bytes maxL ret :: ws) rm) (fun a U => a = as' ∧ U = Z) (fun _ _ _ _ _ => True) (fun _ U o U' => ∃ v L, o = .returned v ∧ Q v U'.heap L ∧ ReturnedEndW U o U' L rm.cells rm.slots) := by
  refine MetFree.of_bodySF hpl hisR ?_
  intro p e s m args below meth c s₁ Bd hml hP hK
  obtain ⟨rfl, hZ⟩ := hP
  exact body p e s m below meth c s₁ Bd.exec Bd.bytes hml (findClass_of_methodNamed Bd.named) (name_of_methodNamed Bd.named Bd.method).1 Bd.returns Bd.notSynchronized hZ (by rw [← hZ, Bd.state]; rfl) (Stand.of_body Bd)
section OwnKit
variable {p : Program} {l : Launch} {e : Env} {R : Room} {s : State} {m : MethodId} {args : Array Value} {below : List Frame} {meth : Method} {c : Code} {T : State} {locs : List Loc} {cells slots : Nat} {E : State → Outcome → Prop} {Z : State} {a0 : Array Value} {h : Heap} {pc : Nat} {Ls Ls' : Array Slot} {st : List Value}
theorem o_iload (pc' : Nat) (X : Stand p l e R s m args below meth c T locs cells slots) (hx : p.tables.exec = Jvm.exec) (hpc : pc + 2 = pc') {k : Nat} {v : Int32} (hd : decode c.code pc = .ok (.iload k, 2)) (hl : Ls[k]? = some (.val (.int v))) (h : Go p.tables e below E (T.setTop (mkF m pc' Ls ((.int v) :: st)))) : Go p.tables e below E (T.setTop (mkF m pc Ls st)) := by
  subst hpc; exact Go.via (fun _ k => XS.iload X.here hx rfl hd hl k) h
theorem o_lload (pc' : Nat) (X : Stand p l e R s m args below meth c T locs cells slots) (hx : p.tables.exec = Jvm.exec) (hpc : pc + 2 = pc') {k : Nat} {v : Int64} (hd : decode c.code pc = .ok (.lload k, 2)) (hl : Ls[k]? = some (.val (.long v))) (h : Go p.tables e below E (T.setTop (mkF m pc' Ls ((.long v) :: st)))) : Go p.tables e below E (T.setTop (mkF m pc Ls st)) := by
  subst hpc; exact Go.via (fun _ k => XS.lload X.here hx rfl hd hl k) h
theorem o_iloadN (pc' : Nat) (X : Stand p l e R s m args below meth c T locs cells slots) (hx : p.tables.exec = Jvm.exec) (hpc : pc + 1 = pc') {k : Fin 4} {v : Int32} (hd : decode c.code pc = .ok (.iload_n k, 1)) (hl : Ls[k.val]? = some (.val (.int v))) (h : Go p.tables e below E (T.setTop (mkF m pc' Ls ((.int v) :: st)))) : Go p.tables e below E (T.setTop (mkF m pc Ls st)) := by
  subst hpc; exact Go.via (fun _ k => XS.iloadN X.here hx rfl hd hl k) h
theorem o_lloadN (pc' : Nat) (X : Stand p l e R s m args below meth c T locs cells slots) (hx : p.tables.exec = Jvm.exec) (hpc : pc + 1 = pc') {k : Fin 4} {v : Int64} (hd : decode c.code pc = .ok (.lload_n k, 1)) (hl : Ls[k.val]? = some (.val (.long v))) (h : Go p.tables e below E (T.setTop (mkF m pc' Ls ((.long v) :: st)))) : Go p.tables e below E (T.setTop (mkF m pc Ls st)) := by
  subst hpc; exact Go.via (fun _ k => XS.lloadN X.here hx rfl hd hl k) h
theorem o_aload (pc' : Nat) (X : Stand p l e R s m args below meth c T locs cells slots) (hx : p.tables.exec = Jvm.exec) (hpc : pc + 2 = pc') {k : Nat} {v : Value} (hd : decode c.code pc = .ok (.aload k, 2)) (hl : Ls[k]? = some (.val v)) (hv : v.isRef = true) (h : Go p.tables e below E (T.setTop (mkF m pc' Ls (v :: st)))) : Go p.tables e below E (T.setTop (mkF m pc Ls st)) := by
  subst hpc; exact Go.via (fun _ k => XS.aload X.here hx rfl hd hl hv k) h
theorem o_aloadN (pc' : Nat) (X : Stand p l e R s m args below meth c T locs cells slots) (hx : p.tables.exec = Jvm.exec) (hpc : pc + 1 = pc') {k : Fin 4} {v : Value} (hd : decode c.code pc = .ok (.aload_n k, 1)) (hl : Ls[k.val]? = some (.val v)) (hv : v.isRef = true) (h : Go p.tables e below E (T.setTop (mkF m pc' Ls (v :: st)))) : Go p.tables e below E (T.setTop (mkF m pc Ls st)) := by
  subst hpc; exact Go.via (fun _ k => XS.aloadN X.here hx rfl hd hl hv k) h
theorem o_istore (pc' : Nat) (X : Stand p l e R s m args below meth c T locs cells slots) (hx : p.tables.exec = Jvm.exec) (hpc : pc + 2 = pc') {k : Nat} {v : Int32} (hd : decode c.code pc = .ok (.istore k, 2)) (Ls' : Array Slot) (hl : storeLocals Ls k (.int v) = some Ls') (h : Go p.tables e below E (T.setTop (mkF m pc' Ls' st))) : Go p.tables e below E (T.setTop (mkF m pc Ls ((.int v) :: st))) := by
  subst hpc; exact Go.via (fun _ k => XS.istore X.here hx rfl hd rfl hl k) h
theorem o_lstore (pc' : Nat) (X : Stand p l e R s m args below meth c T locs cells slots) (hx : p.tables.exec = Jvm.exec) (hpc : pc + 2 = pc') {k : Nat} {v : Int64} (hd : decode c.code pc = .ok (.lstore k, 2)) (Ls' : Array Slot) (hl : storeLocals Ls k (.long v) = some Ls') (h : Go p.tables e below E (T.setTop (mkF m pc' Ls' st))) : Go p.tables e below E (T.setTop (mkF m pc Ls ((.long v) :: st))) := by
  subst hpc; exact Go.via (fun _ k => XS.lstore X.here hx rfl hd rfl hl k) h
theorem o_istoreN (pc' : Nat) (X : Stand p l e R s m args below meth c T locs cells slots) (hx : p.tables.exec = Jvm.exec) (hpc : pc + 1 = pc') {k : Fin 4} {v : Int32} (hd : decode c.code pc = .ok (.istore_n k, 1)) (Ls' : Array Slot) (hl : storeLocals Ls k.val (.int v) = some Ls') (h : Go p.tables e below E (T.setTop (mkF m pc' Ls' st))) : Go p.tables e below E (T.setTop (mkF m pc Ls ((.int v) :: st))) := by
  subst hpc; exact Go.via (fun _ k => XS.istoreN X.here hx rfl hd rfl hl k) h
theorem o_lstoreN (pc' : Nat) (X : Stand p l e R s m args below meth c T locs cells slots) (hx : p.tables.exec = Jvm.exec) (hpc : pc + 1 = pc') {k : Fin 4} {v : Int64} (hd : decode c.code pc = .ok (.lstore_n k, 1)) (Ls' : Array Slot) (hl : storeLocals Ls k.val (.long v) = some Ls') (h : Go p.tables e below E (T.setTop (mkF m pc' Ls' st))) : Go p.tables e below E (T.setTop (mkF m pc Ls ((.long v) :: st))) := by
  subst hpc; exact Go.via (fun _ k => XS.lstoreN X.here hx rfl hd rfl hl k) h
theorem o_astore (pc' : Nat) (X : Stand p l e R s m args below meth c T locs cells slots) (hx : p.tables.exec = Jvm.exec) (hpc : pc + 2 = pc') {k : Nat} {v : Value} (hd : decode c.code pc = .ok (.astore k, 2)) (hv : v.isRef = true) (Ls' : Array Slot) (hl : storeLocals Ls k v = some Ls') (h : Go p.tables e below E (T.setTop (mkF m pc' Ls' st))) : Go p.tables e below E (T.setTop (mkF m pc Ls (v :: st))) := by
  subst hpc; exact Go.via (fun _ k => XS.astore X.here hx rfl hd rfl hv hl k) h
theorem o_astoreN (pc' : Nat) (X : Stand p l e R s m args below meth c T locs cells slots) (hx : p.tables.exec = Jvm.exec) (hpc : pc + 1 = pc') {k : Fin 4} {v : Value} (hd : decode c.code pc = .ok (.astore_n k, 1)) (hv : v.isRef = true) (Ls' : Array Slot) (hl : storeLocals Ls k.val v = some Ls') (h : Go p.tables e below E (T.setTop (mkF m pc' Ls' st))) : Go p.tables e below E (T.setTop (mkF m pc Ls (v :: st))) := by
  subst hpc; exact Go.via (fun _ k => XS.astoreN X.here hx rfl hd rfl hv hl k) h
theorem o_iinc (pc' : Nat) (X : Stand p l e R s m args below meth c T locs cells slots) (hx : p.tables.exec = Jvm.exec) (hpc : pc + 3 = pc') {k : Nat} {cst : Int} {v : Int32} (hd : decode c.code pc = .ok (.iinc k cst, 3)) (w : Int32) (hw : Int32.ofInt cst = w) (hl : Ls[k]? = some (.val (.int v))) (Ls' : Array Slot) (hl' : storeLocals Ls k (.int (v + w)) = some Ls') (h : Go p.tables e below E (T.setTop (mkF m pc' Ls' st))) : Go p.tables e below E (T.setTop (mkF m pc Ls st)) := by
  subst hpc; exact Go.via (fun _ k => XS.iinc X.here hx rfl hd hl (by rw [hw]; exact hl') k) h
theorem o_iconst (pc' : Nat) (X : Stand p l e R s m args below meth c T locs cells slots) (hx : p.tables.exec = Jvm.exec) (hpc : pc + 1 = pc') {i : Int} (hd : decode c.code pc = .ok (.iconst i, 1)) (v : Int32) (hv : Int32.ofInt i = v) (h : Go p.tables e below E (T.setTop (mkF m pc' Ls (.int v :: st)))) : Go p.tables e below E (T.setTop (mkF m pc Ls st)) := by
  subst hpc; exact Go.via (fun _ k => XS.iconst X.here hx rfl hd (by rw [hv]; exact k)) h
theorem o_bipush (pc' : Nat) (X : Stand p l e R s m args below meth c T locs cells slots) (hx : p.tables.exec = Jvm.exec) (hpc : pc + 2 = pc') {i : Int} (hd : decode c.code pc = .ok (.bipush i, 2)) (v : Int32) (hv : (Int8.ofInt i).toInt32 = v) (h : Go p.tables e below E (T.setTop (mkF m pc' Ls (.int v :: st)))) : Go p.tables e below E (T.setTop (mkF m pc Ls st)) := by
  subst hpc; exact Go.via (fun _ k => XS.bipush X.here hx rfl hd (by rw [hv]; exact k)) h
theorem o_lconst (pc' : Nat) (X : Stand p l e R s m args below meth c T locs cells slots) (hx : p.tables.exec = Jvm.exec) (hpc : pc + 1 = pc') {i : Fin 2} (hd : decode c.code pc = .ok (.lconst i, 1)) (v : Int64) (hv : Int64.ofNat i = v) (h : Go p.tables e below E (T.setTop (mkF m pc' Ls (.long v :: st)))) : Go p.tables e below E (T.setTop (mkF m pc Ls st)) := by
  subst hpc; exact Go.via (fun _ k => XS.lconst X.here hx rfl hd (by rw [hv]; exact k)) h
theorem o_ldcInt (pc' : Nat) (X : Stand p l e R s m args below meth c T locs cells slots) (hx : p.tables.exec = Jvm.exec) (hpc : pc + 2 = pc') (hZ : Z.Warmed39 s.vm) {own : String} {index : Nat} (hown : s.vm.findClass own = some m.cls) {v : Int32} (w : (Jvm.Cond.constant own index v).before a0 Z = true) (hd : decode c.code pc = .ok (.ldc index, 2)) (h : Go p.tables e below E (T.setTop (mkF m pc' Ls (.int v :: st)))) : Go p.tables e below E (T.setTop (mkF m pc Ls st)) := by
  subst hpc; exact Go.via (fun _ k => X.ldcInt hx hown (mvT hZ w) (g := mkF m pc Ls st) rfl hd _ k) h
theorem o_ldc2Long (pc' : Nat) (X : Stand p l e R s m args below meth c T locs cells slots) (hx : p.tables.exec = Jvm.exec) (hpc : pc + 3 = pc') (hZ : Z.Warmed39 s.vm) {own : String} {index : Nat} (hown : s.vm.findClass own = some m.cls) {v : Int64} (w : (Jvm.Cond.constantLong own index v).before a0 Z = true) (hd : decode c.code pc = .ok (.ldc2_w index, 3)) (h : Go p.tables e below E (T.setTop (mkF m pc' Ls (.long v :: st)))) : Go p.tables e below E (T.setTop (mkF m pc Ls st)) := by
  subst hpc; exact Go.via (fun _ k => X.ldc2Long hx hown (mvT hZ w) (g := mkF m pc Ls st) rfl hd _ k) h
theorem o_iadd (pc' : Nat) (X : Stand p l e R s m args below meth c T locs cells slots) (hx : p.tables.exec = Jvm.exec) (hpc : pc + 1 = pc') {x : Int32} {y : Int32} (hd : decode c.code pc = .ok (.iadd, 1)) (h : Go p.tables e below E (T.setTop (mkF m pc' Ls (.int (x + y) :: st)))) : Go p.tables e below E (T.setTop (mkF m pc Ls (.int y :: .int x :: st))) := by
  subst hpc; exact Go.via (fun _ k => XS.iadd X.here hx rfl hd rfl k) h
theorem o_isub (pc' : Nat) (X : Stand p l e R s m args below meth c T locs cells slots) (hx : p.tables.exec = Jvm.exec) (hpc : pc + 1 = pc') {x : Int32} {y : Int32} (hd : decode c.code pc = .ok (.isub, 1)) (h : Go p.tables e below E (T.setTop (mkF m pc' Ls (.int (x - y) :: st)))) : Go p.tables e below E (T.setTop (mkF m pc Ls (.int y :: .int x :: st))) := by
  subst hpc; exact Go.via (fun _ k => XS.isub X.here hx rfl hd rfl k) h
theorem o_iand (pc' : Nat) (X : Stand p l e R s m args below meth c T locs cells slots) (hx : p.tables.exec = Jvm.exec) (hpc : pc + 1 = pc') {x : Int32} {y : Int32} (hd : decode c.code pc = .ok (.iand, 1)) (h : Go p.tables e below E (T.setTop (mkF m pc' Ls (.int (x &&& y) :: st)))) : Go p.tables e below E (T.setTop (mkF m pc Ls (.int y :: .int x :: st))) := by
  subst hpc; exact Go.via (fun _ k => XS.iand X.here hx rfl hd rfl k) h
theorem o_iushr (pc' : Nat) (X : Stand p l e R s m args below meth c T locs cells slots) (hx : p.tables.exec = Jvm.exec) (hpc : pc + 1 = pc') {x : Int32} {y : Int32} (hd : decode c.code pc = .ok (.iushr, 1)) (h : Go p.tables e below E (T.setTop (mkF m pc' Ls (.int ((x.toUInt32 >>> (y &&& 31).toUInt32).toInt32) :: st)))) : Go p.tables e below E (T.setTop (mkF m pc Ls (.int y :: .int x :: st))) := by
  subst hpc; exact Go.via (fun _ k => XS.iushr X.here hx rfl hd rfl k) h
theorem o_ladd (pc' : Nat) (X : Stand p l e R s m args below meth c T locs cells slots) (hx : p.tables.exec = Jvm.exec) (hpc : pc + 1 = pc') {x : Int64} {y : Int64} (hd : decode c.code pc = .ok (.ladd, 1)) (h : Go p.tables e below E (T.setTop (mkF m pc' Ls (.long (x + y) :: st)))) : Go p.tables e below E (T.setTop (mkF m pc Ls (.long y :: .long x :: st))) := by
  subst hpc; exact Go.via (fun _ k => XS.ladd X.here hx rfl hd rfl k) h
theorem o_lsub (pc' : Nat) (X : Stand p l e R s m args below meth c T locs cells slots) (hx : p.tables.exec = Jvm.exec) (hpc : pc + 1 = pc') {x : Int64} {y : Int64} (hd : decode c.code pc = .ok (.lsub, 1)) (h : Go p.tables e below E (T.setTop (mkF m pc' Ls (.long (x - y) :: st)))) : Go p.tables e below E (T.setTop (mkF m pc Ls (.long y :: .long x :: st))) := by
  subst hpc; exact Go.via (fun _ k => XS.lsub X.here hx rfl hd rfl k) h
theorem o_lmul (pc' : Nat) (X : Stand p l e R s m args below meth c T locs cells slots) (hx : p.tables.exec = Jvm.exec) (hpc : pc + 1 = pc') {x : Int64} {y : Int64} (hd : decode c.code pc = .ok (.lmul, 1)) (h : Go p.tables e below E (T.setTop (mkF m pc' Ls (.long (x * y) :: st)))) : Go p.tables e below E (T.setTop (mkF m pc Ls (.long y :: .long x :: st))) := by
  subst hpc; exact Go.via (fun _ k => XS.lmul X.here hx rfl hd rfl k) h
theorem o_land (pc' : Nat) (X : Stand p l e R s m args below meth c T locs cells slots) (hx : p.tables.exec = Jvm.exec) (hpc : pc + 1 = pc') {x : Int64} {y : Int64} (hd : decode c.code pc = .ok (.land, 1)) (h : Go p.tables e below E (T.setTop (mkF m pc' Ls (.long (x &&& y) :: st)))) : Go p.tables e below E (T.setTop (mkF m pc Ls (.long y :: .long x :: st))) := by
  subst hpc; exact Go.via (fun _ k => XS.land X.here hx rfl hd rfl k) h
theorem o_lushr (pc' : Nat) (X : Stand p l e R s m args below meth c T locs cells slots) (hx : p.tables.exec = Jvm.exec) (hpc : pc + 1 = pc') {x : Int64} {y : Int32} (hd : decode c.code pc = .ok (.lushr, 1)) (h : Go p.tables e below E (T.setTop (mkF m pc' Ls (.long ((x.toUInt64 >>> (y &&& 0x3f).toInt64.toUInt64).toInt64) :: st)))) : Go p.tables e below E (T.setTop (mkF m pc Ls (.int y :: .long x :: st))) := by
  subst hpc; exact Go.via (fun _ k => XS.lushr X.here hx rfl hd rfl k) h
theorem o_irem (pc' : Nat) (X : Stand p l e R s m args below meth c T locs cells slots) (hx : p.tables.exec = Jvm.exec) (hpc : pc + 1 = pc') {x y : Int32} (hd : decode c.code pc = .ok (.irem, 1)) (hy : y ≠ 0) (h : Go p.tables e below E (T.setTop (mkF m pc' Ls (.int (x % y) :: st)))) : Go p.tables e below E (T.setTop (mkF m pc Ls (.int y :: .int x :: st))) := by
  subst hpc; exact Go.via (fun _ k => iremM (g := mkF m pc Ls (.int y :: .int x :: st)) X hx rfl hd rfl hy k) h
theorem o_ldiv (pc' : Nat) (X : Stand p l e R s m args below meth c T locs cells slots) (hx : p.tables.exec = Jvm.exec) (hpc : pc + 1 = pc') {x y : Int64} (hd : decode c.code pc = .ok (.ldiv, 1)) (hy : y ≠ 0) (h : Go p.tables e below E (T.setTop (mkF m pc' Ls (.long (x / y) :: st)))) : Go p.tables e below E (T.setTop (mkF m pc Ls (.long y :: .long x :: st))) := by
  subst hpc; exact Go.via (fun _ k => XS.ldiv X.here hx rfl hd rfl hy k) h
theorem o_i2l (pc' : Nat) (X : Stand p l e R s m args below meth c T locs cells slots) (hx : p.tables.exec = Jvm.exec) (hpc : pc + 1 = pc') {x : Int32} (hd : decode c.code pc = .ok (.i2l, 1)) (h : Go p.tables e below E (T.setTop (mkF m pc' Ls (.long (x.toInt64) :: st)))) : Go p.tables e below E (T.setTop (mkF m pc Ls (.int x :: st))) := by
  subst hpc; exact Go.via (fun _ k => XS.i2l X.here hx rfl hd rfl k) h
theorem o_l2i (pc' : Nat) (X : Stand p l e R s m args below meth c T locs cells slots) (hx : p.tables.exec = Jvm.exec) (hpc : pc + 1 = pc') {x : Int64} (hd : decode c.code pc = .ok (.l2i, 1)) (h : Go p.tables e below E (T.setTop (mkF m pc' Ls (.int (x.toInt32) :: st)))) : Go p.tables e below E (T.setTop (mkF m pc Ls (.long x :: st))) := by
  subst hpc; exact Go.via (fun _ k => XS.l2i X.here hx rfl hd rfl k) h
theorem o_i2c (pc' : Nat) (X : Stand p l e R s m args below meth c T locs cells slots) (hx : p.tables.exec = Jvm.exec) (hpc : pc + 1 = pc') {x : Int32} (hd : decode c.code pc = .ok (.i2c, 1)) (h : Go p.tables e below E (T.setTop (mkF m pc' Ls (.int (x.toUInt32.toUInt16.toUInt32.toInt32) :: st)))) : Go p.tables e below E (T.setTop (mkF m pc Ls (.int x :: st))) := by
  subst hpc; exact Go.via (fun _ k => XS.i2c X.here hx rfl hd rfl k) h
theorem o_lcmp (pc' : Nat) (X : Stand p l e R s m args below meth c T locs cells slots) (hx : p.tables.exec = Jvm.exec) (hpc : pc + 1 = pc') {x y : Int64} (hd : decode c.code pc = .ok (.lcmp, 1)) (h : Go p.tables e below E (T.setTop (mkF m pc' Ls (.int (lcmpW x y) :: st)))) : Go p.tables e below E (T.setTop (mkF m pc Ls (.long y :: .long x :: st))) := by
  subst hpc; exact Go.via (fun _ k => XS.lcmp X.here hx rfl hd rfl k) h
theorem o_dup (pc' : Nat) (X : Stand p l e R s m args below meth c T locs cells slots) (hx : p.tables.exec = Jvm.exec) (hpc : pc + 1 = pc') {v : Value} (hd : decode c.code pc = .ok (.dup, 1)) (hv : v.category = 1) (h : Go p.tables e below E (T.setTop (mkF m pc' Ls (v :: v :: st)))) : Go p.tables e below E (T.setTop (mkF m pc Ls (v :: st))) := by
  subst hpc; exact Go.via (fun _ k => XS.dup X.here hx rfl hd rfl hv k) h
theorem o_goto (pc' : Nat) (X : Stand p l e R s m args below meth c T locs cells slots) (hx : p.tables.exec = Jvm.exec) {o : Int} (hd : decode c.code pc = .ok (.goto o, 3)) (ho : 0 ≤ (pc : Int) + o) (hp : ((pc : Int) + o).toNat = pc') (h : Go p.tables e below E (T.setTop (mkF m pc' Ls st))) : Go p.tables e below E (T.setTop (mkF m pc Ls st)) := by
  exact Go.via (fun _ k => XS.goto X.here hx rfl (pc0 := pc) (pc' := pc') rfl hd ho hp k) h
theorem o_ifYes (pc' : Nat) (X : Stand p l e R s m args below meth c T locs cells slots) (hx : p.tables.exec = Jvm.exec) {cd : ClassFile.Cond} {x : Int32} {o : Int} (hd : decode c.code pc = .ok (.ifCond cd o, 3)) (hc : if_icmp.holds cd x 0 = true) (ho : 0 ≤ (pc : Int) + o) (hp : ((pc : Int) + o).toNat = pc') (h : Go p.tables e below E (T.setTop (mkF m pc' Ls st))) : Go p.tables e below E (T.setTop (mkF m pc Ls (.int x :: st))) := by
  exact Go.via (fun _ k => XS.ifYes X.here hx rfl (pc0 := pc) (pc' := pc') rfl hd rfl ((if0 _ _).trans hc) ho hp k) h
theorem o_ifNo (pc' : Nat) (X : Stand p l e R s m args below meth c T locs cells slots) (hx : p.tables.exec = Jvm.exec) (hpc : pc + 3 = pc') {cd : ClassFile.Cond} {x : Int32} {o : Int} (hd : decode c.code pc = .ok (.ifCond cd o, 3)) (hc : if_icmp.holds cd x 0 = false) (h : Go p.tables e below E (T.setTop (mkF m pc' Ls st))) : Go p.tables e below E (T.setTop (mkF m pc Ls (.int x :: st))) := by
  subst hpc; exact Go.via (fun _ k => XS.ifNo X.here hx rfl hd rfl ((if0 _ _).trans hc) k) h
theorem o_icmpYes (pc' : Nat) (X : Stand p l e R s m args below meth c T locs cells slots) (hx : p.tables.exec = Jvm.exec) {cd : ClassFile.Cond} {x y : Int32} {o : Int} (hd : decode c.code pc = .ok (.if_icmp cd o, 3)) (hc : if_icmp.holds cd x y = true) (ho : 0 ≤ (pc : Int) + o) (hp : ((pc : Int) + o).toNat = pc') (h : Go p.tables e below E (T.setTop (mkF m pc' Ls st))) : Go p.tables e below E (T.setTop (mkF m pc Ls (.int y :: .int x :: st))) := by
  exact Go.via (fun _ k => XS.icmpYes X.here hx rfl (pc0 := pc) (pc' := pc') rfl hd rfl hc ho hp k) h
theorem o_icmpNo (pc' : Nat) (X : Stand p l e R s m args below meth c T locs cells slots) (hx : p.tables.exec = Jvm.exec) (hpc : pc + 3 = pc') {cd : ClassFile.Cond} {x y : Int32} {o : Int} (hd : decode c.code pc = .ok (.if_icmp cd o, 3)) (hc : if_icmp.holds cd x y = false) (h : Go p.tables e below E (T.setTop (mkF m pc' Ls st))) : Go p.tables e below E (T.setTop (mkF m pc Ls (.int y :: .int x :: st))) := by
  subst hpc; exact Go.via (fun _ k => XS.icmpNo X.here hx rfl hd rfl hc k) h
theorem o_out (X : Stand p l e R s m args below meth c T locs cells slots) (hx : p.tables.exec = Jvm.exec) {rm : Room} {Q : Option Value → Heap → List Loc → Prop} {v : Option Value} (hv : meth.sig.returnType = none → v = none) (hlk : meth.locks = false) {g : JFrame}
    (hst : ∀ fs, (∀ (f : JFrame) (acts : List Action), f.method = m → f.locked = none → f.entered = [] → (doReturn e (T.setTop f) acts v).1 = T.setFrames fs) → Steps p.tables e below (T.setTop g) (T.setFrames fs)) (hq : Q v T.heap locs) (hk : cells ≤ rm.cells) (hn : slots ≤ rm.slots) : Go p.tables e below (EndE s rm Q) (T.setTop g) := by
  obtain ⟨fs, hr, hrun, hended, hW, hsame⟩ := X.leave (v := v) hv hlk
  exact ⟨_, _, hst fs hr, hrun, hended, _, _, rfl, hq, ⟨_, rfl⟩, hW, hsame.mono hk hn⟩
theorem own_retI (X : Stand p l e R s m args below meth c T locs cells slots) (hx : p.tables.exec = Jvm.exec) {z : Int32} (hret : meth.sig.returnType = some .int) (hd : decode c.code pc = .ok (.ireturn, 1)) {fs : List Frame}
    (hl : ∀ (f : JFrame) (acts : List Action), f.method = m → f.locked = none → f.entered = [] → (doReturn e (T.setTop f) acts (some (.int z))).1 = T.setFrames fs) : Steps p.tables e below (T.setTop (mkF m pc Ls (.int z :: st))) (T.setFrames fs) :=
  retOut X hx hret rfl (Or.inl ⟨rfl, Or.inl rfl, z, rfl⟩) hd hl
theorem o_retI (X : Stand p l e R s m args below meth c T locs cells slots) (hx : p.tables.exec = Jvm.exec) {z : Int32} {rm : Room} {Q : Option Value → Heap → List Loc → Prop} (hret : meth.sig.returnType = some .int) (hlk : meth.locks = false) (hd : decode c.code pc = .ok (.ireturn, 1)) (hk : cells ≤ rm.cells) (hn : slots ≤ rm.slots) (hq : Q (some (.int z)) T.heap locs) : Go p.tables e below (EndE s rm Q) (T.setTop (mkF m pc Ls (.int z :: st))) :=
  o_out X hx (fun q => by rw [hret] at q; cases q) hlk (fun fs hr => own_retI X hx hret hd hr) hq hk hn
theorem o_retJ (X : Stand p l e R s m args below meth c T locs cells slots) (hx : p.tables.exec = Jvm.exec) {z : Int64} {rm : Room} {Q : Option Value → Heap → List Loc → Prop} (hret : meth.sig.returnType = some .long) (hlk : meth.locks = false) (hd : decode c.code pc = .ok (.lreturn, 1)) (hk : cells ≤ rm.cells) (hn : slots ≤ rm.slots) (hq : Q (some (.long z)) T.heap locs) : Go p.tables e below (EndE s rm Q) (T.setTop (mkF m pc Ls (.long z :: st))) :=
  o_out X hx (fun q => by rw [hret] at q; cases q) hlk (fun fs hr => retOut X hx hret rfl (Or.inr (Or.inl ⟨rfl, rfl, z, rfl⟩)) hd hr) hq hk hn
theorem o_retN (X : Stand p l e R s m args below meth c T locs cells slots) (hx : p.tables.exec = Jvm.exec) {z : Int32} (t : FieldType) (ht : t = .boolean ∨ t = .byte ∨ t = .char ∨ t = .short) {rm : Room} {Q : Option Value → Heap → List Loc → Prop} (hret : meth.sig.returnType = some t) (hlk : meth.locks = false) (hd : decode c.code pc = .ok (.ireturn, 1)) (hk : cells ≤ rm.cells) (hn : slots ≤ rm.slots) (hq : Q (some (.int (nar t z))) T.heap locs) : Go p.tables e below (EndE s rm Q) (T.setTop (mkF m pc Ls (.int z :: st))) :=
  o_out X hx (fun q => by rw [hret] at q; cases q) hlk (fun fs hr => retN X hx hret ht hd hr) hq hk hn
theorem o_callS (pc' : Nat) (X : Stand p l e R s m args below meth c T locs cells slots) (hx : p.tables.exec = Jvm.exec) (hpc : pc + 3 = pc') (hZ : Z.Warmed39 s.vm) {own : String} {index : Nat} {y : MethodName} {bytes : ByteArray} {maxL : Nat} {ret : Option FieldType} {rm : Room} {as' : Array Value} {Q : Option Value → Heap → List Loc → Prop} (hown : s.vm.findClass own = some m.cls) (w1 : (Jvm.Cond.methodLink own index y).before a0 Z = true) (w2 : (Jvm.Cond.static y).before a0 Z = true) (w3 : (Jvm.Cond.initialized y.cls).before a0 Z = true) (w4 : (Jvm.Cond.code y bytes maxL ret).before a0 Z = true) (hy : y.cls ≠ "java/lang/invoke/MethodHandle" ∧ y.cls ≠ "java/lang/invoke/VarHandle") (eT : T.heap = h)
    (hM : MetP l y bytes maxL ret [] rm Z as' h Q) {ps : List FieldType} {r : Option FieldType} (hdsc : parseMethodDescriptor y.desc = some ⟨ps, r⟩) (argsL rest : List Value) (hlen : argsL.length = ps.length) (has : argsL.toArray = as') (hsize : Ls.size = c.maxLocals) (hst : st = argsL.reverse ++ rest) (hd : decode c.code pc = .ok (.invokestatic index, 3)) (W : Nat) (hW : (rest.map fun v => v.category).sum ≤ W) (hf : rm.frames + 1 ≤ R.frames) (hlo : W + (maxL + 11) + rm.locals ≤ R.locals) (hc : cells + rm.cells ≤ R.cells) (hsl : slots + rm.slots ≤ R.slots)
    (k : ∀ (v : Option Value) (T' : State) (L : List Loc), Stand p l e R s m args below meth c T' (locs ++ L) (cells + rm.cells) (slots + rm.slots) → Q v T'.heap L → Go p.tables e below E (T'.setTop (mkF m pc' Ls (v.toList ++ rest)))) : Go p.tables e below E (T.setTop (mkF m pc Ls st)) := by
  subst hpc
  obtain ⟨v, _, ⟨T', L', c', s'⟩, -, X', ⟨L, hQ, h1, h2, h3⟩, st'⟩ := Jvm.LawKit.callS X hx (y := y) hown (mvT hZ w1) (mvT hZ w2) (mvT hZ w3) (mvT hZ w4) hy (backOf (W := W) hM hZ w4 w3 hf hlo) (g := mkF m pc Ls st) rfl hsize (argsL := argsL) (rest := rest) (lenOf hdsc hlen) hst (by show 2 * 0 + _ ≤ _; rw [Nat.mul_zero, Nat.zero_add]; exact hW) hd (fun _ _ => ⟨has, eT, hc, hsl⟩)
  dsimp only [Pt.U, Pt.locs, Pt.cells, Pt.slots] at X' h1 h2 h3 st' hQ
  subst h1 h2 h3
  exact Go.via st' (k v T' L X' hQ)
theorem o_callP (pc' : Nat) (X : Stand p l e R s m args below meth c T locs cells slots) (hx : p.tables.exec = Jvm.exec) (hpc : pc + 3 = pc') (hZ : Z.Warmed39 s.vm) {own : String} {index : Nat} {y : MethodName} {bytes : ByteArray} {maxL : Nat} {ret : Option FieldType} {rm : Room} {as' : Array Value} {rv : Value} (hown : s.vm.findClass own = some m.cls) (w1 : (Jvm.Cond.methodLink own index y).before a0 Z = true) (w2 : (Jvm.Cond.static y).before a0 Z = true) (w3 : (Jvm.Cond.initialized y.cls).before a0 Z = true) (w4 : (Jvm.Cond.code y bytes maxL ret).before a0 Z = true) (hy : y.cls ≠ "java/lang/invoke/MethodHandle" ∧ y.cls ≠ "java/lang/invoke/VarHandle") (eT : T.heap = h)
    (hM : MetP l y bytes maxL ret [] rm Z as' h (Pure rv h)) {ps : List FieldType} {r : Option FieldType} (hdsc : parseMethodDescriptor y.desc = some ⟨ps, r⟩) (argsL rest : List Value) (hlen : argsL.length = ps.length) (has : argsL.toArray = as') (hsize : Ls.size = c.maxLocals) (hst : st = argsL.reverse ++ rest) (hd : decode c.code pc = .ok (.invokestatic index, 3)) (W : Nat) (hW : (rest.map fun v => v.category).sum ≤ W) (hf : rm.frames + 1 ≤ R.frames) (hlo : W + (maxL + 11) + rm.locals ≤ R.locals) (hc : cells + rm.cells ≤ R.cells) (hsl : slots + rm.slots ≤ R.slots) (hc0 : rm.cells = 0) (hs0 : rm.slots = 0)
    (k : ∀ (T' : State), Stand p l e R s m args below meth c T' locs cells slots → T'.heap = h → Go p.tables e below E (T'.setTop (mkF m pc' Ls (rv :: rest)))) : Go p.tables e below E (T.setTop (mkF m pc Ls st)) := by
  refine o_callS pc' X hx hpc hZ hown w1 w2 w3 w4 hy eT hM hdsc argsL rest hlen has hsize hst hd W hW hf hlo hc hsl ?_
  intro v T' L X' hQ
  obtain ⟨rfl, rfl, e'⟩ := hQ
  rw [hc0, hs0, List.append_nil] at X'
  exact k T' X' e' 
theorem o_newarr (pc' : Nat) (X : Stand p l e R s m args below meth c T locs cells slots) (hx : p.tables.exec = Jvm.exec) (hpc : pc + 2 = pc') (hZ : Z.Warmed39 s.vm) (aty : ArrayType) (ty : FieldType) (hty : newarray.typeOf aty = ty) (w : (Jvm.Cond.arrayClass ty).before a0 Z = true) (eT : T.heap = h) {n : Int32} (hd : decode c.code pc = .ok (.newarray aty, 2)) (hn : ¬ n < 0) (cap : Nat) (hcap : n.toNatClampNeg ≤ cap) (hb : cap * 8 ≤ 536870912) (hc : cells + 1 ≤ R.cells) (hl : slots + cap ≤ R.slots)
    (k : ∀ (T' : State) (h' : Heap) (a : Addr) (cA : ClassId), a = h.size → Stand p l e R s m args below meth c T' locs (cells + 1) (slots + cap) → T'.heap = h' → Ext h h' → Arv Z h' a cA ty n [] (defaultValue ty) → Go p.tables e below E (T'.setTop (mkF m pc' Ls (.ref a :: st)))) : Go p.tables e below E (T.setTop (mkF m pc Ls (.int n :: st))) := by
  subst hpc; subst hty
  obtain ⟨T', h', cA, X', e', E', A', st'⟩ := newP X hx hZ w eT (g := mkF m pc Ls (.int n :: st)) rfl hd rfl hn hcap hb hc hl
  exact Go.via st' (k T' h' h.size cA rfl X' e' E' (Arv.new A' hn))
theorem o_laload (pc' : Nat) (X : Stand p l e R s m args below meth c T locs cells slots) (hx : p.tables.exec = Jvm.exec) (hpc : pc + 1 = pc') (hZ : Z.Warmed39 s.vm) (eT : T.heap = h) {a : Addr} {ka : ClassId} {n j : Int32} {vs : List Value} {dv : Value} (F : Arv Z h a ka .long n vs dv) (hj : ¬ j < 0 ∧ j < n) (v : Value) (hv : vs.getD j.toNatClampNeg dv = v) (hd : decode c.code pc = .ok (.laload, 1)) (k : Go p.tables e below E (T.setTop (mkF m pc' Ls (v :: st)))) : Go p.tables e below E (T.setTop (mkF m pc Ls (.int j :: .ref a :: st))) := by
  subst hpc
  obtain ⟨cl, A, -, S, M, H, -⟩ := F
  have hin := inb_of S hj
  exact Go.via (fun _ q => X.laload hx (j := j) (v := v) (by rw [eT]; exact A.1) (State.isArrayOf_alike hZ.alike A.2.1) A.2.2 hin (H.at hin hv) (g := mkF m pc Ls (.int j :: .ref a :: st)) rfl rfl hd _ q) k
theorem o_caload (pc' : Nat) (X : Stand p l e R s m args below meth c T locs cells slots) (hx : p.tables.exec = Jvm.exec) (hpc : pc + 1 = pc') (hZ : Z.Warmed39 s.vm) (eT : T.heap = h) {a : Addr} {ka : ClassId} {n j : Int32} {vs : List Value} {dv : Value} (F : Arv Z h a ka .char n vs dv) (hj : ¬ j < 0 ∧ j < n) (v : Value) (hv : vs.getD j.toNatClampNeg dv = v) (hd : decode c.code pc = .ok (.caload, 1)) (k : Go p.tables e below E (T.setTop (mkF m pc' Ls (v :: st)))) : Go p.tables e below E (T.setTop (mkF m pc Ls (.int j :: .ref a :: st))) := by
  subst hpc
  obtain ⟨cl, A, -, S, M, H, -⟩ := F
  have hin := inb_of S hj
  exact Go.via (fun _ q => X.caload hx (j := j) (v := v) (by rw [eT]; exact A.1) (State.isArrayOf_alike hZ.alike A.2.1) A.2.2 hin (H.at hin hv) (g := mkF m pc Ls (.int j :: .ref a :: st)) rfl rfl hd _ q) k
theorem o_lastore (pc' : Nat) (X : Stand p l e R s m args below meth c T locs cells slots) (hx : p.tables.exec = Jvm.exec) (hpc : pc + 1 = pc') (hZ : Z.Warmed39 s.vm) (eT : T.heap = h) {a : Addr} {ka : ClassId} {n j : Int32} {x : Int64} {vs : List Value} {dv : Value} (F : Arv Z h a ka .long n vs dv) (hj : ¬ j < 0 ∧ j < n) (i : Nat) (hi : j.toNatClampNeg = i) (hlt : i < vs.length) (vs' : List Value) (hvs : vs.set i (.long x) = vs') {n0 : Nat} (N : Fr n0 locs) (ga : n0 ≤ a) (hd : decode c.code pc = .ok (.lastore, 1))
    (k : ∀ (T' : State) (h' : Heap) (L' : List Loc), Stand p l e R s m args below meth c T' L' cells slots → Fr n0 L' → T'.heap = h' → Wr h h' a j.toNatClampNeg (.long x) → Arv Z h' a ka .long n vs' dv → Go p.tables e below E (T'.setTop (mkF m pc' Ls st))) : Go p.tables e below E (T.setTop (mkF m pc Ls (.long x :: .int j :: .ref a :: st))) := by
  subst hpc; subst hvs
  obtain ⟨cl, A, q1, S, M, H, G⟩ := F
  have hin := inb_of S hj
  obtain ⟨T', h', X', e', W', st'⟩ := stJ X hx hZ eT A hin (g := mkF m pc Ls (.long x :: .int j :: .ref a :: st)) rfl rfl hd
  exact Go.via st' (k T' h' _ X' (Fr.snoc X' N ga) e' W' (Arv.set A q1 S M H G (rfl) W' i hi hlt))
theorem o_castore (pc' : Nat) (X : Stand p l e R s m args below meth c T locs cells slots) (hx : p.tables.exec = Jvm.exec) (hpc : pc + 1 = pc') (hZ : Z.Warmed39 s.vm) (eT : T.heap = h) {a : Addr} {ka : ClassId} {n j : Int32} {x : Int32} {vs : List Value} {dv : Value} (F : Arv Z h a ka .char n vs dv) (hj : ¬ j < 0 ∧ j < n) (i : Nat) (hi : j.toNatClampNeg = i) (hlt : i < vs.length) (vs' : List Value) (hvs : vs.set i (.int (nar .char x)) = vs') {n0 : Nat} (N : Fr n0 locs) (ga : n0 ≤ a) (hd : decode c.code pc = .ok (.castore, 1))
    (k : ∀ (T' : State) (h' : Heap) (L' : List Loc), Stand p l e R s m args below meth c T' L' cells slots → Fr n0 L' → T'.heap = h' → Wr h h' a j.toNatClampNeg (.int (nar .char x)) → Arv Z h' a ka .char n vs' dv → Go p.tables e below E (T'.setTop (mkF m pc' Ls st))) : Go p.tables e below E (T.setTop (mkF m pc Ls (.int x :: .int j :: .ref a :: st))) := by
  subst hpc; subst hvs
  obtain ⟨cl, A, q1, S, M, H, G⟩ := F
  have hin := inb_of S hj
  obtain ⟨T', h', X', e', W', st'⟩ := stC X hx hZ eT A hin (g := mkF m pc Ls (.int x :: .int j :: .ref a :: st)) rfl rfl hd
  exact Go.via st' (k T' h' _ X' (Fr.snoc X' N ga) e' W' (Arv.set A q1 S M H G (fits_nar_char x) W' i hi hlt))
theorem own_getI (xs : List Int32) (i : Nat) : (xs.map Value.int).getD i (.int 0) = .int (xs.getD i 0) := by
  simp only [List.getD_eq_getElem?_getD, List.getElem?_map]; cases xs[i]? <;> rfl
theorem o_caloadX (pc' : Nat) (X : Stand p l e R s m args below meth c T locs cells slots) (hx : p.tables.exec = Jvm.exec) (hpc : pc + 1 = pc') (hZ : Z.Warmed39 s.vm) (eT : T.heap = h) {a : Addr} {ka : ClassId} {n j : Int32} {xs : List Int32} (F : Arv Z h a ka .char n (xs.map Value.int) (.int 0)) (hj : ¬ j < 0 ∧ j < n) (hd : decode c.code pc = .ok (.caload, 1)) (v : Int32) (hv : xs.getD j.toNatClampNeg 0 = v) (k : Go p.tables e below E (T.setTop (mkF m pc' Ls (.int v :: st)))) : Go p.tables e below E (T.setTop (mkF m pc Ls (.int j :: .ref a :: st))) := by
  subst hv; exact o_caload pc' X hx hpc hZ eT F hj _ (own_getI xs _) hd k
theorem own_getJ (xs : List Int64) (i : Nat) : (xs.map Value.long).getD i (.long 0) = .long (xs.getD i 0) := by
  simp only [List.getD_eq_getElem?_getD, List.getElem?_map]; cases xs[i]? <;> rfl
theorem o_laloadX (pc' : Nat) (X : Stand p l e R s m args below meth c T locs cells slots) (hx : p.tables.exec = Jvm.exec) (hpc : pc + 1 = pc') (hZ : Z.Warmed39 s.vm) (eT : T.heap = h) {a : Addr} {ka : ClassId} {n j : Int32} {xs : List Int64} (F : Arv Z h a ka .long n (xs.map Value.long) (.long 0)) (hj : ¬ j < 0 ∧ j < n) (hd : decode c.code pc = .ok (.laload, 1)) (v : Int64) (hv : xs.getD j.toNatClampNeg 0 = v) (k : Go p.tables e below E (T.setTop (mkF m pc' Ls (.long v :: st)))) : Go p.tables e below E (T.setTop (mkF m pc Ls (.int j :: .ref a :: st))) := by
  subst hv; exact o_laload pc' X hx hpc hZ eT F hj _ (own_getJ xs _) hd k
theorem o_castoreX (pc' : Nat) (X : Stand p l e R s m args below meth c T locs cells slots) (hx : p.tables.exec = Jvm.exec) (hpc : pc + 1 = pc') (hZ : Z.Warmed39 s.vm) (eT : T.heap = h) {a : Addr} {ka : ClassId} {n j : Int32} {x : Int32} {xs : List Int32} (F : Arv Z h a ka .char n (xs.map Value.int) (.int 0)) (hj : ¬ j < 0 ∧ j < n) (hlt : j.toNatClampNeg < xs.length) (xs' : List Int32) (hxs : xs.set j.toNatClampNeg (nar .char x) = xs') {n0 : Nat} (N : Fr n0 locs) (ga : n0 ≤ a) (hd : decode c.code pc = .ok (.castore, 1))
    (k : ∀ (T' : State) (h' : Heap) (L' : List Loc), Stand p l e R s m args below meth c T' L' cells slots → Fr n0 L' → T'.heap = h' → Wr h h' a j.toNatClampNeg (.int (nar .char x)) → Arv Z h' a ka .char n (xs'.map Value.int) (.int 0) → Go p.tables e below E (T'.setTop (mkF m pc' Ls st))) : Go p.tables e below E (T.setTop (mkF m pc Ls (.int x :: .int j :: .ref a :: st))) := by
  subst hxs
  exact o_castore pc' X hx hpc hZ eT F hj _ rfl (by rw [List.length_map]; exact hlt) _ (List.map_set.symm) N ga hd k
theorem o_lastoreX (pc' : Nat) (X : Stand p l e R s m args below meth c T locs cells slots) (hx : p.tables.exec = Jvm.exec) (hpc : pc + 1 = pc') (hZ : Z.Warmed39 s.vm) (eT : T.heap = h) {a : Addr} {ka : ClassId} {n j : Int32} {x : Int64} {xs : List Int64} (F : Arv Z h a ka .long n (xs.map Value.long) (.long 0)) (hj : ¬ j < 0 ∧ j < n) (hlt : j.toNatClampNeg < xs.length) (xs' : List Int64) (hxs : xs.set j.toNatClampNeg x = xs') {n0 : Nat} (N : Fr n0 locs) (ga : n0 ≤ a) (hd : decode c.code pc = .ok (.lastore, 1))
    (k : ∀ (T' : State) (h' : Heap) (L' : List Loc), Stand p l e R s m args below meth c T' L' cells slots → Fr n0 L' → T'.heap = h' → Wr h h' a j.toNatClampNeg (.long x) → Arv Z h' a ka .long n (xs'.map Value.long) (.long 0) → Go p.tables e below E (T'.setTop (mkF m pc' Ls st))) : Go p.tables e below E (T.setTop (mkF m pc Ls (.long x :: .int j :: .ref a :: st))) := by
  subst hxs
  exact o_lastore pc' X hx hpc hZ eT F hj _ rfl (by rw [List.length_map]; exact hlt) _ (List.map_set.symm) N ga hd k
theorem o_newarrI (pc' : Nat) (X : Stand p l e R s m args below meth c T locs cells slots) (hx : p.tables.exec = Jvm.exec) (hpc : pc + 2 = pc') (hZ : Z.Warmed39 s.vm) (aty : ArrayType) (ty : FieldType) (hty : newarray.typeOf aty = ty) (hdf : defaultValue ty = .int 0) (w : (Jvm.Cond.arrayClass ty).before a0 Z = true) (eT : T.heap = h) {n : Int32} (hd : decode c.code pc = .ok (.newarray aty, 2)) (hn : ¬ n < 0) (cap : Nat) (hcap : n.toNatClampNeg ≤ cap) (hb : cap * 8 ≤ 536870912) (hc : cells + 1 ≤ R.cells) (hl : slots + cap ≤ R.slots) (xs : List Int32) (hxs : List.replicate n.toNatClampNeg 0 = xs)
    (k : ∀ (T' : State) (h' : Heap) (a : Addr) (cA : ClassId), a = h.size → Stand p l e R s m args below meth c T' locs (cells + 1) (slots + cap) → T'.heap = h' → Ext h h' → Arv Z h' a cA ty n (xs.map Value.int) (.int 0) → Go p.tables e below E (T'.setTop (mkF m pc' Ls (.ref a :: st)))) : Go p.tables e below E (T.setTop (mkF m pc Ls (.int n :: st))) := by
  subst hxs
  refine o_newarr pc' X hx hpc hZ aty ty hty w eT hd hn cap hcap hb hc hl ?_
  intro T' h' a cA g X' e' E' A'
  rw [hdf] at A'
  refine k T' h' a cA g X' e' E' ?_
  rw [List.map_replicate]
  exact A'.pad (pad_rep [] _ _)
theorem o_newarrJ (pc' : Nat) (X : Stand p l e R s m args below meth c T locs cells slots) (hx : p.tables.exec = Jvm.exec) (hpc : pc + 2 = pc') (hZ : Z.Warmed39 s.vm) (aty : ArrayType) (ty : FieldType) (hty : newarray.typeOf aty = ty) (hdf : defaultValue ty = .long 0) (w : (Jvm.Cond.arrayClass ty).before a0 Z = true) (eT : T.heap = h) {n : Int32} (hd : decode c.code pc = .ok (.newarray aty, 2)) (hn : ¬ n < 0) (cap : Nat) (hcap : n.toNatClampNeg ≤ cap) (hb : cap * 8 ≤ 536870912) (hc : cells + 1 ≤ R.cells) (hl : slots + cap ≤ R.slots) (xs : List Int64) (hxs : List.replicate n.toNatClampNeg 0 = xs)
    (k : ∀ (T' : State) (h' : Heap) (a : Addr) (cA : ClassId), a = h.size → Stand p l e R s m args below meth c T' locs (cells + 1) (slots + cap) → T'.heap = h' → Ext h h' → Arv Z h' a cA ty n (xs.map Value.long) (.long 0) → Go p.tables e below E (T'.setTop (mkF m pc' Ls (.ref a :: st)))) : Go p.tables e below E (T.setTop (mkF m pc Ls (.int n :: st))) := by
  subst hxs
  refine o_newarr pc' X hx hpc hZ aty ty hty w eT hd hn cap hcap hb hc hl ?_
  intro T' h' a cA g X' e' E' A'
  rw [hdf] at A'
  refine k T' h' a cA g X' e' E' ?_
  rw [List.map_replicate]
  exact A'.pad (pad_rep [] _ _)
theorem o_callSw (pc' : Nat) (X : Stand p l e R s m args below meth c T locs cells slots) (hx : p.tables.exec = Jvm.exec) (hpc : pc + 3 = pc') (hZ : Z.Warmed39 s.vm) {own : String} {index : Nat} {y : MethodName} {bytes : ByteArray} {maxL : Nat} {ret : Option FieldType} {rm : Room} {as' : Array Value} {Q : Option Value → Heap → List Loc → Prop} (hown : s.vm.findClass own = some m.cls) (w1 : (Jvm.Cond.methodLink own index y).before a0 Z = true) (w2 : (Jvm.Cond.static y).before a0 Z = true) (w3 : (Jvm.Cond.initialized y.cls).before a0 Z = true) (w4 : (Jvm.Cond.code y bytes maxL ret).before a0 Z = true) (hy : y.cls ≠ "java/lang/invoke/MethodHandle" ∧ y.cls ≠ "java/lang/invoke/VarHandle") (eT : T.heap = h) {n0 : Nat} (N : Fr n0 locs)
    (hM : MetP l y bytes maxL ret [] rm Z as' h Q) {ps : List FieldType} {r : Option FieldType} (hdsc : parseMethodDescriptor y.desc = some ⟨ps, r⟩) (argsL rest : List Value) (hlen : argsL.length = ps.length) (has : argsL.toArray = as') (hsize : Ls.size = c.maxLocals) (hst : st = argsL.reverse ++ rest) (hd : decode c.code pc = .ok (.invokestatic index, 3)) (W : Nat) (hW : (rest.map fun v => v.category).sum ≤ W) (hf : rm.frames + 1 ≤ R.frames) (hlo : W + (maxL + 11) + rm.locals ≤ R.locals) (hc : cells + rm.cells ≤ R.cells) (hsl : slots + rm.slots ≤ R.slots)
    (k : ∀ (v : Option Value) (T' : State) (L L' : List Loc), Stand p l e R s m args below meth c T' L' (cells + rm.cells) (slots + rm.slots) → Q v T'.heap L → (Fr n0 L → Fr n0 L') → Go p.tables e below E (T'.setTop (mkF m pc' Ls (v.toList ++ rest)))) : Go p.tables e below E (T.setTop (mkF m pc Ls st)) :=
  o_callS pc' X hx hpc hZ hown w1 w2 w3 w4 hy eT hM hdsc argsL rest hlen has hsize hst hd W hW hf hlo hc hsl (fun v T' L X' hQ => k v T' L _ X' hQ (fun M => Fr.app N M))
end OwnKit
theorem l_tlt {x y : Int64} (h : x < y) : lcmpW x y < 0 := (lw_lt x y).mpr h
theorem l_flt {x y : Int64} (h : ¬ x < y) : ¬ lcmpW x y < 0 := fun q => h ((lw_lt x y).mp q)
theorem l_tgt {x y : Int64} (h : y < x) : 0 < lcmpW x y := (lw_gt x y).mpr h
theorem l_fgt {x y : Int64} (h : ¬ y < x) : ¬ 0 < lcmpW x y := fun q => h ((lw_gt x y).mp q)
theorem l_teq {x y : Int64} (h : x = y) : lcmpW x y = 0 := (lw_eq x y).mpr h
theorem l_feq {x y : Int64} (h : ¬ x = y) : ¬ lcmpW x y = 0 := fun q => h ((lw_eq x y).mp q)
theorem wd_0 {Z : State} {a0 : Array Value} (hw : ∀ d ∈ tables_1, d.before a0 Z = true) : (Jvm.Cond.arrayClass Jvm.ClassFile.FieldType.char).before a0 Z = true := hw _ (List.mem_of_getElem? (i := 0) rfl)
theorem wd_1 {Z : State} {a0 : Array Value} (hw : ∀ d ∈ tables_1, d.before a0 Z = true) : (Jvm.Cond.methodLink "com/example/planbook/planbook/files/DecimalsDigitsPinLaw" (7 : Nat) ({ cls := "com/example/planbook/planbook/files/DecimalsDigitsPinLaw", name := "draw", desc := "(J)C" } : Jvm.MethodName)).before a0 Z = true := hw _ (List.mem_of_getElem? (i := 1) rfl)
theorem wd_2 {Z : State} {a0 : Array Value} (hw : ∀ d ∈ tables_1, d.before a0 Z = true) : (Jvm.Cond.static ({ cls := "com/example/planbook/planbook/files/DecimalsDigitsPinLaw", name := "draw", desc := "(J)C" } : Jvm.MethodName)).before a0 Z = true := hw _ (List.mem_of_getElem? (i := 2) rfl)
theorem wd_3 {Z : State} {a0 : Array Value} (hw : ∀ d ∈ tables_1, d.before a0 Z = true) : (Jvm.Cond.initialized "com/example/planbook/planbook/files/DecimalsDigitsPinLaw").before a0 Z = true := hw _ (List.mem_of_getElem? (i := 3) rfl)
theorem wd_4 {Z : State} {a0 : Array Value} (hw : ∀ d ∈ tables_1, d.before a0 Z = true) : (Jvm.Cond.code ({ cls := "com/example/planbook/planbook/files/DecimalsDigitsPinLaw", name := "draw", desc := "(J)C" } : Jvm.MethodName) method_3_code (3 : Nat) (Option.some Jvm.ClassFile.FieldType.char)).before a0 Z = true := hw _ (List.mem_of_getElem? (i := 4) rfl)
theorem wd_5 {Z : State} {a0 : Array Value} (hw : ∀ d ∈ tables_1, d.before a0 Z = true) : (Jvm.Cond.constantLong "com/example/planbook/planbook/files/DecimalsDigitsPinLaw" (45 : Nat) (2097151 : Int64)).before a0 Z = true := hw _ (List.mem_of_getElem? (i := 5) rfl)
theorem wd_6 {Z : State} {a0 : Array Value} (hw : ∀ d ∈ tables_1, d.before a0 Z = true) : (Jvm.Cond.constant "com/example/planbook/planbook/files/DecimalsDigitsPinLaw" (13 : Nat) (2147483647 : Int32)).before a0 Z = true := hw _ (List.mem_of_getElem? (i := 6) rfl)
theorem wd_7 {Z : State} {a0 : Array Value} (hw : ∀ d ∈ tables_1, d.before a0 Z = true) : (Jvm.Cond.methodLink "com/example/planbook/planbook/files/DecimalsDigitsPinLaw" (14 : Nat) ({ cls := "java/lang/Math", name := "min", desc := "(II)I" } : Jvm.MethodName)).before a0 Z = true := hw _ (List.mem_of_getElem? (i := 7) rfl)
theorem wd_8 {Z : State} {a0 : Array Value} (hw : ∀ d ∈ tables_1, d.before a0 Z = true) : (Jvm.Cond.static ({ cls := "java/lang/Math", name := "min", desc := "(II)I" } : Jvm.MethodName)).before a0 Z = true := hw _ (List.mem_of_getElem? (i := 8) rfl)
theorem wd_9 {Z : State} {a0 : Array Value} (hw : ∀ d ∈ tables_1, d.before a0 Z = true) : (Jvm.Cond.initialized "java/lang/Math").before a0 Z = true := hw _ (List.mem_of_getElem? (i := 9) rfl)
theorem wd_10 {Z : State} {a0 : Array Value} (hw : ∀ d ∈ tables_1, d.before a0 Z = true) : (Jvm.Cond.code ({ cls := "java/lang/Math", name := "min", desc := "(II)I" } : Jvm.MethodName) jdk_29_method_69_code (2 : Nat) (Option.some Jvm.ClassFile.FieldType.int)).before a0 Z = true := hw _ (List.mem_of_getElem? (i := 10) rfl)
theorem wd_11 {Z : State} {a0 : Array Value} (hw : ∀ d ∈ tables_1, d.before a0 Z = true) : (Jvm.Cond.methodLink "com/example/planbook/planbook/files/DecimalsDigitsPinLaw" (20 : Nat) ({ cls := "java/lang/Math", name := "max", desc := "(II)I" } : Jvm.MethodName)).before a0 Z = true := hw _ (List.mem_of_getElem? (i := 11) rfl)
theorem wd_12 {Z : State} {a0 : Array Value} (hw : ∀ d ∈ tables_1, d.before a0 Z = true) : (Jvm.Cond.static ({ cls := "java/lang/Math", name := "max", desc := "(II)I" } : Jvm.MethodName)).before a0 Z = true := hw _ (List.mem_of_getElem? (i := 12) rfl)
theorem wd_13 {Z : State} {a0 : Array Value} (hw : ∀ d ∈ tables_1, d.before a0 Z = true) : (Jvm.Cond.code ({ cls := "java/lang/Math", name := "max", desc := "(II)I" } : Jvm.MethodName) jdk_29_method_65_code (2 : Nat) (Option.some Jvm.ClassFile.FieldType.int)).before a0 Z = true := hw _ (List.mem_of_getElem? (i := 13) rfl)
theorem wd_14 {Z : State} {a0 : Array Value} (hw : ∀ d ∈ tables_1, d.before a0 Z = true) : (Jvm.Cond.methodLink "com/example/planbook/planbook/files/DecimalsDigitsPinLaw" (23 : Nat) ({ cls := "com/example/planbook/planbook/files/DecimalsDigitsPinLaw", name := "nonDigitAt", desc := "([CIII)Z" } : Jvm.MethodName)).before a0 Z = true := hw _ (List.mem_of_getElem? (i := 14) rfl)
theorem wd_15 {Z : State} {a0 : Array Value} (hw : ∀ d ∈ tables_1, d.before a0 Z = true) : (Jvm.Cond.static ({ cls := "com/example/planbook/planbook/files/DecimalsDigitsPinLaw", name := "nonDigitAt", desc := "([CIII)Z" } : Jvm.MethodName)).before a0 Z = true := hw _ (List.mem_of_getElem? (i := 15) rfl)
theorem wd_16 {Z : State} {a0 : Array Value} (hw : ∀ d ∈ tables_1, d.before a0 Z = true) : (Jvm.Cond.code ({ cls := "com/example/planbook/planbook/files/DecimalsDigitsPinLaw", name := "nonDigitAt", desc := "([CIII)Z" } : Jvm.MethodName) method_4_code (4 : Nat) (Option.some Jvm.ClassFile.FieldType.boolean)).before a0 Z = true := hw _ (List.mem_of_getElem? (i := 16) rfl)
theorem wd_17 {Z : State} {a0 : Array Value} (hw : ∀ d ∈ tables_1, d.before a0 Z = true) : (Jvm.Cond.methodLink "com/example/planbook/planbook/files/DecimalsDigitsPinLaw" (27 : Nat) ({ cls := "com/example/planbook/planbook/files/DecimalsDigitsPinLaw", name := "weighted", desc := "([CIII)J" } : Jvm.MethodName)).before a0 Z = true := hw _ (List.mem_of_getElem? (i := 17) rfl)
theorem wd_18 {Z : State} {a0 : Array Value} (hw : ∀ d ∈ tables_1, d.before a0 Z = true) : (Jvm.Cond.static ({ cls := "com/example/planbook/planbook/files/DecimalsDigitsPinLaw", name := "weighted", desc := "([CIII)J" } : Jvm.MethodName)).before a0 Z = true := hw _ (List.mem_of_getElem? (i := 18) rfl)
theorem wd_19 {Z : State} {a0 : Array Value} (hw : ∀ d ∈ tables_1, d.before a0 Z = true) : (Jvm.Cond.code ({ cls := "com/example/planbook/planbook/files/DecimalsDigitsPinLaw", name := "weighted", desc := "([CIII)J" } : Jvm.MethodName) method_5_code (4 : Nat) (Option.some Jvm.ClassFile.FieldType.long)).before a0 Z = true := hw _ (List.mem_of_getElem? (i := 19) rfl)
theorem wd_20 {Z : State} {a0 : Array Value} (hw : ∀ d ∈ tables_1, d.before a0 Z = true) : (Jvm.Cond.methodLink "com/example/planbook/planbook/files/DecimalsDigitsPinLaw" (33 : Nat) ({ cls := "com/example/planbook/planbook/files/DecimalsDigitsPinLaw", name := "pow10", desc := "(I)J" } : Jvm.MethodName)).before a0 Z = true := hw _ (List.mem_of_getElem? (i := 20) rfl)
theorem wd_21 {Z : State} {a0 : Array Value} (hw : ∀ d ∈ tables_1, d.before a0 Z = true) : (Jvm.Cond.static ({ cls := "com/example/planbook/planbook/files/DecimalsDigitsPinLaw", name := "pow10", desc := "(I)J" } : Jvm.MethodName)).before a0 Z = true := hw _ (List.mem_of_getElem? (i := 21) rfl)
theorem wd_22 {Z : State} {a0 : Array Value} (hw : ∀ d ∈ tables_1, d.before a0 Z = true) : (Jvm.Cond.code ({ cls := "com/example/planbook/planbook/files/DecimalsDigitsPinLaw", name := "pow10", desc := "(I)J" } : Jvm.MethodName) method_6_code (2 : Nat) (Option.some Jvm.ClassFile.FieldType.long)).before a0 Z = true := hw _ (List.mem_of_getElem? (i := 22) rfl)
theorem wd_23 {Z : State} {a0 : Array Value} (hw : ∀ d ∈ tables_1, d.before a0 Z = true) : (Jvm.Cond.arrayClass Jvm.ClassFile.FieldType.long).before a0 Z = true := hw _ (List.mem_of_getElem? (i := 23) rfl)
theorem wd_24 {Z : State} {a0 : Array Value} (hw : ∀ d ∈ tables_1, d.before a0 Z = true) : (Jvm.Cond.constantLong "com/example/planbook/planbook/files/DecimalsDigitsPinLaw" (47 : Nat) (10 : Int64)).before a0 Z = true := hw _ (List.mem_of_getElem? (i := 24) rfl)
theorem wd_25 {Z : State} {a0 : Array Value} (hw : ∀ d ∈ tables_1, d.before a0 Z = true) : (Jvm.Cond.constantLong "com/example/planbook/planbook/files/DecimalsDigitsPinLaw" (49 : Nat) (100 : Int64)).before a0 Z = true := hw _ (List.mem_of_getElem? (i := 25) rfl)
theorem wd_26 {Z : State} {a0 : Array Value} (hw : ∀ d ∈ tables_1, d.before a0 Z = true) : (Jvm.Cond.constantLong "com/example/planbook/planbook/files/DecimalsDigitsPinLaw" (51 : Nat) (1000 : Int64)).before a0 Z = true := hw _ (List.mem_of_getElem? (i := 26) rfl)
theorem wd_27 {Z : State} {a0 : Array Value} (hw : ∀ d ∈ tables_1, d.before a0 Z = true) : (Jvm.Cond.constantLong "com/example/planbook/planbook/files/DecimalsDigitsPinLaw" (53 : Nat) (10000 : Int64)).before a0 Z = true := hw _ (List.mem_of_getElem? (i := 27) rfl)
theorem wd_28 {Z : State} {a0 : Array Value} (hw : ∀ d ∈ tables_1, d.before a0 Z = true) : (Jvm.Cond.constantLong "com/example/planbook/planbook/files/DecimalsDigitsPinLaw" (55 : Nat) (100000 : Int64)).before a0 Z = true := hw _ (List.mem_of_getElem? (i := 28) rfl)
theorem wd_29 {Z : State} {a0 : Array Value} (hw : ∀ d ∈ tables_1, d.before a0 Z = true) : (Jvm.Cond.constantLong "com/example/planbook/planbook/files/DecimalsDigitsPinLaw" (57 : Nat) (1000000 : Int64)).before a0 Z = true := hw _ (List.mem_of_getElem? (i := 29) rfl)
theorem wd_30 {Z : State} {a0 : Array Value} (hw : ∀ d ∈ tables_1, d.before a0 Z = true) : (Jvm.Cond.constantLong "com/example/planbook/planbook/files/DecimalsDigitsPinLaw" (59 : Nat) (10000000 : Int64)).before a0 Z = true := hw _ (List.mem_of_getElem? (i := 30) rfl)
theorem wd_31 {Z : State} {a0 : Array Value} (hw : ∀ d ∈ tables_1, d.before a0 Z = true) : (Jvm.Cond.constantLong "com/example/planbook/planbook/files/DecimalsDigitsPinLaw" (61 : Nat) (100000000 : Int64)).before a0 Z = true := hw _ (List.mem_of_getElem? (i := 31) rfl)
theorem wd_32 {Z : State} {a0 : Array Value} (hw : ∀ d ∈ tables_1, d.before a0 Z = true) : (Jvm.Cond.constantLong "com/example/planbook/planbook/files/DecimalsDigitsPinLaw" (63 : Nat) (1000000000 : Int64)).before a0 Z = true := hw _ (List.mem_of_getElem? (i := 32) rfl)
theorem wd_33 {Z : State} {a0 : Array Value} (hw : ∀ d ∈ tables_1, d.before a0 Z = true) : (Jvm.Cond.constantLong "com/example/planbook/planbook/files/DecimalsDigitsPinLaw" (65 : Nat) (10000000000 : Int64)).before a0 Z = true := hw _ (List.mem_of_getElem? (i := 33) rfl)
theorem wd_34 {Z : State} {a0 : Array Value} (hw : ∀ d ∈ tables_1, d.before a0 Z = true) : (Jvm.Cond.constantLong "com/example/planbook/planbook/files/DecimalsDigitsPinLaw" (67 : Nat) (100000000000 : Int64)).before a0 Z = true := hw _ (List.mem_of_getElem? (i := 34) rfl)
theorem wd_35 {Z : State} {a0 : Array Value} (hw : ∀ d ∈ tables_1, d.before a0 Z = true) : (Jvm.Cond.constantLong "com/example/planbook/planbook/files/DecimalsDigitsPinLaw" (69 : Nat) (1000000000000 : Int64)).before a0 Z = true := hw _ (List.mem_of_getElem? (i := 35) rfl)
theorem wd_36 {Z : State} {a0 : Array Value} (hw : ∀ d ∈ tables_1, d.before a0 Z = true) : (Jvm.Cond.constantLong "com/example/planbook/planbook/files/DecimalsDigitsPinLaw" (71 : Nat) (10000000000000 : Int64)).before a0 Z = true := hw _ (List.mem_of_getElem? (i := 36) rfl)
theorem wd_37 {Z : State} {a0 : Array Value} (hw : ∀ d ∈ tables_1, d.before a0 Z = true) : (Jvm.Cond.constantLong "com/example/planbook/planbook/files/DecimalsDigitsPinLaw" (73 : Nat) (100000000000000 : Int64)).before a0 Z = true := hw _ (List.mem_of_getElem? (i := 37) rfl)
theorem wd_38 {Z : State} {a0 : Array Value} (hw : ∀ d ∈ tables_1, d.before a0 Z = true) : (Jvm.Cond.constantLong "com/example/planbook/planbook/files/DecimalsDigitsPinLaw" (75 : Nat) (1000000000000000 : Int64)).before a0 Z = true := hw _ (List.mem_of_getElem? (i := 38) rfl)
theorem wd_39 {Z : State} {a0 : Array Value} (hw : ∀ d ∈ tables_1, d.before a0 Z = true) : (Jvm.Cond.constantLong "com/example/planbook/planbook/files/DecimalsDigitsPinLaw" (77 : Nat) (10000000000000000 : Int64)).before a0 Z = true := hw _ (List.mem_of_getElem? (i := 39) rfl)
theorem wd_40 {Z : State} {a0 : Array Value} (hw : ∀ d ∈ tables_1, d.before a0 Z = true) : (Jvm.Cond.constantLong "com/example/planbook/planbook/files/DecimalsDigitsPinLaw" (79 : Nat) (100000000000000000 : Int64)).before a0 Z = true := hw _ (List.mem_of_getElem? (i := 40) rfl)
theorem wd_41 {Z : State} {a0 : Array Value} (hw : ∀ d ∈ tables_1, d.before a0 Z = true) : (Jvm.Cond.constantLong "com/example/planbook/planbook/files/DecimalsDigitsPinLaw" (81 : Nat) (1000000000000000000 : Int64)).before a0 Z = true := hw _ (List.mem_of_getElem? (i := 41) rfl)
theorem wd_42 {Z : State} {a0 : Array Value} (hw : ∀ d ∈ tables_1, d.before a0 Z = true) : (Jvm.Cond.constantLong "com/example/planbook/planbook/files/DecimalsDigitsPinLaw" (37 : Nat) (9 : Int64)).before a0 Z = true := hw _ (List.mem_of_getElem? (i := 42) rfl)
theorem wd_43 {Z : State} {a0 : Array Value} (hw : ∀ d ∈ tables_1, d.before a0 Z = true) : (Jvm.Cond.methodLink "com/example/planbook/planbook/files/DecimalsDigitsPinLaw" (39 : Nat) ({ cls := "com/example/planbook/planbook/files/Decimals", name := "digits", desc := "([CII)J" } : Jvm.MethodName)).before a0 Z = true := hw _ (List.mem_of_getElem? (i := 43) rfl)
theorem wd_44 {Z : State} {a0 : Array Value} (hw : ∀ d ∈ tables_1, d.before a0 Z = true) : (Jvm.Cond.static ({ cls := "com/example/planbook/planbook/files/Decimals", name := "digits", desc := "([CII)J" } : Jvm.MethodName)).before a0 Z = true := hw _ (List.mem_of_getElem? (i := 44) rfl)
theorem wd_45 {Z : State} {a0 : Array Value} (hw : ∀ d ∈ tables_1, d.before a0 Z = true) : (Jvm.Cond.initialized "com/example/planbook/planbook/files/Decimals").before a0 Z = true := hw _ (List.mem_of_getElem? (i := 45) rfl)
theorem wd_46 {Z : State} {a0 : Array Value} (hw : ∀ d ∈ tables_1, d.before a0 Z = true) : (Jvm.Cond.code ({ cls := "com/example/planbook/planbook/files/Decimals", name := "digits", desc := "([CII)J" } : Jvm.MethodName) prog_94_method_4_code (7 : Nat) (Option.some Jvm.ClassFile.FieldType.long)).before a0 Z = true := hw _ (List.mem_of_getElem? (i := 46) rfl)
theorem wd_47 {Z : State} {a0 : Array Value} (hw : ∀ d ∈ tables_1, d.before a0 Z = true) : (Jvm.Cond.constantLong "com/example/planbook/planbook/files/Decimals" (33 : Nat) (10 : Int64)).before a0 Z = true := hw _ (List.mem_of_getElem? (i := 47) rfl)
theorem wd_48 {Z : State} {a0 : Array Value} (hw : ∀ d ∈ tables_1, d.before a0 Z = true) : (Jvm.Cond.constantLong "com/example/planbook/planbook/files/DecimalsDigitsPinLaw" (31 : Nat) (-1 : Int64)).before a0 Z = true := hw _ (List.mem_of_getElem? (i := 48) rfl)
theorem wd_49 {Z : State} {a0 : Array Value} (hw : ∀ d ∈ tables_1, d.before a0 Z = true) : (Jvm.Cond.constantLong "com/example/planbook/planbook/files/Decimals" (48 : Nat) (-1 : Int64)).before a0 Z = true := hw _ (List.mem_of_getElem? (i := 49) rfl)
theorem d1_0 : decode method_3_code 0 = .ok (.lload_n 0, 1) := by decide +kernel
theorem d1_1 : decode method_3_code 1 = .ok (.ldc2_w 45, 3) := by decide +kernel
theorem d1_10 : decode method_3_code 10 = .ok (.ifCond .eq 17, 3) := by decide +kernel
theorem d1_13 : decode method_3_code 13 = .ok (.bipush 48, 2) := by decide +kernel
theorem d1_15 : decode method_3_code 15 = .ok (.iload_n 2, 1) := by decide +kernel
theorem d1_16 : decode method_3_code 16 = .ok (.iconst 1, 1) := by decide +kernel
theorem d1_17 : decode method_3_code 17 = .ok (.iushr, 1) := by decide +kernel
theorem d1_18 : decode method_3_code 18 = .ok (.bipush 15, 2) := by decide +kernel
theorem d1_20 : decode method_3_code 20 = .ok (.iand, 1) := by decide +kernel
theorem d1_21 : decode method_3_code 21 = .ok (.bipush 10, 2) := by decide +kernel
theorem d1_23 : decode method_3_code 23 = .ok (.irem, 1) := by decide +kernel
theorem d1_24 : decode method_3_code 24 = .ok (.iadd, 1) := by decide +kernel
theorem d1_25 : decode method_3_code 25 = .ok (.i2c, 1) := by decide +kernel
theorem d1_26 : decode method_3_code 26 = .ok (.ireturn, 1) := by decide +kernel
theorem d1_27 : decode method_3_code 27 = .ok (.iload_n 2, 1) := by decide +kernel
theorem d1_28 : decode method_3_code 28 = .ok (.iconst 5, 1) := by decide +kernel
theorem d1_29 : decode method_3_code 29 = .ok (.iushr, 1) := by decide +kernel
theorem d1_30 : decode method_3_code 30 = .ok (.i2c, 1) := by decide +kernel
theorem d1_31 : decode method_3_code 31 = .ok (.ireturn, 1) := by decide +kernel
theorem d1_4 : decode method_3_code 4 = .ok (.land, 1) := by decide +kernel
theorem d1_5 : decode method_3_code 5 = .ok (.l2i, 1) := by decide +kernel
theorem d1_6 : decode method_3_code 6 = .ok (.istore_n 2, 1) := by decide +kernel
theorem d1_7 : decode method_3_code 7 = .ok (.iload_n 2, 1) := by decide +kernel
theorem d1_8 : decode method_3_code 8 = .ok (.iconst 1, 1) := by decide +kernel
theorem d1_9 : decode method_3_code 9 = .ok (.iand, 1) := by decide +kernel
theorem d2_0 : decode jdk_29_method_69_code 0 = .ok (.iload_n 0, 1) := by decide +kernel
theorem d2_1 : decode jdk_29_method_69_code 1 = .ok (.iload_n 1, 1) := by decide +kernel
theorem d2_10 : decode jdk_29_method_69_code 10 = .ok (.ireturn, 1) := by decide +kernel
theorem d2_2 : decode jdk_29_method_69_code 2 = .ok (.if_icmp .gt 7, 3) := by decide +kernel
theorem d2_5 : decode jdk_29_method_69_code 5 = .ok (.iload_n 0, 1) := by decide +kernel
theorem d2_6 : decode jdk_29_method_69_code 6 = .ok (.goto 4, 3) := by decide +kernel
theorem d2_9 : decode jdk_29_method_69_code 9 = .ok (.iload_n 1, 1) := by decide +kernel
theorem d3_0 : decode jdk_29_method_65_code 0 = .ok (.iload_n 0, 1) := by decide +kernel
theorem d3_1 : decode jdk_29_method_65_code 1 = .ok (.iload_n 1, 1) := by decide +kernel
theorem d3_10 : decode jdk_29_method_65_code 10 = .ok (.ireturn, 1) := by decide +kernel
theorem d3_2 : decode jdk_29_method_65_code 2 = .ok (.if_icmp .lt 7, 3) := by decide +kernel
theorem d3_5 : decode jdk_29_method_65_code 5 = .ok (.iload_n 0, 1) := by decide +kernel
theorem d3_6 : decode jdk_29_method_65_code 6 = .ok (.goto 4, 3) := by decide +kernel
theorem d3_9 : decode jdk_29_method_65_code 9 = .ok (.iload_n 1, 1) := by decide +kernel
theorem d4_0 : decode method_4_code 0 = .ok (.iload_n 1, 1) := by decide +kernel
theorem d4_1 : decode method_4_code 1 = .ok (.iload_n 2, 1) := by decide +kernel
theorem d4_10 : decode method_4_code 10 = .ok (.aload_n 0, 1) := by decide +kernel
theorem d4_11 : decode method_4_code 11 = .ok (.iload_n 1, 1) := by decide +kernel
theorem d4_12 : decode method_4_code 12 = .ok (.caload, 1) := by decide +kernel
theorem d4_13 : decode method_4_code 13 = .ok (.bipush 48, 2) := by decide +kernel
theorem d4_15 : decode method_4_code 15 = .ok (.if_icmp .lt 11, 3) := by decide +kernel
theorem d4_18 : decode method_4_code 18 = .ok (.aload_n 0, 1) := by decide +kernel
theorem d4_19 : decode method_4_code 19 = .ok (.iload_n 1, 1) := by decide +kernel
theorem d4_2 : decode method_4_code 2 = .ok (.if_icmp .lt 28, 3) := by decide +kernel
theorem d4_20 : decode method_4_code 20 = .ok (.caload, 1) := by decide +kernel
theorem d4_21 : decode method_4_code 21 = .ok (.bipush 57, 2) := by decide +kernel
theorem d4_23 : decode method_4_code 23 = .ok (.if_icmp .le 7, 3) := by decide +kernel
theorem d4_26 : decode method_4_code 26 = .ok (.iconst 1, 1) := by decide +kernel
theorem d4_27 : decode method_4_code 27 = .ok (.goto 4, 3) := by decide +kernel
theorem d4_30 : decode method_4_code 30 = .ok (.iconst 0, 1) := by decide +kernel
theorem d4_31 : decode method_4_code 31 = .ok (.ireturn, 1) := by decide +kernel
theorem d4_5 : decode method_4_code 5 = .ok (.iload_n 1, 1) := by decide +kernel
theorem d4_6 : decode method_4_code 6 = .ok (.iload_n 3, 1) := by decide +kernel
theorem d4_7 : decode method_4_code 7 = .ok (.if_icmp .ge 23, 3) := by decide +kernel
theorem d5_0 : decode method_5_code 0 = .ok (.iload_n 1, 1) := by decide +kernel
theorem d5_1 : decode method_5_code 1 = .ok (.iload_n 2, 1) := by decide +kernel
theorem d5_10 : decode method_5_code 10 = .ok (.aload_n 0, 1) := by decide +kernel
theorem d5_11 : decode method_5_code 11 = .ok (.iload_n 1, 1) := by decide +kernel
theorem d5_12 : decode method_5_code 12 = .ok (.caload, 1) := by decide +kernel
theorem d5_13 : decode method_5_code 13 = .ok (.bipush 48, 2) := by decide +kernel
theorem d5_15 : decode method_5_code 15 = .ok (.if_icmp .lt 11, 3) := by decide +kernel
theorem d5_18 : decode method_5_code 18 = .ok (.aload_n 0, 1) := by decide +kernel
theorem d5_19 : decode method_5_code 19 = .ok (.iload_n 1, 1) := by decide +kernel
theorem d5_2 : decode method_5_code 2 = .ok (.if_icmp .lt 24, 3) := by decide +kernel
theorem d5_20 : decode method_5_code 20 = .ok (.caload, 1) := by decide +kernel
theorem d5_21 : decode method_5_code 21 = .ok (.bipush 57, 2) := by decide +kernel
theorem d5_23 : decode method_5_code 23 = .ok (.if_icmp .le 5, 3) := by decide +kernel
theorem d5_26 : decode method_5_code 26 = .ok (.lconst 0, 1) := by decide +kernel
theorem d5_27 : decode method_5_code 27 = .ok (.lreturn, 1) := by decide +kernel
theorem d5_28 : decode method_5_code 28 = .ok (.aload_n 0, 1) := by decide +kernel
theorem d5_29 : decode method_5_code 29 = .ok (.iload_n 1, 1) := by decide +kernel
theorem d5_30 : decode method_5_code 30 = .ok (.caload, 1) := by decide +kernel
theorem d5_31 : decode method_5_code 31 = .ok (.bipush 48, 2) := by decide +kernel
theorem d5_33 : decode method_5_code 33 = .ok (.isub, 1) := by decide +kernel
theorem d5_34 : decode method_5_code 34 = .ok (.i2l, 1) := by decide +kernel
theorem d5_35 : decode method_5_code 35 = .ok (.iload_n 3, 1) := by decide +kernel
theorem d5_36 : decode method_5_code 36 = .ok (.iconst 1, 1) := by decide +kernel
theorem d5_37 : decode method_5_code 37 = .ok (.isub, 1) := by decide +kernel
theorem d5_38 : decode method_5_code 38 = .ok (.iload_n 1, 1) := by decide +kernel
theorem d5_39 : decode method_5_code 39 = .ok (.isub, 1) := by decide +kernel
theorem d5_40 : decode method_5_code 40 = .ok (.invokestatic 33, 3) := by decide +kernel
theorem d5_43 : decode method_5_code 43 = .ok (.lmul, 1) := by decide +kernel
theorem d5_44 : decode method_5_code 44 = .ok (.lreturn, 1) := by decide +kernel
theorem d5_5 : decode method_5_code 5 = .ok (.iload_n 1, 1) := by decide +kernel
theorem d5_6 : decode method_5_code 6 = .ok (.iload_n 3, 1) := by decide +kernel
theorem d5_7 : decode method_5_code 7 = .ok (.if_icmp .ge 19, 3) := by decide +kernel
theorem d6_0 : decode method_6_code 0 = .ok (.bipush 19, 2) := by decide +kernel
theorem d6_10 : decode method_6_code 10 = .ok (.ldc2_w 47, 3) := by decide +kernel
theorem d6_100 : decode method_6_code 100 = .ok (.lastore, 1) := by decide +kernel
theorem d6_101 : decode method_6_code 101 = .ok (.dup, 1) := by decide +kernel
theorem d6_102 : decode method_6_code 102 = .ok (.bipush 15, 2) := by decide +kernel
theorem d6_104 : decode method_6_code 104 = .ok (.ldc2_w 75, 3) := by decide +kernel
theorem d6_107 : decode method_6_code 107 = .ok (.lastore, 1) := by decide +kernel
theorem d6_108 : decode method_6_code 108 = .ok (.dup, 1) := by decide +kernel
theorem d6_109 : decode method_6_code 109 = .ok (.bipush 16, 2) := by decide +kernel
theorem d6_111 : decode method_6_code 111 = .ok (.ldc2_w 77, 3) := by decide +kernel
theorem d6_114 : decode method_6_code 114 = .ok (.lastore, 1) := by decide +kernel
theorem d6_115 : decode method_6_code 115 = .ok (.dup, 1) := by decide +kernel
theorem d6_116 : decode method_6_code 116 = .ok (.bipush 17, 2) := by decide +kernel
theorem d6_118 : decode method_6_code 118 = .ok (.ldc2_w 79, 3) := by decide +kernel
theorem d6_121 : decode method_6_code 121 = .ok (.lastore, 1) := by decide +kernel
theorem d6_122 : decode method_6_code 122 = .ok (.dup, 1) := by decide +kernel
theorem d6_123 : decode method_6_code 123 = .ok (.bipush 18, 2) := by decide +kernel
theorem d6_125 : decode method_6_code 125 = .ok (.ldc2_w 81, 3) := by decide +kernel
theorem d6_128 : decode method_6_code 128 = .ok (.lastore, 1) := by decide +kernel
theorem d6_129 : decode method_6_code 129 = .ok (.astore_n 1, 1) := by decide +kernel
theorem d6_13 : decode method_6_code 13 = .ok (.lastore, 1) := by decide +kernel
theorem d6_130 : decode method_6_code 130 = .ok (.aload_n 1, 1) := by decide +kernel
theorem d6_131 : decode method_6_code 131 = .ok (.iload_n 0, 1) := by decide +kernel
theorem d6_132 : decode method_6_code 132 = .ok (.laload, 1) := by decide +kernel
theorem d6_133 : decode method_6_code 133 = .ok (.lreturn, 1) := by decide +kernel
theorem d6_14 : decode method_6_code 14 = .ok (.dup, 1) := by decide +kernel
theorem d6_15 : decode method_6_code 15 = .ok (.iconst 2, 1) := by decide +kernel
theorem d6_16 : decode method_6_code 16 = .ok (.ldc2_w 49, 3) := by decide +kernel
theorem d6_19 : decode method_6_code 19 = .ok (.lastore, 1) := by decide +kernel
theorem d6_2 : decode method_6_code 2 = .ok (.newarray .long, 2) := by decide +kernel
theorem d6_20 : decode method_6_code 20 = .ok (.dup, 1) := by decide +kernel
theorem d6_21 : decode method_6_code 21 = .ok (.iconst 3, 1) := by decide +kernel
theorem d6_22 : decode method_6_code 22 = .ok (.ldc2_w 51, 3) := by decide +kernel
theorem d6_25 : decode method_6_code 25 = .ok (.lastore, 1) := by decide +kernel
theorem d6_26 : decode method_6_code 26 = .ok (.dup, 1) := by decide +kernel
theorem d6_27 : decode method_6_code 27 = .ok (.iconst 4, 1) := by decide +kernel
theorem d6_28 : decode method_6_code 28 = .ok (.ldc2_w 53, 3) := by decide +kernel
theorem d6_31 : decode method_6_code 31 = .ok (.lastore, 1) := by decide +kernel
theorem d6_32 : decode method_6_code 32 = .ok (.dup, 1) := by decide +kernel
theorem d6_33 : decode method_6_code 33 = .ok (.iconst 5, 1) := by decide +kernel
theorem d6_34 : decode method_6_code 34 = .ok (.ldc2_w 55, 3) := by decide +kernel
theorem d6_37 : decode method_6_code 37 = .ok (.lastore, 1) := by decide +kernel
theorem d6_38 : decode method_6_code 38 = .ok (.dup, 1) := by decide +kernel
theorem d6_39 : decode method_6_code 39 = .ok (.bipush 6, 2) := by decide +kernel
theorem d6_4 : decode method_6_code 4 = .ok (.dup, 1) := by decide +kernel
theorem d6_41 : decode method_6_code 41 = .ok (.ldc2_w 57, 3) := by decide +kernel
theorem d6_44 : decode method_6_code 44 = .ok (.lastore, 1) := by decide +kernel
theorem d6_45 : decode method_6_code 45 = .ok (.dup, 1) := by decide +kernel
theorem d6_46 : decode method_6_code 46 = .ok (.bipush 7, 2) := by decide +kernel
theorem d6_48 : decode method_6_code 48 = .ok (.ldc2_w 59, 3) := by decide +kernel
theorem d6_5 : decode method_6_code 5 = .ok (.iconst 0, 1) := by decide +kernel
theorem d6_51 : decode method_6_code 51 = .ok (.lastore, 1) := by decide +kernel
theorem d6_52 : decode method_6_code 52 = .ok (.dup, 1) := by decide +kernel
theorem d6_53 : decode method_6_code 53 = .ok (.bipush 8, 2) := by decide +kernel
theorem d6_55 : decode method_6_code 55 = .ok (.ldc2_w 61, 3) := by decide +kernel
theorem d6_58 : decode method_6_code 58 = .ok (.lastore, 1) := by decide +kernel
theorem d6_59 : decode method_6_code 59 = .ok (.dup, 1) := by decide +kernel
theorem d6_6 : decode method_6_code 6 = .ok (.lconst 1, 1) := by decide +kernel
theorem d6_60 : decode method_6_code 60 = .ok (.bipush 9, 2) := by decide +kernel
theorem d6_62 : decode method_6_code 62 = .ok (.ldc2_w 63, 3) := by decide +kernel
theorem d6_65 : decode method_6_code 65 = .ok (.lastore, 1) := by decide +kernel
theorem d6_66 : decode method_6_code 66 = .ok (.dup, 1) := by decide +kernel
theorem d6_67 : decode method_6_code 67 = .ok (.bipush 10, 2) := by decide +kernel
theorem d6_69 : decode method_6_code 69 = .ok (.ldc2_w 65, 3) := by decide +kernel
theorem d6_7 : decode method_6_code 7 = .ok (.lastore, 1) := by decide +kernel
theorem d6_72 : decode method_6_code 72 = .ok (.lastore, 1) := by decide +kernel
theorem d6_73 : decode method_6_code 73 = .ok (.dup, 1) := by decide +kernel
theorem d6_74 : decode method_6_code 74 = .ok (.bipush 11, 2) := by decide +kernel
theorem d6_76 : decode method_6_code 76 = .ok (.ldc2_w 67, 3) := by decide +kernel
theorem d6_79 : decode method_6_code 79 = .ok (.lastore, 1) := by decide +kernel
theorem d6_8 : decode method_6_code 8 = .ok (.dup, 1) := by decide +kernel
theorem d6_80 : decode method_6_code 80 = .ok (.dup, 1) := by decide +kernel
theorem d6_81 : decode method_6_code 81 = .ok (.bipush 12, 2) := by decide +kernel
theorem d6_83 : decode method_6_code 83 = .ok (.ldc2_w 69, 3) := by decide +kernel
theorem d6_86 : decode method_6_code 86 = .ok (.lastore, 1) := by decide +kernel
theorem d6_87 : decode method_6_code 87 = .ok (.dup, 1) := by decide +kernel
theorem d6_88 : decode method_6_code 88 = .ok (.bipush 13, 2) := by decide +kernel
theorem d6_9 : decode method_6_code 9 = .ok (.iconst 1, 1) := by decide +kernel
theorem d6_90 : decode method_6_code 90 = .ok (.ldc2_w 71, 3) := by decide +kernel
theorem d6_93 : decode method_6_code 93 = .ok (.lastore, 1) := by decide +kernel
theorem d6_94 : decode method_6_code 94 = .ok (.dup, 1) := by decide +kernel
theorem d6_95 : decode method_6_code 95 = .ok (.bipush 14, 2) := by decide +kernel
theorem d6_97 : decode method_6_code 97 = .ok (.ldc2_w 73, 3) := by decide +kernel
theorem d7_0 : decode prog_94_method_4_code 0 = .ok (.lconst 0, 1) := by decide +kernel
theorem d7_1 : decode prog_94_method_4_code 1 = .ok (.lstore_n 3, 1) := by decide +kernel
theorem d7_10 : decode prog_94_method_4_code 10 = .ok (.if_icmp .ge 46, 3) := by decide +kernel
theorem d7_13 : decode prog_94_method_4_code 13 = .ok (.aload_n 0, 1) := by decide +kernel
theorem d7_14 : decode prog_94_method_4_code 14 = .ok (.iload 5, 2) := by decide +kernel
theorem d7_16 : decode prog_94_method_4_code 16 = .ok (.caload, 1) := by decide +kernel
theorem d7_17 : decode prog_94_method_4_code 17 = .ok (.istore 6, 2) := by decide +kernel
theorem d7_19 : decode prog_94_method_4_code 19 = .ok (.iload 6, 2) := by decide +kernel
theorem d7_2 : decode prog_94_method_4_code 2 = .ok (.iload_n 1, 1) := by decide +kernel
theorem d7_21 : decode prog_94_method_4_code 21 = .ok (.bipush 48, 2) := by decide +kernel
theorem d7_23 : decode prog_94_method_4_code 23 = .ok (.if_icmp .lt 10, 3) := by decide +kernel
theorem d7_26 : decode prog_94_method_4_code 26 = .ok (.iload 6, 2) := by decide +kernel
theorem d7_28 : decode prog_94_method_4_code 28 = .ok (.bipush 57, 2) := by decide +kernel
theorem d7_3 : decode prog_94_method_4_code 3 = .ok (.istore 5, 2) := by decide +kernel
theorem d7_30 : decode prog_94_method_4_code 30 = .ok (.if_icmp .le 7, 3) := by decide +kernel
theorem d7_33 : decode prog_94_method_4_code 33 = .ok (.ldc2_w 48, 3) := by decide +kernel
theorem d7_36 : decode prog_94_method_4_code 36 = .ok (.lreturn, 1) := by decide +kernel
theorem d7_37 : decode prog_94_method_4_code 37 = .ok (.lload_n 3, 1) := by decide +kernel
theorem d7_38 : decode prog_94_method_4_code 38 = .ok (.ldc2_w 33, 3) := by decide +kernel
theorem d7_41 : decode prog_94_method_4_code 41 = .ok (.lmul, 1) := by decide +kernel
theorem d7_42 : decode prog_94_method_4_code 42 = .ok (.iload 6, 2) := by decide +kernel
theorem d7_44 : decode prog_94_method_4_code 44 = .ok (.bipush 48, 2) := by decide +kernel
theorem d7_46 : decode prog_94_method_4_code 46 = .ok (.isub, 1) := by decide +kernel
theorem d7_47 : decode prog_94_method_4_code 47 = .ok (.i2l, 1) := by decide +kernel
theorem d7_48 : decode prog_94_method_4_code 48 = .ok (.ladd, 1) := by decide +kernel
theorem d7_49 : decode prog_94_method_4_code 49 = .ok (.lstore_n 3, 1) := by decide +kernel
theorem d7_5 : decode prog_94_method_4_code 5 = .ok (.iload 5, 2) := by decide +kernel
theorem d7_50 : decode prog_94_method_4_code 50 = .ok (.iinc 5 1, 3) := by decide +kernel
theorem d7_53 : decode prog_94_method_4_code 53 = .ok (.goto (-48), 3) := by decide +kernel
theorem d7_56 : decode prog_94_method_4_code 56 = .ok (.lload_n 3, 1) := by decide +kernel
theorem d7_57 : decode prog_94_method_4_code 57 = .ok (.lreturn, 1) := by decide +kernel
theorem d7_7 : decode prog_94_method_4_code 7 = .ok (.iload_n 1, 1) := by decide +kernel
theorem d7_8 : decode prog_94_method_4_code 8 = .ok (.iload_n 2, 1) := by decide +kernel
theorem d7_9 : decode prog_94_method_4_code 9 = .ok (.iadd, 1) := by decide +kernel
theorem pd_lIrJ : parseMethodDescriptor "(I)J" = some ⟨[.int], some .long⟩ := by decide +kernel
theorem pd_lIIrI : parseMethodDescriptor "(II)I" = some ⟨[.int, .int], some .int⟩ := by decide +kernel
theorem pd_lJrC : parseMethodDescriptor "(J)C" = some ⟨[.long], some .char⟩ := by decide +kernel
theorem pd_laCIIrJ : parseMethodDescriptor "([CII)J" = some ⟨[(.array .char), .int, .int], some .long⟩ := by decide +kernel
theorem pd_laCIIIrJ : parseMethodDescriptor "([CIII)J" = some ⟨[(.array .char), .int, .int, .int], some .long⟩ := by decide +kernel
theorem pd_laCIIIrZ : parseMethodDescriptor "([CIII)Z" = some ⟨[(.array .char), .int, .int, .int], some .boolean⟩ := by decide +kernel
theorem pn_0 : plainFor x = true := plainFor_of_name (show plainName "com/example/planbook/planbook/files/DecimalsDigitsPinLaw" = true by first | (simp [plainName, overriddenIn]; done) | decide +kernel)
theorem pn_1 : plainFor (⟨"com/example/planbook/planbook/files/DecimalsDigitsPinLaw", "draw", "(J)C"⟩ : MethodName) = true := plainFor_of_name (show plainName "com/example/planbook/planbook/files/DecimalsDigitsPinLaw" = true by first | (simp [plainName, overriddenIn]; done) | decide +kernel)
theorem pn_2 : plainFor (⟨"java/lang/Math", "min", "(II)I"⟩ : MethodName) = true := Jvm.Free.JP.mathPlain rfl (by decide +kernel)
theorem pn_3 : plainFor (⟨"java/lang/Math", "max", "(II)I"⟩ : MethodName) = true := Jvm.Free.JP.mathPlain rfl (by decide +kernel)
theorem pn_4 : plainFor (⟨"com/example/planbook/planbook/files/DecimalsDigitsPinLaw", "nonDigitAt", "([CIII)Z"⟩ : MethodName) = true := plainFor_of_name (show plainName "com/example/planbook/planbook/files/DecimalsDigitsPinLaw" = true by first | (simp [plainName, overriddenIn]; done) | decide +kernel)
theorem pn_5 : plainFor (⟨"com/example/planbook/planbook/files/DecimalsDigitsPinLaw", "weighted", "([CIII)J"⟩ : MethodName) = true := plainFor_of_name (show plainName "com/example/planbook/planbook/files/DecimalsDigitsPinLaw" = true by first | (simp [plainName, overriddenIn]; done) | decide +kernel)
theorem pn_6 : plainFor (⟨"com/example/planbook/planbook/files/DecimalsDigitsPinLaw", "pow10", "(I)J"⟩ : MethodName) = true := plainFor_of_name (show plainName "com/example/planbook/planbook/files/DecimalsDigitsPinLaw" = true by first | (simp [plainName, overriddenIn]; done) | decide +kernel)
theorem pn_7 : plainFor (⟨"com/example/planbook/planbook/files/Decimals", "digits", "([CII)J"⟩ : MethodName) = true := plainFor_of_name (show plainName "com/example/planbook/planbook/files/Decimals" = true by first | (simp [plainName, overriddenIn]; done) | decide +kernel)
theorem own_lt {i n : Nat} (h : i < n) (hn : n < 2147483648) : Int32.ofNat i < Int32.ofNat n := by
  rw [Int32.lt_iff_toInt_lt, Int32.toInt_ofNat_of_lt (by omega), Int32.toInt_ofNat_of_lt (by omega)]
  omega
theorem own_nn {n : Nat} (hn : n < 2147483648) : ¬ Int32.ofNat n < 0 := by
  rw [Int32.lt_iff_toInt_lt, Int32.toInt_ofNat_of_lt (by omega), show (0 : Int32).toInt = 0 from rfl]
  omega
theorem own_n32 {n : Nat} (hn : n < 2147483648) : (Int32.ofNat n).toNatClampNeg = n := by
  rw [Int32.toNatClampNeg, Int32.toInt_ofNat_of_lt (by omega)]; rfl
theorem own_one (i : Nat) : Int32.ofNat i + (1 : Int32) = Int32.ofNat (i + 1) := (Int32.ofNat_add i 1).symm
theorem own_hd {xs ys : List Int32} {y : Int32} {i : Nat} (h : xs.drop i = y :: ys) : xs.getD i 0 = y := by
  have q : xs[i]? = some y := by have := congrArg (fun l => l[0]?) h; simpa [List.getElem?_drop] using this
  rw [List.getD_eq_getElem?_getD, q]; rfl
theorem own_tl {xs ys : List Int32} {y : Int32} {i : Nat} (h : xs.drop i = y :: ys) : xs.drop (i + 1) = ys := by
  have := congrArg (List.drop 1) h; simpa [List.drop_drop] using this
def own_ps : List Int64 := [(1 : Int64), (10 : Int64), (100 : Int64), (1000 : Int64), (10000 : Int64), (100000 : Int64), (1000000 : Int64), (10000000 : Int64), (100000000 : Int64), (1000000000 : Int64), (10000000000 : Int64), (100000000000 : Int64), (1000000000000 : Int64), (10000000000000 : Int64), (100000000000000 : Int64), (1000000000000000 : Int64), (10000000000000000 : Int64), (100000000000000000 : Int64), (1000000000000000000 : Int64)]
theorem ef_1 (m : MethodId) (y0 : Int64) : entryFrame m #[(.long y0)] 3 = mkF m 0 #[.val (.long y0), .second, .unset] [] := by first | (simp [entryFrame, mkF, argsToLocals, Value.category]; done) | rfl
def fn1 (q0 : Int64) : Int32 := (if (((q0 &&& (2097151 : Int64)).toInt32) &&& (1 : Int32)) = (0 : Int32) then (nar .char (((((q0 &&& (2097151 : Int64)).toInt32).toUInt32 >>> ((5 : Int32) &&& 31).toUInt32).toInt32).toUInt32.toUInt16.toUInt32.toInt32)) else (nar .char (((48 : Int32) + ((((((q0 &&& (2097151 : Int64)).toInt32).toUInt32 >>> ((1 : Int32) &&& 31).toUInt32).toInt32) &&& (15 : Int32)) % (10 : Int32))).toUInt32.toUInt16.toUInt32.toInt32)))
set_option maxRecDepth 65536 in
set_option maxHeartbeats 40000000 in
theorem rm1 (l : Launch) (Z : State) (a0 : Array Value) (hw : ∀ d ∈ tables_1, d.before a0 Z = true) (q0 : Int64) (h0 : Heap) : MetP l (⟨"com/example/planbook/planbook/files/DecimalsDigitsPinLaw", "draw", "(J)C"⟩ : MethodName) method_3_code 3 (some .char) [] ({ frames := 0, cells := 0, slots := 0, locals := 0 } : Room) Z #[(.long q0)] h0 (Pure (.int (fn1 q0)) h0) := by
  refine met_go pn_1 ?_
  intro p e s m below meth c s₁ hx hby hml hown hnm hret hlk hZ e0 X0
  rw [ef_1 m q0]
  refine o_lloadN 1 X0 hx rfl (hb hby d1_0) rfl ?_
  refine o_ldc2Long 4 X0 hx rfl hZ hown (wd_5 hw) (hb hby d1_1) ?_
  refine o_land 5 X0 hx rfl (hb hby d1_4) ?_
  refine o_l2i 6 X0 hx rfl (hb hby d1_5) ?_
  refine o_istoreN 7 X0 hx rfl (hb hby d1_6) #[.val (.long q0), .second, .val (.int ((q0 &&& (2097151 : Int64)).toInt32))] rfl ?_
  refine o_iloadN 8 X0 hx rfl (hb hby d1_7) rfl ?_
  refine o_iconst 9 X0 hx rfl (hb hby d1_8) (1 : Int32) rfl ?_
  refine o_iand 10 X0 hx rfl (hb hby d1_9) ?_
  by_cases hc10_1 : (((q0 &&& (2097151 : Int64)).toInt32) &&& (1 : Int32)) = (0 : Int32)
  · refine o_ifYes 27 X0 hx (hb hby d1_10) (teq hc10_1).1 (by decide) (by decide) ?_
    refine o_iloadN 28 X0 hx rfl (hb hby d1_27) rfl ?_
    refine o_iconst 29 X0 hx rfl (hb hby d1_28) (5 : Int32) rfl ?_
    refine o_iushr 30 X0 hx rfl (hb hby d1_29) ?_
    refine o_i2c 31 X0 hx rfl (hb hby d1_30) ?_
    refine o_retN X0 hx .char (by simp) hret hlk (hb hby d1_31) (by decide) (by decide) ?_
    exact ⟨show some (Value.int (nar .char (((((q0 &&& (2097151 : Int64)).toInt32).toUInt32 >>> ((5 : Int32) &&& 31).toUInt32).toInt32).toUInt32.toUInt16.toUInt32.toInt32))) = some (Value.int (fn1 q0)) from by rw [show (fn1 q0) = (nar .char (((((q0 &&& (2097151 : Int64)).toInt32).toUInt32 >>> ((5 : Int32) &&& 31).toUInt32).toInt32).toUInt32.toUInt16.toUInt32.toInt32)) from by unfold fn1; simp only [if_pos hc10_1]], rfl, e0⟩
  · refine o_ifNo 13 X0 hx rfl (hb hby d1_10) (feq hc10_1).1 ?_
    refine o_bipush 15 X0 hx rfl (hb hby d1_13) (48 : Int32) rfl ?_
    refine o_iloadN 16 X0 hx rfl (hb hby d1_15) rfl ?_
    refine o_iconst 17 X0 hx rfl (hb hby d1_16) (1 : Int32) rfl ?_
    refine o_iushr 18 X0 hx rfl (hb hby d1_17) ?_
    refine o_bipush 20 X0 hx rfl (hb hby d1_18) (15 : Int32) rfl ?_
    refine o_iand 21 X0 hx rfl (hb hby d1_20) ?_
    refine o_bipush 23 X0 hx rfl (hb hby d1_21) (10 : Int32) rfl ?_
    refine o_irem 24 X0 hx rfl (hb hby d1_23) (by decide) ?_
    refine o_iadd 25 X0 hx rfl (hb hby d1_24) ?_
    refine o_i2c 26 X0 hx rfl (hb hby d1_25) ?_
    refine o_retN X0 hx .char (by simp) hret hlk (hb hby d1_26) (by decide) (by decide) ?_
    exact ⟨show some (Value.int (nar .char (((48 : Int32) + ((((((q0 &&& (2097151 : Int64)).toInt32).toUInt32 >>> ((1 : Int32) &&& 31).toUInt32).toInt32) &&& (15 : Int32)) % (10 : Int32))).toUInt32.toUInt16.toUInt32.toInt32))) = some (Value.int (fn1 q0)) from by rw [show (fn1 q0) = (nar .char (((48 : Int32) + ((((((q0 &&& (2097151 : Int64)).toInt32).toUInt32 >>> ((1 : Int32) &&& 31).toUInt32).toInt32) &&& (15 : Int32)) % (10 : Int32))).toUInt32.toUInt16.toUInt32.toInt32)) from by unfold fn1; simp only [if_neg hc10_1]], rfl, e0⟩
theorem ef_2 (m : MethodId) (y0 : Int32) (y1 : Int32) : entryFrame m #[(.int y0), (.int y1)] 2 = mkF m 0 #[.val (.int y0), .val (.int y1)] [] := by first | (simp [entryFrame, mkF, argsToLocals, Value.category]; done) | rfl
def f2_10_s0 (i0 : Int32) (i1 : Int32) : Int32 := (if i1 < i0 then i1 else i0)
def fn2 (i0 : Int32) (i1 : Int32) : Int32 := (f2_10_s0 i0 i1)
set_option maxRecDepth 65536 in
set_option maxHeartbeats 40000000 in
theorem rm2 (l : Launch) (Z : State) (a0 : Array Value) (hw : ∀ d ∈ tables_1, d.before a0 Z = true) (i0 : Int32) (i1 : Int32) (h0 : Heap) : MetP l (⟨"java/lang/Math", "min", "(II)I"⟩ : MethodName) jdk_29_method_69_code 2 (some .int) [] ({ frames := 0, cells := 0, slots := 0, locals := 0 } : Room) Z #[(.int i0), (.int i1)] h0 (Pure (.int (fn2 i0 i1)) h0) := by
  refine met_go pn_2 ?_
  intro p e s m below meth c s₁ hx hby hml hown hnm hret hlk hZ e0 X0
  rw [ef_2 m i0 i1]
  refine o_iloadN 1 X0 hx rfl (hb hby d2_0) rfl ?_
  refine o_iloadN 2 X0 hx rfl (hb hby d2_1) rfl ?_
  suffices j10_1 : Go p.tables e below (EndE s ({ frames := 0, cells := 0, slots := 0, locals := 0 } : Room) (Pure (.int (fn2 i0 i1)) h0)) (s₁.setTop (mkF m 10 #[.val (.int i0), .val (.int i1)] [(.int (f2_10_s0 i0 i1))])) by
    by_cases hc2_2 : i1 < i0
    · refine o_icmpYes 9 X0 hx (hb hby d2_2) (tlt hc2_2).2.2.1 (by decide) (by decide) ?_
      refine o_iloadN 10 X0 hx rfl (hb hby d2_9) rfl ?_
      rw [show (f2_10_s0 i0 i1) = i1 from by unfold f2_10_s0; simp only [if_pos hc2_2]] at j10_1
      exact j10_1
    · refine o_icmpNo 5 X0 hx rfl (hb hby d2_2) (flt hc2_2).2.2.1 ?_
      refine o_iloadN 6 X0 hx rfl (hb hby d2_5) rfl ?_
      refine o_goto 10 X0 hx (hb hby d2_6) (by decide) (by decide) ?_
      rw [show (f2_10_s0 i0 i1) = i0 from by unfold f2_10_s0; simp only [if_neg hc2_2]] at j10_1
      exact j10_1
  refine o_retI X0 hx hret hlk (hb hby d2_10) (by decide) (by decide) ?_
  exact ⟨show some (Value.int (f2_10_s0 i0 i1)) = some (Value.int (fn2 i0 i1)) from by rw [show (fn2 i0 i1) = (f2_10_s0 i0 i1) from by rfl], rfl, e0⟩
theorem ef_3 (m : MethodId) (y0 : Int32) (y1 : Int32) : entryFrame m #[(.int y0), (.int y1)] 2 = mkF m 0 #[.val (.int y0), .val (.int y1)] [] := by first | (simp [entryFrame, mkF, argsToLocals, Value.category]; done) | rfl
def f3_10_s0 (i0 : Int32) (i1 : Int32) : Int32 := (if i0 < i1 then i1 else i0)
def fn3 (i0 : Int32) (i1 : Int32) : Int32 := (f3_10_s0 i0 i1)
set_option maxRecDepth 65536 in
set_option maxHeartbeats 40000000 in
theorem rm3 (l : Launch) (Z : State) (a0 : Array Value) (hw : ∀ d ∈ tables_1, d.before a0 Z = true) (i0 : Int32) (i1 : Int32) (h0 : Heap) : MetP l (⟨"java/lang/Math", "max", "(II)I"⟩ : MethodName) jdk_29_method_65_code 2 (some .int) [] ({ frames := 0, cells := 0, slots := 0, locals := 0 } : Room) Z #[(.int i0), (.int i1)] h0 (Pure (.int (fn3 i0 i1)) h0) := by
  refine met_go pn_3 ?_
  intro p e s m below meth c s₁ hx hby hml hown hnm hret hlk hZ e0 X0
  rw [ef_3 m i0 i1]
  refine o_iloadN 1 X0 hx rfl (hb hby d3_0) rfl ?_
  refine o_iloadN 2 X0 hx rfl (hb hby d3_1) rfl ?_
  suffices j10_1 : Go p.tables e below (EndE s ({ frames := 0, cells := 0, slots := 0, locals := 0 } : Room) (Pure (.int (fn3 i0 i1)) h0)) (s₁.setTop (mkF m 10 #[.val (.int i0), .val (.int i1)] [(.int (f3_10_s0 i0 i1))])) by
    by_cases hc2_2 : i0 < i1
    · refine o_icmpYes 9 X0 hx (hb hby d3_2) (tlt hc2_2).1 (by decide) (by decide) ?_
      refine o_iloadN 10 X0 hx rfl (hb hby d3_9) rfl ?_
      rw [show (f3_10_s0 i0 i1) = i1 from by unfold f3_10_s0; simp only [if_pos hc2_2]] at j10_1
      exact j10_1
    · refine o_icmpNo 5 X0 hx rfl (hb hby d3_2) (flt hc2_2).1 ?_
      refine o_iloadN 6 X0 hx rfl (hb hby d3_5) rfl ?_
      refine o_goto 10 X0 hx (hb hby d3_6) (by decide) (by decide) ?_
      rw [show (f3_10_s0 i0 i1) = i0 from by unfold f3_10_s0; simp only [if_neg hc2_2]] at j10_1
      exact j10_1
  refine o_retI X0 hx hret hlk (hb hby d3_10) (by decide) (by decide) ?_
  exact ⟨show some (Value.int (f3_10_s0 i0 i1)) = some (Value.int (fn3 i0 i1)) from by rw [show (fn3 i0 i1) = (f3_10_s0 i0 i1) from by rfl], rfl, e0⟩
def own_dg (xs : List Int32) : Nat → Nat → Int64 → Int64
  | _, 0, v => v
  | i, k + 1, v => if xs.getD i 0 < (48 : Int32) then -1 else if (57 : Int32) < xs.getD i 0 then -1 else own_dg xs (i + 1) k (v * (10 : Int64) + (xs.getD i 0 - (48 : Int32)).toInt64)
theorem ef_7 (m : MethodId) (y0 : Addr) (y1 : Int32) (y2 : Int32) : entryFrame m #[(.ref y0), (.int y1), (.int y2)] 7 = mkF m 0 #[.val (.ref y0), .val (.int y1), .val (.int y2), .unset, .unset, .unset, .unset] [] := by first | (simp [entryFrame, mkF, argsToLocals, Value.category]; done) | rfl
set_option maxRecDepth 65536 in
set_option maxHeartbeats 40000000 in
theorem rm7 (l : Launch) (Z : State) (a0 : Array Value) (hw : ∀ d ∈ tables_1, d.before a0 Z = true) (r0 : Addr) (ka : ClassId) (A C N : Nat) (xs : List Int32) (h0 : Heap) (hN : N < 2147483648) (hAC : A + C ≤ N) (A0 : Arv Z h0 r0 ka .char (Int32.ofNat N) (xs.map Value.int) (.int 0)) : MetP l (⟨"com/example/planbook/planbook/files/Decimals", "digits", "([CII)J"⟩ : MethodName) prog_94_method_4_code 7 (some .long) [] ({ frames := 0, cells := 0, slots := 0, locals := 0 } : Room) Z #[(.ref r0), (.int (Int32.ofNat A)), (.int (Int32.ofNat C))] h0 (Pure (.long (own_dg xs A C 0)) h0) := by
  refine met_go pn_7 ?_
  intro p e s m below meth c s₁ hx hby hml hown hnm hret hlk hZ e0 X0
  rw [ef_7 m r0 (Int32.ofNat A) (Int32.ofNat C)]
  refine o_lconst 1 X0 hx rfl (hb hby d7_0) (0 : Int64) rfl ?_
  refine o_lstoreN 2 X0 hx rfl (hb hby d7_1) #[.val (.ref r0), .val (.int (Int32.ofNat A)), .val (.int (Int32.ofNat C)), .val (.long (0 : Int64)), .second, .unset, .unset] rfl ?_
  refine o_iloadN 3 X0 hx rfl (hb hby d7_2) rfl ?_
  refine o_istore 5 X0 hx rfl (hb hby d7_3) #[.val (.ref r0), .val (.int (Int32.ofNat A)), .val (.int (Int32.ofNat C)), .val (.long (0 : Int64)), .second, .val (.int (Int32.ofNat A)), .unset] rfl ?_
  suffices loop : ∀ (k i : Nat) (v : Int64) (s6 : Slot), One s6 → i + k = A + C → own_dg xs i k v = own_dg xs A C 0 → Go p.tables e below (EndE s ({ frames := 0, cells := 0, slots := 0, locals := 0 } : Room) (Pure (.long (own_dg xs A C 0)) h0)) (s₁.setTop (mkF m 5 #[.val (.ref r0), .val (.int (Int32.ofNat A)), .val (.int (Int32.ofNat C)), .val (.long v), .second, .val (.int (Int32.ofNat i)), s6] [])) by
    exact loop C A 0 .unset One.u rfl rfl
  intro k
  induction k with
  | zero =>
    intro i v s6 hs6 hi hval
    have hi' : i = A + C := by omega
    subst hi'
    refine o_iload 7 X0 hx rfl (hb hby d7_5) rfl ?_
    refine o_iloadN 8 X0 hx rfl (hb hby d7_7) rfl ?_
    refine o_iloadN 9 X0 hx rfl (hb hby d7_8) rfl ?_
    refine o_iadd 10 X0 hx rfl (hb hby d7_9) ?_
    refine o_icmpYes 56 X0 hx (hb hby d7_10) (flt (by rw [← Int32.ofNat_add]; exact Int32.lt_irrefl)).2.1 (by decide) (by decide) ?_
    refine o_lloadN 57 X0 hx rfl (hb hby d7_56) rfl ?_
    refine o_retJ X0 hx hret hlk (hb hby d7_57) (by decide) (by decide) ?_
    exact ⟨by rw [← hval]; rfl, rfl, e0⟩
  | succ k ih =>
    intro i v s6 hs6 hi hval
    have hiN : i < N := by omega
    have hi2 : i < 2147483648 := by omega
    refine o_iload 7 X0 hx rfl (hb hby d7_5) rfl ?_
    refine o_iloadN 8 X0 hx rfl (hb hby d7_7) rfl ?_
    refine o_iloadN 9 X0 hx rfl (hb hby d7_8) rfl ?_
    refine o_iadd 10 X0 hx rfl (hb hby d7_9) ?_
    refine o_icmpNo 13 X0 hx rfl (hb hby d7_10) (tlt (by rw [← Int32.ofNat_add]; exact own_lt (by omega) (by omega))).2.1 ?_
    obtain ⟨y, hy⟩ : ∃ y, xs.getD i 0 = y := ⟨_, rfl⟩
    refine o_aloadN 14 X0 hx rfl (hb hby d7_13) rfl rfl ?_
    refine o_iload 16 X0 hx rfl (hb hby d7_14) rfl ?_
    refine o_caloadX 17 X0 hx rfl hZ e0 A0 ⟨own_nn hi2, own_lt hiN hN⟩ (hb hby d7_16) y (by rw [own_n32 hi2]; exact hy) ?_
    refine o_istore 19 X0 hx rfl (hb hby d7_17) #[.val (.ref r0), .val (.int (Int32.ofNat A)), .val (.int (Int32.ofNat C)), .val (.long v), .second, .val (.int (Int32.ofNat i)), .val (.int y)] (XS.store1 rfl hs6 rfl) ?_
    refine o_iload 21 X0 hx rfl (hb hby d7_19) rfl ?_
    refine o_bipush 23 X0 hx rfl (hb hby d7_21) (48 : Int32) rfl ?_
    by_cases h1 : y < (48 : Int32)
    · refine o_icmpYes 33 X0 hx (hb hby d7_23) (tlt h1).1 (by decide) (by decide) ?_
      refine o_ldc2Long 36 X0 hx rfl hZ hown (wd_49 hw) (hb hby d7_33) ?_
      refine o_retJ X0 hx hret hlk (hb hby d7_36) (by decide) (by decide) ?_
      exact ⟨by rw [← hval, own_dg, hy, if_pos h1], rfl, e0⟩
    · refine o_icmpNo 26 X0 hx rfl (hb hby d7_23) (flt h1).1 ?_
      refine o_iload 28 X0 hx rfl (hb hby d7_26) rfl ?_
      refine o_bipush 30 X0 hx rfl (hb hby d7_28) (57 : Int32) rfl ?_
      by_cases h2 : (57 : Int32) < y
      · refine o_icmpNo 33 X0 hx rfl (hb hby d7_30) (tlt h2).2.2.2 ?_
        refine o_ldc2Long 36 X0 hx rfl hZ hown (wd_49 hw) (hb hby d7_33) ?_
        refine o_retJ X0 hx hret hlk (hb hby d7_36) (by decide) (by decide) ?_
        exact ⟨by rw [← hval, own_dg, hy, if_neg h1, if_pos h2], rfl, e0⟩
      · refine o_icmpYes 37 X0 hx (hb hby d7_30) (flt h2).2.2.2 (by decide) (by decide) ?_
        refine o_lloadN 38 X0 hx rfl (hb hby d7_37) rfl ?_
        refine o_ldc2Long 41 X0 hx rfl hZ hown (wd_47 hw) (hb hby d7_38) ?_
        refine o_lmul 42 X0 hx rfl (hb hby d7_41) ?_
        refine o_iload 44 X0 hx rfl (hb hby d7_42) rfl ?_
        refine o_bipush 46 X0 hx rfl (hb hby d7_44) (48 : Int32) rfl ?_
        refine o_isub 47 X0 hx rfl (hb hby d7_46) ?_
        refine o_i2l 48 X0 hx rfl (hb hby d7_47) ?_
        refine o_ladd 49 X0 hx rfl (hb hby d7_48) ?_
        refine o_lstoreN 50 X0 hx rfl (hb hby d7_49) #[.val (.ref r0), .val (.int (Int32.ofNat A)), .val (.int (Int32.ofNat C)), .val (.long ((v * (10 : Int64)) + ((y - (48 : Int32)).toInt64))), .second, .val (.int (Int32.ofNat i)), .val (.int y)] rfl ?_
        refine o_iinc 53 X0 hx rfl (hb hby d7_50) (1 : Int32) rfl rfl #[.val (.ref r0), .val (.int (Int32.ofNat A)), .val (.int (Int32.ofNat C)), .val (.long ((v * (10 : Int64)) + ((y - (48 : Int32)).toInt64))), .second, .val (.int ((Int32.ofNat i) + (1 : Int32))), .val (.int y)] rfl ?_
        refine o_goto 5 X0 hx (hb hby d7_53) (by decide) (by decide) ?_
        rw [own_one]
        exact ih (i + 1) _ _ (One.val rfl) (by omega) (by rw [← hval, own_dg, hy, if_neg h1, if_neg h2])
theorem ef_4 (m : MethodId) (y0 : Addr) (y1 : Int32) (y2 : Int32) (y3 : Int32) : entryFrame m #[(.ref y0), (.int y1), (.int y2), (.int y3)] 4 = mkF m 0 #[.val (.ref y0), .val (.int y1), .val (.int y2), .val (.int y3)] [] := by first | (simp [entryFrame, mkF, argsToLocals, Value.category]; done) | rfl
def f4_31_s0 (i1 : Int32) (i2 : Int32) (i3 : Int32) (xs : List Int32) : Int32 := (if i1 < i2 then (0 : Int32) else (if i1 < i3 then (if (xs.getD i1.toNatClampNeg 0) < (48 : Int32) then (1 : Int32) else (if (57 : Int32) < (xs.getD i1.toNatClampNeg 0) then (1 : Int32) else (0 : Int32))) else (0 : Int32)))
def fn4 (i1 : Int32) (i2 : Int32) (i3 : Int32) (xs : List Int32) : Int32 := (nar .boolean (f4_31_s0 i1 i2 i3 xs))
set_option maxRecDepth 65536 in
set_option maxHeartbeats 40000000 in
theorem rm4 (l : Launch) (Z : State) (a0 : Array Value) (hw : ∀ d ∈ tables_1, d.before a0 Z = true) (r0 : Addr) (i1 : Int32) (i2 : Int32) (i3 : Int32) (kxs : ClassId) (xs : List Int32) (h0 : Heap) (Axs : Arv Z h0 r0 kxs .char (18 : Int32) (xs.map Value.int) (.int 0)) (hi : ¬ i1 < 0 ∧ i1 < (18 : Int32)) : MetP l (⟨"com/example/planbook/planbook/files/DecimalsDigitsPinLaw", "nonDigitAt", "([CIII)Z"⟩ : MethodName) method_4_code 4 (some .boolean) [] ({ frames := 0, cells := 0, slots := 0, locals := 0 } : Room) Z #[(.ref r0), (.int i1), (.int i2), (.int i3)] h0 (Pure (.int (fn4 i1 i2 i3 xs)) h0) := by
  refine met_go pn_4 ?_
  intro p e s m below meth c s₁ hx hby hml hown hnm hret hlk hZ e0 X0
  rw [ef_4 m r0 i1 i2 i3]
  refine o_iloadN 1 X0 hx rfl (hb hby d4_0) rfl ?_
  refine o_iloadN 2 X0 hx rfl (hb hby d4_1) rfl ?_
  suffices j31_1 : Go p.tables e below (EndE s ({ frames := 0, cells := 0, slots := 0, locals := 0 } : Room) (Pure (.int (fn4 i1 i2 i3 xs)) h0)) (s₁.setTop (mkF m 31 #[.val (.ref r0), .val (.int i1), .val (.int i2), .val (.int i3)] [(.int (f4_31_s0 i1 i2 i3 xs))])) by
    by_cases hc2_2 : i1 < i2
    · refine o_icmpYes 30 X0 hx (hb hby d4_2) (tlt hc2_2).1 (by decide) (by decide) ?_
      refine o_iconst 31 X0 hx rfl (hb hby d4_30) (0 : Int32) rfl ?_
      rw [show (f4_31_s0 i1 i2 i3 xs) = (0 : Int32) from by unfold f4_31_s0; simp only [if_pos hc2_2]] at j31_1
      exact j31_1
    · refine o_icmpNo 5 X0 hx rfl (hb hby d4_2) (flt hc2_2).1 ?_
      refine o_iloadN 6 X0 hx rfl (hb hby d4_5) rfl ?_
      refine o_iloadN 7 X0 hx rfl (hb hby d4_6) rfl ?_
      by_cases hc7_3 : i1 < i3
      · refine o_icmpNo 10 X0 hx rfl (hb hby d4_7) (tlt hc7_3).2.1 ?_
        refine o_aloadN 11 X0 hx rfl (hb hby d4_10) rfl rfl ?_
        refine o_iloadN 12 X0 hx rfl (hb hby d4_11) rfl ?_
        refine o_caloadX 13 X0 hx rfl hZ e0 Axs hi (hb hby d4_12) (xs.getD i1.toNatClampNeg 0) rfl ?_
        refine o_bipush 15 X0 hx rfl (hb hby d4_13) (48 : Int32) rfl ?_
        by_cases hc15_4 : (xs.getD i1.toNatClampNeg 0) < (48 : Int32)
        · refine o_icmpYes 26 X0 hx (hb hby d4_15) (tlt hc15_4).1 (by decide) (by decide) ?_
          refine o_iconst 27 X0 hx rfl (hb hby d4_26) (1 : Int32) rfl ?_
          refine o_goto 31 X0 hx (hb hby d4_27) (by decide) (by decide) ?_
          rw [show (f4_31_s0 i1 i2 i3 xs) = (1 : Int32) from by unfold f4_31_s0; simp only [if_neg hc2_2, if_pos hc7_3, if_pos hc15_4]] at j31_1
          exact j31_1
        · refine o_icmpNo 18 X0 hx rfl (hb hby d4_15) (flt hc15_4).1 ?_
          refine o_aloadN 19 X0 hx rfl (hb hby d4_18) rfl rfl ?_
          refine o_iloadN 20 X0 hx rfl (hb hby d4_19) rfl ?_
          refine o_caloadX 21 X0 hx rfl hZ e0 Axs hi (hb hby d4_20) (xs.getD i1.toNatClampNeg 0) rfl ?_
          refine o_bipush 23 X0 hx rfl (hb hby d4_21) (57 : Int32) rfl ?_
          by_cases hc23_5 : (57 : Int32) < (xs.getD i1.toNatClampNeg 0)
          · refine o_icmpNo 26 X0 hx rfl (hb hby d4_23) (tlt hc23_5).2.2.2 ?_
            refine o_iconst 27 X0 hx rfl (hb hby d4_26) (1 : Int32) rfl ?_
            refine o_goto 31 X0 hx (hb hby d4_27) (by decide) (by decide) ?_
            rw [show (f4_31_s0 i1 i2 i3 xs) = (1 : Int32) from by unfold f4_31_s0; simp only [if_neg hc2_2, if_pos hc7_3, if_neg hc15_4, if_pos hc23_5]] at j31_1
            exact j31_1
          · refine o_icmpYes 30 X0 hx (hb hby d4_23) (flt hc23_5).2.2.2 (by decide) (by decide) ?_
            refine o_iconst 31 X0 hx rfl (hb hby d4_30) (0 : Int32) rfl ?_
            rw [show (f4_31_s0 i1 i2 i3 xs) = (0 : Int32) from by unfold f4_31_s0; simp only [if_neg hc2_2, if_pos hc7_3, if_neg hc15_4, if_neg hc23_5]] at j31_1
            exact j31_1
      · refine o_icmpYes 30 X0 hx (hb hby d4_7) (flt hc7_3).2.1 (by decide) (by decide) ?_
        refine o_iconst 31 X0 hx rfl (hb hby d4_30) (0 : Int32) rfl ?_
        rw [show (f4_31_s0 i1 i2 i3 xs) = (0 : Int32) from by unfold f4_31_s0; simp only [if_neg hc2_2, if_neg hc7_3]] at j31_1
        exact j31_1
  refine o_retN X0 hx .boolean (by simp) hret hlk (hb hby d4_31) (by decide) (by decide) ?_
  exact ⟨show some (Value.int (nar .boolean (f4_31_s0 i1 i2 i3 xs))) = some (Value.int (fn4 i1 i2 i3 xs)) from by rw [show (fn4 i1 i2 i3 xs) = (nar .boolean (f4_31_s0 i1 i2 i3 xs)) from by rfl], rfl, e0⟩
theorem ef_6 (m : MethodId) (y0 : Int32) : entryFrame m #[(.int y0)] 2 = mkF m 0 #[.val (.int y0), .unset] [] := by first | (simp [entryFrame, mkF, argsToLocals, Value.category]; done) | rfl
set_option maxRecDepth 65536 in
set_option maxHeartbeats 40000000 in
theorem rm6 (l : Launch) (Z : State) (a0 : Array Value) (hw : ∀ d ∈ tables_1, d.before a0 Z = true) (i0 : Int32) (h0 : Heap) (n0 : Nat) (Z0 : n0 ≤ h0.size) (hi : ¬ i0 < 0 ∧ i0 < (19 : Int32)) : MetP l (⟨"com/example/planbook/planbook/files/DecimalsDigitsPinLaw", "pow10", "(I)J"⟩ : MethodName) method_6_code 2 (some .long) [] ({ frames := 0, cells := 1, slots := 19, locals := 0 } : Room) Z #[(.int i0)] h0 (fun v h L => v = some (.long (own_ps.getD i0.toNatClampNeg 0)) ∧ Fr n0 L ∧ Keep h0 h []) := by
  refine met_go pn_6 ?_
  intro p e s m below meth c s₁ hx hby hml hown hnm hret hlk hZ e0 X0
  have N0 := Fr.nil n0
  have K0 : Keep h0 h0 [] := Keep.refl _ _
  rw [ef_6 m i0]
  refine o_bipush 2 X0 hx rfl (hb hby d6_0) (19 : Int32) rfl ?_
  refine o_newarrJ 4 X0 hx rfl hZ .long .long rfl rfl (wd_23 hw) e0 (hb hby d6_2) (by decide) 19 (by decide) (by decide) (by decide) (by decide) [(0 : Int64), (0 : Int64), (0 : Int64), (0 : Int64), (0 : Int64), (0 : Int64), (0 : Int64), (0 : Int64), (0 : Int64), (0 : Int64), (0 : Int64), (0 : Int64), (0 : Int64), (0 : Int64), (0 : Int64), (0 : Int64), (0 : Int64), (0 : Int64), (0 : Int64)] rfl fun T1 h1 a1 k1 g1 X1 e1 E1 A1 => ?_
  have gz2 : h0.size ≤ a1 := Nat.le_trans K0.1 (Nat.le_of_eq g1.symm)
  have ge3 : n0 ≤ a1 := Nat.le_trans Z0 (Nat.le_of_eq g1.symm)
  have sz4 : n0 ≤ h1.size := Nat.le_trans Z0 E1.1
  have K5 : Keep h0 h1 [] := K0.ext E1
  refine o_dup 5 X1 hx rfl (hb hby d6_4) rfl ?_
  refine o_iconst 6 X1 hx rfl (hb hby d6_5) (0 : Int32) rfl ?_
  refine o_lconst 7 X1 hx rfl (hb hby d6_6) (1 : Int64) rfl ?_
  refine o_lastoreX 8 X1 hx rfl hZ e1 A1 (by decide) (Nat.le_of_ble_eq_true rfl) [(1 : Int64), (0 : Int64), (0 : Int64), (0 : Int64), (0 : Int64), (0 : Int64), (0 : Int64), (0 : Int64), (0 : Int64), (0 : Int64), (0 : Int64), (0 : Int64), (0 : Int64), (0 : Int64), (0 : Int64), (0 : Int64), (0 : Int64), (0 : Int64), (0 : Int64)] rfl N0 ge3 (hb hby d6_7) fun T6 h6 L6 X6 N6 e6 W6 A6 => ?_
  have sz7 : n0 ≤ h6.size := Nat.le_trans sz4 (Keep.of_wr W6).1
  have K8 : Keep h0 h6 [] := K5.wr W6 (Or.inr gz2)
  refine o_dup 9 X6 hx rfl (hb hby d6_8) rfl ?_
  refine o_iconst 10 X6 hx rfl (hb hby d6_9) (1 : Int32) rfl ?_
  refine o_ldc2Long 13 X6 hx rfl hZ hown (wd_24 hw) (hb hby d6_10) ?_
  refine o_lastoreX 14 X6 hx rfl hZ e6 A6 (by decide) (Nat.le_of_ble_eq_true rfl) [(1 : Int64), (10 : Int64), (0 : Int64), (0 : Int64), (0 : Int64), (0 : Int64), (0 : Int64), (0 : Int64), (0 : Int64), (0 : Int64), (0 : Int64), (0 : Int64), (0 : Int64), (0 : Int64), (0 : Int64), (0 : Int64), (0 : Int64), (0 : Int64), (0 : Int64)] rfl N6 ge3 (hb hby d6_13) fun T9 h9 L9 X9 N9 e9 W9 A9 => ?_
  have sz10 : n0 ≤ h9.size := Nat.le_trans sz7 (Keep.of_wr W9).1
  have K11 : Keep h0 h9 [] := K8.wr W9 (Or.inr gz2)
  refine o_dup 15 X9 hx rfl (hb hby d6_14) rfl ?_
  refine o_iconst 16 X9 hx rfl (hb hby d6_15) (2 : Int32) rfl ?_
  refine o_ldc2Long 19 X9 hx rfl hZ hown (wd_25 hw) (hb hby d6_16) ?_
  refine o_lastoreX 20 X9 hx rfl hZ e9 A9 (by decide) (Nat.le_of_ble_eq_true rfl) [(1 : Int64), (10 : Int64), (100 : Int64), (0 : Int64), (0 : Int64), (0 : Int64), (0 : Int64), (0 : Int64), (0 : Int64), (0 : Int64), (0 : Int64), (0 : Int64), (0 : Int64), (0 : Int64), (0 : Int64), (0 : Int64), (0 : Int64), (0 : Int64), (0 : Int64)] rfl N9 ge3 (hb hby d6_19) fun T12 h12 L12 X12 N12 e12 W12 A12 => ?_
  have sz13 : n0 ≤ h12.size := Nat.le_trans sz10 (Keep.of_wr W12).1
  have K14 : Keep h0 h12 [] := K11.wr W12 (Or.inr gz2)
  refine o_dup 21 X12 hx rfl (hb hby d6_20) rfl ?_
  refine o_iconst 22 X12 hx rfl (hb hby d6_21) (3 : Int32) rfl ?_
  refine o_ldc2Long 25 X12 hx rfl hZ hown (wd_26 hw) (hb hby d6_22) ?_
  refine o_lastoreX 26 X12 hx rfl hZ e12 A12 (by decide) (Nat.le_of_ble_eq_true rfl) [(1 : Int64), (10 : Int64), (100 : Int64), (1000 : Int64), (0 : Int64), (0 : Int64), (0 : Int64), (0 : Int64), (0 : Int64), (0 : Int64), (0 : Int64), (0 : Int64), (0 : Int64), (0 : Int64), (0 : Int64), (0 : Int64), (0 : Int64), (0 : Int64), (0 : Int64)] rfl N12 ge3 (hb hby d6_25) fun T15 h15 L15 X15 N15 e15 W15 A15 => ?_
  have sz16 : n0 ≤ h15.size := Nat.le_trans sz13 (Keep.of_wr W15).1
  have K17 : Keep h0 h15 [] := K14.wr W15 (Or.inr gz2)
  refine o_dup 27 X15 hx rfl (hb hby d6_26) rfl ?_
  refine o_iconst 28 X15 hx rfl (hb hby d6_27) (4 : Int32) rfl ?_
  refine o_ldc2Long 31 X15 hx rfl hZ hown (wd_27 hw) (hb hby d6_28) ?_
  refine o_lastoreX 32 X15 hx rfl hZ e15 A15 (by decide) (Nat.le_of_ble_eq_true rfl) [(1 : Int64), (10 : Int64), (100 : Int64), (1000 : Int64), (10000 : Int64), (0 : Int64), (0 : Int64), (0 : Int64), (0 : Int64), (0 : Int64), (0 : Int64), (0 : Int64), (0 : Int64), (0 : Int64), (0 : Int64), (0 : Int64), (0 : Int64), (0 : Int64), (0 : Int64)] rfl N15 ge3 (hb hby d6_31) fun T18 h18 L18 X18 N18 e18 W18 A18 => ?_
  have sz19 : n0 ≤ h18.size := Nat.le_trans sz16 (Keep.of_wr W18).1
  have K20 : Keep h0 h18 [] := K17.wr W18 (Or.inr gz2)
  refine o_dup 33 X18 hx rfl (hb hby d6_32) rfl ?_
  refine o_iconst 34 X18 hx rfl (hb hby d6_33) (5 : Int32) rfl ?_
  refine o_ldc2Long 37 X18 hx rfl hZ hown (wd_28 hw) (hb hby d6_34) ?_
  refine o_lastoreX 38 X18 hx rfl hZ e18 A18 (by decide) (Nat.le_of_ble_eq_true rfl) [(1 : Int64), (10 : Int64), (100 : Int64), (1000 : Int64), (10000 : Int64), (100000 : Int64), (0 : Int64), (0 : Int64), (0 : Int64), (0 : Int64), (0 : Int64), (0 : Int64), (0 : Int64), (0 : Int64), (0 : Int64), (0 : Int64), (0 : Int64), (0 : Int64), (0 : Int64)] rfl N18 ge3 (hb hby d6_37) fun T21 h21 L21 X21 N21 e21 W21 A21 => ?_
  have sz22 : n0 ≤ h21.size := Nat.le_trans sz19 (Keep.of_wr W21).1
  have K23 : Keep h0 h21 [] := K20.wr W21 (Or.inr gz2)
  refine o_dup 39 X21 hx rfl (hb hby d6_38) rfl ?_
  refine o_bipush 41 X21 hx rfl (hb hby d6_39) (6 : Int32) rfl ?_
  refine o_ldc2Long 44 X21 hx rfl hZ hown (wd_29 hw) (hb hby d6_41) ?_
  refine o_lastoreX 45 X21 hx rfl hZ e21 A21 (by decide) (Nat.le_of_ble_eq_true rfl) [(1 : Int64), (10 : Int64), (100 : Int64), (1000 : Int64), (10000 : Int64), (100000 : Int64), (1000000 : Int64), (0 : Int64), (0 : Int64), (0 : Int64), (0 : Int64), (0 : Int64), (0 : Int64), (0 : Int64), (0 : Int64), (0 : Int64), (0 : Int64), (0 : Int64), (0 : Int64)] rfl N21 ge3 (hb hby d6_44) fun T24 h24 L24 X24 N24 e24 W24 A24 => ?_
  have sz25 : n0 ≤ h24.size := Nat.le_trans sz22 (Keep.of_wr W24).1
  have K26 : Keep h0 h24 [] := K23.wr W24 (Or.inr gz2)
  refine o_dup 46 X24 hx rfl (hb hby d6_45) rfl ?_
  refine o_bipush 48 X24 hx rfl (hb hby d6_46) (7 : Int32) rfl ?_
  refine o_ldc2Long 51 X24 hx rfl hZ hown (wd_30 hw) (hb hby d6_48) ?_
  refine o_lastoreX 52 X24 hx rfl hZ e24 A24 (by decide) (Nat.le_of_ble_eq_true rfl) [(1 : Int64), (10 : Int64), (100 : Int64), (1000 : Int64), (10000 : Int64), (100000 : Int64), (1000000 : Int64), (10000000 : Int64), (0 : Int64), (0 : Int64), (0 : Int64), (0 : Int64), (0 : Int64), (0 : Int64), (0 : Int64), (0 : Int64), (0 : Int64), (0 : Int64), (0 : Int64)] rfl N24 ge3 (hb hby d6_51) fun T27 h27 L27 X27 N27 e27 W27 A27 => ?_
  have sz28 : n0 ≤ h27.size := Nat.le_trans sz25 (Keep.of_wr W27).1
  have K29 : Keep h0 h27 [] := K26.wr W27 (Or.inr gz2)
  refine o_dup 53 X27 hx rfl (hb hby d6_52) rfl ?_
  refine o_bipush 55 X27 hx rfl (hb hby d6_53) (8 : Int32) rfl ?_
  refine o_ldc2Long 58 X27 hx rfl hZ hown (wd_31 hw) (hb hby d6_55) ?_
  refine o_lastoreX 59 X27 hx rfl hZ e27 A27 (by decide) (Nat.le_of_ble_eq_true rfl) [(1 : Int64), (10 : Int64), (100 : Int64), (1000 : Int64), (10000 : Int64), (100000 : Int64), (1000000 : Int64), (10000000 : Int64), (100000000 : Int64), (0 : Int64), (0 : Int64), (0 : Int64), (0 : Int64), (0 : Int64), (0 : Int64), (0 : Int64), (0 : Int64), (0 : Int64), (0 : Int64)] rfl N27 ge3 (hb hby d6_58) fun T30 h30 L30 X30 N30 e30 W30 A30 => ?_
  have sz31 : n0 ≤ h30.size := Nat.le_trans sz28 (Keep.of_wr W30).1
  have K32 : Keep h0 h30 [] := K29.wr W30 (Or.inr gz2)
  refine o_dup 60 X30 hx rfl (hb hby d6_59) rfl ?_
  refine o_bipush 62 X30 hx rfl (hb hby d6_60) (9 : Int32) rfl ?_
  refine o_ldc2Long 65 X30 hx rfl hZ hown (wd_32 hw) (hb hby d6_62) ?_
  refine o_lastoreX 66 X30 hx rfl hZ e30 A30 (by decide) (Nat.le_of_ble_eq_true rfl) [(1 : Int64), (10 : Int64), (100 : Int64), (1000 : Int64), (10000 : Int64), (100000 : Int64), (1000000 : Int64), (10000000 : Int64), (100000000 : Int64), (1000000000 : Int64), (0 : Int64), (0 : Int64), (0 : Int64), (0 : Int64), (0 : Int64), (0 : Int64), (0 : Int64), (0 : Int64), (0 : Int64)] rfl N30 ge3 (hb hby d6_65) fun T33 h33 L33 X33 N33 e33 W33 A33 => ?_
  have sz34 : n0 ≤ h33.size := Nat.le_trans sz31 (Keep.of_wr W33).1
  have K35 : Keep h0 h33 [] := K32.wr W33 (Or.inr gz2)
  refine o_dup 67 X33 hx rfl (hb hby d6_66) rfl ?_
  refine o_bipush 69 X33 hx rfl (hb hby d6_67) (10 : Int32) rfl ?_
  refine o_ldc2Long 72 X33 hx rfl hZ hown (wd_33 hw) (hb hby d6_69) ?_
  refine o_lastoreX 73 X33 hx rfl hZ e33 A33 (by decide) (Nat.le_of_ble_eq_true rfl) [(1 : Int64), (10 : Int64), (100 : Int64), (1000 : Int64), (10000 : Int64), (100000 : Int64), (1000000 : Int64), (10000000 : Int64), (100000000 : Int64), (1000000000 : Int64), (10000000000 : Int64), (0 : Int64), (0 : Int64), (0 : Int64), (0 : Int64), (0 : Int64), (0 : Int64), (0 : Int64), (0 : Int64)] rfl N33 ge3 (hb hby d6_72) fun T36 h36 L36 X36 N36 e36 W36 A36 => ?_
  have sz37 : n0 ≤ h36.size := Nat.le_trans sz34 (Keep.of_wr W36).1
  have K38 : Keep h0 h36 [] := K35.wr W36 (Or.inr gz2)
  refine o_dup 74 X36 hx rfl (hb hby d6_73) rfl ?_
  refine o_bipush 76 X36 hx rfl (hb hby d6_74) (11 : Int32) rfl ?_
  refine o_ldc2Long 79 X36 hx rfl hZ hown (wd_34 hw) (hb hby d6_76) ?_
  refine o_lastoreX 80 X36 hx rfl hZ e36 A36 (by decide) (Nat.le_of_ble_eq_true rfl) [(1 : Int64), (10 : Int64), (100 : Int64), (1000 : Int64), (10000 : Int64), (100000 : Int64), (1000000 : Int64), (10000000 : Int64), (100000000 : Int64), (1000000000 : Int64), (10000000000 : Int64), (100000000000 : Int64), (0 : Int64), (0 : Int64), (0 : Int64), (0 : Int64), (0 : Int64), (0 : Int64), (0 : Int64)] rfl N36 ge3 (hb hby d6_79) fun T39 h39 L39 X39 N39 e39 W39 A39 => ?_
  have sz40 : n0 ≤ h39.size := Nat.le_trans sz37 (Keep.of_wr W39).1
  have K41 : Keep h0 h39 [] := K38.wr W39 (Or.inr gz2)
  refine o_dup 81 X39 hx rfl (hb hby d6_80) rfl ?_
  refine o_bipush 83 X39 hx rfl (hb hby d6_81) (12 : Int32) rfl ?_
  refine o_ldc2Long 86 X39 hx rfl hZ hown (wd_35 hw) (hb hby d6_83) ?_
  refine o_lastoreX 87 X39 hx rfl hZ e39 A39 (by decide) (Nat.le_of_ble_eq_true rfl) [(1 : Int64), (10 : Int64), (100 : Int64), (1000 : Int64), (10000 : Int64), (100000 : Int64), (1000000 : Int64), (10000000 : Int64), (100000000 : Int64), (1000000000 : Int64), (10000000000 : Int64), (100000000000 : Int64), (1000000000000 : Int64), (0 : Int64), (0 : Int64), (0 : Int64), (0 : Int64), (0 : Int64), (0 : Int64)] rfl N39 ge3 (hb hby d6_86) fun T42 h42 L42 X42 N42 e42 W42 A42 => ?_
  have sz43 : n0 ≤ h42.size := Nat.le_trans sz40 (Keep.of_wr W42).1
  have K44 : Keep h0 h42 [] := K41.wr W42 (Or.inr gz2)
  refine o_dup 88 X42 hx rfl (hb hby d6_87) rfl ?_
  refine o_bipush 90 X42 hx rfl (hb hby d6_88) (13 : Int32) rfl ?_
  refine o_ldc2Long 93 X42 hx rfl hZ hown (wd_36 hw) (hb hby d6_90) ?_
  refine o_lastoreX 94 X42 hx rfl hZ e42 A42 (by decide) (Nat.le_of_ble_eq_true rfl) [(1 : Int64), (10 : Int64), (100 : Int64), (1000 : Int64), (10000 : Int64), (100000 : Int64), (1000000 : Int64), (10000000 : Int64), (100000000 : Int64), (1000000000 : Int64), (10000000000 : Int64), (100000000000 : Int64), (1000000000000 : Int64), (10000000000000 : Int64), (0 : Int64), (0 : Int64), (0 : Int64), (0 : Int64), (0 : Int64)] rfl N42 ge3 (hb hby d6_93) fun T45 h45 L45 X45 N45 e45 W45 A45 => ?_
  have sz46 : n0 ≤ h45.size := Nat.le_trans sz43 (Keep.of_wr W45).1
  have K47 : Keep h0 h45 [] := K44.wr W45 (Or.inr gz2)
  refine o_dup 95 X45 hx rfl (hb hby d6_94) rfl ?_
  refine o_bipush 97 X45 hx rfl (hb hby d6_95) (14 : Int32) rfl ?_
  refine o_ldc2Long 100 X45 hx rfl hZ hown (wd_37 hw) (hb hby d6_97) ?_
  refine o_lastoreX 101 X45 hx rfl hZ e45 A45 (by decide) (Nat.le_of_ble_eq_true rfl) [(1 : Int64), (10 : Int64), (100 : Int64), (1000 : Int64), (10000 : Int64), (100000 : Int64), (1000000 : Int64), (10000000 : Int64), (100000000 : Int64), (1000000000 : Int64), (10000000000 : Int64), (100000000000 : Int64), (1000000000000 : Int64), (10000000000000 : Int64), (100000000000000 : Int64), (0 : Int64), (0 : Int64), (0 : Int64), (0 : Int64)] rfl N45 ge3 (hb hby d6_100) fun T48 h48 L48 X48 N48 e48 W48 A48 => ?_
  have sz49 : n0 ≤ h48.size := Nat.le_trans sz46 (Keep.of_wr W48).1
  have K50 : Keep h0 h48 [] := K47.wr W48 (Or.inr gz2)
  refine o_dup 102 X48 hx rfl (hb hby d6_101) rfl ?_
  refine o_bipush 104 X48 hx rfl (hb hby d6_102) (15 : Int32) rfl ?_
  refine o_ldc2Long 107 X48 hx rfl hZ hown (wd_38 hw) (hb hby d6_104) ?_
  refine o_lastoreX 108 X48 hx rfl hZ e48 A48 (by decide) (Nat.le_of_ble_eq_true rfl) [(1 : Int64), (10 : Int64), (100 : Int64), (1000 : Int64), (10000 : Int64), (100000 : Int64), (1000000 : Int64), (10000000 : Int64), (100000000 : Int64), (1000000000 : Int64), (10000000000 : Int64), (100000000000 : Int64), (1000000000000 : Int64), (10000000000000 : Int64), (100000000000000 : Int64), (1000000000000000 : Int64), (0 : Int64), (0 : Int64), (0 : Int64)] rfl N48 ge3 (hb hby d6_107) fun T51 h51 L51 X51 N51 e51 W51 A51 => ?_
  have sz52 : n0 ≤ h51.size := Nat.le_trans sz49 (Keep.of_wr W51).1
  have K53 : Keep h0 h51 [] := K50.wr W51 (Or.inr gz2)
  refine o_dup 109 X51 hx rfl (hb hby d6_108) rfl ?_
  refine o_bipush 111 X51 hx rfl (hb hby d6_109) (16 : Int32) rfl ?_
  refine o_ldc2Long 114 X51 hx rfl hZ hown (wd_39 hw) (hb hby d6_111) ?_
  refine o_lastoreX 115 X51 hx rfl hZ e51 A51 (by decide) (Nat.le_of_ble_eq_true rfl) [(1 : Int64), (10 : Int64), (100 : Int64), (1000 : Int64), (10000 : Int64), (100000 : Int64), (1000000 : Int64), (10000000 : Int64), (100000000 : Int64), (1000000000 : Int64), (10000000000 : Int64), (100000000000 : Int64), (1000000000000 : Int64), (10000000000000 : Int64), (100000000000000 : Int64), (1000000000000000 : Int64), (10000000000000000 : Int64), (0 : Int64), (0 : Int64)] rfl N51 ge3 (hb hby d6_114) fun T54 h54 L54 X54 N54 e54 W54 A54 => ?_
  have sz55 : n0 ≤ h54.size := Nat.le_trans sz52 (Keep.of_wr W54).1
  have K56 : Keep h0 h54 [] := K53.wr W54 (Or.inr gz2)
  refine o_dup 116 X54 hx rfl (hb hby d6_115) rfl ?_
  refine o_bipush 118 X54 hx rfl (hb hby d6_116) (17 : Int32) rfl ?_
  refine o_ldc2Long 121 X54 hx rfl hZ hown (wd_40 hw) (hb hby d6_118) ?_
  refine o_lastoreX 122 X54 hx rfl hZ e54 A54 (by decide) (Nat.le_of_ble_eq_true rfl) [(1 : Int64), (10 : Int64), (100 : Int64), (1000 : Int64), (10000 : Int64), (100000 : Int64), (1000000 : Int64), (10000000 : Int64), (100000000 : Int64), (1000000000 : Int64), (10000000000 : Int64), (100000000000 : Int64), (1000000000000 : Int64), (10000000000000 : Int64), (100000000000000 : Int64), (1000000000000000 : Int64), (10000000000000000 : Int64), (100000000000000000 : Int64), (0 : Int64)] rfl N54 ge3 (hb hby d6_121) fun T57 h57 L57 X57 N57 e57 W57 A57 => ?_
  have sz58 : n0 ≤ h57.size := Nat.le_trans sz55 (Keep.of_wr W57).1
  have K59 : Keep h0 h57 [] := K56.wr W57 (Or.inr gz2)
  refine o_dup 123 X57 hx rfl (hb hby d6_122) rfl ?_
  refine o_bipush 125 X57 hx rfl (hb hby d6_123) (18 : Int32) rfl ?_
  refine o_ldc2Long 128 X57 hx rfl hZ hown (wd_41 hw) (hb hby d6_125) ?_
  refine o_lastoreX 129 X57 hx rfl hZ e57 A57 (by decide) (Nat.le_of_ble_eq_true rfl) [(1 : Int64), (10 : Int64), (100 : Int64), (1000 : Int64), (10000 : Int64), (100000 : Int64), (1000000 : Int64), (10000000 : Int64), (100000000 : Int64), (1000000000 : Int64), (10000000000 : Int64), (100000000000 : Int64), (1000000000000 : Int64), (10000000000000 : Int64), (100000000000000 : Int64), (1000000000000000 : Int64), (10000000000000000 : Int64), (100000000000000000 : Int64), (1000000000000000000 : Int64)] rfl N57 ge3 (hb hby d6_128) fun T60 h60 L60 X60 N60 e60 W60 A60 => ?_
  have sz61 : n0 ≤ h60.size := Nat.le_trans sz58 (Keep.of_wr W60).1
  have K62 : Keep h0 h60 [] := K59.wr W60 (Or.inr gz2)
  refine o_astoreN 130 X60 hx rfl (hb hby d6_129) rfl #[.val (.int i0), .val (.ref a1)] rfl ?_
  refine o_aloadN 131 X60 hx rfl (hb hby d6_130) rfl rfl ?_
  refine o_iloadN 132 X60 hx rfl (hb hby d6_131) rfl ?_
  have F63 : Arv Z h60 a1 k1 .long (19 : Int32) (own_ps.map Value.long) (.long 0) := A60
  refine o_laloadX 133 X60 hx rfl hZ e60 F63 hi (hb hby d6_132) (own_ps.getD i0.toNatClampNeg 0) rfl ?_
  refine o_retJ X60 hx hret hlk (hb hby d6_133) (by decide) (by decide) ?_
  rw [e60]
  exact ⟨rfl, N60, K62⟩
def own_wt (i1 i2 i3 : Int32) (xs : List Int32) : Int64 := if i1 < i2 then 0 else if i1 < i3 then (if (xs.getD i1.toNatClampNeg 0) < (48 : Int32) then 0 else if (57 : Int32) < (xs.getD i1.toNatClampNeg 0) then 0 else (((xs.getD i1.toNatClampNeg 0) - (48 : Int32)).toInt64) * (own_ps.getD ((i3 - (1 : Int32)) - i1).toNatClampNeg 0)) else 0
theorem ef_5 (m : MethodId) (y0 : Addr) (y1 : Int32) (y2 : Int32) (y3 : Int32) : entryFrame m #[(.ref y0), (.int y1), (.int y2), (.int y3)] 4 = mkF m 0 #[.val (.ref y0), .val (.int y1), .val (.int y2), .val (.int y3)] [] := by first | (simp [entryFrame, mkF, argsToLocals, Value.category]; done) | rfl
set_option maxRecDepth 65536 in
set_option maxHeartbeats 40000000 in
theorem rm5 (l : Launch) (Z : State) (a0 : Array Value) (hw : ∀ d ∈ tables_1, d.before a0 Z = true) (r0 : Addr) (i1 i2 i3 : Int32) (ka : ClassId) (xs : List Int32) (h0 : Heap) (n0 : Nat) (Z0 : n0 ≤ h0.size) (A0 : Arv Z h0 r0 ka .char (18 : Int32) (xs.map Value.int) (.int 0)) (hi : ¬ i1 < 0 ∧ i1 < (18 : Int32)) (hp : ¬ i1 < i2 → i1 < i3 → ¬ ((i3 - (1 : Int32)) - i1) < 0 ∧ ((i3 - (1 : Int32)) - i1) < (19 : Int32)) : MetP l (⟨"com/example/planbook/planbook/files/DecimalsDigitsPinLaw", "weighted", "([CIII)J"⟩ : MethodName) method_5_code 4 (some .long) [] ({ frames := 1, cells := 1, slots := 19, locals := 15 } : Room) Z #[(.ref r0), (.int i1), (.int i2), (.int i3)] h0 (fun v h L => v = some (.long (own_wt i1 i2 i3 xs)) ∧ Fr n0 L ∧ Keep h0 h []) := by
  refine met_go pn_5 ?_
  intro p e s m below meth c s₁ hx hby hml hown hnm hret hlk hZ e0 X0
  have N0 := Fr.nil n0
  have K0 : Keep h0 h0 [] := Keep.refl _ _
  rw [ef_5 m r0 i1 i2 i3]
  refine o_iloadN 1 X0 hx rfl (hb hby d5_0) rfl ?_
  refine o_iloadN 2 X0 hx rfl (hb hby d5_1) rfl ?_
  by_cases hc2_1 : i1 < i2
  · refine o_icmpYes 26 X0 hx (hb hby d5_2) (tlt hc2_1).1 (by decide) (by decide) ?_
    refine o_lconst 27 X0 hx rfl (hb hby d5_26) (0 : Int64) rfl ?_
    refine o_retJ X0 hx hret hlk (hb hby d5_27) (by decide) (by decide) ?_
    rw [e0]
    exact ⟨show some (Value.long (0 : Int64)) = some (Value.long (own_wt i1 i2 i3 xs)) from by rw [own_wt, if_pos hc2_1], N0, K0⟩
  · refine o_icmpNo 5 X0 hx rfl (hb hby d5_2) (flt hc2_1).1 ?_
    refine o_iloadN 6 X0 hx rfl (hb hby d5_5) rfl ?_
    refine o_iloadN 7 X0 hx rfl (hb hby d5_6) rfl ?_
    by_cases hc7_2 : i1 < i3
    · refine o_icmpNo 10 X0 hx rfl (hb hby d5_7) (tlt hc7_2).2.1 ?_
      refine o_aloadN 11 X0 hx rfl (hb hby d5_10) rfl rfl ?_
      refine o_iloadN 12 X0 hx rfl (hb hby d5_11) rfl ?_
      refine o_caloadX 13 X0 hx rfl hZ e0 A0 hi (hb hby d5_12) (xs.getD i1.toNatClampNeg 0) rfl ?_
      refine o_bipush 15 X0 hx rfl (hb hby d5_13) (48 : Int32) rfl ?_
      by_cases hc15_3 : (xs.getD i1.toNatClampNeg 0) < (48 : Int32)
      · refine o_icmpYes 26 X0 hx (hb hby d5_15) (tlt hc15_3).1 (by decide) (by decide) ?_
        refine o_lconst 27 X0 hx rfl (hb hby d5_26) (0 : Int64) rfl ?_
        refine o_retJ X0 hx hret hlk (hb hby d5_27) (by decide) (by decide) ?_
        rw [e0]
        exact ⟨show some (Value.long (0 : Int64)) = some (Value.long (own_wt i1 i2 i3 xs)) from by rw [own_wt, if_neg hc2_1, if_pos hc7_2, if_pos hc15_3], N0, K0⟩
      · refine o_icmpNo 18 X0 hx rfl (hb hby d5_15) (flt hc15_3).1 ?_
        refine o_aloadN 19 X0 hx rfl (hb hby d5_18) rfl rfl ?_
        refine o_iloadN 20 X0 hx rfl (hb hby d5_19) rfl ?_
        refine o_caloadX 21 X0 hx rfl hZ e0 A0 hi (hb hby d5_20) (xs.getD i1.toNatClampNeg 0) rfl ?_
        refine o_bipush 23 X0 hx rfl (hb hby d5_21) (57 : Int32) rfl ?_
        by_cases hc23_4 : (57 : Int32) < (xs.getD i1.toNatClampNeg 0)
        · refine o_icmpNo 26 X0 hx rfl (hb hby d5_23) (tlt hc23_4).2.2.2 ?_
          refine o_lconst 27 X0 hx rfl (hb hby d5_26) (0 : Int64) rfl ?_
          refine o_retJ X0 hx hret hlk (hb hby d5_27) (by decide) (by decide) ?_
          rw [e0]
          exact ⟨show some (Value.long (0 : Int64)) = some (Value.long (own_wt i1 i2 i3 xs)) from by rw [own_wt, if_neg hc2_1, if_pos hc7_2, if_neg hc15_3, if_pos hc23_4], N0, K0⟩
        · refine o_icmpYes 28 X0 hx (hb hby d5_23) (flt hc23_4).2.2.2 (by decide) (by decide) ?_
          refine o_aloadN 29 X0 hx rfl (hb hby d5_28) rfl rfl ?_
          refine o_iloadN 30 X0 hx rfl (hb hby d5_29) rfl ?_
          refine o_caloadX 31 X0 hx rfl hZ e0 A0 hi (hb hby d5_30) (xs.getD i1.toNatClampNeg 0) rfl ?_
          refine o_bipush 33 X0 hx rfl (hb hby d5_31) (48 : Int32) rfl ?_
          refine o_isub 34 X0 hx rfl (hb hby d5_33) ?_
          refine o_i2l 35 X0 hx rfl (hb hby d5_34) ?_
          refine o_iloadN 36 X0 hx rfl (hb hby d5_35) rfl ?_
          refine o_iconst 37 X0 hx rfl (hb hby d5_36) (1 : Int32) rfl ?_
          refine o_isub 38 X0 hx rfl (hb hby d5_37) ?_
          refine o_iloadN 39 X0 hx rfl (hb hby d5_38) rfl ?_
          refine o_isub 40 X0 hx rfl (hb hby d5_39) ?_
          refine o_callSw 43 X0 hx rfl hZ hown (wd_20 hw) (wd_21 hw) (wd_3 hw) (wd_22 hw) (by decide) e0 N0 (rm6 l Z a0 hw ((i3 - (1 : Int32)) - i1) h0 n0 Z0 (hp hc2_1 hc7_2)) pd_lIrJ [(.int ((i3 - (1 : Int32)) - i1))] [(.long (((xs.getD i1.toNatClampNeg 0) - (48 : Int32)).toInt64))] rfl rfl (by rw [hml]; rfl) rfl (hb hby d5_40) 2 (Nat.le_of_eq rfl) (by decide) (by decide) (by decide) (by decide) fun v5 T5 L5 LL5 X5 Q5 NF5 => ?_
          obtain ⟨rfl, M5, K5⟩ := Q5
          have NN5 := NF5 M5
          have F6 : Arv Z T5.heap r0 ka .char (18 : Int32) (xs.map Value.int) (.int 0) := A0.keep K5 nin0
          have K7 : Keep h0 T5.heap [] := K0.trans K5 (all0)
          have sz8 : n0 ≤ T5.heap.size := Nat.le_trans Z0 K5.1
          show Go p.tables e below (EndE s ({ frames := 1, cells := 1, slots := 19, locals := 15 } : Room) (fun v h L => v = some (.long (own_wt i1 i2 i3 xs)) ∧ Fr n0 L ∧ Keep h0 h [])) (T5.setTop (mkF m 43 #[.val (.ref r0), .val (.int i1), .val (.int i2), .val (.int i3)] [(.long (own_ps.getD ((i3 - (1 : Int32)) - i1).toNatClampNeg 0)), (.long (((xs.getD i1.toNatClampNeg 0) - (48 : Int32)).toInt64))]))
          refine o_lmul 44 X5 hx rfl (hb hby d5_43) ?_
          refine o_retJ X5 hx hret hlk (hb hby d5_44) (by decide) (by decide) ?_
          exact ⟨show some (Value.long ((((xs.getD i1.toNatClampNeg 0) - (48 : Int32)).toInt64) * (own_ps.getD ((i3 - (1 : Int32)) - i1).toNatClampNeg 0))) = some (Value.long (own_wt i1 i2 i3 xs)) from by rw [own_wt, if_neg hc2_1, if_pos hc7_2, if_neg hc15_3, if_neg hc23_4], NN5, K7⟩
    · refine o_icmpYes 26 X0 hx (hb hby d5_7) (flt hc7_2).2.1 (by decide) (by decide) ?_
      refine o_lconst 27 X0 hx rfl (hb hby d5_26) (0 : Int64) rfl ?_
      refine o_retJ X0 hx hret hlk (hb hby d5_27) (by decide) (by decide) ?_
      rw [e0]
      exact ⟨show some (Value.long (0 : Int64)) = some (Value.long (own_wt i1 i2 i3 xs)) from by rw [own_wt, if_neg hc2_1, if_neg hc7_2], N0, K0⟩
theorem ef_0 (m : MethodId) (y0 : Int64) (y1 : Int64) (y2 : Int32) (y3 : Int32) (y4 : Int32) : entryFrame m #[(.long y0), (.long y1), (.int y2), (.int y3), (.int y4)] maxLocals = mkF m 0 #[.val (.long y0), .second, .val (.long y1), .second, .val (.int y2), .val (.int y3), .val (.int y4), .unset, .unset, .unset, .unset, .unset, .unset, .unset, .unset, .unset, .unset, .unset, .unset, .unset, .unset] [] := by first | (simp [entryFrame, mkF, argsToLocals, Value.category, maxLocals]; done) | rfl
def f0_21 (q0 : Int64) : Int32 := (fn1 ((q0.toUInt64 >>> ((21 : Int32) &&& 0x3f).toInt64.toUInt64).toInt64))
def f0_32 (q0 : Int64) : Int32 := (fn1 ((q0.toUInt64 >>> ((42 : Int32) &&& 0x3f).toInt64.toUInt64).toInt64))
def f0_51 (q1 : Int64) : Int32 := (fn1 ((q1.toUInt64 >>> ((21 : Int32) &&& 0x3f).toInt64.toUInt64).toInt64))
def f0_62 (q1 : Int64) : Int32 := (fn1 ((q1.toUInt64 >>> ((42 : Int32) &&& 0x3f).toInt64.toUInt64).toInt64))
def f0_74 (i2 : Int32) : Int32 := ((i2 &&& (2147483647 : Int32)) % (10 : Int32))
def f0_82 (i2 : Int32) : Int32 := (((48 : Int32) + (f0_74 i2)).toUInt32.toUInt16.toUInt32.toInt32)
def f0_176 (i3 : Int32) : Int32 := ((i3 &&& (2147483647 : Int32)) % (18 : Int32))
def f0_232_s0 (A : Nat) (C : Nat) : Int32 := (if (Int32.ofNat (max A 6)) < (Int32.ofNat (A + C)) then ((Int32.ofNat (A + C)) - (Int32.ofNat (max A 6))) else (0 : Int32))
def f0_317_s0 (A : Nat) (C : Nat) (t : Int32) (c0 : Int32) (c1 : Int32) (c2 : Int32) (c3 : Int32) (c4 : Int32) (c5 : Int32) : Int32 := (if (fn4 (0 : Int32) (Int32.ofNat A) (Int32.ofNat (min (A + C) 6)) [c0, c1, c2, c3, c4, c5, t, t, t, t, t, t, t, t, t, t, t, t]) = (0 : Int32) then (if (fn4 (1 : Int32) (Int32.ofNat A) (Int32.ofNat (min (A + C) 6)) [c0, c1, c2, c3, c4, c5, t, t, t, t, t, t, t, t, t, t, t, t]) = (0 : Int32) then (if (fn4 (2 : Int32) (Int32.ofNat A) (Int32.ofNat (min (A + C) 6)) [c0, c1, c2, c3, c4, c5, t, t, t, t, t, t, t, t, t, t, t, t]) = (0 : Int32) then (if (fn4 (3 : Int32) (Int32.ofNat A) (Int32.ofNat (min (A + C) 6)) [c0, c1, c2, c3, c4, c5, t, t, t, t, t, t, t, t, t, t, t, t]) = (0 : Int32) then (if (fn4 (4 : Int32) (Int32.ofNat A) (Int32.ofNat (min (A + C) 6)) [c0, c1, c2, c3, c4, c5, t, t, t, t, t, t, t, t, t, t, t, t]) = (0 : Int32) then (if (fn4 (5 : Int32) (Int32.ofNat A) (Int32.ofNat (min (A + C) 6)) [c0, c1, c2, c3, c4, c5, t, t, t, t, t, t, t, t, t, t, t, t]) = (0 : Int32) then (0 : Int32) else (1 : Int32)) else (1 : Int32)) else (1 : Int32)) else (1 : Int32)) else (1 : Int32)) else (1 : Int32))
theorem own_lti {a b : Nat} (ha : a < 2147483648) (hb : b < 2147483648) : (Int32.ofNat a < Int32.ofNat b) ↔ a < b := by
  rw [Int32.lt_iff_toInt_lt, Int32.toInt_ofNat_of_lt (by omega), Int32.toInt_ofNat_of_lt (by omega)]; omega
theorem own_mr (x y : Int32) (D : Int) (hy : y.toInt = D) (hD : 0 < D) : ∃ J : Nat, (J : Int) < D ∧ ((x &&& (2147483647 : Int32)) % y) = Int32.ofNat J := by
  have e1 : (x &&& (2147483647 : Int32)).toInt = x.toInt % (2 ^ 31 : Nat) := c_mask x 2147483647 31 (by decide) (by decide)
  have e2 := (c_irem (x &&& (2147483647 : Int32)) y D hy).1 (by rw [e1]; omega)
  have r2 := Int.emod_nonneg (x &&& (2147483647 : Int32)).toInt (b := D) (by omega)
  have r3 := Int.emod_lt_of_pos (x &&& (2147483647 : Int32)).toInt hD
  have r := rng32 ((x &&& (2147483647 : Int32)) % y)
  rw [← e2] at r2 r3
  refine ⟨((x &&& (2147483647 : Int32)) % y).toInt.toNat, by omega, ?_⟩
  apply Int32.toInt_inj.mp; rw [Int32.toInt_ofNat_of_lt (by omega)]; omega
theorem own_A (i3 : Int32) : ∃ A : Nat, A ≤ 17 ∧ f0_176 i3 = Int32.ofNat A := by
  obtain ⟨J, h1, h2⟩ := own_mr i3 18 18 rfl (by decide)
  exact ⟨J, by omega, h2⟩
theorem own_el {A : Nat} (h : A ≤ 17) : ((19 : Int32) - (Int32.ofNat A)).toInt = 19 - (A : Int) := by
  have e1 := c_isub 19 (Int32.ofNat A)
  have r := rng32 ((19 : Int32) - (Int32.ofNat A))
  rw [Int32.toInt_ofNat_of_lt (by omega), show (19 : Int32).toInt = 19 from rfl] at e1
  omega
theorem own_nz {A : Nat} (h : A ≤ 17) : (19 : Int32) - (Int32.ofNat A) ≠ 0 := fun z => by
  have e := own_el h
  rw [z, show (0 : Int32).toInt = 0 from rfl] at e
  omega
theorem own_C (i4 : Int32) {A : Nat} (h : A ≤ 17) : ∃ C : Nat, A + C ≤ 18 ∧ ((i4 &&& (2147483647 : Int32)) % ((19 : Int32) - (Int32.ofNat A))) = Int32.ofNat C := by
  obtain ⟨J, h1, h2⟩ := own_mr i4 _ _ (own_el h) (by omega)
  exact ⟨J, by omega, h2⟩
theorem own_mn {n : Nat} (h : n < 2147483648) : fn2 (Int32.ofNat n) (6 : Int32) = Int32.ofNat (min n 6) := by
  unfold fn2 f2_10_s0
  have e : (6 : Int32) < Int32.ofNat n ↔ 6 < n := own_lti (a := 6) (b := n) (by decide) h
  by_cases q : 6 < n
  · rw [if_pos (e.mpr q), Nat.min_eq_right (by omega)]; rfl
  · rw [if_neg (fun z => q (e.mp z)), Nat.min_eq_left (by omega)]
theorem own_mx {n : Nat} (h : n < 2147483648) : fn3 (Int32.ofNat n) (6 : Int32) = Int32.ofNat (max n 6) := by
  unfold fn3 f3_10_s0
  have e : Int32.ofNat n < (6 : Int32) ↔ n < 6 := own_lti (a := n) (b := 6) h (by decide)
  by_cases q : n < 6
  · rw [if_pos (e.mpr q), Nat.max_eq_right (by omega)]; rfl
  · rw [if_neg (fun z => q (e.mp z)), Nat.max_eq_left (by omega)]
theorem own_tl2 {A C : Nat} (hA : A ≤ 18) (hC : A + C ≤ 18) : f0_232_s0 A C = Int32.ofNat (A + C - max A 6) := by
  unfold f0_232_s0
  have e := own_lti (a := max A 6) (b := A + C) (by omega) (by omega)
  by_cases q : max A 6 < A + C
  · rw [if_pos (e.mpr q), Int32.ofNat_sub _ _ (by omega)]
  · rw [if_neg (fun z => q (e.mp z)), show A + C - max A 6 = 0 by omega]; rfl
theorem own_ti {A C : Nat} (hA : A ≤ 17) (hC : A + C ≤ 18) : ¬ (Int32.ofNat (A + C - max A 6)) < 0 ∧ (Int32.ofNat (A + C - max A 6)) < (19 : Int32) := ⟨own_nn (by omega), own_lt (n := 19) (by omega) (by decide)⟩
theorem own_hp {i1 : Int32} {A n : Nat} (h : ¬ i1 < 0 ∧ i1 < (18 : Int32)) : ¬ i1 < (Int32.ofNat A) → i1 < (Int32.ofNat (min n 6)) → ¬ (((Int32.ofNat (min n 6)) - (1 : Int32)) - i1) < 0 ∧ (((Int32.ofNat (min n 6)) - (1 : Int32)) - i1) < (19 : Int32) := by
  intro _ h2
  obtain ⟨h0, -⟩ := h
  have em : (Int32.ofNat (min n 6)).toInt = (min n 6 : Nat) := Int32.toInt_ofNat_of_lt (by omega)
  have e1 := c_isub (Int32.ofNat (min n 6)) 1
  have e2 := c_isub ((Int32.ofNat (min n 6)) - (1 : Int32)) i1
  have r1 := rng32 ((Int32.ofNat (min n 6)) - (1 : Int32))
  have r2 := rng32 (((Int32.ofNat (min n 6)) - (1 : Int32)) - i1)
  rw [Int32.lt_iff_toInt_lt] at h0 h2
  rw [show (0 : Int32).toInt = 0 from rfl] at h0
  rw [show (1 : Int32).toInt = 1 from rfl] at e1
  rw [Int32.lt_iff_toInt_lt, Int32.lt_iff_toInt_lt, show (0 : Int32).toInt = 0 from rfl, show (19 : Int32).toInt = 19 from rfl]
  omega
def own_dgt (x : Int32) : Prop := ¬ x < (48 : Int32) ∧ ¬ (57 : Int32) < x
theorem own_tv (i2 : Int32) : own_dgt (nar .char (f0_82 i2)) ∧ ((nar .char (f0_82 i2)) - (48 : Int32)).toInt64 = (f0_74 i2).toInt64 := by
  obtain ⟨J, h1, h2⟩ := own_mr i2 10 10 rfl (by decide)
  have h3 : (f0_74 i2).toInt = (J : Int) := by unfold f0_74; rw [h2]; exact Int32.toInt_ofNat_of_lt (by omega)
  have e1 := c_iadd 48 (f0_74 i2)
  have r1 := rng32 ((48 : Int32) + (f0_74 i2))
  have e2 := c_i2c ((48 : Int32) + (f0_74 i2))
  have e3 := c_i2c (f0_82 i2)
  have d1 : (f0_82 i2).toInt = ((48 : Int32) + (f0_74 i2)).toUInt32.toUInt16.toUInt32.toInt32.toInt := rfl
  have d2 : (nar .char (f0_82 i2)).toInt = (f0_82 i2).toUInt32.toUInt16.toUInt32.toInt32.toInt := rfl
  rw [show (48 : Int32).toInt = 48 from rfl] at e1
  have hv : (nar .char (f0_82 i2)).toInt = 48 + (J : Int) := by omega
  refine ⟨⟨?_, ?_⟩, ?_⟩
  · rw [Int32.lt_iff_toInt_lt, hv, show (48 : Int32).toInt = 48 from rfl]; omega
  · rw [Int32.lt_iff_toInt_lt, hv, show (57 : Int32).toInt = 57 from rfl]; omega
  · have e4 := c_isub (nar .char (f0_82 i2)) 48
    have r4 := rng32 (nar .char (f0_82 i2) - (48 : Int32))
    rw [show (48 : Int32).toInt = 48 from rfl] at e4
    apply congrArg Int32.toInt64
    apply Int32.toInt_inj.mp
    omega
theorem own_f4 (q A H : Nat) (xs : List Int32) (hq : q < 6) (hA : A ≤ 18) (hH : H ≤ 18) : fn4 (Int32.ofNat q) (Int32.ofNat A) (Int32.ofNat H) xs = 0 ↔ (A ≤ q → q < H → own_dgt (xs.getD q 0)) := by
  unfold fn4 f4_31_s0 own_dgt
  have e1 := own_lti (a := q) (b := A) (by omega) (by omega)
  have e2 := own_lti (a := q) (b := H) (by omega) (by omega)
  rw [own_n32 (n := q) (by omega)]
  by_cases h1 : q < A
  · rw [if_pos (e1.mpr h1)]; exact ⟨fun _ z => absurd z (by omega), fun _ => rfl⟩
  · rw [if_neg (fun z => h1 (e1.mp z))]
    by_cases h2 : q < H
    · rw [if_pos (e2.mpr h2)]
      by_cases h3 : xs.getD q 0 < (48 : Int32)
      · rw [if_pos h3]; exact ⟨fun z => absurd z (by decide), fun z => absurd h3 (z (by omega) h2).1⟩
      · rw [if_neg h3]
        by_cases h4 : (57 : Int32) < xs.getD q 0
        · rw [if_pos h4]; exact ⟨fun z => absurd z (by decide), fun z => absurd h4 (z (by omega) h2).2⟩
        · rw [if_neg h4]; exact ⟨fun _ _ _ => ⟨h3, h4⟩, fun _ => rfl⟩
    · rw [if_neg (fun z => h2 (e2.mp z))]; exact ⟨fun _ _ z => absurd z h2, fun _ => rfl⟩
theorem own_neg1 (xs : List Int32) : ∀ (k i : Nat) (v : Int64), (∃ j, i ≤ j ∧ j < i + k ∧ ¬ own_dgt (xs.getD j 0)) → own_dg xs i k v = -1
  | 0, i, v, h => by obtain ⟨j, h1, h2, -⟩ := h; omega
  | k + 1, i, v, h => by
    obtain ⟨j, h1, h2, h3⟩ := h
    rw [own_dg]
    by_cases a : xs.getD i 0 < (48 : Int32)
    · rw [if_pos a]
    · rw [if_neg a]
      by_cases b : (57 : Int32) < xs.getD i 0
      · rw [if_pos b]
      · rw [if_neg b]
        have hj : i ≠ j := fun e => h3 (e ▸ ⟨a, b⟩)
        exact own_neg1 xs k (i + 1) _ ⟨j, by omega, by omega, h3⟩
def own_hv (xs : List Int32) : Nat → Nat → Int64 → Int64
  | _, 0, v => v
  | i, k + 1, v => own_hv xs (i + 1) k (v * (10 : Int64) + (xs.getD i 0 - (48 : Int32)).toInt64)
theorem own_hd2 (xs : List Int32) (r : Nat) : ∀ (k i : Nat) (v : Int64), (∀ j, i ≤ j → j < i + k → own_dgt (xs.getD j 0)) → own_dg xs i (k + r) v = own_dg xs (i + k) r (own_hv xs i k v)
  | 0, i, v, h => by rw [Nat.zero_add]; rfl
  | k + 1, i, v, h => by
    obtain ⟨a, b⟩ := h i (by omega) (by omega)
    rw [show k + 1 + r = (k + r) + 1 by omega, own_dg, if_neg a, if_neg b, own_hd2 xs r k (i + 1) _ (fun j h1 h2 => h j (by omega) (by omega)), show i + 1 + k = i + (k + 1) by omega]; rfl
def own_p : Nat → Int64
  | 0 => 1
  | k + 1 => own_p k * 10
def own_r : Nat → Int64
  | 0 => 0
  | k + 1 => own_p k + own_r k
theorem own_tail (xs : List Int32) (t : Int32) (ht : own_dgt t) (hx : ∀ j, 6 ≤ j → j < 18 → xs.getD j 0 = t) : ∀ (k i : Nat) (v : Int64), (k = 0 ∨ 6 ≤ i) → i + k ≤ 18 → own_dg xs i k v = v * own_p k + (t - (48 : Int32)).toInt64 * own_r k
  | 0, i, v, _, _ => by rw [own_dg, own_p, own_r, Int64.mul_one, Int64.mul_zero, Int64.add_zero]
  | k + 1, i, v, h, h2 => by
    have h6 : 6 ≤ i := h.resolve_left (by omega)
    rw [own_dg, hx i h6 (by omega), if_neg ht.1, if_neg ht.2, own_tail xs t ht hx k (i + 1) _ (Or.inr (by omega)) (by omega), own_p, own_r, Int64.add_mul, Int64.mul_add, Int64.mul_assoc, Int64.mul_comm 10, Int64.add_assoc]
theorem own_pp : ∀ k : Fin 19, own_ps.getD k.1 0 = own_p k.1 ∧ (own_ps.getD k.1 0 - (1 : Int64)) / (9 : Int64) = own_r k.1 := by decide +kernel
theorem own_wz (q A H : Nat) (xs : List Int32) (hq : q < 6) (hA : A ≤ 18) (hH : H ≤ 18) (h : q < A ∨ H ≤ q) : own_wt (Int32.ofNat q) (Int32.ofNat A) (Int32.ofNat H) xs = 0 := by
  unfold own_wt
  have e1 := own_lti (a := q) (b := A) (by omega) (by omega)
  have e2 := own_lti (a := q) (b := H) (by omega) (by omega)
  by_cases h1 : q < A
  · rw [if_pos (e1.mpr h1)]
  · rw [if_neg (fun z => h1 (e1.mp z)), if_neg (fun z => absurd (e2.mp z) (by omega))]
theorem own_wd (q A H : Nat) (xs : List Int32) (hq : q < 6) (h1 : A ≤ q) (h2 : q < H) (hH : H ≤ 18) (hd : own_dgt (xs.getD q 0)) : own_wt (Int32.ofNat q) (Int32.ofNat A) (Int32.ofNat H) xs = (xs.getD q 0 - (48 : Int32)).toInt64 * (own_ps.getD (H - 1 - q) 0) := by
  unfold own_wt
  have e1 := own_lti (a := q) (b := A) (by omega) (by omega)
  have e2 := own_lti (a := q) (b := H) (by omega) (by omega)
  have e3 : (Int32.ofNat H - (1 : Int32)) - Int32.ofNat q = Int32.ofNat (H - 1 - q) := by rw [Int32.ofNat_sub _ _ (by omega), Int32.ofNat_sub _ _ (by omega)]; rfl
  rw [if_neg (fun z => absurd (e1.mp z) (by omega)), if_pos (e2.mpr h2), own_n32 (n := q) (by omega), if_neg hd.1, if_neg hd.2, e3, own_n32 (n := H - 1 - q) (by omega)]
theorem own_h_0_1 (xs : List Int32) (hd : ∀ j, 0 ≤ j → j < 1 → own_dgt (xs.getD j 0)) : (((((own_wt (Int32.ofNat 0) (Int32.ofNat 0) (Int32.ofNat 1) xs + own_wt (Int32.ofNat 1) (Int32.ofNat 0) (Int32.ofNat 1) xs) + own_wt (Int32.ofNat 2) (Int32.ofNat 0) (Int32.ofNat 1) xs) + own_wt (Int32.ofNat 3) (Int32.ofNat 0) (Int32.ofNat 1) xs) + own_wt (Int32.ofNat 4) (Int32.ofNat 0) (Int32.ofNat 1) xs) + own_wt (Int32.ofNat 5) (Int32.ofNat 0) (Int32.ofNat 1) xs) = own_hv xs 0 1 0 := by
  rw [own_wd 0 0 1 xs (by decide) (by decide) (by decide) (by decide) (hd 0 (by decide) (by decide)), own_wz 1 0 1 xs (by decide) (by decide) (by decide) (by decide), own_wz 2 0 1 xs (by decide) (by decide) (by decide) (by decide), own_wz 3 0 1 xs (by decide) (by decide) (by decide) (by decide), own_wz 4 0 1 xs (by decide) (by decide) (by decide) (by decide), own_wz 5 0 1 xs (by decide) (by decide) (by decide) (by decide)]
  show ((((((xs.getD 0 0 - (48 : Int32)).toInt64 * (1 : Int64) + (0 : Int64)) + (0 : Int64)) + (0 : Int64)) + (0 : Int64)) + (0 : Int64)) = ((0 : Int64) * (10 : Int64) + (xs.getD 0 0 - (48 : Int32)).toInt64)
  simp only [Int64.add_mul, Int64.mul_assoc, Int64.zero_mul, Int64.zero_add, Int64.add_zero, Int64.mul_one, Int64.reduceMul]
theorem own_h_0_2 (xs : List Int32) (hd : ∀ j, 0 ≤ j → j < 2 → own_dgt (xs.getD j 0)) : (((((own_wt (Int32.ofNat 0) (Int32.ofNat 0) (Int32.ofNat 2) xs + own_wt (Int32.ofNat 1) (Int32.ofNat 0) (Int32.ofNat 2) xs) + own_wt (Int32.ofNat 2) (Int32.ofNat 0) (Int32.ofNat 2) xs) + own_wt (Int32.ofNat 3) (Int32.ofNat 0) (Int32.ofNat 2) xs) + own_wt (Int32.ofNat 4) (Int32.ofNat 0) (Int32.ofNat 2) xs) + own_wt (Int32.ofNat 5) (Int32.ofNat 0) (Int32.ofNat 2) xs) = own_hv xs 0 2 0 := by
  rw [own_wd 0 0 2 xs (by decide) (by decide) (by decide) (by decide) (hd 0 (by decide) (by decide)), own_wd 1 0 2 xs (by decide) (by decide) (by decide) (by decide) (hd 1 (by decide) (by decide)), own_wz 2 0 2 xs (by decide) (by decide) (by decide) (by decide), own_wz 3 0 2 xs (by decide) (by decide) (by decide) (by decide), own_wz 4 0 2 xs (by decide) (by decide) (by decide) (by decide), own_wz 5 0 2 xs (by decide) (by decide) (by decide) (by decide)]
  show ((((((xs.getD 0 0 - (48 : Int32)).toInt64 * (10 : Int64) + (xs.getD 1 0 - (48 : Int32)).toInt64 * (1 : Int64)) + (0 : Int64)) + (0 : Int64)) + (0 : Int64)) + (0 : Int64)) = (((0 : Int64) * (10 : Int64) + (xs.getD 0 0 - (48 : Int32)).toInt64) * (10 : Int64) + (xs.getD 1 0 - (48 : Int32)).toInt64)
  simp only [Int64.add_mul, Int64.mul_assoc, Int64.zero_mul, Int64.zero_add, Int64.add_zero, Int64.mul_one, Int64.reduceMul]
theorem own_h_0_3 (xs : List Int32) (hd : ∀ j, 0 ≤ j → j < 3 → own_dgt (xs.getD j 0)) : (((((own_wt (Int32.ofNat 0) (Int32.ofNat 0) (Int32.ofNat 3) xs + own_wt (Int32.ofNat 1) (Int32.ofNat 0) (Int32.ofNat 3) xs) + own_wt (Int32.ofNat 2) (Int32.ofNat 0) (Int32.ofNat 3) xs) + own_wt (Int32.ofNat 3) (Int32.ofNat 0) (Int32.ofNat 3) xs) + own_wt (Int32.ofNat 4) (Int32.ofNat 0) (Int32.ofNat 3) xs) + own_wt (Int32.ofNat 5) (Int32.ofNat 0) (Int32.ofNat 3) xs) = own_hv xs 0 3 0 := by
  rw [own_wd 0 0 3 xs (by decide) (by decide) (by decide) (by decide) (hd 0 (by decide) (by decide)), own_wd 1 0 3 xs (by decide) (by decide) (by decide) (by decide) (hd 1 (by decide) (by decide)), own_wd 2 0 3 xs (by decide) (by decide) (by decide) (by decide) (hd 2 (by decide) (by decide)), own_wz 3 0 3 xs (by decide) (by decide) (by decide) (by decide), own_wz 4 0 3 xs (by decide) (by decide) (by decide) (by decide), own_wz 5 0 3 xs (by decide) (by decide) (by decide) (by decide)]
  show ((((((xs.getD 0 0 - (48 : Int32)).toInt64 * (100 : Int64) + (xs.getD 1 0 - (48 : Int32)).toInt64 * (10 : Int64)) + (xs.getD 2 0 - (48 : Int32)).toInt64 * (1 : Int64)) + (0 : Int64)) + (0 : Int64)) + (0 : Int64)) = ((((0 : Int64) * (10 : Int64) + (xs.getD 0 0 - (48 : Int32)).toInt64) * (10 : Int64) + (xs.getD 1 0 - (48 : Int32)).toInt64) * (10 : Int64) + (xs.getD 2 0 - (48 : Int32)).toInt64)
  simp only [Int64.add_mul, Int64.mul_assoc, Int64.zero_mul, Int64.zero_add, Int64.add_zero, Int64.mul_one, Int64.reduceMul]
theorem own_h_0_4 (xs : List Int32) (hd : ∀ j, 0 ≤ j → j < 4 → own_dgt (xs.getD j 0)) : (((((own_wt (Int32.ofNat 0) (Int32.ofNat 0) (Int32.ofNat 4) xs + own_wt (Int32.ofNat 1) (Int32.ofNat 0) (Int32.ofNat 4) xs) + own_wt (Int32.ofNat 2) (Int32.ofNat 0) (Int32.ofNat 4) xs) + own_wt (Int32.ofNat 3) (Int32.ofNat 0) (Int32.ofNat 4) xs) + own_wt (Int32.ofNat 4) (Int32.ofNat 0) (Int32.ofNat 4) xs) + own_wt (Int32.ofNat 5) (Int32.ofNat 0) (Int32.ofNat 4) xs) = own_hv xs 0 4 0 := by
  rw [own_wd 0 0 4 xs (by decide) (by decide) (by decide) (by decide) (hd 0 (by decide) (by decide)), own_wd 1 0 4 xs (by decide) (by decide) (by decide) (by decide) (hd 1 (by decide) (by decide)), own_wd 2 0 4 xs (by decide) (by decide) (by decide) (by decide) (hd 2 (by decide) (by decide)), own_wd 3 0 4 xs (by decide) (by decide) (by decide) (by decide) (hd 3 (by decide) (by decide)), own_wz 4 0 4 xs (by decide) (by decide) (by decide) (by decide), own_wz 5 0 4 xs (by decide) (by decide) (by decide) (by decide)]
  show ((((((xs.getD 0 0 - (48 : Int32)).toInt64 * (1000 : Int64) + (xs.getD 1 0 - (48 : Int32)).toInt64 * (100 : Int64)) + (xs.getD 2 0 - (48 : Int32)).toInt64 * (10 : Int64)) + (xs.getD 3 0 - (48 : Int32)).toInt64 * (1 : Int64)) + (0 : Int64)) + (0 : Int64)) = (((((0 : Int64) * (10 : Int64) + (xs.getD 0 0 - (48 : Int32)).toInt64) * (10 : Int64) + (xs.getD 1 0 - (48 : Int32)).toInt64) * (10 : Int64) + (xs.getD 2 0 - (48 : Int32)).toInt64) * (10 : Int64) + (xs.getD 3 0 - (48 : Int32)).toInt64)
  simp only [Int64.add_mul, Int64.mul_assoc, Int64.zero_mul, Int64.zero_add, Int64.add_zero, Int64.mul_one, Int64.reduceMul]
theorem own_h_0_5 (xs : List Int32) (hd : ∀ j, 0 ≤ j → j < 5 → own_dgt (xs.getD j 0)) : (((((own_wt (Int32.ofNat 0) (Int32.ofNat 0) (Int32.ofNat 5) xs + own_wt (Int32.ofNat 1) (Int32.ofNat 0) (Int32.ofNat 5) xs) + own_wt (Int32.ofNat 2) (Int32.ofNat 0) (Int32.ofNat 5) xs) + own_wt (Int32.ofNat 3) (Int32.ofNat 0) (Int32.ofNat 5) xs) + own_wt (Int32.ofNat 4) (Int32.ofNat 0) (Int32.ofNat 5) xs) + own_wt (Int32.ofNat 5) (Int32.ofNat 0) (Int32.ofNat 5) xs) = own_hv xs 0 5 0 := by
  rw [own_wd 0 0 5 xs (by decide) (by decide) (by decide) (by decide) (hd 0 (by decide) (by decide)), own_wd 1 0 5 xs (by decide) (by decide) (by decide) (by decide) (hd 1 (by decide) (by decide)), own_wd 2 0 5 xs (by decide) (by decide) (by decide) (by decide) (hd 2 (by decide) (by decide)), own_wd 3 0 5 xs (by decide) (by decide) (by decide) (by decide) (hd 3 (by decide) (by decide)), own_wd 4 0 5 xs (by decide) (by decide) (by decide) (by decide) (hd 4 (by decide) (by decide)), own_wz 5 0 5 xs (by decide) (by decide) (by decide) (by decide)]
  show ((((((xs.getD 0 0 - (48 : Int32)).toInt64 * (10000 : Int64) + (xs.getD 1 0 - (48 : Int32)).toInt64 * (1000 : Int64)) + (xs.getD 2 0 - (48 : Int32)).toInt64 * (100 : Int64)) + (xs.getD 3 0 - (48 : Int32)).toInt64 * (10 : Int64)) + (xs.getD 4 0 - (48 : Int32)).toInt64 * (1 : Int64)) + (0 : Int64)) = ((((((0 : Int64) * (10 : Int64) + (xs.getD 0 0 - (48 : Int32)).toInt64) * (10 : Int64) + (xs.getD 1 0 - (48 : Int32)).toInt64) * (10 : Int64) + (xs.getD 2 0 - (48 : Int32)).toInt64) * (10 : Int64) + (xs.getD 3 0 - (48 : Int32)).toInt64) * (10 : Int64) + (xs.getD 4 0 - (48 : Int32)).toInt64)
  simp only [Int64.add_mul, Int64.mul_assoc, Int64.zero_mul, Int64.zero_add, Int64.add_zero, Int64.mul_one, Int64.reduceMul]
theorem own_h_0_6 (xs : List Int32) (hd : ∀ j, 0 ≤ j → j < 6 → own_dgt (xs.getD j 0)) : (((((own_wt (Int32.ofNat 0) (Int32.ofNat 0) (Int32.ofNat 6) xs + own_wt (Int32.ofNat 1) (Int32.ofNat 0) (Int32.ofNat 6) xs) + own_wt (Int32.ofNat 2) (Int32.ofNat 0) (Int32.ofNat 6) xs) + own_wt (Int32.ofNat 3) (Int32.ofNat 0) (Int32.ofNat 6) xs) + own_wt (Int32.ofNat 4) (Int32.ofNat 0) (Int32.ofNat 6) xs) + own_wt (Int32.ofNat 5) (Int32.ofNat 0) (Int32.ofNat 6) xs) = own_hv xs 0 6 0 := by
  rw [own_wd 0 0 6 xs (by decide) (by decide) (by decide) (by decide) (hd 0 (by decide) (by decide)), own_wd 1 0 6 xs (by decide) (by decide) (by decide) (by decide) (hd 1 (by decide) (by decide)), own_wd 2 0 6 xs (by decide) (by decide) (by decide) (by decide) (hd 2 (by decide) (by decide)), own_wd 3 0 6 xs (by decide) (by decide) (by decide) (by decide) (hd 3 (by decide) (by decide)), own_wd 4 0 6 xs (by decide) (by decide) (by decide) (by decide) (hd 4 (by decide) (by decide)), own_wd 5 0 6 xs (by decide) (by decide) (by decide) (by decide) (hd 5 (by decide) (by decide))]
  show ((((((xs.getD 0 0 - (48 : Int32)).toInt64 * (100000 : Int64) + (xs.getD 1 0 - (48 : Int32)).toInt64 * (10000 : Int64)) + (xs.getD 2 0 - (48 : Int32)).toInt64 * (1000 : Int64)) + (xs.getD 3 0 - (48 : Int32)).toInt64 * (100 : Int64)) + (xs.getD 4 0 - (48 : Int32)).toInt64 * (10 : Int64)) + (xs.getD 5 0 - (48 : Int32)).toInt64 * (1 : Int64)) = (((((((0 : Int64) * (10 : Int64) + (xs.getD 0 0 - (48 : Int32)).toInt64) * (10 : Int64) + (xs.getD 1 0 - (48 : Int32)).toInt64) * (10 : Int64) + (xs.getD 2 0 - (48 : Int32)).toInt64) * (10 : Int64) + (xs.getD 3 0 - (48 : Int32)).toInt64) * (10 : Int64) + (xs.getD 4 0 - (48 : Int32)).toInt64) * (10 : Int64) + (xs.getD 5 0 - (48 : Int32)).toInt64)
  simp only [Int64.add_mul, Int64.mul_assoc, Int64.zero_mul, Int64.zero_add, Int64.add_zero, Int64.mul_one, Int64.reduceMul]
theorem own_h_1_2 (xs : List Int32) (hd : ∀ j, 1 ≤ j → j < 2 → own_dgt (xs.getD j 0)) : (((((own_wt (Int32.ofNat 0) (Int32.ofNat 1) (Int32.ofNat 2) xs + own_wt (Int32.ofNat 1) (Int32.ofNat 1) (Int32.ofNat 2) xs) + own_wt (Int32.ofNat 2) (Int32.ofNat 1) (Int32.ofNat 2) xs) + own_wt (Int32.ofNat 3) (Int32.ofNat 1) (Int32.ofNat 2) xs) + own_wt (Int32.ofNat 4) (Int32.ofNat 1) (Int32.ofNat 2) xs) + own_wt (Int32.ofNat 5) (Int32.ofNat 1) (Int32.ofNat 2) xs) = own_hv xs 1 1 0 := by
  rw [own_wz 0 1 2 xs (by decide) (by decide) (by decide) (by decide), own_wd 1 1 2 xs (by decide) (by decide) (by decide) (by decide) (hd 1 (by decide) (by decide)), own_wz 2 1 2 xs (by decide) (by decide) (by decide) (by decide), own_wz 3 1 2 xs (by decide) (by decide) (by decide) (by decide), own_wz 4 1 2 xs (by decide) (by decide) (by decide) (by decide), own_wz 5 1 2 xs (by decide) (by decide) (by decide) (by decide)]
  show ((((((0 : Int64) + (xs.getD 1 0 - (48 : Int32)).toInt64 * (1 : Int64)) + (0 : Int64)) + (0 : Int64)) + (0 : Int64)) + (0 : Int64)) = ((0 : Int64) * (10 : Int64) + (xs.getD 1 0 - (48 : Int32)).toInt64)
  simp only [Int64.add_mul, Int64.mul_assoc, Int64.zero_mul, Int64.zero_add, Int64.add_zero, Int64.mul_one, Int64.reduceMul]
theorem own_h_1_3 (xs : List Int32) (hd : ∀ j, 1 ≤ j → j < 3 → own_dgt (xs.getD j 0)) : (((((own_wt (Int32.ofNat 0) (Int32.ofNat 1) (Int32.ofNat 3) xs + own_wt (Int32.ofNat 1) (Int32.ofNat 1) (Int32.ofNat 3) xs) + own_wt (Int32.ofNat 2) (Int32.ofNat 1) (Int32.ofNat 3) xs) + own_wt (Int32.ofNat 3) (Int32.ofNat 1) (Int32.ofNat 3) xs) + own_wt (Int32.ofNat 4) (Int32.ofNat 1) (Int32.ofNat 3) xs) + own_wt (Int32.ofNat 5) (Int32.ofNat 1) (Int32.ofNat 3) xs) = own_hv xs 1 2 0 := by
  rw [own_wz 0 1 3 xs (by decide) (by decide) (by decide) (by decide), own_wd 1 1 3 xs (by decide) (by decide) (by decide) (by decide) (hd 1 (by decide) (by decide)), own_wd 2 1 3 xs (by decide) (by decide) (by decide) (by decide) (hd 2 (by decide) (by decide)), own_wz 3 1 3 xs (by decide) (by decide) (by decide) (by decide), own_wz 4 1 3 xs (by decide) (by decide) (by decide) (by decide), own_wz 5 1 3 xs (by decide) (by decide) (by decide) (by decide)]
  show ((((((0 : Int64) + (xs.getD 1 0 - (48 : Int32)).toInt64 * (10 : Int64)) + (xs.getD 2 0 - (48 : Int32)).toInt64 * (1 : Int64)) + (0 : Int64)) + (0 : Int64)) + (0 : Int64)) = (((0 : Int64) * (10 : Int64) + (xs.getD 1 0 - (48 : Int32)).toInt64) * (10 : Int64) + (xs.getD 2 0 - (48 : Int32)).toInt64)
  simp only [Int64.add_mul, Int64.mul_assoc, Int64.zero_mul, Int64.zero_add, Int64.add_zero, Int64.mul_one, Int64.reduceMul]
theorem own_h_1_4 (xs : List Int32) (hd : ∀ j, 1 ≤ j → j < 4 → own_dgt (xs.getD j 0)) : (((((own_wt (Int32.ofNat 0) (Int32.ofNat 1) (Int32.ofNat 4) xs + own_wt (Int32.ofNat 1) (Int32.ofNat 1) (Int32.ofNat 4) xs) + own_wt (Int32.ofNat 2) (Int32.ofNat 1) (Int32.ofNat 4) xs) + own_wt (Int32.ofNat 3) (Int32.ofNat 1) (Int32.ofNat 4) xs) + own_wt (Int32.ofNat 4) (Int32.ofNat 1) (Int32.ofNat 4) xs) + own_wt (Int32.ofNat 5) (Int32.ofNat 1) (Int32.ofNat 4) xs) = own_hv xs 1 3 0 := by
  rw [own_wz 0 1 4 xs (by decide) (by decide) (by decide) (by decide), own_wd 1 1 4 xs (by decide) (by decide) (by decide) (by decide) (hd 1 (by decide) (by decide)), own_wd 2 1 4 xs (by decide) (by decide) (by decide) (by decide) (hd 2 (by decide) (by decide)), own_wd 3 1 4 xs (by decide) (by decide) (by decide) (by decide) (hd 3 (by decide) (by decide)), own_wz 4 1 4 xs (by decide) (by decide) (by decide) (by decide), own_wz 5 1 4 xs (by decide) (by decide) (by decide) (by decide)]
  show ((((((0 : Int64) + (xs.getD 1 0 - (48 : Int32)).toInt64 * (100 : Int64)) + (xs.getD 2 0 - (48 : Int32)).toInt64 * (10 : Int64)) + (xs.getD 3 0 - (48 : Int32)).toInt64 * (1 : Int64)) + (0 : Int64)) + (0 : Int64)) = ((((0 : Int64) * (10 : Int64) + (xs.getD 1 0 - (48 : Int32)).toInt64) * (10 : Int64) + (xs.getD 2 0 - (48 : Int32)).toInt64) * (10 : Int64) + (xs.getD 3 0 - (48 : Int32)).toInt64)
  simp only [Int64.add_mul, Int64.mul_assoc, Int64.zero_mul, Int64.zero_add, Int64.add_zero, Int64.mul_one, Int64.reduceMul]
theorem own_h_1_5 (xs : List Int32) (hd : ∀ j, 1 ≤ j → j < 5 → own_dgt (xs.getD j 0)) : (((((own_wt (Int32.ofNat 0) (Int32.ofNat 1) (Int32.ofNat 5) xs + own_wt (Int32.ofNat 1) (Int32.ofNat 1) (Int32.ofNat 5) xs) + own_wt (Int32.ofNat 2) (Int32.ofNat 1) (Int32.ofNat 5) xs) + own_wt (Int32.ofNat 3) (Int32.ofNat 1) (Int32.ofNat 5) xs) + own_wt (Int32.ofNat 4) (Int32.ofNat 1) (Int32.ofNat 5) xs) + own_wt (Int32.ofNat 5) (Int32.ofNat 1) (Int32.ofNat 5) xs) = own_hv xs 1 4 0 := by
  rw [own_wz 0 1 5 xs (by decide) (by decide) (by decide) (by decide), own_wd 1 1 5 xs (by decide) (by decide) (by decide) (by decide) (hd 1 (by decide) (by decide)), own_wd 2 1 5 xs (by decide) (by decide) (by decide) (by decide) (hd 2 (by decide) (by decide)), own_wd 3 1 5 xs (by decide) (by decide) (by decide) (by decide) (hd 3 (by decide) (by decide)), own_wd 4 1 5 xs (by decide) (by decide) (by decide) (by decide) (hd 4 (by decide) (by decide)), own_wz 5 1 5 xs (by decide) (by decide) (by decide) (by decide)]
  show ((((((0 : Int64) + (xs.getD 1 0 - (48 : Int32)).toInt64 * (1000 : Int64)) + (xs.getD 2 0 - (48 : Int32)).toInt64 * (100 : Int64)) + (xs.getD 3 0 - (48 : Int32)).toInt64 * (10 : Int64)) + (xs.getD 4 0 - (48 : Int32)).toInt64 * (1 : Int64)) + (0 : Int64)) = (((((0 : Int64) * (10 : Int64) + (xs.getD 1 0 - (48 : Int32)).toInt64) * (10 : Int64) + (xs.getD 2 0 - (48 : Int32)).toInt64) * (10 : Int64) + (xs.getD 3 0 - (48 : Int32)).toInt64) * (10 : Int64) + (xs.getD 4 0 - (48 : Int32)).toInt64)
  simp only [Int64.add_mul, Int64.mul_assoc, Int64.zero_mul, Int64.zero_add, Int64.add_zero, Int64.mul_one, Int64.reduceMul]
theorem own_h_1_6 (xs : List Int32) (hd : ∀ j, 1 ≤ j → j < 6 → own_dgt (xs.getD j 0)) : (((((own_wt (Int32.ofNat 0) (Int32.ofNat 1) (Int32.ofNat 6) xs + own_wt (Int32.ofNat 1) (Int32.ofNat 1) (Int32.ofNat 6) xs) + own_wt (Int32.ofNat 2) (Int32.ofNat 1) (Int32.ofNat 6) xs) + own_wt (Int32.ofNat 3) (Int32.ofNat 1) (Int32.ofNat 6) xs) + own_wt (Int32.ofNat 4) (Int32.ofNat 1) (Int32.ofNat 6) xs) + own_wt (Int32.ofNat 5) (Int32.ofNat 1) (Int32.ofNat 6) xs) = own_hv xs 1 5 0 := by
  rw [own_wz 0 1 6 xs (by decide) (by decide) (by decide) (by decide), own_wd 1 1 6 xs (by decide) (by decide) (by decide) (by decide) (hd 1 (by decide) (by decide)), own_wd 2 1 6 xs (by decide) (by decide) (by decide) (by decide) (hd 2 (by decide) (by decide)), own_wd 3 1 6 xs (by decide) (by decide) (by decide) (by decide) (hd 3 (by decide) (by decide)), own_wd 4 1 6 xs (by decide) (by decide) (by decide) (by decide) (hd 4 (by decide) (by decide)), own_wd 5 1 6 xs (by decide) (by decide) (by decide) (by decide) (hd 5 (by decide) (by decide))]
  show ((((((0 : Int64) + (xs.getD 1 0 - (48 : Int32)).toInt64 * (10000 : Int64)) + (xs.getD 2 0 - (48 : Int32)).toInt64 * (1000 : Int64)) + (xs.getD 3 0 - (48 : Int32)).toInt64 * (100 : Int64)) + (xs.getD 4 0 - (48 : Int32)).toInt64 * (10 : Int64)) + (xs.getD 5 0 - (48 : Int32)).toInt64 * (1 : Int64)) = ((((((0 : Int64) * (10 : Int64) + (xs.getD 1 0 - (48 : Int32)).toInt64) * (10 : Int64) + (xs.getD 2 0 - (48 : Int32)).toInt64) * (10 : Int64) + (xs.getD 3 0 - (48 : Int32)).toInt64) * (10 : Int64) + (xs.getD 4 0 - (48 : Int32)).toInt64) * (10 : Int64) + (xs.getD 5 0 - (48 : Int32)).toInt64)
  simp only [Int64.add_mul, Int64.mul_assoc, Int64.zero_mul, Int64.zero_add, Int64.add_zero, Int64.mul_one, Int64.reduceMul]
theorem own_h_2_3 (xs : List Int32) (hd : ∀ j, 2 ≤ j → j < 3 → own_dgt (xs.getD j 0)) : (((((own_wt (Int32.ofNat 0) (Int32.ofNat 2) (Int32.ofNat 3) xs + own_wt (Int32.ofNat 1) (Int32.ofNat 2) (Int32.ofNat 3) xs) + own_wt (Int32.ofNat 2) (Int32.ofNat 2) (Int32.ofNat 3) xs) + own_wt (Int32.ofNat 3) (Int32.ofNat 2) (Int32.ofNat 3) xs) + own_wt (Int32.ofNat 4) (Int32.ofNat 2) (Int32.ofNat 3) xs) + own_wt (Int32.ofNat 5) (Int32.ofNat 2) (Int32.ofNat 3) xs) = own_hv xs 2 1 0 := by
  rw [own_wz 0 2 3 xs (by decide) (by decide) (by decide) (by decide), own_wz 1 2 3 xs (by decide) (by decide) (by decide) (by decide), own_wd 2 2 3 xs (by decide) (by decide) (by decide) (by decide) (hd 2 (by decide) (by decide)), own_wz 3 2 3 xs (by decide) (by decide) (by decide) (by decide), own_wz 4 2 3 xs (by decide) (by decide) (by decide) (by decide), own_wz 5 2 3 xs (by decide) (by decide) (by decide) (by decide)]
  show ((((((0 : Int64) + (0 : Int64)) + (xs.getD 2 0 - (48 : Int32)).toInt64 * (1 : Int64)) + (0 : Int64)) + (0 : Int64)) + (0 : Int64)) = ((0 : Int64) * (10 : Int64) + (xs.getD 2 0 - (48 : Int32)).toInt64)
  simp only [Int64.add_mul, Int64.mul_assoc, Int64.zero_mul, Int64.zero_add, Int64.add_zero, Int64.mul_one, Int64.reduceMul]
theorem own_h_2_4 (xs : List Int32) (hd : ∀ j, 2 ≤ j → j < 4 → own_dgt (xs.getD j 0)) : (((((own_wt (Int32.ofNat 0) (Int32.ofNat 2) (Int32.ofNat 4) xs + own_wt (Int32.ofNat 1) (Int32.ofNat 2) (Int32.ofNat 4) xs) + own_wt (Int32.ofNat 2) (Int32.ofNat 2) (Int32.ofNat 4) xs) + own_wt (Int32.ofNat 3) (Int32.ofNat 2) (Int32.ofNat 4) xs) + own_wt (Int32.ofNat 4) (Int32.ofNat 2) (Int32.ofNat 4) xs) + own_wt (Int32.ofNat 5) (Int32.ofNat 2) (Int32.ofNat 4) xs) = own_hv xs 2 2 0 := by
  rw [own_wz 0 2 4 xs (by decide) (by decide) (by decide) (by decide), own_wz 1 2 4 xs (by decide) (by decide) (by decide) (by decide), own_wd 2 2 4 xs (by decide) (by decide) (by decide) (by decide) (hd 2 (by decide) (by decide)), own_wd 3 2 4 xs (by decide) (by decide) (by decide) (by decide) (hd 3 (by decide) (by decide)), own_wz 4 2 4 xs (by decide) (by decide) (by decide) (by decide), own_wz 5 2 4 xs (by decide) (by decide) (by decide) (by decide)]
  show ((((((0 : Int64) + (0 : Int64)) + (xs.getD 2 0 - (48 : Int32)).toInt64 * (10 : Int64)) + (xs.getD 3 0 - (48 : Int32)).toInt64 * (1 : Int64)) + (0 : Int64)) + (0 : Int64)) = (((0 : Int64) * (10 : Int64) + (xs.getD 2 0 - (48 : Int32)).toInt64) * (10 : Int64) + (xs.getD 3 0 - (48 : Int32)).toInt64)
  simp only [Int64.add_mul, Int64.mul_assoc, Int64.zero_mul, Int64.zero_add, Int64.add_zero, Int64.mul_one, Int64.reduceMul]
theorem own_h_2_5 (xs : List Int32) (hd : ∀ j, 2 ≤ j → j < 5 → own_dgt (xs.getD j 0)) : (((((own_wt (Int32.ofNat 0) (Int32.ofNat 2) (Int32.ofNat 5) xs + own_wt (Int32.ofNat 1) (Int32.ofNat 2) (Int32.ofNat 5) xs) + own_wt (Int32.ofNat 2) (Int32.ofNat 2) (Int32.ofNat 5) xs) + own_wt (Int32.ofNat 3) (Int32.ofNat 2) (Int32.ofNat 5) xs) + own_wt (Int32.ofNat 4) (Int32.ofNat 2) (Int32.ofNat 5) xs) + own_wt (Int32.ofNat 5) (Int32.ofNat 2) (Int32.ofNat 5) xs) = own_hv xs 2 3 0 := by
  rw [own_wz 0 2 5 xs (by decide) (by decide) (by decide) (by decide), own_wz 1 2 5 xs (by decide) (by decide) (by decide) (by decide), own_wd 2 2 5 xs (by decide) (by decide) (by decide) (by decide) (hd 2 (by decide) (by decide)), own_wd 3 2 5 xs (by decide) (by decide) (by decide) (by decide) (hd 3 (by decide) (by decide)), own_wd 4 2 5 xs (by decide) (by decide) (by decide) (by decide) (hd 4 (by decide) (by decide)), own_wz 5 2 5 xs (by decide) (by decide) (by decide) (by decide)]
  show ((((((0 : Int64) + (0 : Int64)) + (xs.getD 2 0 - (48 : Int32)).toInt64 * (100 : Int64)) + (xs.getD 3 0 - (48 : Int32)).toInt64 * (10 : Int64)) + (xs.getD 4 0 - (48 : Int32)).toInt64 * (1 : Int64)) + (0 : Int64)) = ((((0 : Int64) * (10 : Int64) + (xs.getD 2 0 - (48 : Int32)).toInt64) * (10 : Int64) + (xs.getD 3 0 - (48 : Int32)).toInt64) * (10 : Int64) + (xs.getD 4 0 - (48 : Int32)).toInt64)
  simp only [Int64.add_mul, Int64.mul_assoc, Int64.zero_mul, Int64.zero_add, Int64.add_zero, Int64.mul_one, Int64.reduceMul]
theorem own_h_2_6 (xs : List Int32) (hd : ∀ j, 2 ≤ j → j < 6 → own_dgt (xs.getD j 0)) : (((((own_wt (Int32.ofNat 0) (Int32.ofNat 2) (Int32.ofNat 6) xs + own_wt (Int32.ofNat 1) (Int32.ofNat 2) (Int32.ofNat 6) xs) + own_wt (Int32.ofNat 2) (Int32.ofNat 2) (Int32.ofNat 6) xs) + own_wt (Int32.ofNat 3) (Int32.ofNat 2) (Int32.ofNat 6) xs) + own_wt (Int32.ofNat 4) (Int32.ofNat 2) (Int32.ofNat 6) xs) + own_wt (Int32.ofNat 5) (Int32.ofNat 2) (Int32.ofNat 6) xs) = own_hv xs 2 4 0 := by
  rw [own_wz 0 2 6 xs (by decide) (by decide) (by decide) (by decide), own_wz 1 2 6 xs (by decide) (by decide) (by decide) (by decide), own_wd 2 2 6 xs (by decide) (by decide) (by decide) (by decide) (hd 2 (by decide) (by decide)), own_wd 3 2 6 xs (by decide) (by decide) (by decide) (by decide) (hd 3 (by decide) (by decide)), own_wd 4 2 6 xs (by decide) (by decide) (by decide) (by decide) (hd 4 (by decide) (by decide)), own_wd 5 2 6 xs (by decide) (by decide) (by decide) (by decide) (hd 5 (by decide) (by decide))]
  show ((((((0 : Int64) + (0 : Int64)) + (xs.getD 2 0 - (48 : Int32)).toInt64 * (1000 : Int64)) + (xs.getD 3 0 - (48 : Int32)).toInt64 * (100 : Int64)) + (xs.getD 4 0 - (48 : Int32)).toInt64 * (10 : Int64)) + (xs.getD 5 0 - (48 : Int32)).toInt64 * (1 : Int64)) = (((((0 : Int64) * (10 : Int64) + (xs.getD 2 0 - (48 : Int32)).toInt64) * (10 : Int64) + (xs.getD 3 0 - (48 : Int32)).toInt64) * (10 : Int64) + (xs.getD 4 0 - (48 : Int32)).toInt64) * (10 : Int64) + (xs.getD 5 0 - (48 : Int32)).toInt64)
  simp only [Int64.add_mul, Int64.mul_assoc, Int64.zero_mul, Int64.zero_add, Int64.add_zero, Int64.mul_one, Int64.reduceMul]
theorem own_h_3_4 (xs : List Int32) (hd : ∀ j, 3 ≤ j → j < 4 → own_dgt (xs.getD j 0)) : (((((own_wt (Int32.ofNat 0) (Int32.ofNat 3) (Int32.ofNat 4) xs + own_wt (Int32.ofNat 1) (Int32.ofNat 3) (Int32.ofNat 4) xs) + own_wt (Int32.ofNat 2) (Int32.ofNat 3) (Int32.ofNat 4) xs) + own_wt (Int32.ofNat 3) (Int32.ofNat 3) (Int32.ofNat 4) xs) + own_wt (Int32.ofNat 4) (Int32.ofNat 3) (Int32.ofNat 4) xs) + own_wt (Int32.ofNat 5) (Int32.ofNat 3) (Int32.ofNat 4) xs) = own_hv xs 3 1 0 := by
  rw [own_wz 0 3 4 xs (by decide) (by decide) (by decide) (by decide), own_wz 1 3 4 xs (by decide) (by decide) (by decide) (by decide), own_wz 2 3 4 xs (by decide) (by decide) (by decide) (by decide), own_wd 3 3 4 xs (by decide) (by decide) (by decide) (by decide) (hd 3 (by decide) (by decide)), own_wz 4 3 4 xs (by decide) (by decide) (by decide) (by decide), own_wz 5 3 4 xs (by decide) (by decide) (by decide) (by decide)]
  show ((((((0 : Int64) + (0 : Int64)) + (0 : Int64)) + (xs.getD 3 0 - (48 : Int32)).toInt64 * (1 : Int64)) + (0 : Int64)) + (0 : Int64)) = ((0 : Int64) * (10 : Int64) + (xs.getD 3 0 - (48 : Int32)).toInt64)
  simp only [Int64.add_mul, Int64.mul_assoc, Int64.zero_mul, Int64.zero_add, Int64.add_zero, Int64.mul_one, Int64.reduceMul]
theorem own_h_3_5 (xs : List Int32) (hd : ∀ j, 3 ≤ j → j < 5 → own_dgt (xs.getD j 0)) : (((((own_wt (Int32.ofNat 0) (Int32.ofNat 3) (Int32.ofNat 5) xs + own_wt (Int32.ofNat 1) (Int32.ofNat 3) (Int32.ofNat 5) xs) + own_wt (Int32.ofNat 2) (Int32.ofNat 3) (Int32.ofNat 5) xs) + own_wt (Int32.ofNat 3) (Int32.ofNat 3) (Int32.ofNat 5) xs) + own_wt (Int32.ofNat 4) (Int32.ofNat 3) (Int32.ofNat 5) xs) + own_wt (Int32.ofNat 5) (Int32.ofNat 3) (Int32.ofNat 5) xs) = own_hv xs 3 2 0 := by
  rw [own_wz 0 3 5 xs (by decide) (by decide) (by decide) (by decide), own_wz 1 3 5 xs (by decide) (by decide) (by decide) (by decide), own_wz 2 3 5 xs (by decide) (by decide) (by decide) (by decide), own_wd 3 3 5 xs (by decide) (by decide) (by decide) (by decide) (hd 3 (by decide) (by decide)), own_wd 4 3 5 xs (by decide) (by decide) (by decide) (by decide) (hd 4 (by decide) (by decide)), own_wz 5 3 5 xs (by decide) (by decide) (by decide) (by decide)]
  show ((((((0 : Int64) + (0 : Int64)) + (0 : Int64)) + (xs.getD 3 0 - (48 : Int32)).toInt64 * (10 : Int64)) + (xs.getD 4 0 - (48 : Int32)).toInt64 * (1 : Int64)) + (0 : Int64)) = (((0 : Int64) * (10 : Int64) + (xs.getD 3 0 - (48 : Int32)).toInt64) * (10 : Int64) + (xs.getD 4 0 - (48 : Int32)).toInt64)
  simp only [Int64.add_mul, Int64.mul_assoc, Int64.zero_mul, Int64.zero_add, Int64.add_zero, Int64.mul_one, Int64.reduceMul]
theorem own_h_3_6 (xs : List Int32) (hd : ∀ j, 3 ≤ j → j < 6 → own_dgt (xs.getD j 0)) : (((((own_wt (Int32.ofNat 0) (Int32.ofNat 3) (Int32.ofNat 6) xs + own_wt (Int32.ofNat 1) (Int32.ofNat 3) (Int32.ofNat 6) xs) + own_wt (Int32.ofNat 2) (Int32.ofNat 3) (Int32.ofNat 6) xs) + own_wt (Int32.ofNat 3) (Int32.ofNat 3) (Int32.ofNat 6) xs) + own_wt (Int32.ofNat 4) (Int32.ofNat 3) (Int32.ofNat 6) xs) + own_wt (Int32.ofNat 5) (Int32.ofNat 3) (Int32.ofNat 6) xs) = own_hv xs 3 3 0 := by
  rw [own_wz 0 3 6 xs (by decide) (by decide) (by decide) (by decide), own_wz 1 3 6 xs (by decide) (by decide) (by decide) (by decide), own_wz 2 3 6 xs (by decide) (by decide) (by decide) (by decide), own_wd 3 3 6 xs (by decide) (by decide) (by decide) (by decide) (hd 3 (by decide) (by decide)), own_wd 4 3 6 xs (by decide) (by decide) (by decide) (by decide) (hd 4 (by decide) (by decide)), own_wd 5 3 6 xs (by decide) (by decide) (by decide) (by decide) (hd 5 (by decide) (by decide))]
  show ((((((0 : Int64) + (0 : Int64)) + (0 : Int64)) + (xs.getD 3 0 - (48 : Int32)).toInt64 * (100 : Int64)) + (xs.getD 4 0 - (48 : Int32)).toInt64 * (10 : Int64)) + (xs.getD 5 0 - (48 : Int32)).toInt64 * (1 : Int64)) = ((((0 : Int64) * (10 : Int64) + (xs.getD 3 0 - (48 : Int32)).toInt64) * (10 : Int64) + (xs.getD 4 0 - (48 : Int32)).toInt64) * (10 : Int64) + (xs.getD 5 0 - (48 : Int32)).toInt64)
  simp only [Int64.add_mul, Int64.mul_assoc, Int64.zero_mul, Int64.zero_add, Int64.add_zero, Int64.mul_one, Int64.reduceMul]
theorem own_h_4_5 (xs : List Int32) (hd : ∀ j, 4 ≤ j → j < 5 → own_dgt (xs.getD j 0)) : (((((own_wt (Int32.ofNat 0) (Int32.ofNat 4) (Int32.ofNat 5) xs + own_wt (Int32.ofNat 1) (Int32.ofNat 4) (Int32.ofNat 5) xs) + own_wt (Int32.ofNat 2) (Int32.ofNat 4) (Int32.ofNat 5) xs) + own_wt (Int32.ofNat 3) (Int32.ofNat 4) (Int32.ofNat 5) xs) + own_wt (Int32.ofNat 4) (Int32.ofNat 4) (Int32.ofNat 5) xs) + own_wt (Int32.ofNat 5) (Int32.ofNat 4) (Int32.ofNat 5) xs) = own_hv xs 4 1 0 := by
  rw [own_wz 0 4 5 xs (by decide) (by decide) (by decide) (by decide), own_wz 1 4 5 xs (by decide) (by decide) (by decide) (by decide), own_wz 2 4 5 xs (by decide) (by decide) (by decide) (by decide), own_wz 3 4 5 xs (by decide) (by decide) (by decide) (by decide), own_wd 4 4 5 xs (by decide) (by decide) (by decide) (by decide) (hd 4 (by decide) (by decide)), own_wz 5 4 5 xs (by decide) (by decide) (by decide) (by decide)]
  show ((((((0 : Int64) + (0 : Int64)) + (0 : Int64)) + (0 : Int64)) + (xs.getD 4 0 - (48 : Int32)).toInt64 * (1 : Int64)) + (0 : Int64)) = ((0 : Int64) * (10 : Int64) + (xs.getD 4 0 - (48 : Int32)).toInt64)
  simp only [Int64.add_mul, Int64.mul_assoc, Int64.zero_mul, Int64.zero_add, Int64.add_zero, Int64.mul_one, Int64.reduceMul]
theorem own_h_4_6 (xs : List Int32) (hd : ∀ j, 4 ≤ j → j < 6 → own_dgt (xs.getD j 0)) : (((((own_wt (Int32.ofNat 0) (Int32.ofNat 4) (Int32.ofNat 6) xs + own_wt (Int32.ofNat 1) (Int32.ofNat 4) (Int32.ofNat 6) xs) + own_wt (Int32.ofNat 2) (Int32.ofNat 4) (Int32.ofNat 6) xs) + own_wt (Int32.ofNat 3) (Int32.ofNat 4) (Int32.ofNat 6) xs) + own_wt (Int32.ofNat 4) (Int32.ofNat 4) (Int32.ofNat 6) xs) + own_wt (Int32.ofNat 5) (Int32.ofNat 4) (Int32.ofNat 6) xs) = own_hv xs 4 2 0 := by
  rw [own_wz 0 4 6 xs (by decide) (by decide) (by decide) (by decide), own_wz 1 4 6 xs (by decide) (by decide) (by decide) (by decide), own_wz 2 4 6 xs (by decide) (by decide) (by decide) (by decide), own_wz 3 4 6 xs (by decide) (by decide) (by decide) (by decide), own_wd 4 4 6 xs (by decide) (by decide) (by decide) (by decide) (hd 4 (by decide) (by decide)), own_wd 5 4 6 xs (by decide) (by decide) (by decide) (by decide) (hd 5 (by decide) (by decide))]
  show ((((((0 : Int64) + (0 : Int64)) + (0 : Int64)) + (0 : Int64)) + (xs.getD 4 0 - (48 : Int32)).toInt64 * (10 : Int64)) + (xs.getD 5 0 - (48 : Int32)).toInt64 * (1 : Int64)) = (((0 : Int64) * (10 : Int64) + (xs.getD 4 0 - (48 : Int32)).toInt64) * (10 : Int64) + (xs.getD 5 0 - (48 : Int32)).toInt64)
  simp only [Int64.add_mul, Int64.mul_assoc, Int64.zero_mul, Int64.zero_add, Int64.add_zero, Int64.mul_one, Int64.reduceMul]
theorem own_h_5_6 (xs : List Int32) (hd : ∀ j, 5 ≤ j → j < 6 → own_dgt (xs.getD j 0)) : (((((own_wt (Int32.ofNat 0) (Int32.ofNat 5) (Int32.ofNat 6) xs + own_wt (Int32.ofNat 1) (Int32.ofNat 5) (Int32.ofNat 6) xs) + own_wt (Int32.ofNat 2) (Int32.ofNat 5) (Int32.ofNat 6) xs) + own_wt (Int32.ofNat 3) (Int32.ofNat 5) (Int32.ofNat 6) xs) + own_wt (Int32.ofNat 4) (Int32.ofNat 5) (Int32.ofNat 6) xs) + own_wt (Int32.ofNat 5) (Int32.ofNat 5) (Int32.ofNat 6) xs) = own_hv xs 5 1 0 := by
  rw [own_wz 0 5 6 xs (by decide) (by decide) (by decide) (by decide), own_wz 1 5 6 xs (by decide) (by decide) (by decide) (by decide), own_wz 2 5 6 xs (by decide) (by decide) (by decide) (by decide), own_wz 3 5 6 xs (by decide) (by decide) (by decide) (by decide), own_wz 4 5 6 xs (by decide) (by decide) (by decide) (by decide), own_wd 5 5 6 xs (by decide) (by decide) (by decide) (by decide) (hd 5 (by decide) (by decide))]
  show ((((((0 : Int64) + (0 : Int64)) + (0 : Int64)) + (0 : Int64)) + (0 : Int64)) + (xs.getD 5 0 - (48 : Int32)).toInt64 * (1 : Int64)) = ((0 : Int64) * (10 : Int64) + (xs.getD 5 0 - (48 : Int32)).toInt64)
  simp only [Int64.add_mul, Int64.mul_assoc, Int64.zero_mul, Int64.zero_add, Int64.add_zero, Int64.mul_one, Int64.reduceMul]
theorem own_h (xs : List Int32) (A H : Nat) (hA : A ≤ 18) (hH : H ≤ 6) (hd : ∀ j, A ≤ j → j < H → own_dgt (xs.getD j 0)) : (((((own_wt (Int32.ofNat 0) (Int32.ofNat A) (Int32.ofNat H) xs + own_wt (Int32.ofNat 1) (Int32.ofNat A) (Int32.ofNat H) xs) + own_wt (Int32.ofNat 2) (Int32.ofNat A) (Int32.ofNat H) xs) + own_wt (Int32.ofNat 3) (Int32.ofNat A) (Int32.ofNat H) xs) + own_wt (Int32.ofNat 4) (Int32.ofNat A) (Int32.ofNat H) xs) + own_wt (Int32.ofNat 5) (Int32.ofNat A) (Int32.ofNat H) xs) = own_hv xs A (H - A) 0 := by
  by_cases h : H ≤ A
  · rw [own_wz 0 A H xs (by decide) hA (by omega) (by omega), own_wz 1 A H xs (by decide) hA (by omega) (by omega), own_wz 2 A H xs (by decide) hA (by omega) (by omega), own_wz 3 A H xs (by decide) hA (by omega) (by omega), own_wz 4 A H xs (by decide) hA (by omega) (by omega), own_wz 5 A H xs (by decide) hA (by omega) (by omega), show H - A = 0 by omega]; rfl
  · match A, H, hH, h, hd with
    | 0, 1, _, _, hd => exact own_h_0_1 xs hd
    | 0, 2, _, _, hd => exact own_h_0_2 xs hd
    | 0, 3, _, _, hd => exact own_h_0_3 xs hd
    | 0, 4, _, _, hd => exact own_h_0_4 xs hd
    | 0, 5, _, _, hd => exact own_h_0_5 xs hd
    | 0, 6, _, _, hd => exact own_h_0_6 xs hd
    | 1, 2, _, _, hd => exact own_h_1_2 xs hd
    | 1, 3, _, _, hd => exact own_h_1_3 xs hd
    | 1, 4, _, _, hd => exact own_h_1_4 xs hd
    | 1, 5, _, _, hd => exact own_h_1_5 xs hd
    | 1, 6, _, _, hd => exact own_h_1_6 xs hd
    | 2, 3, _, _, hd => exact own_h_2_3 xs hd
    | 2, 4, _, _, hd => exact own_h_2_4 xs hd
    | 2, 5, _, _, hd => exact own_h_2_5 xs hd
    | 2, 6, _, _, hd => exact own_h_2_6 xs hd
    | 3, 4, _, _, hd => exact own_h_3_4 xs hd
    | 3, 5, _, _, hd => exact own_h_3_5 xs hd
    | 3, 6, _, _, hd => exact own_h_3_6 xs hd
    | 4, 5, _, _, hd => exact own_h_4_5 xs hd
    | 4, 6, _, _, hd => exact own_h_4_6 xs hd
    | 5, 6, _, _, hd => exact own_h_5_6 xs hd
    | A + 6, H, q1, q2, _ => exact absurd q1 (by omega)
    | A, H + 7, q1, q2, _ => exact absurd q1 (by omega)
    | 0, 0, _, q, _ => exact absurd (by decide) q
    | 1, 0, _, q, _ => exact absurd (by decide) q
    | 1, 1, _, q, _ => exact absurd (by decide) q
    | 2, 0, _, q, _ => exact absurd (by decide) q
    | 2, 1, _, q, _ => exact absurd (by decide) q
    | 2, 2, _, q, _ => exact absurd (by decide) q
    | 3, 0, _, q, _ => exact absurd (by decide) q
    | 3, 1, _, q, _ => exact absurd (by decide) q
    | 3, 2, _, q, _ => exact absurd (by decide) q
    | 3, 3, _, q, _ => exact absurd (by decide) q
    | 4, 0, _, q, _ => exact absurd (by decide) q
    | 4, 1, _, q, _ => exact absurd (by decide) q
    | 4, 2, _, q, _ => exact absurd (by decide) q
    | 4, 3, _, q, _ => exact absurd (by decide) q
    | 4, 4, _, q, _ => exact absurd (by decide) q
    | 5, 0, _, q, _ => exact absurd (by decide) q
    | 5, 1, _, q, _ => exact absurd (by decide) q
    | 5, 2, _, q, _ => exact absurd (by decide) q
    | 5, 3, _, q, _ => exact absurd (by decide) q
    | 5, 4, _, q, _ => exact absurd (by decide) q
    | 5, 5, _, q, _ => exact absurd (by decide) q
theorem own_bad0 (A C : Nat) (t c0 c1 c2 c3 c4 c5 : Int32) (hA : A ≤ 17) (hC : A + C ≤ 18) : f0_317_s0 A C t c0 c1 c2 c3 c4 c5 = 0 ↔ ∀ q, q < 6 → A ≤ q → q < min (A + C) 6 → own_dgt ([c0, c1, c2, c3, c4, c5, t, t, t, t, t, t, t, t, t, t, t, t].getD q 0) := by
  have f := fun q (hq : q < 6) => own_f4 q A (min (A + C) 6) [c0, c1, c2, c3, c4, c5, t, t, t, t, t, t, t, t, t, t, t, t] hq (by omega) (by omega)
  have f0 := f 0 (by decide)
  have f1 := f 1 (by decide)
  have f2 := f 2 (by decide)
  have f3 := f 3 (by decide)
  have f4 := f 4 (by decide)
  have f5 := f 5 (by decide)
  constructor
  · intro h q hq
    unfold f0_317_s0 at h
    split at h
    · split at h
      · split at h
        · split at h
          · split at h
            · split at h
              · rename_i g0 g1 g2 g3 g4 g5
                match q, hq with
                | 0, _ => exact f0.mp g0
                | 1, _ => exact f1.mp g1
                | 2, _ => exact f2.mp g2
                | 3, _ => exact f3.mp g3
                | 4, _ => exact f4.mp g4
                | 5, _ => exact f5.mp g5
              · exact absurd h (by decide)
            · exact absurd h (by decide)
          · exact absurd h (by decide)
        · exact absurd h (by decide)
      · exact absurd h (by decide)
    · exact absurd h (by decide)
  · intro h
    unfold f0_317_s0
    rw [if_pos (show fn4 (0 : Int32) (Int32.ofNat A) (Int32.ofNat (min (A + C) 6)) [c0, c1, c2, c3, c4, c5, t, t, t, t, t, t, t, t, t, t, t, t] = 0 from f0.mpr (h 0 (by decide))), if_pos (show fn4 (1 : Int32) (Int32.ofNat A) (Int32.ofNat (min (A + C) 6)) [c0, c1, c2, c3, c4, c5, t, t, t, t, t, t, t, t, t, t, t, t] = 0 from f1.mpr (h 1 (by decide))), if_pos (show fn4 (2 : Int32) (Int32.ofNat A) (Int32.ofNat (min (A + C) 6)) [c0, c1, c2, c3, c4, c5, t, t, t, t, t, t, t, t, t, t, t, t] = 0 from f2.mpr (h 2 (by decide))), if_pos (show fn4 (3 : Int32) (Int32.ofNat A) (Int32.ofNat (min (A + C) 6)) [c0, c1, c2, c3, c4, c5, t, t, t, t, t, t, t, t, t, t, t, t] = 0 from f3.mpr (h 3 (by decide))), if_pos (show fn4 (4 : Int32) (Int32.ofNat A) (Int32.ofNat (min (A + C) 6)) [c0, c1, c2, c3, c4, c5, t, t, t, t, t, t, t, t, t, t, t, t] = 0 from f4.mpr (h 4 (by decide))), if_pos (show fn4 (5 : Int32) (Int32.ofNat A) (Int32.ofNat (min (A + C) 6)) [c0, c1, c2, c3, c4, c5, t, t, t, t, t, t, t, t, t, t, t, t] = 0 from f5.mpr (h 5 (by decide)))]
theorem own_tx (t c0 c1 c2 c3 c4 c5 : Int32) : ∀ j, 6 ≤ j → j < 18 → [c0, c1, c2, c3, c4, c5, t, t, t, t, t, t, t, t, t, t, t, t].getD j 0 = t := fun j h1 h2 => by
  have hj : j = 6 ∨ j = 7 ∨ j = 8 ∨ j = 9 ∨ j = 10 ∨ j = 11 ∨ j = 12 ∨ j = 13 ∨ j = 14 ∨ j = 15 ∨ j = 16 ∨ j = 17 := by omega
  rcases hj with rfl | rfl | rfl | rfl | rfl | rfl | rfl | rfl | rfl | rfl | rfl | rfl <;> rfl
theorem own_fin0 (c0 c1 c2 c3 c4 c5 t tv : Int32) (A C : Nat) (hA : A ≤ 17) (hC : A + C ≤ 18) (htv : own_dgt t ∧ (t - (48 : Int32)).toInt64 = tv.toInt64) (hb : ¬ f0_317_s0 A C t c0 c1 c2 c3 c4 c5 = 0) : own_dg [c0, c1, c2, c3, c4, c5, t, t, t, t, t, t, t, t, t, t, t, t] A C 0 = (-1 : Int64) := by
  rw [own_bad0 A C t c0 c1 c2 c3 c4 c5 hA hC] at hb
  apply own_neg1
  apply Classical.byContradiction
  intro hn
  exact hb fun q hq h1 h2 => Classical.byContradiction fun z => hn ⟨q, h1, by omega, z⟩
theorem own_fin1 (c0 c1 c2 c3 c4 c5 t tv : Int32) (A C : Nat) (hA : A ≤ 17) (hC : A + C ≤ 18) (htv : own_dgt t ∧ (t - (48 : Int32)).toInt64 = tv.toInt64) (hb : f0_317_s0 A C t c0 c1 c2 c3 c4 c5 = 0) : own_dg [c0, c1, c2, c3, c4, c5, t, t, t, t, t, t, t, t, t, t, t, t] A C 0 = ((((((((own_wt (0 : Int32) (Int32.ofNat A) (Int32.ofNat (min (A + C) 6)) [c0, c1, c2, c3, c4, c5, t, t, t, t, t, t, t, t, t, t, t, t]) + (own_wt (1 : Int32) (Int32.ofNat A) (Int32.ofNat (min (A + C) 6)) [c0, c1, c2, c3, c4, c5, t, t, t, t, t, t, t, t, t, t, t, t])) + (own_wt (2 : Int32) (Int32.ofNat A) (Int32.ofNat (min (A + C) 6)) [c0, c1, c2, c3, c4, c5, t, t, t, t, t, t, t, t, t, t, t, t])) + (own_wt (3 : Int32) (Int32.ofNat A) (Int32.ofNat (min (A + C) 6)) [c0, c1, c2, c3, c4, c5, t, t, t, t, t, t, t, t, t, t, t, t])) + (own_wt (4 : Int32) (Int32.ofNat A) (Int32.ofNat (min (A + C) 6)) [c0, c1, c2, c3, c4, c5, t, t, t, t, t, t, t, t, t, t, t, t])) + (own_wt (5 : Int32) (Int32.ofNat A) (Int32.ofNat (min (A + C) 6)) [c0, c1, c2, c3, c4, c5, t, t, t, t, t, t, t, t, t, t, t, t])) * (own_ps.getD (Int32.ofNat (A + C - max A 6)).toNatClampNeg 0)) + ((tv.toInt64) * (((own_ps.getD (Int32.ofNat (A + C - max A 6)).toNatClampNeg 0) - (1 : Int64)) / (9 : Int64)))) := by
  rw [own_bad0 A C t c0 c1 c2 c3 c4 c5 hA hC] at hb
  have hd : ∀ j, A ≤ j → j < min (A + C) 6 → own_dgt ([c0, c1, c2, c3, c4, c5, t, t, t, t, t, t, t, t, t, t, t, t].getD j 0) := fun j h1 h2 => hb j (by omega) h1 h2
  have hs := own_h [c0, c1, c2, c3, c4, c5, t, t, t, t, t, t, t, t, t, t, t, t] A (min (A + C) 6) (by omega) (by omega) hd
  have p1 : own_ps.getD (A + C - max A 6) 0 = own_p (A + C - max A 6) := (own_pp ⟨A + C - max A 6, by omega⟩).1
  have p2 : (own_ps.getD (A + C - max A 6) 0 - (1 : Int64)) / (9 : Int64) = own_r (A + C - max A 6) := (own_pp ⟨A + C - max A 6, by omega⟩).2
  have e : own_dg [c0, c1, c2, c3, c4, c5, t, t, t, t, t, t, t, t, t, t, t, t] A C 0 = own_hv [c0, c1, c2, c3, c4, c5, t, t, t, t, t, t, t, t, t, t, t, t] A (min (A + C) 6 - A) 0 * own_p (A + C - max A 6) + tv.toInt64 * own_r (A + C - max A 6) := by
    rw [← htv.2, ← own_tail [c0, c1, c2, c3, c4, c5, t, t, t, t, t, t, t, t, t, t, t, t] t htv.1 (own_tx t c0 c1 c2 c3 c4 c5) (A + C - max A 6) (A + (min (A + C) 6 - A)) _ (by omega) (by omega), ← own_hd2 [c0, c1, c2, c3, c4, c5, t, t, t, t, t, t, t, t, t, t, t, t] (A + C - max A 6) (min (A + C) 6 - A) A 0 (fun j h1 h2 => hd j h1 (by omega)), show min (A + C) 6 - A + (A + C - max A 6) = C by omega]
  rw [e, ← hs, ← p1, ← p2, own_n32 (n := A + C - max A 6) (by omega)]
  rfl
set_option maxRecDepth 65536 in
set_option maxHeartbeats 40000000 in
theorem rm0 (l : Launch) (Z : State) (a0 : Array Value) (hw : ∀ d ∈ tables_1, d.before a0 Z = true) (ws : List Jvm.Cond) (q0 : Int64) (q1 : Int64) (i2 : Int32) (i3 : Int32) (i4 : Int32) (h0 : Heap) (n0 : Nat) (Z0 : n0 ≤ h0.size) : MetP l x code maxLocals ret ws room_1 Z #[(.long q0), (.long q1), (.int i2), (.int i3), (.int i4)] h0 (fun v h L => v = some (.int (1 : Int32)) ∧ Fr n0 L) := by
  refine met_go pn_0 ?_
  intro p e s m below meth c s₁ hx hby hml hown hnm hret hlk hZ e0 X0
  have N0 := Fr.nil n0
  rw [ef_0 m q0 q1 i2 i3 i4]
  refine o_bipush 2 X0 hx rfl (hb hby at_0) (18 : Int32) rfl ?_
  refine o_newarrI 4 X0 hx rfl hZ .char .char rfl rfl (wd_0 hw) e0 (hb hby at_2) (by decide) 18 (by decide) (by decide) (by decide) (by decide) [(0 : Int32), (0 : Int32), (0 : Int32), (0 : Int32), (0 : Int32), (0 : Int32), (0 : Int32), (0 : Int32), (0 : Int32), (0 : Int32), (0 : Int32), (0 : Int32), (0 : Int32), (0 : Int32), (0 : Int32), (0 : Int32), (0 : Int32), (0 : Int32)] rfl fun T1 h1 a1 k1 g1 X1 e1 E1 A1 => ?_
  have ge2 : n0 ≤ a1 := Nat.le_trans Z0 (Nat.le_of_eq g1.symm)
  have sz3 : n0 ≤ h1.size := Nat.le_trans Z0 E1.1
  refine o_astore 6 X1 hx rfl (hb hby at_4) rfl #[.val (.long q0), .second, .val (.long q1), .second, .val (.int i2), .val (.int i3), .val (.int i4), .val (.ref a1), .unset, .unset, .unset, .unset, .unset, .unset, .unset, .unset, .unset, .unset, .unset, .unset, .unset] rfl ?_
  refine o_aload 8 X1 hx rfl (hb hby at_6) rfl rfl ?_
  refine o_iconst 9 X1 hx rfl (hb hby at_8) (0 : Int32) rfl ?_
  refine o_lloadN 10 X1 hx rfl (hb hby at_9) rfl ?_
  refine o_callP (rv := (.int (fn1 q0))) 13 X1 hx rfl hZ hown (wd_1 hw) (wd_2 hw) (wd_3 hw) (wd_4 hw) (by decide) e1 (rm1 l Z a0 hw q0 h1) pd_lJrC [(.long q0)] [(.int (0 : Int32)), (.ref a1)] rfl rfl (by rw [hml]; rfl) rfl (hb hby at_10) 2 (Nat.le_of_eq rfl) (by decide) (by decide) (by decide) (by decide) rfl rfl fun T4 X4 e4 => ?_
  refine o_castoreX 14 X4 hx rfl hZ e4 A1 (by decide) (Nat.le_of_ble_eq_true rfl) [(nar .char (fn1 q0)), (0 : Int32), (0 : Int32), (0 : Int32), (0 : Int32), (0 : Int32), (0 : Int32), (0 : Int32), (0 : Int32), (0 : Int32), (0 : Int32), (0 : Int32), (0 : Int32), (0 : Int32), (0 : Int32), (0 : Int32), (0 : Int32), (0 : Int32)] rfl N0 ge2 (hb hby at_13) fun T5 h5 L5 X5 N5 e5 W5 A5 => ?_
  have sz6 : n0 ≤ h5.size := Nat.le_trans sz3 (Keep.of_wr W5).1
  refine o_aload 16 X5 hx rfl (hb hby at_14) rfl rfl ?_
  refine o_iconst 17 X5 hx rfl (hb hby at_16) (1 : Int32) rfl ?_
  refine o_lloadN 18 X5 hx rfl (hb hby at_17) rfl ?_
  refine o_bipush 20 X5 hx rfl (hb hby at_18) (21 : Int32) rfl ?_
  refine o_lushr 21 X5 hx rfl (hb hby at_20) ?_
  refine o_callP (rv := (.int (f0_21 q0))) 24 X5 hx rfl hZ hown (wd_1 hw) (wd_2 hw) (wd_3 hw) (wd_4 hw) (by decide) e5 (rm1 l Z a0 hw ((q0.toUInt64 >>> ((21 : Int32) &&& 0x3f).toInt64.toUInt64).toInt64) h5) pd_lJrC [(.long ((q0.toUInt64 >>> ((21 : Int32) &&& 0x3f).toInt64.toUInt64).toInt64))] [(.int (1 : Int32)), (.ref a1)] rfl rfl (by rw [hml]; rfl) rfl (hb hby at_21) 2 (Nat.le_of_eq rfl) (by decide) (by decide) (by decide) (by decide) rfl rfl fun T7 X7 e7 => ?_
  refine o_castoreX 25 X7 hx rfl hZ e7 A5 (by decide) (Nat.le_of_ble_eq_true rfl) [(nar .char (fn1 q0)), (nar .char (f0_21 q0)), (0 : Int32), (0 : Int32), (0 : Int32), (0 : Int32), (0 : Int32), (0 : Int32), (0 : Int32), (0 : Int32), (0 : Int32), (0 : Int32), (0 : Int32), (0 : Int32), (0 : Int32), (0 : Int32), (0 : Int32), (0 : Int32)] rfl N5 ge2 (hb hby at_24) fun T8 h8 L8 X8 N8 e8 W8 A8 => ?_
  have sz9 : n0 ≤ h8.size := Nat.le_trans sz6 (Keep.of_wr W8).1
  refine o_aload 27 X8 hx rfl (hb hby at_25) rfl rfl ?_
  refine o_iconst 28 X8 hx rfl (hb hby at_27) (2 : Int32) rfl ?_
  refine o_lloadN 29 X8 hx rfl (hb hby at_28) rfl ?_
  refine o_bipush 31 X8 hx rfl (hb hby at_29) (42 : Int32) rfl ?_
  refine o_lushr 32 X8 hx rfl (hb hby at_31) ?_
  refine o_callP (rv := (.int (f0_32 q0))) 35 X8 hx rfl hZ hown (wd_1 hw) (wd_2 hw) (wd_3 hw) (wd_4 hw) (by decide) e8 (rm1 l Z a0 hw ((q0.toUInt64 >>> ((42 : Int32) &&& 0x3f).toInt64.toUInt64).toInt64) h8) pd_lJrC [(.long ((q0.toUInt64 >>> ((42 : Int32) &&& 0x3f).toInt64.toUInt64).toInt64))] [(.int (2 : Int32)), (.ref a1)] rfl rfl (by rw [hml]; rfl) rfl (hb hby at_32) 2 (Nat.le_of_eq rfl) (by decide) (by decide) (by decide) (by decide) rfl rfl fun T10 X10 e10 => ?_
  refine o_castoreX 36 X10 hx rfl hZ e10 A8 (by decide) (Nat.le_of_ble_eq_true rfl) [(nar .char (fn1 q0)), (nar .char (f0_21 q0)), (nar .char (f0_32 q0)), (0 : Int32), (0 : Int32), (0 : Int32), (0 : Int32), (0 : Int32), (0 : Int32), (0 : Int32), (0 : Int32), (0 : Int32), (0 : Int32), (0 : Int32), (0 : Int32), (0 : Int32), (0 : Int32), (0 : Int32)] rfl N8 ge2 (hb hby at_35) fun T11 h11 L11 X11 N11 e11 W11 A11 => ?_
  have sz12 : n0 ≤ h11.size := Nat.le_trans sz9 (Keep.of_wr W11).1
  refine o_aload 38 X11 hx rfl (hb hby at_36) rfl rfl ?_
  refine o_iconst 39 X11 hx rfl (hb hby at_38) (3 : Int32) rfl ?_
  refine o_lloadN 40 X11 hx rfl (hb hby at_39) rfl ?_
  refine o_callP (rv := (.int (fn1 q1))) 43 X11 hx rfl hZ hown (wd_1 hw) (wd_2 hw) (wd_3 hw) (wd_4 hw) (by decide) e11 (rm1 l Z a0 hw q1 h11) pd_lJrC [(.long q1)] [(.int (3 : Int32)), (.ref a1)] rfl rfl (by rw [hml]; rfl) rfl (hb hby at_40) 2 (Nat.le_of_eq rfl) (by decide) (by decide) (by decide) (by decide) rfl rfl fun T13 X13 e13 => ?_
  refine o_castoreX 44 X13 hx rfl hZ e13 A11 (by decide) (Nat.le_of_ble_eq_true rfl) [(nar .char (fn1 q0)), (nar .char (f0_21 q0)), (nar .char (f0_32 q0)), (nar .char (fn1 q1)), (0 : Int32), (0 : Int32), (0 : Int32), (0 : Int32), (0 : Int32), (0 : Int32), (0 : Int32), (0 : Int32), (0 : Int32), (0 : Int32), (0 : Int32), (0 : Int32), (0 : Int32), (0 : Int32)] rfl N11 ge2 (hb hby at_43) fun T14 h14 L14 X14 N14 e14 W14 A14 => ?_
  have sz15 : n0 ≤ h14.size := Nat.le_trans sz12 (Keep.of_wr W14).1
  refine o_aload 46 X14 hx rfl (hb hby at_44) rfl rfl ?_
  refine o_iconst 47 X14 hx rfl (hb hby at_46) (4 : Int32) rfl ?_
  refine o_lloadN 48 X14 hx rfl (hb hby at_47) rfl ?_
  refine o_bipush 50 X14 hx rfl (hb hby at_48) (21 : Int32) rfl ?_
  refine o_lushr 51 X14 hx rfl (hb hby at_50) ?_
  refine o_callP (rv := (.int (f0_51 q1))) 54 X14 hx rfl hZ hown (wd_1 hw) (wd_2 hw) (wd_3 hw) (wd_4 hw) (by decide) e14 (rm1 l Z a0 hw ((q1.toUInt64 >>> ((21 : Int32) &&& 0x3f).toInt64.toUInt64).toInt64) h14) pd_lJrC [(.long ((q1.toUInt64 >>> ((21 : Int32) &&& 0x3f).toInt64.toUInt64).toInt64))] [(.int (4 : Int32)), (.ref a1)] rfl rfl (by rw [hml]; rfl) rfl (hb hby at_51) 2 (Nat.le_of_eq rfl) (by decide) (by decide) (by decide) (by decide) rfl rfl fun T16 X16 e16 => ?_
  refine o_castoreX 55 X16 hx rfl hZ e16 A14 (by decide) (Nat.le_of_ble_eq_true rfl) [(nar .char (fn1 q0)), (nar .char (f0_21 q0)), (nar .char (f0_32 q0)), (nar .char (fn1 q1)), (nar .char (f0_51 q1)), (0 : Int32), (0 : Int32), (0 : Int32), (0 : Int32), (0 : Int32), (0 : Int32), (0 : Int32), (0 : Int32), (0 : Int32), (0 : Int32), (0 : Int32), (0 : Int32), (0 : Int32)] rfl N14 ge2 (hb hby at_54) fun T17 h17 L17 X17 N17 e17 W17 A17 => ?_
  have sz18 : n0 ≤ h17.size := Nat.le_trans sz15 (Keep.of_wr W17).1
  refine o_aload 57 X17 hx rfl (hb hby at_55) rfl rfl ?_
  refine o_iconst 58 X17 hx rfl (hb hby at_57) (5 : Int32) rfl ?_
  refine o_lloadN 59 X17 hx rfl (hb hby at_58) rfl ?_
  refine o_bipush 61 X17 hx rfl (hb hby at_59) (42 : Int32) rfl ?_
  refine o_lushr 62 X17 hx rfl (hb hby at_61) ?_
  refine o_callP (rv := (.int (f0_62 q1))) 65 X17 hx rfl hZ hown (wd_1 hw) (wd_2 hw) (wd_3 hw) (wd_4 hw) (by decide) e17 (rm1 l Z a0 hw ((q1.toUInt64 >>> ((42 : Int32) &&& 0x3f).toInt64.toUInt64).toInt64) h17) pd_lJrC [(.long ((q1.toUInt64 >>> ((42 : Int32) &&& 0x3f).toInt64.toUInt64).toInt64))] [(.int (5 : Int32)), (.ref a1)] rfl rfl (by rw [hml]; rfl) rfl (hb hby at_62) 2 (Nat.le_of_eq rfl) (by decide) (by decide) (by decide) (by decide) rfl rfl fun T19 X19 e19 => ?_
  refine o_castoreX 66 X19 hx rfl hZ e19 A17 (by decide) (Nat.le_of_ble_eq_true rfl) [(nar .char (fn1 q0)), (nar .char (f0_21 q0)), (nar .char (f0_32 q0)), (nar .char (fn1 q1)), (nar .char (f0_51 q1)), (nar .char (f0_62 q1)), (0 : Int32), (0 : Int32), (0 : Int32), (0 : Int32), (0 : Int32), (0 : Int32), (0 : Int32), (0 : Int32), (0 : Int32), (0 : Int32), (0 : Int32), (0 : Int32)] rfl N17 ge2 (hb hby at_65) fun T20 h20 L20 X20 N20 e20 W20 A20 => ?_
  have sz21 : n0 ≤ h20.size := Nat.le_trans sz18 (Keep.of_wr W20).1
  refine o_iload 68 X20 hx rfl (hb hby at_66) rfl ?_
  refine o_ldcInt 70 X20 hx rfl hZ hown (wd_6 hw) (hb hby at_68) ?_
  refine o_iand 71 X20 hx rfl (hb hby at_70) ?_
  refine o_bipush 73 X20 hx rfl (hb hby at_71) (10 : Int32) rfl ?_
  refine o_irem 74 X20 hx rfl (hb hby at_73) (by decide) ?_
  refine o_istore 76 X20 hx rfl (hb hby at_74) #[.val (.long q0), .second, .val (.long q1), .second, .val (.int i2), .val (.int i3), .val (.int i4), .val (.ref a1), .val (.int (f0_74 i2)), .unset, .unset, .unset, .unset, .unset, .unset, .unset, .unset, .unset, .unset, .unset, .unset] rfl ?_
  refine o_bipush 78 X20 hx rfl (hb hby at_76) (48 : Int32) rfl ?_
  refine o_iload 80 X20 hx rfl (hb hby at_78) rfl ?_
  refine o_iadd 81 X20 hx rfl (hb hby at_80) ?_
  refine o_i2c 82 X20 hx rfl (hb hby at_81) ?_
  refine o_istore 84 X20 hx rfl (hb hby at_82) #[.val (.long q0), .second, .val (.long q1), .second, .val (.int i2), .val (.int i3), .val (.int i4), .val (.ref a1), .val (.int (f0_74 i2)), .val (.int (f0_82 i2)), .unset, .unset, .unset, .unset, .unset, .unset, .unset, .unset, .unset, .unset, .unset] rfl ?_
  refine o_aload 86 X20 hx rfl (hb hby at_84) rfl rfl ?_
  refine o_bipush 88 X20 hx rfl (hb hby at_86) (6 : Int32) rfl ?_
  refine o_iload 90 X20 hx rfl (hb hby at_88) rfl ?_
  refine o_castoreX 91 X20 hx rfl hZ e20 A20 (by decide) (Nat.le_of_ble_eq_true rfl) [(nar .char (fn1 q0)), (nar .char (f0_21 q0)), (nar .char (f0_32 q0)), (nar .char (fn1 q1)), (nar .char (f0_51 q1)), (nar .char (f0_62 q1)), (nar .char (f0_82 i2)), (0 : Int32), (0 : Int32), (0 : Int32), (0 : Int32), (0 : Int32), (0 : Int32), (0 : Int32), (0 : Int32), (0 : Int32), (0 : Int32), (0 : Int32)] rfl N20 ge2 (hb hby at_90) fun T22 h22 L22 X22 N22 e22 W22 A22 => ?_
  have sz23 : n0 ≤ h22.size := Nat.le_trans sz21 (Keep.of_wr W22).1
  refine o_aload 93 X22 hx rfl (hb hby at_91) rfl rfl ?_
  refine o_bipush 95 X22 hx rfl (hb hby at_93) (7 : Int32) rfl ?_
  refine o_iload 97 X22 hx rfl (hb hby at_95) rfl ?_
  refine o_castoreX 98 X22 hx rfl hZ e22 A22 (by decide) (Nat.le_of_ble_eq_true rfl) [(nar .char (fn1 q0)), (nar .char (f0_21 q0)), (nar .char (f0_32 q0)), (nar .char (fn1 q1)), (nar .char (f0_51 q1)), (nar .char (f0_62 q1)), (nar .char (f0_82 i2)), (nar .char (f0_82 i2)), (0 : Int32), (0 : Int32), (0 : Int32), (0 : Int32), (0 : Int32), (0 : Int32), (0 : Int32), (0 : Int32), (0 : Int32), (0 : Int32)] rfl N22 ge2 (hb hby at_97) fun T24 h24 L24 X24 N24 e24 W24 A24 => ?_
  have sz25 : n0 ≤ h24.size := Nat.le_trans sz23 (Keep.of_wr W24).1
  refine o_aload 100 X24 hx rfl (hb hby at_98) rfl rfl ?_
  refine o_bipush 102 X24 hx rfl (hb hby at_100) (8 : Int32) rfl ?_
  refine o_iload 104 X24 hx rfl (hb hby at_102) rfl ?_
  refine o_castoreX 105 X24 hx rfl hZ e24 A24 (by decide) (Nat.le_of_ble_eq_true rfl) [(nar .char (fn1 q0)), (nar .char (f0_21 q0)), (nar .char (f0_32 q0)), (nar .char (fn1 q1)), (nar .char (f0_51 q1)), (nar .char (f0_62 q1)), (nar .char (f0_82 i2)), (nar .char (f0_82 i2)), (nar .char (f0_82 i2)), (0 : Int32), (0 : Int32), (0 : Int32), (0 : Int32), (0 : Int32), (0 : Int32), (0 : Int32), (0 : Int32), (0 : Int32)] rfl N24 ge2 (hb hby at_104) fun T26 h26 L26 X26 N26 e26 W26 A26 => ?_
  have sz27 : n0 ≤ h26.size := Nat.le_trans sz25 (Keep.of_wr W26).1
  refine o_aload 107 X26 hx rfl (hb hby at_105) rfl rfl ?_
  refine o_bipush 109 X26 hx rfl (hb hby at_107) (9 : Int32) rfl ?_
  refine o_iload 111 X26 hx rfl (hb hby at_109) rfl ?_
  refine o_castoreX 112 X26 hx rfl hZ e26 A26 (by decide) (Nat.le_of_ble_eq_true rfl) [(nar .char (fn1 q0)), (nar .char (f0_21 q0)), (nar .char (f0_32 q0)), (nar .char (fn1 q1)), (nar .char (f0_51 q1)), (nar .char (f0_62 q1)), (nar .char (f0_82 i2)), (nar .char (f0_82 i2)), (nar .char (f0_82 i2)), (nar .char (f0_82 i2)), (0 : Int32), (0 : Int32), (0 : Int32), (0 : Int32), (0 : Int32), (0 : Int32), (0 : Int32), (0 : Int32)] rfl N26 ge2 (hb hby at_111) fun T28 h28 L28 X28 N28 e28 W28 A28 => ?_
  have sz29 : n0 ≤ h28.size := Nat.le_trans sz27 (Keep.of_wr W28).1
  refine o_aload 114 X28 hx rfl (hb hby at_112) rfl rfl ?_
  refine o_bipush 116 X28 hx rfl (hb hby at_114) (10 : Int32) rfl ?_
  refine o_iload 118 X28 hx rfl (hb hby at_116) rfl ?_
  refine o_castoreX 119 X28 hx rfl hZ e28 A28 (by decide) (Nat.le_of_ble_eq_true rfl) [(nar .char (fn1 q0)), (nar .char (f0_21 q0)), (nar .char (f0_32 q0)), (nar .char (fn1 q1)), (nar .char (f0_51 q1)), (nar .char (f0_62 q1)), (nar .char (f0_82 i2)), (nar .char (f0_82 i2)), (nar .char (f0_82 i2)), (nar .char (f0_82 i2)), (nar .char (f0_82 i2)), (0 : Int32), (0 : Int32), (0 : Int32), (0 : Int32), (0 : Int32), (0 : Int32), (0 : Int32)] rfl N28 ge2 (hb hby at_118) fun T30 h30 L30 X30 N30 e30 W30 A30 => ?_
  have sz31 : n0 ≤ h30.size := Nat.le_trans sz29 (Keep.of_wr W30).1
  refine o_aload 121 X30 hx rfl (hb hby at_119) rfl rfl ?_
  refine o_bipush 123 X30 hx rfl (hb hby at_121) (11 : Int32) rfl ?_
  refine o_iload 125 X30 hx rfl (hb hby at_123) rfl ?_
  refine o_castoreX 126 X30 hx rfl hZ e30 A30 (by decide) (Nat.le_of_ble_eq_true rfl) [(nar .char (fn1 q0)), (nar .char (f0_21 q0)), (nar .char (f0_32 q0)), (nar .char (fn1 q1)), (nar .char (f0_51 q1)), (nar .char (f0_62 q1)), (nar .char (f0_82 i2)), (nar .char (f0_82 i2)), (nar .char (f0_82 i2)), (nar .char (f0_82 i2)), (nar .char (f0_82 i2)), (nar .char (f0_82 i2)), (0 : Int32), (0 : Int32), (0 : Int32), (0 : Int32), (0 : Int32), (0 : Int32)] rfl N30 ge2 (hb hby at_125) fun T32 h32 L32 X32 N32 e32 W32 A32 => ?_
  have sz33 : n0 ≤ h32.size := Nat.le_trans sz31 (Keep.of_wr W32).1
  refine o_aload 128 X32 hx rfl (hb hby at_126) rfl rfl ?_
  refine o_bipush 130 X32 hx rfl (hb hby at_128) (12 : Int32) rfl ?_
  refine o_iload 132 X32 hx rfl (hb hby at_130) rfl ?_
  refine o_castoreX 133 X32 hx rfl hZ e32 A32 (by decide) (Nat.le_of_ble_eq_true rfl) [(nar .char (fn1 q0)), (nar .char (f0_21 q0)), (nar .char (f0_32 q0)), (nar .char (fn1 q1)), (nar .char (f0_51 q1)), (nar .char (f0_62 q1)), (nar .char (f0_82 i2)), (nar .char (f0_82 i2)), (nar .char (f0_82 i2)), (nar .char (f0_82 i2)), (nar .char (f0_82 i2)), (nar .char (f0_82 i2)), (nar .char (f0_82 i2)), (0 : Int32), (0 : Int32), (0 : Int32), (0 : Int32), (0 : Int32)] rfl N32 ge2 (hb hby at_132) fun T34 h34 L34 X34 N34 e34 W34 A34 => ?_
  have sz35 : n0 ≤ h34.size := Nat.le_trans sz33 (Keep.of_wr W34).1
  refine o_aload 135 X34 hx rfl (hb hby at_133) rfl rfl ?_
  refine o_bipush 137 X34 hx rfl (hb hby at_135) (13 : Int32) rfl ?_
  refine o_iload 139 X34 hx rfl (hb hby at_137) rfl ?_
  refine o_castoreX 140 X34 hx rfl hZ e34 A34 (by decide) (Nat.le_of_ble_eq_true rfl) [(nar .char (fn1 q0)), (nar .char (f0_21 q0)), (nar .char (f0_32 q0)), (nar .char (fn1 q1)), (nar .char (f0_51 q1)), (nar .char (f0_62 q1)), (nar .char (f0_82 i2)), (nar .char (f0_82 i2)), (nar .char (f0_82 i2)), (nar .char (f0_82 i2)), (nar .char (f0_82 i2)), (nar .char (f0_82 i2)), (nar .char (f0_82 i2)), (nar .char (f0_82 i2)), (0 : Int32), (0 : Int32), (0 : Int32), (0 : Int32)] rfl N34 ge2 (hb hby at_139) fun T36 h36 L36 X36 N36 e36 W36 A36 => ?_
  have sz37 : n0 ≤ h36.size := Nat.le_trans sz35 (Keep.of_wr W36).1
  refine o_aload 142 X36 hx rfl (hb hby at_140) rfl rfl ?_
  refine o_bipush 144 X36 hx rfl (hb hby at_142) (14 : Int32) rfl ?_
  refine o_iload 146 X36 hx rfl (hb hby at_144) rfl ?_
  refine o_castoreX 147 X36 hx rfl hZ e36 A36 (by decide) (Nat.le_of_ble_eq_true rfl) [(nar .char (fn1 q0)), (nar .char (f0_21 q0)), (nar .char (f0_32 q0)), (nar .char (fn1 q1)), (nar .char (f0_51 q1)), (nar .char (f0_62 q1)), (nar .char (f0_82 i2)), (nar .char (f0_82 i2)), (nar .char (f0_82 i2)), (nar .char (f0_82 i2)), (nar .char (f0_82 i2)), (nar .char (f0_82 i2)), (nar .char (f0_82 i2)), (nar .char (f0_82 i2)), (nar .char (f0_82 i2)), (0 : Int32), (0 : Int32), (0 : Int32)] rfl N36 ge2 (hb hby at_146) fun T38 h38 L38 X38 N38 e38 W38 A38 => ?_
  have sz39 : n0 ≤ h38.size := Nat.le_trans sz37 (Keep.of_wr W38).1
  refine o_aload 149 X38 hx rfl (hb hby at_147) rfl rfl ?_
  refine o_bipush 151 X38 hx rfl (hb hby at_149) (15 : Int32) rfl ?_
  refine o_iload 153 X38 hx rfl (hb hby at_151) rfl ?_
  refine o_castoreX 154 X38 hx rfl hZ e38 A38 (by decide) (Nat.le_of_ble_eq_true rfl) [(nar .char (fn1 q0)), (nar .char (f0_21 q0)), (nar .char (f0_32 q0)), (nar .char (fn1 q1)), (nar .char (f0_51 q1)), (nar .char (f0_62 q1)), (nar .char (f0_82 i2)), (nar .char (f0_82 i2)), (nar .char (f0_82 i2)), (nar .char (f0_82 i2)), (nar .char (f0_82 i2)), (nar .char (f0_82 i2)), (nar .char (f0_82 i2)), (nar .char (f0_82 i2)), (nar .char (f0_82 i2)), (nar .char (f0_82 i2)), (0 : Int32), (0 : Int32)] rfl N38 ge2 (hb hby at_153) fun T40 h40 L40 X40 N40 e40 W40 A40 => ?_
  have sz41 : n0 ≤ h40.size := Nat.le_trans sz39 (Keep.of_wr W40).1
  refine o_aload 156 X40 hx rfl (hb hby at_154) rfl rfl ?_
  refine o_bipush 158 X40 hx rfl (hb hby at_156) (16 : Int32) rfl ?_
  refine o_iload 160 X40 hx rfl (hb hby at_158) rfl ?_
  refine o_castoreX 161 X40 hx rfl hZ e40 A40 (by decide) (Nat.le_of_ble_eq_true rfl) [(nar .char (fn1 q0)), (nar .char (f0_21 q0)), (nar .char (f0_32 q0)), (nar .char (fn1 q1)), (nar .char (f0_51 q1)), (nar .char (f0_62 q1)), (nar .char (f0_82 i2)), (nar .char (f0_82 i2)), (nar .char (f0_82 i2)), (nar .char (f0_82 i2)), (nar .char (f0_82 i2)), (nar .char (f0_82 i2)), (nar .char (f0_82 i2)), (nar .char (f0_82 i2)), (nar .char (f0_82 i2)), (nar .char (f0_82 i2)), (nar .char (f0_82 i2)), (0 : Int32)] rfl N40 ge2 (hb hby at_160) fun T42 h42 L42 X42 N42 e42 W42 A42 => ?_
  have sz43 : n0 ≤ h42.size := Nat.le_trans sz41 (Keep.of_wr W42).1
  refine o_aload 163 X42 hx rfl (hb hby at_161) rfl rfl ?_
  refine o_bipush 165 X42 hx rfl (hb hby at_163) (17 : Int32) rfl ?_
  refine o_iload 167 X42 hx rfl (hb hby at_165) rfl ?_
  refine o_castoreX 168 X42 hx rfl hZ e42 A42 (by decide) (Nat.le_of_ble_eq_true rfl) [(nar .char (fn1 q0)), (nar .char (f0_21 q0)), (nar .char (f0_32 q0)), (nar .char (fn1 q1)), (nar .char (f0_51 q1)), (nar .char (f0_62 q1)), (nar .char (f0_82 i2)), (nar .char (f0_82 i2)), (nar .char (f0_82 i2)), (nar .char (f0_82 i2)), (nar .char (f0_82 i2)), (nar .char (f0_82 i2)), (nar .char (f0_82 i2)), (nar .char (f0_82 i2)), (nar .char (f0_82 i2)), (nar .char (f0_82 i2)), (nar .char (f0_82 i2)), (nar .char (f0_82 i2))] rfl N42 ge2 (hb hby at_167) fun T44 h44 L44 X44 N44 e44 W44 A44 => ?_
  have sz45 : n0 ≤ h44.size := Nat.le_trans sz43 (Keep.of_wr W44).1
  obtain ⟨c0, hc0⟩ : ∃ c : Int32, (nar .char (fn1 q0)) = c := ⟨_, rfl⟩
  obtain ⟨c1, hc1⟩ : ∃ c : Int32, (nar .char (f0_21 q0)) = c := ⟨_, rfl⟩
  obtain ⟨c2, hc2⟩ : ∃ c : Int32, (nar .char (f0_32 q0)) = c := ⟨_, rfl⟩
  obtain ⟨c3, hc3⟩ : ∃ c : Int32, (nar .char (fn1 q1)) = c := ⟨_, rfl⟩
  obtain ⟨c4, hc4⟩ : ∃ c : Int32, (nar .char (f0_51 q1)) = c := ⟨_, rfl⟩
  obtain ⟨c5, hc5⟩ : ∃ c : Int32, (nar .char (f0_62 q1)) = c := ⟨_, rfl⟩
  obtain ⟨t, ht⟩ : ∃ t : Int32, (nar .char (f0_82 i2)) = t := ⟨_, rfl⟩
  have F46 : Arv Z h44 a1 k1 .char (18 : Int32) ([c0, c1, c2, c3, c4, c5, t, t, t, t, t, t, t, t, t, t, t, t].map Value.int) (.int 0) := by rw [← hc0, ← hc1, ← hc2, ← hc3, ← hc4, ← hc5, ← ht]; exact A44
  have htv := own_tv i2
  rw [ht] at htv
  generalize (f0_74 i2) = tv at htv ⊢
  refine o_iload 170 X44 hx rfl (hb hby at_168) rfl ?_
  refine o_ldcInt 172 X44 hx rfl hZ hown (wd_6 hw) (hb hby at_170) ?_
  refine o_iand 173 X44 hx rfl (hb hby at_172) ?_
  refine o_bipush 175 X44 hx rfl (hb hby at_173) (18 : Int32) rfl ?_
  refine o_irem 176 X44 hx rfl (hb hby at_175) (by decide) ?_
  refine o_istore 178 X44 hx rfl (hb hby at_176) #[.val (.long q0), .second, .val (.long q1), .second, .val (.int i2), .val (.int i3), .val (.int i4), .val (.ref a1), .val (.int tv), .val (.int (f0_82 i2)), .val (.int (f0_176 i3)), .unset, .unset, .unset, .unset, .unset, .unset, .unset, .unset, .unset, .unset] rfl ?_
  obtain ⟨A, hA, ha⟩ := own_A i3
  rw [ha]
  refine o_iload 180 X44 hx rfl (hb hby at_178) rfl ?_
  refine o_ldcInt 182 X44 hx rfl hZ hown (wd_6 hw) (hb hby at_180) ?_
  refine o_iand 183 X44 hx rfl (hb hby at_182) ?_
  refine o_bipush 185 X44 hx rfl (hb hby at_183) (19 : Int32) rfl ?_
  refine o_iload 187 X44 hx rfl (hb hby at_185) rfl ?_
  refine o_isub 188 X44 hx rfl (hb hby at_187) ?_
  refine o_irem 189 X44 hx rfl (hb hby at_188) (own_nz hA) ?_
  refine o_istore 191 X44 hx rfl (hb hby at_189) #[.val (.long q0), .second, .val (.long q1), .second, .val (.int i2), .val (.int i3), .val (.int i4), .val (.ref a1), .val (.int tv), .val (.int (f0_82 i2)), .val (.int (Int32.ofNat A)), .val (.int ((i4 &&& (2147483647 : Int32)) % ((19 : Int32) - (Int32.ofNat A)))), .unset, .unset, .unset, .unset, .unset, .unset, .unset, .unset, .unset] rfl ?_
  obtain ⟨C, hC, hc⟩ := own_C i4 hA
  rw [hc]
  refine o_iload 193 X44 hx rfl (hb hby at_191) rfl ?_
  refine o_iload 195 X44 hx rfl (hb hby at_193) rfl ?_
  refine o_iadd 196 X44 hx rfl (hb hby at_195) ?_
  rw [← Int32.ofNat_add]
  refine o_istore 198 X44 hx rfl (hb hby at_196) #[.val (.long q0), .second, .val (.long q1), .second, .val (.int i2), .val (.int i3), .val (.int i4), .val (.ref a1), .val (.int tv), .val (.int (f0_82 i2)), .val (.int (Int32.ofNat A)), .val (.int (Int32.ofNat C)), .val (.int (Int32.ofNat (A + C))), .unset, .unset, .unset, .unset, .unset, .unset, .unset, .unset] rfl ?_
  refine o_iload 200 X44 hx rfl (hb hby at_198) rfl ?_
  refine o_bipush 202 X44 hx rfl (hb hby at_200) (6 : Int32) rfl ?_
  refine o_callP (rv := (.int (fn2 (Int32.ofNat (A + C)) (6 : Int32)))) 205 X44 hx rfl hZ hown (wd_7 hw) (wd_8 hw) (wd_9 hw) (wd_10 hw) (by decide) e44 (rm2 l Z a0 hw (Int32.ofNat (A + C)) (6 : Int32) h44) pd_lIIrI [(.int (Int32.ofNat (A + C))), (.int (6 : Int32))] [] rfl rfl (by rw [hml]; rfl) rfl (hb hby at_202) 0 (Nat.le_of_eq rfl) (by decide) (by decide) (by decide) (by decide) rfl rfl fun T47 X47 e47 => ?_
  rw [own_mn (by omega)]
  refine o_istore 207 X47 hx rfl (hb hby at_205) #[.val (.long q0), .second, .val (.long q1), .second, .val (.int i2), .val (.int i3), .val (.int i4), .val (.ref a1), .val (.int tv), .val (.int (f0_82 i2)), .val (.int (Int32.ofNat A)), .val (.int (Int32.ofNat C)), .val (.int (Int32.ofNat (A + C))), .val (.int (Int32.ofNat (min (A + C) 6))), .unset, .unset, .unset, .unset, .unset, .unset, .unset] rfl ?_
  refine o_iload 209 X47 hx rfl (hb hby at_207) rfl ?_
  refine o_bipush 211 X47 hx rfl (hb hby at_209) (6 : Int32) rfl ?_
  refine o_callP (rv := (.int (fn3 (Int32.ofNat A) (6 : Int32)))) 214 X47 hx rfl hZ hown (wd_11 hw) (wd_12 hw) (wd_9 hw) (wd_13 hw) (by decide) e47 (rm3 l Z a0 hw (Int32.ofNat A) (6 : Int32) h44) pd_lIIrI [(.int (Int32.ofNat A)), (.int (6 : Int32))] [] rfl rfl (by rw [hml]; rfl) rfl (hb hby at_211) 0 (Nat.le_of_eq rfl) (by decide) (by decide) (by decide) (by decide) rfl rfl fun T48 X48 e48 => ?_
  rw [own_mx (by omega)]
  refine o_istore 216 X48 hx rfl (hb hby at_214) #[.val (.long q0), .second, .val (.long q1), .second, .val (.int i2), .val (.int i3), .val (.int i4), .val (.ref a1), .val (.int tv), .val (.int (f0_82 i2)), .val (.int (Int32.ofNat A)), .val (.int (Int32.ofNat C)), .val (.int (Int32.ofNat (A + C))), .val (.int (Int32.ofNat (min (A + C) 6))), .val (.int (Int32.ofNat (max A 6))), .unset, .unset, .unset, .unset, .unset, .unset] rfl ?_
  refine o_iload 218 X48 hx rfl (hb hby at_216) rfl ?_
  refine o_iload 220 X48 hx rfl (hb hby at_218) rfl ?_
  suffices j232_49 : Go p.tables e below (EndE s room_1 (fun v h L => v = some (.int (1 : Int32)) ∧ Fr n0 L)) (T48.setTop (mkF m 232 #[.val (.long q0), .second, .val (.long q1), .second, .val (.int i2), .val (.int i3), .val (.int i4), .val (.ref a1), .val (.int tv), .val (.int (f0_82 i2)), .val (.int (Int32.ofNat A)), .val (.int (Int32.ofNat C)), .val (.int (Int32.ofNat (A + C))), .val (.int (Int32.ofNat (min (A + C) 6))), .val (.int (Int32.ofNat (max A 6))), .unset, .unset, .unset, .unset, .unset, .unset] [(.int (f0_232_s0 A C))])) by
    by_cases hc220_50 : (Int32.ofNat (max A 6)) < (Int32.ofNat (A + C))
    · refine o_icmpNo 223 X48 hx rfl (hb hby at_220) (tlt hc220_50).2.2.2 ?_
      refine o_iload 225 X48 hx rfl (hb hby at_223) rfl ?_
      refine o_iload 227 X48 hx rfl (hb hby at_225) rfl ?_
      refine o_isub 228 X48 hx rfl (hb hby at_227) ?_
      refine o_goto 232 X48 hx (hb hby at_228) (by decide) (by decide) ?_
      rw [show (f0_232_s0 A C) = ((Int32.ofNat (A + C)) - (Int32.ofNat (max A 6))) from by unfold f0_232_s0; simp only [if_pos hc220_50]] at j232_49
      exact j232_49
    · refine o_icmpYes 231 X48 hx (hb hby at_220) (flt hc220_50).2.2.2 (by decide) (by decide) ?_
      refine o_iconst 232 X48 hx rfl (hb hby at_231) (0 : Int32) rfl ?_
      rw [show (f0_232_s0 A C) = (0 : Int32) from by unfold f0_232_s0; simp only [if_neg hc220_50]] at j232_49
      exact j232_49
  rw [own_tl2 (by omega) (by omega)]
  refine o_istore 234 X48 hx rfl (hb hby at_232) #[.val (.long q0), .second, .val (.long q1), .second, .val (.int i2), .val (.int i3), .val (.int i4), .val (.ref a1), .val (.int tv), .val (.int (f0_82 i2)), .val (.int (Int32.ofNat A)), .val (.int (Int32.ofNat C)), .val (.int (Int32.ofNat (A + C))), .val (.int (Int32.ofNat (min (A + C) 6))), .val (.int (Int32.ofNat (max A 6))), .val (.int (Int32.ofNat (A + C - max A 6))), .unset, .unset, .unset, .unset, .unset] rfl ?_
  refine o_aload 236 X48 hx rfl (hb hby at_234) rfl rfl ?_
  refine o_iconst 237 X48 hx rfl (hb hby at_236) (0 : Int32) rfl ?_
  refine o_iload 239 X48 hx rfl (hb hby at_237) rfl ?_
  refine o_iload 241 X48 hx rfl (hb hby at_239) rfl ?_
  refine o_callP (rv := (.int (fn4 (0 : Int32) (Int32.ofNat A) (Int32.ofNat (min (A + C) 6)) [c0, c1, c2, c3, c4, c5, t, t, t, t, t, t, t, t, t, t, t, t]))) 244 X48 hx rfl hZ hown (wd_14 hw) (wd_15 hw) (wd_3 hw) (wd_16 hw) (by decide) e48 (rm4 l Z a0 hw a1 (0 : Int32) (Int32.ofNat A) (Int32.ofNat (min (A + C) 6)) k1 [c0, c1, c2, c3, c4, c5, t, t, t, t, t, t, t, t, t, t, t, t] h44 F46 (by decide)) pd_laCIIIrZ [(.ref a1), (.int (0 : Int32)), (.int (Int32.ofNat A)), (.int (Int32.ofNat (min (A + C) 6)))] [] rfl rfl (by rw [hml]; rfl) rfl (hb hby at_241) 0 (Nat.le_of_eq rfl) (by decide) (by decide) (by decide) (by decide) rfl rfl fun T51 X51 e51 => ?_
  suffices j317_52 : ∀ (T' : State), Stand p l e room_1 s m #[(.long q0), (.long q1), (.int i2), (.int i3), (.int i4)] below meth c T' L44 1 18 → T'.heap = h44 → Go p.tables e below (EndE s room_1 (fun v h L => v = some (.int (1 : Int32)) ∧ Fr n0 L)) (T'.setTop (mkF m 317 #[.val (.long q0), .second, .val (.long q1), .second, .val (.int i2), .val (.int i3), .val (.int i4), .val (.ref a1), .val (.int tv), .val (.int (f0_82 i2)), .val (.int (Int32.ofNat A)), .val (.int (Int32.ofNat C)), .val (.int (Int32.ofNat (A + C))), .val (.int (Int32.ofNat (min (A + C) 6))), .val (.int (Int32.ofNat (max A 6))), .val (.int (Int32.ofNat (A + C - max A 6))), .unset, .unset, .unset, .unset, .unset] [(.int (f0_317_s0 A C t c0 c1 c2 c3 c4 c5))])) by
    by_cases hc244_53 : (fn4 (0 : Int32) (Int32.ofNat A) (Int32.ofNat (min (A + C) 6)) [c0, c1, c2, c3, c4, c5, t, t, t, t, t, t, t, t, t, t, t, t]) = (0 : Int32)
    · refine o_ifNo 247 X51 hx rfl (hb hby at_244) (teq hc244_53).2 ?_
      refine o_aload 249 X51 hx rfl (hb hby at_247) rfl rfl ?_
      refine o_iconst 250 X51 hx rfl (hb hby at_249) (1 : Int32) rfl ?_
      refine o_iload 252 X51 hx rfl (hb hby at_250) rfl ?_
      refine o_iload 254 X51 hx rfl (hb hby at_252) rfl ?_
      refine o_callP (rv := (.int (fn4 (1 : Int32) (Int32.ofNat A) (Int32.ofNat (min (A + C) 6)) [c0, c1, c2, c3, c4, c5, t, t, t, t, t, t, t, t, t, t, t, t]))) 257 X51 hx rfl hZ hown (wd_14 hw) (wd_15 hw) (wd_3 hw) (wd_16 hw) (by decide) e51 (rm4 l Z a0 hw a1 (1 : Int32) (Int32.ofNat A) (Int32.ofNat (min (A + C) 6)) k1 [c0, c1, c2, c3, c4, c5, t, t, t, t, t, t, t, t, t, t, t, t] h44 F46 (by decide)) pd_laCIIIrZ [(.ref a1), (.int (1 : Int32)), (.int (Int32.ofNat A)), (.int (Int32.ofNat (min (A + C) 6)))] [] rfl rfl (by rw [hml]; rfl) rfl (hb hby at_254) 0 (Nat.le_of_eq rfl) (by decide) (by decide) (by decide) (by decide) rfl rfl fun T54 X54 e54 => ?_
      by_cases hc257_55 : (fn4 (1 : Int32) (Int32.ofNat A) (Int32.ofNat (min (A + C) 6)) [c0, c1, c2, c3, c4, c5, t, t, t, t, t, t, t, t, t, t, t, t]) = (0 : Int32)
      · refine o_ifNo 260 X54 hx rfl (hb hby at_257) (teq hc257_55).2 ?_
        refine o_aload 262 X54 hx rfl (hb hby at_260) rfl rfl ?_
        refine o_iconst 263 X54 hx rfl (hb hby at_262) (2 : Int32) rfl ?_
        refine o_iload 265 X54 hx rfl (hb hby at_263) rfl ?_
        refine o_iload 267 X54 hx rfl (hb hby at_265) rfl ?_
        refine o_callP (rv := (.int (fn4 (2 : Int32) (Int32.ofNat A) (Int32.ofNat (min (A + C) 6)) [c0, c1, c2, c3, c4, c5, t, t, t, t, t, t, t, t, t, t, t, t]))) 270 X54 hx rfl hZ hown (wd_14 hw) (wd_15 hw) (wd_3 hw) (wd_16 hw) (by decide) e54 (rm4 l Z a0 hw a1 (2 : Int32) (Int32.ofNat A) (Int32.ofNat (min (A + C) 6)) k1 [c0, c1, c2, c3, c4, c5, t, t, t, t, t, t, t, t, t, t, t, t] h44 F46 (by decide)) pd_laCIIIrZ [(.ref a1), (.int (2 : Int32)), (.int (Int32.ofNat A)), (.int (Int32.ofNat (min (A + C) 6)))] [] rfl rfl (by rw [hml]; rfl) rfl (hb hby at_267) 0 (Nat.le_of_eq rfl) (by decide) (by decide) (by decide) (by decide) rfl rfl fun T56 X56 e56 => ?_
        by_cases hc270_57 : (fn4 (2 : Int32) (Int32.ofNat A) (Int32.ofNat (min (A + C) 6)) [c0, c1, c2, c3, c4, c5, t, t, t, t, t, t, t, t, t, t, t, t]) = (0 : Int32)
        · refine o_ifNo 273 X56 hx rfl (hb hby at_270) (teq hc270_57).2 ?_
          refine o_aload 275 X56 hx rfl (hb hby at_273) rfl rfl ?_
          refine o_iconst 276 X56 hx rfl (hb hby at_275) (3 : Int32) rfl ?_
          refine o_iload 278 X56 hx rfl (hb hby at_276) rfl ?_
          refine o_iload 280 X56 hx rfl (hb hby at_278) rfl ?_
          refine o_callP (rv := (.int (fn4 (3 : Int32) (Int32.ofNat A) (Int32.ofNat (min (A + C) 6)) [c0, c1, c2, c3, c4, c5, t, t, t, t, t, t, t, t, t, t, t, t]))) 283 X56 hx rfl hZ hown (wd_14 hw) (wd_15 hw) (wd_3 hw) (wd_16 hw) (by decide) e56 (rm4 l Z a0 hw a1 (3 : Int32) (Int32.ofNat A) (Int32.ofNat (min (A + C) 6)) k1 [c0, c1, c2, c3, c4, c5, t, t, t, t, t, t, t, t, t, t, t, t] h44 F46 (by decide)) pd_laCIIIrZ [(.ref a1), (.int (3 : Int32)), (.int (Int32.ofNat A)), (.int (Int32.ofNat (min (A + C) 6)))] [] rfl rfl (by rw [hml]; rfl) rfl (hb hby at_280) 0 (Nat.le_of_eq rfl) (by decide) (by decide) (by decide) (by decide) rfl rfl fun T58 X58 e58 => ?_
          by_cases hc283_59 : (fn4 (3 : Int32) (Int32.ofNat A) (Int32.ofNat (min (A + C) 6)) [c0, c1, c2, c3, c4, c5, t, t, t, t, t, t, t, t, t, t, t, t]) = (0 : Int32)
          · refine o_ifNo 286 X58 hx rfl (hb hby at_283) (teq hc283_59).2 ?_
            refine o_aload 288 X58 hx rfl (hb hby at_286) rfl rfl ?_
            refine o_iconst 289 X58 hx rfl (hb hby at_288) (4 : Int32) rfl ?_
            refine o_iload 291 X58 hx rfl (hb hby at_289) rfl ?_
            refine o_iload 293 X58 hx rfl (hb hby at_291) rfl ?_
            refine o_callP (rv := (.int (fn4 (4 : Int32) (Int32.ofNat A) (Int32.ofNat (min (A + C) 6)) [c0, c1, c2, c3, c4, c5, t, t, t, t, t, t, t, t, t, t, t, t]))) 296 X58 hx rfl hZ hown (wd_14 hw) (wd_15 hw) (wd_3 hw) (wd_16 hw) (by decide) e58 (rm4 l Z a0 hw a1 (4 : Int32) (Int32.ofNat A) (Int32.ofNat (min (A + C) 6)) k1 [c0, c1, c2, c3, c4, c5, t, t, t, t, t, t, t, t, t, t, t, t] h44 F46 (by decide)) pd_laCIIIrZ [(.ref a1), (.int (4 : Int32)), (.int (Int32.ofNat A)), (.int (Int32.ofNat (min (A + C) 6)))] [] rfl rfl (by rw [hml]; rfl) rfl (hb hby at_293) 0 (Nat.le_of_eq rfl) (by decide) (by decide) (by decide) (by decide) rfl rfl fun T60 X60 e60 => ?_
            by_cases hc296_61 : (fn4 (4 : Int32) (Int32.ofNat A) (Int32.ofNat (min (A + C) 6)) [c0, c1, c2, c3, c4, c5, t, t, t, t, t, t, t, t, t, t, t, t]) = (0 : Int32)
            · refine o_ifNo 299 X60 hx rfl (hb hby at_296) (teq hc296_61).2 ?_
              refine o_aload 301 X60 hx rfl (hb hby at_299) rfl rfl ?_
              refine o_iconst 302 X60 hx rfl (hb hby at_301) (5 : Int32) rfl ?_
              refine o_iload 304 X60 hx rfl (hb hby at_302) rfl ?_
              refine o_iload 306 X60 hx rfl (hb hby at_304) rfl ?_
              refine o_callP (rv := (.int (fn4 (5 : Int32) (Int32.ofNat A) (Int32.ofNat (min (A + C) 6)) [c0, c1, c2, c3, c4, c5, t, t, t, t, t, t, t, t, t, t, t, t]))) 309 X60 hx rfl hZ hown (wd_14 hw) (wd_15 hw) (wd_3 hw) (wd_16 hw) (by decide) e60 (rm4 l Z a0 hw a1 (5 : Int32) (Int32.ofNat A) (Int32.ofNat (min (A + C) 6)) k1 [c0, c1, c2, c3, c4, c5, t, t, t, t, t, t, t, t, t, t, t, t] h44 F46 (by decide)) pd_laCIIIrZ [(.ref a1), (.int (5 : Int32)), (.int (Int32.ofNat A)), (.int (Int32.ofNat (min (A + C) 6)))] [] rfl rfl (by rw [hml]; rfl) rfl (hb hby at_306) 0 (Nat.le_of_eq rfl) (by decide) (by decide) (by decide) (by decide) rfl rfl fun T62 X62 e62 => ?_
              by_cases hc309_63 : (fn4 (5 : Int32) (Int32.ofNat A) (Int32.ofNat (min (A + C) 6)) [c0, c1, c2, c3, c4, c5, t, t, t, t, t, t, t, t, t, t, t, t]) = (0 : Int32)
              · refine o_ifYes 316 X62 hx (hb hby at_309) (teq hc309_63).1 (by decide) (by decide) ?_
                refine o_iconst 317 X62 hx rfl (hb hby at_316) (0 : Int32) rfl ?_
                rw [show (f0_317_s0 A C t c0 c1 c2 c3 c4 c5) = (0 : Int32) from by unfold f0_317_s0; simp only [if_pos hc244_53, if_pos hc257_55, if_pos hc270_57, if_pos hc283_59, if_pos hc296_61, if_pos hc309_63]] at j317_52
                exact j317_52 T62 X62 e62
              · refine o_ifNo 312 X62 hx rfl (hb hby at_309) (feq hc309_63).1 ?_
                refine o_iconst 313 X62 hx rfl (hb hby at_312) (1 : Int32) rfl ?_
                refine o_goto 317 X62 hx (hb hby at_313) (by decide) (by decide) ?_
                rw [show (f0_317_s0 A C t c0 c1 c2 c3 c4 c5) = (1 : Int32) from by unfold f0_317_s0; simp only [if_pos hc244_53, if_pos hc257_55, if_pos hc270_57, if_pos hc283_59, if_pos hc296_61, if_neg hc309_63]] at j317_52
                exact j317_52 T62 X62 e62
            · refine o_ifYes 312 X60 hx (hb hby at_296) (feq hc296_61).2 (by decide) (by decide) ?_
              refine o_iconst 313 X60 hx rfl (hb hby at_312) (1 : Int32) rfl ?_
              refine o_goto 317 X60 hx (hb hby at_313) (by decide) (by decide) ?_
              rw [show (f0_317_s0 A C t c0 c1 c2 c3 c4 c5) = (1 : Int32) from by unfold f0_317_s0; simp only [if_pos hc244_53, if_pos hc257_55, if_pos hc270_57, if_pos hc283_59, if_neg hc296_61]] at j317_52
              exact j317_52 T60 X60 e60
          · refine o_ifYes 312 X58 hx (hb hby at_283) (feq hc283_59).2 (by decide) (by decide) ?_
            refine o_iconst 313 X58 hx rfl (hb hby at_312) (1 : Int32) rfl ?_
            refine o_goto 317 X58 hx (hb hby at_313) (by decide) (by decide) ?_
            rw [show (f0_317_s0 A C t c0 c1 c2 c3 c4 c5) = (1 : Int32) from by unfold f0_317_s0; simp only [if_pos hc244_53, if_pos hc257_55, if_pos hc270_57, if_neg hc283_59]] at j317_52
            exact j317_52 T58 X58 e58
        · refine o_ifYes 312 X56 hx (hb hby at_270) (feq hc270_57).2 (by decide) (by decide) ?_
          refine o_iconst 313 X56 hx rfl (hb hby at_312) (1 : Int32) rfl ?_
          refine o_goto 317 X56 hx (hb hby at_313) (by decide) (by decide) ?_
          rw [show (f0_317_s0 A C t c0 c1 c2 c3 c4 c5) = (1 : Int32) from by unfold f0_317_s0; simp only [if_pos hc244_53, if_pos hc257_55, if_neg hc270_57]] at j317_52
          exact j317_52 T56 X56 e56
      · refine o_ifYes 312 X54 hx (hb hby at_257) (feq hc257_55).2 (by decide) (by decide) ?_
        refine o_iconst 313 X54 hx rfl (hb hby at_312) (1 : Int32) rfl ?_
        refine o_goto 317 X54 hx (hb hby at_313) (by decide) (by decide) ?_
        rw [show (f0_317_s0 A C t c0 c1 c2 c3 c4 c5) = (1 : Int32) from by unfold f0_317_s0; simp only [if_pos hc244_53, if_neg hc257_55]] at j317_52
        exact j317_52 T54 X54 e54
    · refine o_ifYes 312 X51 hx (hb hby at_244) (feq hc244_53).2 (by decide) (by decide) ?_
      refine o_iconst 313 X51 hx rfl (hb hby at_312) (1 : Int32) rfl ?_
      refine o_goto 317 X51 hx (hb hby at_313) (by decide) (by decide) ?_
      rw [show (f0_317_s0 A C t c0 c1 c2 c3 c4 c5) = (1 : Int32) from by unfold f0_317_s0; simp only [if_neg hc244_53]] at j317_52
      exact j317_52 T51 X51 e51
  intro T64 X64 e64
  refine o_istore 319 X64 hx rfl (hb hby at_317) #[.val (.long q0), .second, .val (.long q1), .second, .val (.int i2), .val (.int i3), .val (.int i4), .val (.ref a1), .val (.int tv), .val (.int (f0_82 i2)), .val (.int (Int32.ofNat A)), .val (.int (Int32.ofNat C)), .val (.int (Int32.ofNat (A + C))), .val (.int (Int32.ofNat (min (A + C) 6))), .val (.int (Int32.ofNat (max A 6))), .val (.int (Int32.ofNat (A + C - max A 6))), .val (.int (f0_317_s0 A C t c0 c1 c2 c3 c4 c5)), .unset, .unset, .unset, .unset] rfl ?_
  refine o_aload 321 X64 hx rfl (hb hby at_319) rfl rfl ?_
  refine o_iconst 322 X64 hx rfl (hb hby at_321) (0 : Int32) rfl ?_
  refine o_iload 324 X64 hx rfl (hb hby at_322) rfl ?_
  refine o_iload 326 X64 hx rfl (hb hby at_324) rfl ?_
  refine o_callSw 329 X64 hx rfl hZ hown (wd_17 hw) (wd_18 hw) (wd_3 hw) (wd_19 hw) (by decide) e64 N44 (rm5 l Z a0 hw a1 (0 : Int32) (Int32.ofNat A) (Int32.ofNat (min (A + C) 6)) k1 [c0, c1, c2, c3, c4, c5, t, t, t, t, t, t, t, t, t, t, t, t] h44 n0 sz45 F46 (by decide) (own_hp (by decide))) pd_laCIIIrJ [(.ref a1), (.int (0 : Int32)), (.int (Int32.ofNat A)), (.int (Int32.ofNat (min (A + C) 6)))] [] rfl rfl (by rw [hml]; rfl) rfl (hb hby at_326) 0 (Nat.le_of_eq rfl) (by decide) (by decide) (by decide) (by decide) fun v65 T65 L65 LL65 X65 Q65 NF65 => ?_
  obtain ⟨rfl, M65, K65⟩ := Q65
  have NN65 := NF65 M65
  have F66 : Arv Z T65.heap a1 k1 .char (18 : Int32) ([c0, c1, c2, c3, c4, c5, t, t, t, t, t, t, t, t, t, t, t, t].map Value.int) (.int 0) := F46.keep K65 nin0
  have sz67 : n0 ≤ T65.heap.size := Nat.le_trans sz45 K65.1
  show Go p.tables e below (EndE s room_1 (fun v h L => v = some (.int (1 : Int32)) ∧ Fr n0 L)) (T65.setTop (mkF m 329 #[.val (.long q0), .second, .val (.long q1), .second, .val (.int i2), .val (.int i3), .val (.int i4), .val (.ref a1), .val (.int tv), .val (.int (f0_82 i2)), .val (.int (Int32.ofNat A)), .val (.int (Int32.ofNat C)), .val (.int (Int32.ofNat (A + C))), .val (.int (Int32.ofNat (min (A + C) 6))), .val (.int (Int32.ofNat (max A 6))), .val (.int (Int32.ofNat (A + C - max A 6))), .val (.int (f0_317_s0 A C t c0 c1 c2 c3 c4 c5)), .unset, .unset, .unset, .unset] [(.long (own_wt (0 : Int32) (Int32.ofNat A) (Int32.ofNat (min (A + C) 6)) [c0, c1, c2, c3, c4, c5, t, t, t, t, t, t, t, t, t, t, t, t]))]))
  refine o_aload 331 X65 hx rfl (hb hby at_329) rfl rfl ?_
  refine o_iconst 332 X65 hx rfl (hb hby at_331) (1 : Int32) rfl ?_
  refine o_iload 334 X65 hx rfl (hb hby at_332) rfl ?_
  refine o_iload 336 X65 hx rfl (hb hby at_334) rfl ?_
  refine o_callSw 339 X65 hx rfl hZ hown (wd_17 hw) (wd_18 hw) (wd_3 hw) (wd_19 hw) (by decide) rfl NN65 (rm5 l Z a0 hw a1 (1 : Int32) (Int32.ofNat A) (Int32.ofNat (min (A + C) 6)) k1 [c0, c1, c2, c3, c4, c5, t, t, t, t, t, t, t, t, t, t, t, t] T65.heap n0 sz67 F66 (by decide) (own_hp (by decide))) pd_laCIIIrJ [(.ref a1), (.int (1 : Int32)), (.int (Int32.ofNat A)), (.int (Int32.ofNat (min (A + C) 6)))] [(.long (own_wt (0 : Int32) (Int32.ofNat A) (Int32.ofNat (min (A + C) 6)) [c0, c1, c2, c3, c4, c5, t, t, t, t, t, t, t, t, t, t, t, t]))] rfl rfl (by rw [hml]; rfl) rfl (hb hby at_336) 2 (Nat.le_of_eq rfl) (by decide) (by decide) (by decide) (by decide) fun v68 T68 L68 LL68 X68 Q68 NF68 => ?_
  obtain ⟨rfl, M68, K68⟩ := Q68
  have NN68 := NF68 M68
  have F69 : Arv Z T68.heap a1 k1 .char (18 : Int32) ([c0, c1, c2, c3, c4, c5, t, t, t, t, t, t, t, t, t, t, t, t].map Value.int) (.int 0) := F66.keep K68 nin0
  have sz70 : n0 ≤ T68.heap.size := Nat.le_trans sz67 K68.1
  show Go p.tables e below (EndE s room_1 (fun v h L => v = some (.int (1 : Int32)) ∧ Fr n0 L)) (T68.setTop (mkF m 339 #[.val (.long q0), .second, .val (.long q1), .second, .val (.int i2), .val (.int i3), .val (.int i4), .val (.ref a1), .val (.int tv), .val (.int (f0_82 i2)), .val (.int (Int32.ofNat A)), .val (.int (Int32.ofNat C)), .val (.int (Int32.ofNat (A + C))), .val (.int (Int32.ofNat (min (A + C) 6))), .val (.int (Int32.ofNat (max A 6))), .val (.int (Int32.ofNat (A + C - max A 6))), .val (.int (f0_317_s0 A C t c0 c1 c2 c3 c4 c5)), .unset, .unset, .unset, .unset] [(.long (own_wt (1 : Int32) (Int32.ofNat A) (Int32.ofNat (min (A + C) 6)) [c0, c1, c2, c3, c4, c5, t, t, t, t, t, t, t, t, t, t, t, t])), (.long (own_wt (0 : Int32) (Int32.ofNat A) (Int32.ofNat (min (A + C) 6)) [c0, c1, c2, c3, c4, c5, t, t, t, t, t, t, t, t, t, t, t, t]))]))
  refine o_ladd 340 X68 hx rfl (hb hby at_339) ?_
  refine o_aload 342 X68 hx rfl (hb hby at_340) rfl rfl ?_
  refine o_iconst 343 X68 hx rfl (hb hby at_342) (2 : Int32) rfl ?_
  refine o_iload 345 X68 hx rfl (hb hby at_343) rfl ?_
  refine o_iload 347 X68 hx rfl (hb hby at_345) rfl ?_
  refine o_callSw 350 X68 hx rfl hZ hown (wd_17 hw) (wd_18 hw) (wd_3 hw) (wd_19 hw) (by decide) rfl NN68 (rm5 l Z a0 hw a1 (2 : Int32) (Int32.ofNat A) (Int32.ofNat (min (A + C) 6)) k1 [c0, c1, c2, c3, c4, c5, t, t, t, t, t, t, t, t, t, t, t, t] T68.heap n0 sz70 F69 (by decide) (own_hp (by decide))) pd_laCIIIrJ [(.ref a1), (.int (2 : Int32)), (.int (Int32.ofNat A)), (.int (Int32.ofNat (min (A + C) 6)))] [(.long ((own_wt (0 : Int32) (Int32.ofNat A) (Int32.ofNat (min (A + C) 6)) [c0, c1, c2, c3, c4, c5, t, t, t, t, t, t, t, t, t, t, t, t]) + (own_wt (1 : Int32) (Int32.ofNat A) (Int32.ofNat (min (A + C) 6)) [c0, c1, c2, c3, c4, c5, t, t, t, t, t, t, t, t, t, t, t, t])))] rfl rfl (by rw [hml]; rfl) rfl (hb hby at_347) 2 (Nat.le_of_eq rfl) (by decide) (by decide) (by decide) (by decide) fun v71 T71 L71 LL71 X71 Q71 NF71 => ?_
  obtain ⟨rfl, M71, K71⟩ := Q71
  have NN71 := NF71 M71
  have F72 : Arv Z T71.heap a1 k1 .char (18 : Int32) ([c0, c1, c2, c3, c4, c5, t, t, t, t, t, t, t, t, t, t, t, t].map Value.int) (.int 0) := F69.keep K71 nin0
  have sz73 : n0 ≤ T71.heap.size := Nat.le_trans sz70 K71.1
  show Go p.tables e below (EndE s room_1 (fun v h L => v = some (.int (1 : Int32)) ∧ Fr n0 L)) (T71.setTop (mkF m 350 #[.val (.long q0), .second, .val (.long q1), .second, .val (.int i2), .val (.int i3), .val (.int i4), .val (.ref a1), .val (.int tv), .val (.int (f0_82 i2)), .val (.int (Int32.ofNat A)), .val (.int (Int32.ofNat C)), .val (.int (Int32.ofNat (A + C))), .val (.int (Int32.ofNat (min (A + C) 6))), .val (.int (Int32.ofNat (max A 6))), .val (.int (Int32.ofNat (A + C - max A 6))), .val (.int (f0_317_s0 A C t c0 c1 c2 c3 c4 c5)), .unset, .unset, .unset, .unset] [(.long (own_wt (2 : Int32) (Int32.ofNat A) (Int32.ofNat (min (A + C) 6)) [c0, c1, c2, c3, c4, c5, t, t, t, t, t, t, t, t, t, t, t, t])), (.long ((own_wt (0 : Int32) (Int32.ofNat A) (Int32.ofNat (min (A + C) 6)) [c0, c1, c2, c3, c4, c5, t, t, t, t, t, t, t, t, t, t, t, t]) + (own_wt (1 : Int32) (Int32.ofNat A) (Int32.ofNat (min (A + C) 6)) [c0, c1, c2, c3, c4, c5, t, t, t, t, t, t, t, t, t, t, t, t])))]))
  refine o_ladd 351 X71 hx rfl (hb hby at_350) ?_
  refine o_aload 353 X71 hx rfl (hb hby at_351) rfl rfl ?_
  refine o_iconst 354 X71 hx rfl (hb hby at_353) (3 : Int32) rfl ?_
  refine o_iload 356 X71 hx rfl (hb hby at_354) rfl ?_
  refine o_iload 358 X71 hx rfl (hb hby at_356) rfl ?_
  refine o_callSw 361 X71 hx rfl hZ hown (wd_17 hw) (wd_18 hw) (wd_3 hw) (wd_19 hw) (by decide) rfl NN71 (rm5 l Z a0 hw a1 (3 : Int32) (Int32.ofNat A) (Int32.ofNat (min (A + C) 6)) k1 [c0, c1, c2, c3, c4, c5, t, t, t, t, t, t, t, t, t, t, t, t] T71.heap n0 sz73 F72 (by decide) (own_hp (by decide))) pd_laCIIIrJ [(.ref a1), (.int (3 : Int32)), (.int (Int32.ofNat A)), (.int (Int32.ofNat (min (A + C) 6)))] [(.long (((own_wt (0 : Int32) (Int32.ofNat A) (Int32.ofNat (min (A + C) 6)) [c0, c1, c2, c3, c4, c5, t, t, t, t, t, t, t, t, t, t, t, t]) + (own_wt (1 : Int32) (Int32.ofNat A) (Int32.ofNat (min (A + C) 6)) [c0, c1, c2, c3, c4, c5, t, t, t, t, t, t, t, t, t, t, t, t])) + (own_wt (2 : Int32) (Int32.ofNat A) (Int32.ofNat (min (A + C) 6)) [c0, c1, c2, c3, c4, c5, t, t, t, t, t, t, t, t, t, t, t, t])))] rfl rfl (by rw [hml]; rfl) rfl (hb hby at_358) 2 (Nat.le_of_eq rfl) (by decide) (by decide) (by decide) (by decide) fun v74 T74 L74 LL74 X74 Q74 NF74 => ?_
  obtain ⟨rfl, M74, K74⟩ := Q74
  have NN74 := NF74 M74
  have F75 : Arv Z T74.heap a1 k1 .char (18 : Int32) ([c0, c1, c2, c3, c4, c5, t, t, t, t, t, t, t, t, t, t, t, t].map Value.int) (.int 0) := F72.keep K74 nin0
  have sz76 : n0 ≤ T74.heap.size := Nat.le_trans sz73 K74.1
  show Go p.tables e below (EndE s room_1 (fun v h L => v = some (.int (1 : Int32)) ∧ Fr n0 L)) (T74.setTop (mkF m 361 #[.val (.long q0), .second, .val (.long q1), .second, .val (.int i2), .val (.int i3), .val (.int i4), .val (.ref a1), .val (.int tv), .val (.int (f0_82 i2)), .val (.int (Int32.ofNat A)), .val (.int (Int32.ofNat C)), .val (.int (Int32.ofNat (A + C))), .val (.int (Int32.ofNat (min (A + C) 6))), .val (.int (Int32.ofNat (max A 6))), .val (.int (Int32.ofNat (A + C - max A 6))), .val (.int (f0_317_s0 A C t c0 c1 c2 c3 c4 c5)), .unset, .unset, .unset, .unset] [(.long (own_wt (3 : Int32) (Int32.ofNat A) (Int32.ofNat (min (A + C) 6)) [c0, c1, c2, c3, c4, c5, t, t, t, t, t, t, t, t, t, t, t, t])), (.long (((own_wt (0 : Int32) (Int32.ofNat A) (Int32.ofNat (min (A + C) 6)) [c0, c1, c2, c3, c4, c5, t, t, t, t, t, t, t, t, t, t, t, t]) + (own_wt (1 : Int32) (Int32.ofNat A) (Int32.ofNat (min (A + C) 6)) [c0, c1, c2, c3, c4, c5, t, t, t, t, t, t, t, t, t, t, t, t])) + (own_wt (2 : Int32) (Int32.ofNat A) (Int32.ofNat (min (A + C) 6)) [c0, c1, c2, c3, c4, c5, t, t, t, t, t, t, t, t, t, t, t, t])))]))
  refine o_ladd 362 X74 hx rfl (hb hby at_361) ?_
  refine o_aload 364 X74 hx rfl (hb hby at_362) rfl rfl ?_
  refine o_iconst 365 X74 hx rfl (hb hby at_364) (4 : Int32) rfl ?_
  refine o_iload 367 X74 hx rfl (hb hby at_365) rfl ?_
  refine o_iload 369 X74 hx rfl (hb hby at_367) rfl ?_
  refine o_callSw 372 X74 hx rfl hZ hown (wd_17 hw) (wd_18 hw) (wd_3 hw) (wd_19 hw) (by decide) rfl NN74 (rm5 l Z a0 hw a1 (4 : Int32) (Int32.ofNat A) (Int32.ofNat (min (A + C) 6)) k1 [c0, c1, c2, c3, c4, c5, t, t, t, t, t, t, t, t, t, t, t, t] T74.heap n0 sz76 F75 (by decide) (own_hp (by decide))) pd_laCIIIrJ [(.ref a1), (.int (4 : Int32)), (.int (Int32.ofNat A)), (.int (Int32.ofNat (min (A + C) 6)))] [(.long ((((own_wt (0 : Int32) (Int32.ofNat A) (Int32.ofNat (min (A + C) 6)) [c0, c1, c2, c3, c4, c5, t, t, t, t, t, t, t, t, t, t, t, t]) + (own_wt (1 : Int32) (Int32.ofNat A) (Int32.ofNat (min (A + C) 6)) [c0, c1, c2, c3, c4, c5, t, t, t, t, t, t, t, t, t, t, t, t])) + (own_wt (2 : Int32) (Int32.ofNat A) (Int32.ofNat (min (A + C) 6)) [c0, c1, c2, c3, c4, c5, t, t, t, t, t, t, t, t, t, t, t, t])) + (own_wt (3 : Int32) (Int32.ofNat A) (Int32.ofNat (min (A + C) 6)) [c0, c1, c2, c3, c4, c5, t, t, t, t, t, t, t, t, t, t, t, t])))] rfl rfl (by rw [hml]; rfl) rfl (hb hby at_369) 2 (Nat.le_of_eq rfl) (by decide) (by decide) (by decide) (by decide) fun v77 T77 L77 LL77 X77 Q77 NF77 => ?_
  obtain ⟨rfl, M77, K77⟩ := Q77
  have NN77 := NF77 M77
  have F78 : Arv Z T77.heap a1 k1 .char (18 : Int32) ([c0, c1, c2, c3, c4, c5, t, t, t, t, t, t, t, t, t, t, t, t].map Value.int) (.int 0) := F75.keep K77 nin0
  have sz79 : n0 ≤ T77.heap.size := Nat.le_trans sz76 K77.1
  show Go p.tables e below (EndE s room_1 (fun v h L => v = some (.int (1 : Int32)) ∧ Fr n0 L)) (T77.setTop (mkF m 372 #[.val (.long q0), .second, .val (.long q1), .second, .val (.int i2), .val (.int i3), .val (.int i4), .val (.ref a1), .val (.int tv), .val (.int (f0_82 i2)), .val (.int (Int32.ofNat A)), .val (.int (Int32.ofNat C)), .val (.int (Int32.ofNat (A + C))), .val (.int (Int32.ofNat (min (A + C) 6))), .val (.int (Int32.ofNat (max A 6))), .val (.int (Int32.ofNat (A + C - max A 6))), .val (.int (f0_317_s0 A C t c0 c1 c2 c3 c4 c5)), .unset, .unset, .unset, .unset] [(.long (own_wt (4 : Int32) (Int32.ofNat A) (Int32.ofNat (min (A + C) 6)) [c0, c1, c2, c3, c4, c5, t, t, t, t, t, t, t, t, t, t, t, t])), (.long ((((own_wt (0 : Int32) (Int32.ofNat A) (Int32.ofNat (min (A + C) 6)) [c0, c1, c2, c3, c4, c5, t, t, t, t, t, t, t, t, t, t, t, t]) + (own_wt (1 : Int32) (Int32.ofNat A) (Int32.ofNat (min (A + C) 6)) [c0, c1, c2, c3, c4, c5, t, t, t, t, t, t, t, t, t, t, t, t])) + (own_wt (2 : Int32) (Int32.ofNat A) (Int32.ofNat (min (A + C) 6)) [c0, c1, c2, c3, c4, c5, t, t, t, t, t, t, t, t, t, t, t, t])) + (own_wt (3 : Int32) (Int32.ofNat A) (Int32.ofNat (min (A + C) 6)) [c0, c1, c2, c3, c4, c5, t, t, t, t, t, t, t, t, t, t, t, t])))]))
  refine o_ladd 373 X77 hx rfl (hb hby at_372) ?_
  refine o_aload 375 X77 hx rfl (hb hby at_373) rfl rfl ?_
  refine o_iconst 376 X77 hx rfl (hb hby at_375) (5 : Int32) rfl ?_
  refine o_iload 378 X77 hx rfl (hb hby at_376) rfl ?_
  refine o_iload 380 X77 hx rfl (hb hby at_378) rfl ?_
  refine o_callSw 383 X77 hx rfl hZ hown (wd_17 hw) (wd_18 hw) (wd_3 hw) (wd_19 hw) (by decide) rfl NN77 (rm5 l Z a0 hw a1 (5 : Int32) (Int32.ofNat A) (Int32.ofNat (min (A + C) 6)) k1 [c0, c1, c2, c3, c4, c5, t, t, t, t, t, t, t, t, t, t, t, t] T77.heap n0 sz79 F78 (by decide) (own_hp (by decide))) pd_laCIIIrJ [(.ref a1), (.int (5 : Int32)), (.int (Int32.ofNat A)), (.int (Int32.ofNat (min (A + C) 6)))] [(.long (((((own_wt (0 : Int32) (Int32.ofNat A) (Int32.ofNat (min (A + C) 6)) [c0, c1, c2, c3, c4, c5, t, t, t, t, t, t, t, t, t, t, t, t]) + (own_wt (1 : Int32) (Int32.ofNat A) (Int32.ofNat (min (A + C) 6)) [c0, c1, c2, c3, c4, c5, t, t, t, t, t, t, t, t, t, t, t, t])) + (own_wt (2 : Int32) (Int32.ofNat A) (Int32.ofNat (min (A + C) 6)) [c0, c1, c2, c3, c4, c5, t, t, t, t, t, t, t, t, t, t, t, t])) + (own_wt (3 : Int32) (Int32.ofNat A) (Int32.ofNat (min (A + C) 6)) [c0, c1, c2, c3, c4, c5, t, t, t, t, t, t, t, t, t, t, t, t])) + (own_wt (4 : Int32) (Int32.ofNat A) (Int32.ofNat (min (A + C) 6)) [c0, c1, c2, c3, c4, c5, t, t, t, t, t, t, t, t, t, t, t, t])))] rfl rfl (by rw [hml]; rfl) rfl (hb hby at_380) 2 (Nat.le_of_eq rfl) (by decide) (by decide) (by decide) (by decide) fun v80 T80 L80 LL80 X80 Q80 NF80 => ?_
  obtain ⟨rfl, M80, K80⟩ := Q80
  have NN80 := NF80 M80
  have F81 : Arv Z T80.heap a1 k1 .char (18 : Int32) ([c0, c1, c2, c3, c4, c5, t, t, t, t, t, t, t, t, t, t, t, t].map Value.int) (.int 0) := F78.keep K80 nin0
  have sz82 : n0 ≤ T80.heap.size := Nat.le_trans sz79 K80.1
  show Go p.tables e below (EndE s room_1 (fun v h L => v = some (.int (1 : Int32)) ∧ Fr n0 L)) (T80.setTop (mkF m 383 #[.val (.long q0), .second, .val (.long q1), .second, .val (.int i2), .val (.int i3), .val (.int i4), .val (.ref a1), .val (.int tv), .val (.int (f0_82 i2)), .val (.int (Int32.ofNat A)), .val (.int (Int32.ofNat C)), .val (.int (Int32.ofNat (A + C))), .val (.int (Int32.ofNat (min (A + C) 6))), .val (.int (Int32.ofNat (max A 6))), .val (.int (Int32.ofNat (A + C - max A 6))), .val (.int (f0_317_s0 A C t c0 c1 c2 c3 c4 c5)), .unset, .unset, .unset, .unset] [(.long (own_wt (5 : Int32) (Int32.ofNat A) (Int32.ofNat (min (A + C) 6)) [c0, c1, c2, c3, c4, c5, t, t, t, t, t, t, t, t, t, t, t, t])), (.long (((((own_wt (0 : Int32) (Int32.ofNat A) (Int32.ofNat (min (A + C) 6)) [c0, c1, c2, c3, c4, c5, t, t, t, t, t, t, t, t, t, t, t, t]) + (own_wt (1 : Int32) (Int32.ofNat A) (Int32.ofNat (min (A + C) 6)) [c0, c1, c2, c3, c4, c5, t, t, t, t, t, t, t, t, t, t, t, t])) + (own_wt (2 : Int32) (Int32.ofNat A) (Int32.ofNat (min (A + C) 6)) [c0, c1, c2, c3, c4, c5, t, t, t, t, t, t, t, t, t, t, t, t])) + (own_wt (3 : Int32) (Int32.ofNat A) (Int32.ofNat (min (A + C) 6)) [c0, c1, c2, c3, c4, c5, t, t, t, t, t, t, t, t, t, t, t, t])) + (own_wt (4 : Int32) (Int32.ofNat A) (Int32.ofNat (min (A + C) 6)) [c0, c1, c2, c3, c4, c5, t, t, t, t, t, t, t, t, t, t, t, t])))]))
  refine o_ladd 384 X80 hx rfl (hb hby at_383) ?_
  refine o_lstore 386 X80 hx rfl (hb hby at_384) #[.val (.long q0), .second, .val (.long q1), .second, .val (.int i2), .val (.int i3), .val (.int i4), .val (.ref a1), .val (.int tv), .val (.int (f0_82 i2)), .val (.int (Int32.ofNat A)), .val (.int (Int32.ofNat C)), .val (.int (Int32.ofNat (A + C))), .val (.int (Int32.ofNat (min (A + C) 6))), .val (.int (Int32.ofNat (max A 6))), .val (.int (Int32.ofNat (A + C - max A 6))), .val (.int (f0_317_s0 A C t c0 c1 c2 c3 c4 c5)), .val (.long ((((((own_wt (0 : Int32) (Int32.ofNat A) (Int32.ofNat (min (A + C) 6)) [c0, c1, c2, c3, c4, c5, t, t, t, t, t, t, t, t, t, t, t, t]) + (own_wt (1 : Int32) (Int32.ofNat A) (Int32.ofNat (min (A + C) 6)) [c0, c1, c2, c3, c4, c5, t, t, t, t, t, t, t, t, t, t, t, t])) + (own_wt (2 : Int32) (Int32.ofNat A) (Int32.ofNat (min (A + C) 6)) [c0, c1, c2, c3, c4, c5, t, t, t, t, t, t, t, t, t, t, t, t])) + (own_wt (3 : Int32) (Int32.ofNat A) (Int32.ofNat (min (A + C) 6)) [c0, c1, c2, c3, c4, c5, t, t, t, t, t, t, t, t, t, t, t, t])) + (own_wt (4 : Int32) (Int32.ofNat A) (Int32.ofNat (min (A + C) 6)) [c0, c1, c2, c3, c4, c5, t, t, t, t, t, t, t, t, t, t, t, t])) + (own_wt (5 : Int32) (Int32.ofNat A) (Int32.ofNat (min (A + C) 6)) [c0, c1, c2, c3, c4, c5, t, t, t, t, t, t, t, t, t, t, t, t]))), .second, .unset, .unset] rfl ?_
  refine o_iload 388 X80 hx rfl (hb hby at_386) rfl ?_
  by_cases hc388_83 : (f0_317_s0 A C t c0 c1 c2 c3 c4 c5) = (0 : Int32)
  · refine o_ifYes 397 X80 hx (hb hby at_388) (teq hc388_83).1 (by decide) (by decide) ?_
    refine o_lload 399 X80 hx rfl (hb hby at_397) rfl ?_
    refine o_iload 401 X80 hx rfl (hb hby at_399) rfl ?_
    refine o_callSw 404 X80 hx rfl hZ hown (wd_20 hw) (wd_21 hw) (wd_3 hw) (wd_22 hw) (by decide) rfl NN80 (rm6 l Z a0 hw (Int32.ofNat (A + C - max A 6)) T80.heap n0 sz82 (own_ti hA hC)) pd_lIrJ [(.int (Int32.ofNat (A + C - max A 6)))] [(.long ((((((own_wt (0 : Int32) (Int32.ofNat A) (Int32.ofNat (min (A + C) 6)) [c0, c1, c2, c3, c4, c5, t, t, t, t, t, t, t, t, t, t, t, t]) + (own_wt (1 : Int32) (Int32.ofNat A) (Int32.ofNat (min (A + C) 6)) [c0, c1, c2, c3, c4, c5, t, t, t, t, t, t, t, t, t, t, t, t])) + (own_wt (2 : Int32) (Int32.ofNat A) (Int32.ofNat (min (A + C) 6)) [c0, c1, c2, c3, c4, c5, t, t, t, t, t, t, t, t, t, t, t, t])) + (own_wt (3 : Int32) (Int32.ofNat A) (Int32.ofNat (min (A + C) 6)) [c0, c1, c2, c3, c4, c5, t, t, t, t, t, t, t, t, t, t, t, t])) + (own_wt (4 : Int32) (Int32.ofNat A) (Int32.ofNat (min (A + C) 6)) [c0, c1, c2, c3, c4, c5, t, t, t, t, t, t, t, t, t, t, t, t])) + (own_wt (5 : Int32) (Int32.ofNat A) (Int32.ofNat (min (A + C) 6)) [c0, c1, c2, c3, c4, c5, t, t, t, t, t, t, t, t, t, t, t, t])))] rfl rfl (by rw [hml]; rfl) rfl (hb hby at_401) 2 (Nat.le_of_eq rfl) (by decide) (by decide) (by decide) (by decide) fun v84 T84 L84 LL84 X84 Q84 NF84 => ?_
    obtain ⟨rfl, M84, K84⟩ := Q84
    have NN84 := NF84 M84
    have F85 : Arv Z T84.heap a1 k1 .char (18 : Int32) ([c0, c1, c2, c3, c4, c5, t, t, t, t, t, t, t, t, t, t, t, t].map Value.int) (.int 0) := F81.keep K84 nin0
    have sz86 : n0 ≤ T84.heap.size := Nat.le_trans sz82 K84.1
    show Go p.tables e below (EndE s room_1 (fun v h L => v = some (.int (1 : Int32)) ∧ Fr n0 L)) (T84.setTop (mkF m 404 #[.val (.long q0), .second, .val (.long q1), .second, .val (.int i2), .val (.int i3), .val (.int i4), .val (.ref a1), .val (.int tv), .val (.int (f0_82 i2)), .val (.int (Int32.ofNat A)), .val (.int (Int32.ofNat C)), .val (.int (Int32.ofNat (A + C))), .val (.int (Int32.ofNat (min (A + C) 6))), .val (.int (Int32.ofNat (max A 6))), .val (.int (Int32.ofNat (A + C - max A 6))), .val (.int (f0_317_s0 A C t c0 c1 c2 c3 c4 c5)), .val (.long ((((((own_wt (0 : Int32) (Int32.ofNat A) (Int32.ofNat (min (A + C) 6)) [c0, c1, c2, c3, c4, c5, t, t, t, t, t, t, t, t, t, t, t, t]) + (own_wt (1 : Int32) (Int32.ofNat A) (Int32.ofNat (min (A + C) 6)) [c0, c1, c2, c3, c4, c5, t, t, t, t, t, t, t, t, t, t, t, t])) + (own_wt (2 : Int32) (Int32.ofNat A) (Int32.ofNat (min (A + C) 6)) [c0, c1, c2, c3, c4, c5, t, t, t, t, t, t, t, t, t, t, t, t])) + (own_wt (3 : Int32) (Int32.ofNat A) (Int32.ofNat (min (A + C) 6)) [c0, c1, c2, c3, c4, c5, t, t, t, t, t, t, t, t, t, t, t, t])) + (own_wt (4 : Int32) (Int32.ofNat A) (Int32.ofNat (min (A + C) 6)) [c0, c1, c2, c3, c4, c5, t, t, t, t, t, t, t, t, t, t, t, t])) + (own_wt (5 : Int32) (Int32.ofNat A) (Int32.ofNat (min (A + C) 6)) [c0, c1, c2, c3, c4, c5, t, t, t, t, t, t, t, t, t, t, t, t]))), .second, .unset, .unset] [(.long (own_ps.getD (Int32.ofNat (A + C - max A 6)).toNatClampNeg 0)), (.long ((((((own_wt (0 : Int32) (Int32.ofNat A) (Int32.ofNat (min (A + C) 6)) [c0, c1, c2, c3, c4, c5, t, t, t, t, t, t, t, t, t, t, t, t]) + (own_wt (1 : Int32) (Int32.ofNat A) (Int32.ofNat (min (A + C) 6)) [c0, c1, c2, c3, c4, c5, t, t, t, t, t, t, t, t, t, t, t, t])) + (own_wt (2 : Int32) (Int32.ofNat A) (Int32.ofNat (min (A + C) 6)) [c0, c1, c2, c3, c4, c5, t, t, t, t, t, t, t, t, t, t, t, t])) + (own_wt (3 : Int32) (Int32.ofNat A) (Int32.ofNat (min (A + C) 6)) [c0, c1, c2, c3, c4, c5, t, t, t, t, t, t, t, t, t, t, t, t])) + (own_wt (4 : Int32) (Int32.ofNat A) (Int32.ofNat (min (A + C) 6)) [c0, c1, c2, c3, c4, c5, t, t, t, t, t, t, t, t, t, t, t, t])) + (own_wt (5 : Int32) (Int32.ofNat A) (Int32.ofNat (min (A + C) 6)) [c0, c1, c2, c3, c4, c5, t, t, t, t, t, t, t, t, t, t, t, t])))]))
    refine o_lmul 405 X84 hx rfl (hb hby at_404) ?_
    refine o_iload 407 X84 hx rfl (hb hby at_405) rfl ?_
    refine o_i2l 408 X84 hx rfl (hb hby at_407) ?_
    refine o_iload 410 X84 hx rfl (hb hby at_408) rfl ?_
    refine o_callSw 413 X84 hx rfl hZ hown (wd_20 hw) (wd_21 hw) (wd_3 hw) (wd_22 hw) (by decide) rfl NN84 (rm6 l Z a0 hw (Int32.ofNat (A + C - max A 6)) T84.heap n0 sz86 (own_ti hA hC)) pd_lIrJ [(.int (Int32.ofNat (A + C - max A 6)))] [(.long (tv.toInt64)), (.long (((((((own_wt (0 : Int32) (Int32.ofNat A) (Int32.ofNat (min (A + C) 6)) [c0, c1, c2, c3, c4, c5, t, t, t, t, t, t, t, t, t, t, t, t]) + (own_wt (1 : Int32) (Int32.ofNat A) (Int32.ofNat (min (A + C) 6)) [c0, c1, c2, c3, c4, c5, t, t, t, t, t, t, t, t, t, t, t, t])) + (own_wt (2 : Int32) (Int32.ofNat A) (Int32.ofNat (min (A + C) 6)) [c0, c1, c2, c3, c4, c5, t, t, t, t, t, t, t, t, t, t, t, t])) + (own_wt (3 : Int32) (Int32.ofNat A) (Int32.ofNat (min (A + C) 6)) [c0, c1, c2, c3, c4, c5, t, t, t, t, t, t, t, t, t, t, t, t])) + (own_wt (4 : Int32) (Int32.ofNat A) (Int32.ofNat (min (A + C) 6)) [c0, c1, c2, c3, c4, c5, t, t, t, t, t, t, t, t, t, t, t, t])) + (own_wt (5 : Int32) (Int32.ofNat A) (Int32.ofNat (min (A + C) 6)) [c0, c1, c2, c3, c4, c5, t, t, t, t, t, t, t, t, t, t, t, t])) * (own_ps.getD (Int32.ofNat (A + C - max A 6)).toNatClampNeg 0)))] rfl rfl (by rw [hml]; rfl) rfl (hb hby at_410) 4 (Nat.le_of_eq rfl) (by decide) (by decide) (by decide) (by decide) fun v87 T87 L87 LL87 X87 Q87 NF87 => ?_
    obtain ⟨rfl, M87, K87⟩ := Q87
    have NN87 := NF87 M87
    have F88 : Arv Z T87.heap a1 k1 .char (18 : Int32) ([c0, c1, c2, c3, c4, c5, t, t, t, t, t, t, t, t, t, t, t, t].map Value.int) (.int 0) := F85.keep K87 nin0
    have sz89 : n0 ≤ T87.heap.size := Nat.le_trans sz86 K87.1
    show Go p.tables e below (EndE s room_1 (fun v h L => v = some (.int (1 : Int32)) ∧ Fr n0 L)) (T87.setTop (mkF m 413 #[.val (.long q0), .second, .val (.long q1), .second, .val (.int i2), .val (.int i3), .val (.int i4), .val (.ref a1), .val (.int tv), .val (.int (f0_82 i2)), .val (.int (Int32.ofNat A)), .val (.int (Int32.ofNat C)), .val (.int (Int32.ofNat (A + C))), .val (.int (Int32.ofNat (min (A + C) 6))), .val (.int (Int32.ofNat (max A 6))), .val (.int (Int32.ofNat (A + C - max A 6))), .val (.int (f0_317_s0 A C t c0 c1 c2 c3 c4 c5)), .val (.long ((((((own_wt (0 : Int32) (Int32.ofNat A) (Int32.ofNat (min (A + C) 6)) [c0, c1, c2, c3, c4, c5, t, t, t, t, t, t, t, t, t, t, t, t]) + (own_wt (1 : Int32) (Int32.ofNat A) (Int32.ofNat (min (A + C) 6)) [c0, c1, c2, c3, c4, c5, t, t, t, t, t, t, t, t, t, t, t, t])) + (own_wt (2 : Int32) (Int32.ofNat A) (Int32.ofNat (min (A + C) 6)) [c0, c1, c2, c3, c4, c5, t, t, t, t, t, t, t, t, t, t, t, t])) + (own_wt (3 : Int32) (Int32.ofNat A) (Int32.ofNat (min (A + C) 6)) [c0, c1, c2, c3, c4, c5, t, t, t, t, t, t, t, t, t, t, t, t])) + (own_wt (4 : Int32) (Int32.ofNat A) (Int32.ofNat (min (A + C) 6)) [c0, c1, c2, c3, c4, c5, t, t, t, t, t, t, t, t, t, t, t, t])) + (own_wt (5 : Int32) (Int32.ofNat A) (Int32.ofNat (min (A + C) 6)) [c0, c1, c2, c3, c4, c5, t, t, t, t, t, t, t, t, t, t, t, t]))), .second, .unset, .unset] [(.long (own_ps.getD (Int32.ofNat (A + C - max A 6)).toNatClampNeg 0)), (.long (tv.toInt64)), (.long (((((((own_wt (0 : Int32) (Int32.ofNat A) (Int32.ofNat (min (A + C) 6)) [c0, c1, c2, c3, c4, c5, t, t, t, t, t, t, t, t, t, t, t, t]) + (own_wt (1 : Int32) (Int32.ofNat A) (Int32.ofNat (min (A + C) 6)) [c0, c1, c2, c3, c4, c5, t, t, t, t, t, t, t, t, t, t, t, t])) + (own_wt (2 : Int32) (Int32.ofNat A) (Int32.ofNat (min (A + C) 6)) [c0, c1, c2, c3, c4, c5, t, t, t, t, t, t, t, t, t, t, t, t])) + (own_wt (3 : Int32) (Int32.ofNat A) (Int32.ofNat (min (A + C) 6)) [c0, c1, c2, c3, c4, c5, t, t, t, t, t, t, t, t, t, t, t, t])) + (own_wt (4 : Int32) (Int32.ofNat A) (Int32.ofNat (min (A + C) 6)) [c0, c1, c2, c3, c4, c5, t, t, t, t, t, t, t, t, t, t, t, t])) + (own_wt (5 : Int32) (Int32.ofNat A) (Int32.ofNat (min (A + C) 6)) [c0, c1, c2, c3, c4, c5, t, t, t, t, t, t, t, t, t, t, t, t])) * (own_ps.getD (Int32.ofNat (A + C - max A 6)).toNatClampNeg 0)))]))
    refine o_lconst 414 X87 hx rfl (hb hby at_413) (1 : Int64) rfl ?_
    refine o_lsub 415 X87 hx rfl (hb hby at_414) ?_
    refine o_ldc2Long 418 X87 hx rfl hZ hown (wd_42 hw) (hb hby at_415) ?_
    refine o_ldiv 419 X87 hx rfl (hb hby at_418) (by decide) ?_
    refine o_lmul 420 X87 hx rfl (hb hby at_419) ?_
    refine o_ladd 421 X87 hx rfl (hb hby at_420) ?_
    refine o_lstore 423 X87 hx rfl (hb hby at_421) #[.val (.long q0), .second, .val (.long q1), .second, .val (.int i2), .val (.int i3), .val (.int i4), .val (.ref a1), .val (.int tv), .val (.int (f0_82 i2)), .val (.int (Int32.ofNat A)), .val (.int (Int32.ofNat C)), .val (.int (Int32.ofNat (A + C))), .val (.int (Int32.ofNat (min (A + C) 6))), .val (.int (Int32.ofNat (max A 6))), .val (.int (Int32.ofNat (A + C - max A 6))), .val (.int (f0_317_s0 A C t c0 c1 c2 c3 c4 c5)), .val (.long ((((((own_wt (0 : Int32) (Int32.ofNat A) (Int32.ofNat (min (A + C) 6)) [c0, c1, c2, c3, c4, c5, t, t, t, t, t, t, t, t, t, t, t, t]) + (own_wt (1 : Int32) (Int32.ofNat A) (Int32.ofNat (min (A + C) 6)) [c0, c1, c2, c3, c4, c5, t, t, t, t, t, t, t, t, t, t, t, t])) + (own_wt (2 : Int32) (Int32.ofNat A) (Int32.ofNat (min (A + C) 6)) [c0, c1, c2, c3, c4, c5, t, t, t, t, t, t, t, t, t, t, t, t])) + (own_wt (3 : Int32) (Int32.ofNat A) (Int32.ofNat (min (A + C) 6)) [c0, c1, c2, c3, c4, c5, t, t, t, t, t, t, t, t, t, t, t, t])) + (own_wt (4 : Int32) (Int32.ofNat A) (Int32.ofNat (min (A + C) 6)) [c0, c1, c2, c3, c4, c5, t, t, t, t, t, t, t, t, t, t, t, t])) + (own_wt (5 : Int32) (Int32.ofNat A) (Int32.ofNat (min (A + C) 6)) [c0, c1, c2, c3, c4, c5, t, t, t, t, t, t, t, t, t, t, t, t]))), .second, .val (.long ((((((((own_wt (0 : Int32) (Int32.ofNat A) (Int32.ofNat (min (A + C) 6)) [c0, c1, c2, c3, c4, c5, t, t, t, t, t, t, t, t, t, t, t, t]) + (own_wt (1 : Int32) (Int32.ofNat A) (Int32.ofNat (min (A + C) 6)) [c0, c1, c2, c3, c4, c5, t, t, t, t, t, t, t, t, t, t, t, t])) + (own_wt (2 : Int32) (Int32.ofNat A) (Int32.ofNat (min (A + C) 6)) [c0, c1, c2, c3, c4, c5, t, t, t, t, t, t, t, t, t, t, t, t])) + (own_wt (3 : Int32) (Int32.ofNat A) (Int32.ofNat (min (A + C) 6)) [c0, c1, c2, c3, c4, c5, t, t, t, t, t, t, t, t, t, t, t, t])) + (own_wt (4 : Int32) (Int32.ofNat A) (Int32.ofNat (min (A + C) 6)) [c0, c1, c2, c3, c4, c5, t, t, t, t, t, t, t, t, t, t, t, t])) + (own_wt (5 : Int32) (Int32.ofNat A) (Int32.ofNat (min (A + C) 6)) [c0, c1, c2, c3, c4, c5, t, t, t, t, t, t, t, t, t, t, t, t])) * (own_ps.getD (Int32.ofNat (A + C - max A 6)).toNatClampNeg 0)) + ((tv.toInt64) * (((own_ps.getD (Int32.ofNat (A + C - max A 6)).toNatClampNeg 0) - (1 : Int64)) / (9 : Int64))))), .second] rfl ?_
    refine o_aload 425 X87 hx rfl (hb hby at_423) rfl rfl ?_
    refine o_iload 427 X87 hx rfl (hb hby at_425) rfl ?_
    refine o_iload 429 X87 hx rfl (hb hby at_427) rfl ?_
    refine o_callP (rv := (.long (own_dg [c0, c1, c2, c3, c4, c5, t, t, t, t, t, t, t, t, t, t, t, t] A C 0))) 432 X87 hx rfl hZ hown (wd_43 hw) (wd_44 hw) (wd_45 hw) (wd_46 hw) (by decide) rfl (rm7 l Z a0 hw a1 k1 A C 18 [c0, c1, c2, c3, c4, c5, t, t, t, t, t, t, t, t, t, t, t, t] T87.heap (by decide) hC F88) pd_laCIIrJ [(.ref a1), (.int (Int32.ofNat A)), (.int (Int32.ofNat C))] [] rfl rfl (by rw [hml]; rfl) rfl (hb hby at_429) 0 (Nat.le_of_eq rfl) (by decide) (by decide) (by decide) (by decide) rfl rfl fun T90 X90 e90 => ?_
    refine o_lload 434 X90 hx rfl (hb hby at_432) rfl ?_
    refine o_lcmp 435 X90 hx rfl (hb hby at_434) ?_
    refine o_ifNo 438 X90 hx rfl (hb hby at_435) (teq (l_teq (own_fin1 c0 c1 c2 c3 c4 c5 t tv A C hA hC htv hc388_83))).2 ?_
    refine o_iconst 439 X90 hx rfl (hb hby at_438) (1 : Int32) rfl ?_
    refine o_goto 443 X90 hx (hb hby at_439) (by decide) (by decide) ?_
    refine o_retN X90 hx .boolean (by simp) hret hlk (hb hby at_443) (by decide) (by decide) ?_
    exact ⟨rfl, NN87⟩
  · refine o_ifNo 391 X80 hx rfl (hb hby at_388) (feq hc388_83).1 ?_
    refine o_ldc2Long 394 X80 hx rfl hZ hown (wd_48 hw) (hb hby at_391) ?_
    refine o_goto 421 X80 hx (hb hby at_394) (by decide) (by decide) ?_
    refine o_lstore 423 X80 hx rfl (hb hby at_421) #[.val (.long q0), .second, .val (.long q1), .second, .val (.int i2), .val (.int i3), .val (.int i4), .val (.ref a1), .val (.int tv), .val (.int (f0_82 i2)), .val (.int (Int32.ofNat A)), .val (.int (Int32.ofNat C)), .val (.int (Int32.ofNat (A + C))), .val (.int (Int32.ofNat (min (A + C) 6))), .val (.int (Int32.ofNat (max A 6))), .val (.int (Int32.ofNat (A + C - max A 6))), .val (.int (f0_317_s0 A C t c0 c1 c2 c3 c4 c5)), .val (.long ((((((own_wt (0 : Int32) (Int32.ofNat A) (Int32.ofNat (min (A + C) 6)) [c0, c1, c2, c3, c4, c5, t, t, t, t, t, t, t, t, t, t, t, t]) + (own_wt (1 : Int32) (Int32.ofNat A) (Int32.ofNat (min (A + C) 6)) [c0, c1, c2, c3, c4, c5, t, t, t, t, t, t, t, t, t, t, t, t])) + (own_wt (2 : Int32) (Int32.ofNat A) (Int32.ofNat (min (A + C) 6)) [c0, c1, c2, c3, c4, c5, t, t, t, t, t, t, t, t, t, t, t, t])) + (own_wt (3 : Int32) (Int32.ofNat A) (Int32.ofNat (min (A + C) 6)) [c0, c1, c2, c3, c4, c5, t, t, t, t, t, t, t, t, t, t, t, t])) + (own_wt (4 : Int32) (Int32.ofNat A) (Int32.ofNat (min (A + C) 6)) [c0, c1, c2, c3, c4, c5, t, t, t, t, t, t, t, t, t, t, t, t])) + (own_wt (5 : Int32) (Int32.ofNat A) (Int32.ofNat (min (A + C) 6)) [c0, c1, c2, c3, c4, c5, t, t, t, t, t, t, t, t, t, t, t, t]))), .second, .val (.long (-1 : Int64)), .second] rfl ?_
    refine o_aload 425 X80 hx rfl (hb hby at_423) rfl rfl ?_
    refine o_iload 427 X80 hx rfl (hb hby at_425) rfl ?_
    refine o_iload 429 X80 hx rfl (hb hby at_427) rfl ?_
    refine o_callP (rv := (.long (own_dg [c0, c1, c2, c3, c4, c5, t, t, t, t, t, t, t, t, t, t, t, t] A C 0))) 432 X80 hx rfl hZ hown (wd_43 hw) (wd_44 hw) (wd_45 hw) (wd_46 hw) (by decide) rfl (rm7 l Z a0 hw a1 k1 A C 18 [c0, c1, c2, c3, c4, c5, t, t, t, t, t, t, t, t, t, t, t, t] T80.heap (by decide) hC F81) pd_laCIIrJ [(.ref a1), (.int (Int32.ofNat A)), (.int (Int32.ofNat C))] [] rfl rfl (by rw [hml]; rfl) rfl (hb hby at_429) 0 (Nat.le_of_eq rfl) (by decide) (by decide) (by decide) (by decide) rfl rfl fun T91 X91 e91 => ?_
    refine o_lload 434 X91 hx rfl (hb hby at_432) rfl ?_
    refine o_lcmp 435 X91 hx rfl (hb hby at_434) ?_
    refine o_ifNo 438 X91 hx rfl (hb hby at_435) (teq (l_teq (own_fin0 c0 c1 c2 c3 c4 c5 t tv A C hA hC htv hc388_83))).2 ?_
    refine o_iconst 439 X91 hx rfl (hb hby at_438) (1 : Int32) rfl ?_
    refine o_goto 443 X91 hx (hb hby at_439) (by decide) (by decide) ?_
    refine o_retN X91 hx .boolean (by simp) hret hlk (hb hby at_443) (by decide) (by decide) ?_
    exact ⟨rfl, NN80⟩
set_option maxRecDepth 65536 in
set_option maxHeartbeats 40000000 in
theorem comes_1 {Post : Tables → Env → Array Value → State → Outcome → State → Prop} (hpost : ∀ tb e args s v u, (limb_1_1.after args s (.returned v) u = true ∧ limb_1_2.after args s (.returned v) u = true ∧ True) → FrameEnd s (.returned v) u (Jvm.fieldLocs frame_1_writes args s ++ Jvm.arrayLocs frame_1_arrays args s ++ Jvm.staticLocs frame_1_statics s) 32 448 → Post tb e args s (.returned v) u) :
    ArmFor flags0 classFile x code maxLocals ret World_1 tables_1 room_1 Calls_1 rest_1 Pre_1 Post := by
  intro l hfl _ _ p e ha hc hk s m args below hf hA hF happ hP
  obtain ⟨hcalls, hrest, hpre⟩ := hP
  obtain ⟨-, -, -, hnamed, -, -, -, hat⟩ := (Spec.applies_iff hf).mp happ
  obtain ⟨hg, hn⟩ := and_e (Cond.before_iff.mp (show (Jvm.Cond.and given_1 narrow_1).before args s = true from hpre))
  obtain ⟨gc, g0⟩ := and_e hg
  obtain ⟨ga0, g1⟩ := and_e g0
  obtain ⟨ga1, g2⟩ := and_e g1
  obtain ⟨ga2, g3⟩ := and_e g2
  obtain ⟨ga3, g4⟩ := and_e g3
  obtain ⟨w0, w1, w2, w3, w4, rfl⟩ : ∃ w0 w1 w2 w3 w4 : Value, args = #[w0, w1, w2, w3, w4] := by
    have hs : args.size = 5 := by simpa [Cond.value, given_1] using gc
    obtain ⟨L⟩ := args
    match L, hs with
    | [w0, w1, w2, w3, w4], _ => exact ⟨w0, w1, w2, w3, w4, rfl⟩
  have hw := fun d (hd : d ∈ tables_1) => atoms_spec (ws := Jvm.Cond.code x code maxLocals ret :: tables_1) hat d (List.mem_cons_of_mem _ hd)
  obtain ⟨i0, ei0⟩ := isL_v ga0
  obtain rfl : w0 = (.long i0) := Option.some.inj ei0
  obtain ⟨i1, ei1⟩ := isL_v ga1
  obtain rfl : w1 = (.long i1) := Option.some.inj ei1
  obtain ⟨i2, ei2⟩ := is_v ga2
  obtain rfl : w2 = (.int i2) := Option.some.inj ei2
  obtain ⟨i3, ei3⟩ := is_v ga3
  obtain rfl : w3 = (.int i3) := Option.some.inj ei3
  obtain ⟨i4, ei4⟩ := is_v g4
  obtain rfl : w4 = (.int i4) := Option.some.inj ei4
  obtain ⟨n, o, h1, h2, h3, _, L, rfl, ⟨rfl, N⟩, hq⟩ := rm0 l s _ hw tables_1 i0 i1 i2 i3 i4 s.heap s.heap.size (Nat.le_refl _) p e ha hc hk s m _ below hf ((Spec.applies_iff_loose hf).mp happ).1 ⟨rfl, State.Warmed39.refl s, rfl⟩ trivial
  refine ⟨n, _, h1, h2, h3, hpost _ _ _ _ _ _ ⟨Cond.after_iff.mpr rfl, Cond.after_iff.mpr (eq_i res_at (Term.int_eval (1)) rfl), trivial⟩ ⟨hq.1, hq.2.1, (hq.2.2.sift fun y hy => Or.inr (N y hy)).mono (by decide) (by decide)⟩⟩
theorem main_1_1 : Claimed_1_1 := comes_1 fun _ _ _ _ _ _ h hF => ⟨h.1, hF⟩
theorem main_1_2 : Claimed_1_2 := comes_1 fun _ _ _ _ _ _ h hF => ⟨h.2.1, hF⟩
end Jvm.Pilot.@@N@@
namespace Jvm.Pilot.@@N@@
open Jvm Jvm.ClassFile Sem Op Lib Jvm.Free Jvm.Stand Jvm.Pilot.@@N@@.Jvm.D
/-! MADE BY PROGRAM (witnessworld.py) out of the Statement's table words and the real class files: 14 classes; the members and pool entries that the words name. The judged class is class 1, her method 1. -/
namespace start1
open Jvm.ClassFile
def u (s : String) : CpInfo := .utf8 (stringToUtf16 s)
/-- a pool by its gaps: so many unusable entries, then the entry; so many at the end -/
def gap : Nat → List CpInfo → List CpInfo
  | 0, r => r
  | n + 1, r => .unusable :: gap n r
def poolList (es : List (Nat × CpInfo)) (last : Nat) : List CpInfo := es.foldr (fun e r => gap e.1 (e.2 :: r)) (gap last [])
def pool (es : List (Nat × CpInfo)) (last : Nat) : Array CpInfo := ⟨poolList es last⟩
def fileOf (pool : Array CpInfo) (this : Nat) (attrs : Array Attribute := #[]) (ms : Array MethodInfo := #[]) (fl : Nat := 33) (sup : Nat := 0) (ifs : Array Nat := #[]) (fds : Array FieldInfo := #[]) : ClassFile where
  minorVersion := 0
  majorVersion := 65
  constantPool := pool
  accessFlags := fl
  thisClass := this
  superClass := sup
  interfaces := ifs
  fields := fds
  methods := ms
  attributes := attrs
def plain (name : String) (sup : Option ClassId) : Class where
  name := name
  kind := .ordinary
  loader := none
  accessFlags := 33
  super := sup
  interfaces := #[]
  cf := none
  fields := #[]
  methods := #[]
  instanceTypes := #[]
  staticTypes := #[]
  resolved := #[]
  callSites := []
  init := .initialized
  statics := none
  mirror := none

def pool0 : Array CpInfo := pool [(5, u "<init>"), (0, u "()V"), (1, .class_ 10), (1, u "java/lang/Object")] 113

def k0m0 : Method := { name := "<init>", desc := "()V", sig := { parameters := [], returnType := none }, accessFlags := 1, code := none }
/-- java/lang/Object -/
def k0 : Class := { plain "java/lang/Object" none with
  accessFlags := 33
  interfaces := #[]
  cf := some (fileOf pool0 8 #[] #[{ accessFlags := 1, nameIndex := 5, descriptorIndex := 6, attributes := #[] }] 33 0 #[] #[])
  fields := #[]
  methods := #[k0m0]
  instanceTypes := #[]
  staticTypes := #[]
  resolved := Array.replicate 124 none
  statics := none }

def pool1 : Array CpInfo := pool [(2, .class_ 4), (1, u "java/lang/Object"), (0, u "<init>"), (0, u "()V"), (0, .methodref 8 9), (0, .class_ 10), (0, .nameAndType 11 12), (0, u "com/example/planbook/planbook/files/DecimalsDigitsPinLaw"), (0, u "draw"), (0, u "(J)C"), (0, .integer 2147483647), (0, .methodref 15 16), (0, .class_ 17), (0, .nameAndType 18 19), (0, u "java/lang/Math"), (0, u "min"), (0, u "(II)I"), (0, .methodref 15 21), (0, .nameAndType 22 19), (0, u "max"), (0, .methodref 8 24), (0, .nameAndType 25 26), (0, u "nonDigitAt"), (0, u "([CIII)Z"), (0, .methodref 8 28), (0, .nameAndType 29 30), (0, u "weighted"), (0, u "([CIII)J"), (0, .long 18446744073709551615), (1, .methodref 8 34), (0, .nameAndType 35 36), (0, u "pow10"), (0, u "(I)J"), (0, .long 9), (1, .methodref 40 41), (0, .class_ 42), (0, .nameAndType 43 44), (0, u "com/example/planbook/planbook/files/Decimals"), (0, u "digits"), (0, u "([CII)J"), (0, .long 2097151), (1, .long 10), (1, .long 100), (1, .long 1000), (1, .long 10000), (1, .long 100000), (1, .long 1000000), (1, .long 10000000), (1, .long 100000000), (1, .long 1000000000), (1, .long 10000000000), (1, .long 100000000000), (1, .long 1000000000000), (1, .long 10000000000000), (1, .long 100000000000000), (1, .long 1000000000000000), (1, .long 10000000000000000), (1, .long 100000000000000000), (1, .long 1000000000000000000), (3, u "law"), (0, u "(JJIII)Z")] 5

def k1m0 : Method := { name := "<init>", desc := "()V", sig := { parameters := [], returnType := none }, accessFlags := 1, code := none }
def k1c1 : Code := { maxStack := 8, maxLocals := 21, code := code, exceptionTable := #[], attributes := #[] }
def k1m1 : Method := { name := "law", desc := "(JJIII)Z", sig := { parameters := [.long, .long, .int, .int, .int], returnType := some .boolean }, accessFlags := 9, code := some k1c1 }
def k1c2 : Code := { maxStack := 4, maxLocals := 3, code := method_3_code, exceptionTable := #[], attributes := #[] }
def k1m2 : Method := { name := "draw", desc := "(J)C", sig := { parameters := [.long], returnType := some .char }, accessFlags := 10, code := some k1c2 }
def k1c3 : Code := { maxStack := 2, maxLocals := 4, code := method_4_code, exceptionTable := #[], attributes := #[] }
def k1m3 : Method := { name := "nonDigitAt", desc := "([CIII)Z", sig := { parameters := [(.array .char), .int, .int, .int], returnType := some .boolean }, accessFlags := 10, code := some k1c3 }
def k1c4 : Code := { maxStack := 4, maxLocals := 4, code := method_5_code, exceptionTable := #[], attributes := #[] }
def k1m4 : Method := { name := "weighted", desc := "([CIII)J", sig := { parameters := [(.array .char), .int, .int, .int], returnType := some .long }, accessFlags := 10, code := some k1c4 }
def k1c5 : Code := { maxStack := 5, maxLocals := 2, code := method_6_code, exceptionTable := #[], attributes := #[] }
def k1m5 : Method := { name := "pow10", desc := "(I)J", sig := { parameters := [.int], returnType := some .long }, accessFlags := 10, code := some k1c5 }
/-- com/example/planbook/planbook/files/DecimalsDigitsPinLaw -/
def k1 : Class := { plain "com/example/planbook/planbook/files/DecimalsDigitsPinLaw" (some 0) with
  accessFlags := 49
  interfaces := #[]
  cf := some (fileOf pool1 8 #[] #[{ accessFlags := 1, nameIndex := 5, descriptorIndex := 6, attributes := #[] }, { accessFlags := 9, nameIndex := 85, descriptorIndex := 86, attributes := #[] }, { accessFlags := 10, nameIndex := 11, descriptorIndex := 12, attributes := #[] }, { accessFlags := 10, nameIndex := 25, descriptorIndex := 26, attributes := #[] }, { accessFlags := 10, nameIndex := 29, descriptorIndex := 30, attributes := #[] }, { accessFlags := 10, nameIndex := 35, descriptorIndex := 36, attributes := #[] }] 49 2 #[] #[])
  fields := #[]
  methods := #[k1m0, k1m1, k1m2, k1m3, k1m4, k1m5]
  instanceTypes := #[]
  staticTypes := #[]
  resolved := Array.replicate 92 none
  statics := none }

def pool2 : Array CpInfo := pool [(1, .class_ 2), (0, u "java/lang/Math"), (1, .class_ 6), (1, u "java/lang/Object"), (0, u "<init>"), (0, u "()V"), (89, .class_ 100), (1, u "java/lang/Math$RandomNumberGeneratorHolder"), (71, u "negativeZeroFloatBits"), (0, u "J"), (2, u "negativeZeroDoubleBits"), (21, u "max"), (2, u "min"), (43, u "$assertionsDisabled"), (0, u "Z"), (88, u "(II)I"), (2, u "twoToTheDoubleScaleDown"), (0, u "D"), (4, u "twoToTheDoubleScaleUp"), (9, u "E"), (3, u "PI"), (2, u "TAU"), (2, u "DEGREES_TO_RADIANS"), (0, u "RADIANS_TO_DEGREES")] 94

def k2m0 : Method := { name := "<init>", desc := "()V", sig := { parameters := [], returnType := none }, accessFlags := 2, code := none }
def k2c1 : Code := { maxStack := 2, maxLocals := 2, code := jdk_29_method_65_code, exceptionTable := #[], attributes := #[] }
def k2m1 : Method := { name := "max", desc := "(II)I", sig := { parameters := [.int, .int], returnType := some .int }, accessFlags := 9, code := some k2c1 }
def k2c2 : Code := { maxStack := 2, maxLocals := 2, code := jdk_29_method_69_code, exceptionTable := #[], attributes := #[] }
def k2m2 : Method := { name := "min", desc := "(II)I", sig := { parameters := [.int, .int], returnType := some .int }, accessFlags := 9, code := some k2c2 }
/-- java/lang/Math -/
def k2 : Class := { plain "java/lang/Math" (some 0) with
  accessFlags := 49
  interfaces := #[]
  cf := some (fileOf pool2 1 #[.nestMembers #[98]] #[{ accessFlags := 2, nameIndex := 7, descriptorIndex := 8, attributes := #[] }, { accessFlags := 9, nameIndex := 198, descriptorIndex := 335, attributes := #[] }, { accessFlags := 9, nameIndex := 201, descriptorIndex := 335, attributes := #[] }] 49 4 #[] #[{ accessFlags := 25, nameIndex := 354, descriptorIndex := 339, attributes := #[] }, { accessFlags := 25, nameIndex := 358, descriptorIndex := 339, attributes := #[] }, { accessFlags := 25, nameIndex := 361, descriptorIndex := 339, attributes := #[] }, { accessFlags := 26, nameIndex := 364, descriptorIndex := 339, attributes := #[] }, { accessFlags := 26, nameIndex := 365, descriptorIndex := 339, attributes := #[] }, { accessFlags := 26, nameIndex := 172, descriptorIndex := 173, attributes := #[] }, { accessFlags := 26, nameIndex := 176, descriptorIndex := 173, attributes := #[] }, { accessFlags := 8, nameIndex := 344, descriptorIndex := 339, attributes := #[] }, { accessFlags := 8, nameIndex := 338, descriptorIndex := 339, attributes := #[] }, { accessFlags := 4120, nameIndex := 245, descriptorIndex := 246, attributes := #[] }])
  fields := #[{ name := "E", type := .double, accessFlags := 25, slot := 0, constantValue := 0 }, { name := "PI", type := .double, accessFlags := 25, slot := 1, constantValue := 0 }, { name := "TAU", type := .double, accessFlags := 25, slot := 2, constantValue := 0 }, { name := "DEGREES_TO_RADIANS", type := .double, accessFlags := 26, slot := 3, constantValue := 0 }, { name := "RADIANS_TO_DEGREES", type := .double, accessFlags := 26, slot := 4, constantValue := 0 }, { name := "negativeZeroFloatBits", type := .long, accessFlags := 26, slot := 5, constantValue := 0 }, { name := "negativeZeroDoubleBits", type := .long, accessFlags := 26, slot := 6, constantValue := 0 }, { name := "twoToTheDoubleScaleUp", type := .double, accessFlags := 8, slot := 7, constantValue := 0 }, { name := "twoToTheDoubleScaleDown", type := .double, accessFlags := 8, slot := 8, constantValue := 0 }, { name := "$assertionsDisabled", type := .boolean, accessFlags := 4120, slot := 9, constantValue := 0 }]
  methods := #[k2m0, k2m1, k2m2]
  instanceTypes := #[]
  staticTypes := #[.double, .double, .double, .double, .double, .long, .long, .double, .double, .boolean]
  resolved := Array.replicate 460 none
  statics := none }

def pool3 : Array CpInfo := pool [(2, .class_ 4), (1, u "java/lang/Object"), (0, u "<init>"), (0, u "()V"), (11, .class_ 20), (1, u "com/example/planbook/planbook/files/Decimals"), (12, .long 10), (14, .long 18446744073709551615), (18, u "MOST_DIGITS"), (0, u "I"), (2, u "LONG_DIGITS"), (10, u "digits"), (0, u "([CII)J")] 20

def k3m0 : Method := { name := "<init>", desc := "()V", sig := { parameters := [], returnType := none }, accessFlags := 2, code := none }
def k3c1 : Code := { maxStack := 4, maxLocals := 7, code := prog_94_method_4_code, exceptionTable := #[], attributes := #[] }
def k3m1 : Method := { name := "digits", desc := "([CII)J", sig := { parameters := [(.array .char), .int, .int], returnType := some .long }, accessFlags := 8, code := some k3c1 }
/-- com/example/planbook/planbook/files/Decimals -/
def k3 : Class := { plain "com/example/planbook/planbook/files/Decimals" (some 0) with
  accessFlags := 48
  interfaces := #[]
  cf := some (fileOf pool3 18 #[] #[{ accessFlags := 2, nameIndex := 5, descriptorIndex := 6, attributes := #[] }, { accessFlags := 8, nameIndex := 82, descriptorIndex := 83, attributes := #[] }] 48 2 #[] #[{ accessFlags := 26, nameIndex := 67, descriptorIndex := 68, attributes := #[] }, { accessFlags := 26, nameIndex := 71, descriptorIndex := 68, attributes := #[] }])
  fields := #[{ name := "MOST_DIGITS", type := .int, accessFlags := 26, slot := 0, constantValue := 0 }, { name := "LONG_DIGITS", type := .int, accessFlags := 26, slot := 1, constantValue := 0 }]
  methods := #[k3m0, k3m1]
  instanceTypes := #[]
  staticTypes := #[.int, .int]
  resolved := Array.replicate 104 none
  statics := none }

def pool4 : Array CpInfo := pool [(1, u "java/lang/Cloneable"), (0, .class_ 1), (0, u "java/lang/Object"), (0, .class_ 3)] 3

/-- java/lang/Cloneable -/
def k4 : Class := { plain "java/lang/Cloneable" (some 0) with
  accessFlags := 1537
  interfaces := #[]
  cf := some (fileOf pool4 2 #[] #[] 1537 4 #[] #[])
  fields := #[]
  methods := #[]
  instanceTypes := #[]
  staticTypes := #[]
  resolved := Array.replicate 8 none
  statics := none }

def pool5 : Array CpInfo := pool [(1, u "java/io/Serializable"), (0, .class_ 1), (0, u "java/lang/Object"), (0, .class_ 3)] 3

/-- java/io/Serializable -/
def k5 : Class := { plain "java/io/Serializable" (some 0) with
  accessFlags := 1537
  interfaces := #[]
  cf := some (fileOf pool5 2 #[] #[] 1537 4 #[] #[])
  fields := #[]
  methods := #[]
  instanceTypes := #[]
  staticTypes := #[]
  resolved := Array.replicate 8 none
  statics := none }

/-- the primitive byte -/
def k6 : Class := { plain "byte" none with kind := .primitive 'B', accessFlags := 0x411 }
/-- [B -/
def k7 : Class := { plain "[B" (some 0) with kind := .array 6 .byte, interfaces := #[4, 5], accessFlags := 1041 }

/-- the primitive char -/
def k8 : Class := { plain "char" none with kind := .primitive 'C', accessFlags := 0x411 }
/-- [C -/
def k9 : Class := { plain "[C" (some 0) with kind := .array 8 .char, interfaces := #[4, 5], accessFlags := 1041 }

/-- the primitive int -/
def k10 : Class := { plain "int" none with kind := .primitive 'I', accessFlags := 0x411 }
/-- [I -/
def k11 : Class := { plain "[I" (some 0) with kind := .array 10 .int, interfaces := #[4, 5], accessFlags := 1041 }

/-- the primitive long -/
def k12 : Class := { plain "long" none with kind := .primitive 'J', accessFlags := 0x411 }
/-- [J -/
def k13 : Class := { plain "[J" (some 0) with kind := .array 12 .long, interfaces := #[4, 5], accessFlags := 1041 }

def heap : Heap := #[]
def classes : Array Class := #[k0, k1, k2, k3, k4, k5, k6, k7, k8, k9, k10, k11, k12, k13]
def interned : List (Array UInt16 × Addr) := []
def slotsUsed : Nat := 0
def theMethod : MethodId := ⟨1, 1⟩
def args0 : Array Value := #[.long 5, .long 5, .int 5, .int 5, .int 5]
def aboutOver (below : List Frame) : State where
  vm := { classes := classes, interned := interned.toArray }
  heap := heap
  slotsUsed := slotsUsed
  threads := #[{ frames := .invoking theMethod args0 :: below }]
def below0 : List Frame := [.native { method := ⟨0, 0⟩, args := #[] }]
def about1 : State := aboutOver below0
def p0 : Program := .bare "" "" ""
def e0 : Env := launch0.env 0 0 0
theorem w_frames : about1.frames = Frame.invoking theMethod args0 :: below0 := rfl
set_option maxRecDepth 65536 in
theorem w_args : argsFit about1.vm theMethod args0 = true := by decide +kernel
set_option maxRecDepth 65536 in
theorem w_heap : heapFits about1 = true := by decide +kernel
set_option maxRecDepth 65536 in
theorem w_runnable : about1.curStatus? = some .runnable := by decide +kernel
set_option maxRecDepth 65536 in
theorem w_alone : about1.alone = true := by decide +kernel
set_option maxRecDepth 65536 in
theorem w_named : about1.methodNamed? x = some theMethod := by decide +kernel
set_option maxRecDepth 65536 in
theorem w_hears : about1.hears theMethod below0 = true := by decide +kernel
set_option maxRecDepth 65536 in
theorem w_ripe : about1.ripe theMethod args0 below0 = true := by decide +kernel
theorem w_running : about1.status = .running := rfl
set_option maxRecDepth 65536 in
theorem w_room : about1.hasRoom e0.platform room_1 = true :=
  launch0.hasRoom_least _ room_1 (by decide +kernel) (by decide +kernel) (by decide +kernel) (by decide +kernel) (by decide +kernel) (by decide +kernel)
theorem allAtoms_all (ts : List Jvm.Cond) (a : Array Jvm.Value) (st : Jvm.State) : (allAtoms ts).before a st = ts.all (fun c => c.before a st) := by
  induction ts with
  | nil => rfl
  | cons c t ih =>
    show (Jvm.Cond.and c (allAtoms t)).before a st = _
    rw [Jvm.Cond.before_and, ih, List.all_cons]
def words1 : List Jvm.Cond := Jvm.Cond.code x code maxLocals ret :: tables_1
/-- a 'code' word, met by the world's own term for the bytes: nothing is compared byte by byte -/
theorem code_word {y : MethodName} {bytes : ByteArray} {mx : Nat} {rt : Option FieldType} {a : Array Value} {s : State} {m : MethodId} {meth : Method} {c : Code} (h1 : s.methodNamed? y = some m) (h2 : s.vm.method? m = some meth) (h3 : meth.code = some c) (h4 : c.code = bytes)
    (h5 : (c.maxLocals == mx && c.exceptionTable.isEmpty && decide (c.maxStack ≤ mostOperands) && decide (meth.sig.returnType = rt) && !meth.locks && decide (parseMethodDescriptor y.desc = some meth.sig)) = true) : (Jvm.Cond.code y bytes mx rt).before a s = true := by
  simp only [Bool.and_eq_true, beq_iff_eq, Bool.not_eq_true', decide_eq_true_eq] at h5
  obtain ⟨⟨⟨⟨⟨g1, g2⟩, g3⟩, g4⟩, g5⟩, g6⟩ := h5
  simp [Cond.before, Cond.holds, Cond.value, h1, h2, h3, h4, g1, g2, g3, g4, g5, g6]
def isCode : Jvm.Cond → Bool
  | .code _ _ _ _ => true
  | _ => false
theorem all_split {L : List Jvm.Cond} {P : Jvm.Cond → Bool} (h1 : L.all (fun c => isCode c || P c) = true) (h2 : ∀ c ∈ L.filter isCode, P c = true) : L.all P = true := by
  refine List.all_eq_true.mpr fun c hc => ?_
  have h := List.all_eq_true.mp h1 c hc
  rcases Bool.eq_false_or_eq_true (isCode c) with hi | hi
  · exact h2 c (List.mem_filter.mpr ⟨hc, hi⟩)
  · simpa [hi] using h
set_option maxRecDepth 65536 in
theorem w_c0 : (Jvm.Cond.code x code maxLocals ret).before args0 about1 = true := code_word (m := ⟨1, 1⟩) (meth := k1m1) (c := k1c1) (by decide +kernel) rfl rfl rfl (by decide +kernel)
set_option maxRecDepth 65536 in
theorem w_c1 : (Jvm.Cond.code ({ cls := "com/example/planbook/planbook/files/DecimalsDigitsPinLaw", name := "draw", desc := "(J)C" } : Jvm.MethodName) method_3_code (3 : Nat) (Option.some Jvm.ClassFile.FieldType.char)).before args0 about1 = true := code_word (m := ⟨1, 2⟩) (meth := k1m2) (c := k1c2) (by decide +kernel) rfl rfl rfl (by decide +kernel)
set_option maxRecDepth 65536 in
theorem w_c2 : (Jvm.Cond.code ({ cls := "java/lang/Math", name := "min", desc := "(II)I" } : Jvm.MethodName) jdk_29_method_69_code (2 : Nat) (Option.some Jvm.ClassFile.FieldType.int)).before args0 about1 = true := code_word (m := ⟨2, 2⟩) (meth := k2m2) (c := k2c2) (by decide +kernel) rfl rfl rfl (by decide +kernel)
set_option maxRecDepth 65536 in
theorem w_c3 : (Jvm.Cond.code ({ cls := "java/lang/Math", name := "max", desc := "(II)I" } : Jvm.MethodName) jdk_29_method_65_code (2 : Nat) (Option.some Jvm.ClassFile.FieldType.int)).before args0 about1 = true := code_word (m := ⟨2, 1⟩) (meth := k2m1) (c := k2c1) (by decide +kernel) rfl rfl rfl (by decide +kernel)
set_option maxRecDepth 65536 in
theorem w_c4 : (Jvm.Cond.code ({ cls := "com/example/planbook/planbook/files/DecimalsDigitsPinLaw", name := "nonDigitAt", desc := "([CIII)Z" } : Jvm.MethodName) method_4_code (4 : Nat) (Option.some Jvm.ClassFile.FieldType.boolean)).before args0 about1 = true := code_word (m := ⟨1, 3⟩) (meth := k1m3) (c := k1c3) (by decide +kernel) rfl rfl rfl (by decide +kernel)
set_option maxRecDepth 65536 in
theorem w_c5 : (Jvm.Cond.code ({ cls := "com/example/planbook/planbook/files/DecimalsDigitsPinLaw", name := "weighted", desc := "([CIII)J" } : Jvm.MethodName) method_5_code (4 : Nat) (Option.some Jvm.ClassFile.FieldType.long)).before args0 about1 = true := code_word (m := ⟨1, 4⟩) (meth := k1m4) (c := k1c4) (by decide +kernel) rfl rfl rfl (by decide +kernel)
set_option maxRecDepth 65536 in
theorem w_c6 : (Jvm.Cond.code ({ cls := "com/example/planbook/planbook/files/DecimalsDigitsPinLaw", name := "pow10", desc := "(I)J" } : Jvm.MethodName) method_6_code (2 : Nat) (Option.some Jvm.ClassFile.FieldType.long)).before args0 about1 = true := code_word (m := ⟨1, 5⟩) (meth := k1m5) (c := k1c5) (by decide +kernel) rfl rfl rfl (by decide +kernel)
set_option maxRecDepth 65536 in
theorem w_c7 : (Jvm.Cond.code ({ cls := "com/example/planbook/planbook/files/Decimals", name := "digits", desc := "([CII)J" } : Jvm.MethodName) prog_94_method_4_code (7 : Nat) (Option.some Jvm.ClassFile.FieldType.long)).before args0 about1 = true := code_word (m := ⟨3, 1⟩) (meth := k3m1) (c := k3c1) (by decide +kernel) rfl rfl rfl (by decide +kernel)
def codes1 : List Jvm.Cond := [Jvm.Cond.code x code maxLocals ret, Jvm.Cond.code ({ cls := "com/example/planbook/planbook/files/DecimalsDigitsPinLaw", name := "draw", desc := "(J)C" } : Jvm.MethodName) method_3_code (3 : Nat) (Option.some Jvm.ClassFile.FieldType.char), Jvm.Cond.code ({ cls := "java/lang/Math", name := "min", desc := "(II)I" } : Jvm.MethodName) jdk_29_method_69_code (2 : Nat) (Option.some Jvm.ClassFile.FieldType.int), Jvm.Cond.code ({ cls := "java/lang/Math", name := "max", desc := "(II)I" } : Jvm.MethodName) jdk_29_method_65_code (2 : Nat) (Option.some Jvm.ClassFile.FieldType.int), Jvm.Cond.code ({ cls := "com/example/planbook/planbook/files/DecimalsDigitsPinLaw", name := "nonDigitAt", desc := "([CIII)Z" } : Jvm.MethodName) method_4_code (4 : Nat) (Option.some Jvm.ClassFile.FieldType.boolean), Jvm.Cond.code ({ cls := "com/example/planbook/planbook/files/DecimalsDigitsPinLaw", name := "weighted", desc := "([CIII)J" } : Jvm.MethodName) method_5_code (4 : Nat) (Option.some Jvm.ClassFile.FieldType.long), Jvm.Cond.code ({ cls := "com/example/planbook/planbook/files/DecimalsDigitsPinLaw", name := "pow10", desc := "(I)J" } : Jvm.MethodName) method_6_code (2 : Nat) (Option.some Jvm.ClassFile.FieldType.long), Jvm.Cond.code ({ cls := "com/example/planbook/planbook/files/Decimals", name := "digits", desc := "([CII)J" } : Jvm.MethodName) prog_94_method_4_code (7 : Nat) (Option.some Jvm.ClassFile.FieldType.long)]
set_option maxRecDepth 65536 in
theorem codes_eq : words1.filter isCode = codes1 := rfl
theorem w_codes : ∀ c ∈ words1.filter isCode, c.before args0 about1 = true := by
  rw [codes_eq]
  intro c hc
  simp only [codes1, List.mem_cons, List.not_mem_nil, or_false] at hc
  rcases hc with rfl | rfl | rfl | rfl | rfl | rfl | rfl | rfl
  · exact w_c0
  · exact w_c1
  · exact w_c2
  · exact w_c3
  · exact w_c4
  · exact w_c5
  · exact w_c6
  · exact w_c7
set_option maxRecDepth 65536 in
theorem w_t1 : (words1.take 24).all (fun c => isCode c || c.before args0 about1) = true := by decide +kernel
set_option maxRecDepth 65536 in
theorem w_t2 : ((words1.drop 24).take 24).all (fun c => isCode c || c.before args0 about1) = true := by decide +kernel
set_option maxRecDepth 65536 in
theorem w_t3 : ((words1.drop 24).drop 24).all (fun c => isCode c || c.before args0 about1) = true := by decide +kernel
theorem w_tables : (allAtoms (Jvm.Cond.code x code maxLocals ret :: tables_1)).before args0 about1 = true := by
  rw [allAtoms_all]
  show words1.all (fun c => c.before args0 about1) = true
  refine all_split ?_ w_codes
  rw [← List.take_append_drop 24 words1, List.all_append, w_t1, ← List.take_append_drop 24 (words1.drop 24), List.all_append, w_t2, w_t3]
  rfl
set_option maxRecDepth 65536 in
theorem w_case : (Jvm.Cond.and given_1 narrow_1).before args0 about1 = true := by decide +kernel
theorem w_applies : (headSpec (Jvm.Cond.code x code maxLocals ret :: tables_1) room_1).applies x e0.platform about1 = true :=
  (Spec.applies_iff w_frames).mpr ⟨w_running, w_runnable, w_alone, w_named, w_hears, w_ripe, w_room, w_tables⟩
theorem atStart : AtStart classFile x code maxLocals ret World_1 tables_1 room_1 Calls_1 rest_1 Pre_1 launch0 p0 e0 about1 theMethod args0 below0 :=
  ⟨lists_1, trivial, launch0.admits_env _ _ _, launch0.least_env, fairChoices_fair.cas, fairChoices_fair.clock, w_frames, w_args, w_heap, w_applies, trivial, trivial, w_case⟩
end start1
theorem witness_1 : WitnessClaimed_1 := ⟨start1.p0, start1.e0, start1.about1, start1.theMethod, start1.args0, start1.below0, start1.atStart⟩
end Jvm.Pilot.@@N@@
