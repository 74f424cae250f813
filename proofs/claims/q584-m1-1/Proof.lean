import JvmDerived
import JvmDerived.Pilot.@@N@@Statement
import JvmDerived.Pilot.@@N@@Code
set_option linter.unusedVariables false
set_option linter.unusedSimpArgs false
namespace Jvm.Pilot.@@N@@
open Jvm Jvm.ClassFile Sem Op Lib Jvm.Free Jvm.Stand Jvm.LawKit Jvm.RoadKit Bundle Jvm.Pilot.@@N@@.Jvm.D
/-- from S the run goes on below 'below', ends, and E holds of the end -/
def Go (tb : Tables) (e : Env) (below : List Frame) (E : State → Outcome → Prop) (S : State) : Prop := ∃ s₂ o, Steps tb e below S s₂ ∧ s₂.status = .running ∧ Ended s₂ below o ∧ E s₂ o
theorem Go.via {tb : Tables} {e : Env} {below : List Frame} {E : State → Outcome → Prop} {S S' : State} (k : ∀ t, Steps tb e below S' t → Steps tb e below S t) (h : Go tb e below E S') : Go tb e below E S := by
  obtain ⟨a, b, c, d⟩ := h; exact ⟨a, b, k _ c, d⟩
/-- a body's contract, short -/
abbrev MetP (l : Launch) (y : MethodName) (bytes : ByteArray) (maxL : Nat) (ret : Option FieldType) (ws : List Jvm.Cond) (rm : Room) (Z : State) (as' : Array Value) (h0 : Heap) (Q : Option Value → Heap → List Loc → Prop) : Prop :=
  MetFree l y (head1 (Jvm.Cond.code y bytes maxL ret :: ws) rm) (fun a U => a = as' ∧ Z.Warmed39 U.vm ∧ U.heap = h0) (fun _ _ _ _ _ => True) (fun _ U o U' => ∃ v L, o = .returned v ∧ Q v U'.heap L ∧ FrameEnd U o U' L rm.cells rm.slots)
/-- it returned r and wrote and made nothing -/
def Pure (r : Value) (h0 : Heap) (v : Option Value) (h : Heap) (L : List Loc) : Prop := v = some r ∧ L = [] ∧ h = h0
abbrev EndE (s : State) (rm : Room) (Q : Option Value → Heap → List Loc → Prop) : State → Outcome → Prop := fun s₂ o => ∃ v L, o = .returned v ∧ Q v s₂.heap L ∧ FrameEnd s o s₂ L rm.cells rm.slots
theorem met_go {l : Launch} {y : MethodName} {bytes : ByteArray} {maxL : Nat} {ret : Option FieldType} {ws : List Jvm.Cond} {rm : Room} {Z : State} {as' : Array Value} {h0 : Heap} {Q : Option Value → Heap → List Loc → Prop} (hpl : plainFor y = true)
    (body : ∀ (p : Program) (e : Env) (s : State) (m : MethodId) (below : List Frame) (meth : Method) (c : Code) (s₁ : State), p.tables.exec = Jvm.exec → c.code = bytes → c.maxLocals = maxL → s.vm.findClass y.cls = some m.cls → meth.name = y.name → meth.sig.returnType = ret → meth.locks = false → Z.Warmed39 s.vm → s₁.heap = h0 →
      Stand p l e rm s m as' below meth c s₁ [] 0 0 → Go p.tables e below (EndE s rm Q) (s₁.setTop (entryFrame m as' maxL))) : MetP l y bytes maxL ret ws rm Z as' h0 Q := by
  refine MetFree.of_bodySF hpl hisR ?_
  intro p e s m args below meth c s₁ Bd hml hP hK
  obtain ⟨rfl, hZ, hh⟩ := hP
  exact body p e s m below meth c s₁ Bd.exec Bd.bytes hml (findClass_of_methodNamed Bd.named) (name_of_methodNamed Bd.named Bd.method).1 Bd.returns Bd.notSynchronized hZ (by rw [← hh, Bd.state]; rfl) (Stand.of_body Bd)
abbrev EndW (s : State) (rm : Room) (Q : Option Value → Heap → List Loc → Prop) : State → Outcome → Prop := fun s₂ o => ∃ v L, o = .returned v ∧ Q v s₂.heap L ∧ ReturnedEndW s o s₂ L rm.cells rm.slots
theorem met_goW {l : Launch} {y : MethodName} {bytes : ByteArray} {maxL : Nat} {ret : Option FieldType} {ws : List Jvm.Cond} {rm : Room} {Z : State} {as' : Array Value} {h0 : Heap} {Q : Option Value → Heap → List Loc → Prop} (hpl : plainFor y = true)
    (body : ∀ (p : Program) (e : Env) (s : State) (m : MethodId) (below : List Frame) (meth : Method) (c : Code) (s₁ : State), p.tables.exec = Jvm.exec → c.code = bytes → c.maxLocals = maxL → s.vm.findClass y.cls = some m.cls → meth.name = y.name → meth.sig.returnType = ret → meth.locks = false → Z.Warmed39 s.vm → s₁.heap = h0 →
      Stand p l e rm s m as' below meth c s₁ [] 0 0 → Go p.tables e below (EndW s rm Q) (s₁.setTop (entryFrame m as' maxL))) : MetFree l y (head1 (Jvm.Cond.code y bytes maxL ret :: ws) rm) (fun a U => a = as' ∧ Z.Warmed39 U.vm ∧ U.heap = h0) (fun _ _ _ _ _ => True) (fun _ U o U' => ∃ v L, o = .returned v ∧ Q v U'.heap L ∧ ReturnedEndW U o U' L rm.cells rm.slots) := by
  refine MetFree.of_bodySF hpl hisR ?_
  intro p e s m args below meth c s₁ Bd hml hP hK
  obtain ⟨rfl, hZ, hh⟩ := hP
  exact body p e s m below meth c s₁ Bd.exec Bd.bytes hml (findClass_of_methodNamed Bd.named) (name_of_methodNamed Bd.named Bd.method).1 Bd.returns Bd.notSynchronized hZ (by rw [← hh, Bd.state]; rfl) (Stand.of_body Bd)
theorem met_goZ {l : Launch} {y : MethodName} {bytes : ByteArray} {maxL : Nat} {ret : Option FieldType} {ws : List Jvm.Cond} {rm : Room} {Z : State} {as' : Array Value} {Q : Option Value → Heap → List Loc → Prop} (hpl : plainFor y = true)
    (body : ∀ (p : Program) (e : Env) (s : State) (m : MethodId) (below : List Frame) (meth : Method) (c : Code) (s₁ : State), p.tables.exec = Jvm.exec → c.code = bytes → c.maxLocals = maxL → s.vm.findClass y.cls = some m.cls → meth.name = y.name → meth.sig.returnType = ret → meth.locks = false → s = Z → s₁.heap = Z.heap →
      Stand p l e rm s m as' below meth c s₁ [] 0 0 → Go p.tables e below (EndW s rm Q) (s₁.setTop (entryFrame m as' maxL))) : MetFree l y (head1 (Jvm.Cond.code y bytes maxL ret :: ws) rm) (fun a U => a = as' ∧ U = Z) (fun _ _ _ _ _ => True) (fun _ U o U' => ∃ v L, o = .returned v ∧ Q v U'.heap L ∧ ReturnedEndW U o U' L rm.cells rm.slots) := by
  refine MetFree.of_bodySF hpl hisR ?_
  intro p e s m args below meth c s₁ Bd hml hP hK
  obtain ⟨rfl, hZ⟩ := hP
  exact body p e s m below meth c s₁ Bd.exec Bd.bytes hml (findClass_of_methodNamed Bd.named) (name_of_methodNamed Bd.named Bd.method).1 Bd.returns Bd.notSynchronized hZ (by rw [← hZ, Bd.state]; rfl) (Stand.of_body Bd)
section OwnKit
variable {p : Program} {l : Launch} {e : Env} {R : Room} {s : State} {m : MethodId} {args : Array Value} {below : List Frame} {meth : Method} {c : Code} {T : State} {locs : List Loc} {cells slots : Nat} {E : State → Outcome → Prop} {Z : State} {a0 : Array Value} {h : Heap} {pc : Nat} {Ls Ls' : Array Slot} {st : List Value}
theorem o_iload (pc' : Nat) (X : Stand p l e R s m args below meth c T locs cells slots) (hx : p.tables.exec = Jvm.exec) (hpc : pc + 2 = pc') {k : Nat} {v : Int32} (hd : decode c.code pc = .ok (.iload k, 2)) (hl : Ls[k]? = some (.val (.int v))) (h : Go p.tables e below E (T.setTop (mkF m pc' Ls ((.int v) :: st)))) : Go p.tables e below E (T.setTop (mkF m pc Ls st)) := by
  subst hpc; exact Go.via (fun _ k => XS.iload X.here hx rfl hd hl k) h
theorem o_lload (pc' : Nat) (X : Stand p l e R s m args below meth c T locs cells slots) (hx : p.tables.exec = Jvm.exec) (hpc : pc + 2 = pc') {k : Nat} {v : Int64} (hd : decode c.code pc = .ok (.lload k, 2)) (hl : Ls[k]? = some (.val (.long v))) (h : Go p.tables e below E (T.setTop (mkF m pc' Ls ((.long v) :: st)))) : Go p.tables e below E (T.setTop (mkF m pc Ls st)) := by
  subst hpc; exact Go.via (fun _ k => XS.lload X.here hx rfl hd hl k) h
theorem o_iloadN (pc' : Nat) (X : Stand p l e R s m args below meth c T locs cells slots) (hx : p.tables.exec = Jvm.exec) (hpc : pc + 1 = pc') {k : Fin 4} {v : Int32} (hd : decode c.code pc = .ok (.iload_n k, 1)) (hl : Ls[k.val]? = some (.val (.int v))) (h : Go p.tables e below E (T.setTop (mkF m pc' Ls ((.int v) :: st)))) : Go p.tables e below E (T.setTop (mkF m pc Ls st)) := by
  subst hpc; exact Go.via (fun _ k => XS.iloadN X.here hx rfl hd hl k) h
theorem o_lloadN (pc' : Nat) (X : Stand p l e R s m args below meth c T locs cells slots) (hx : p.tables.exec = Jvm.exec) (hpc : pc + 1 = pc') {k : Fin 4} {v : Int64} (hd : decode c.code pc = .ok (.lload_n k, 1)) (hl : Ls[k.val]? = some (.val (.long v))) (h : Go p.tables e below E (T.setTop (mkF m pc' Ls ((.long v) :: st)))) : Go p.tables e below E (T.setTop (mkF m pc Ls st)) := by
  subst hpc; exact Go.via (fun _ k => XS.lloadN X.here hx rfl hd hl k) h
theorem o_aload (pc' : Nat) (X : Stand p l e R s m args below meth c T locs cells slots) (hx : p.tables.exec = Jvm.exec) (hpc : pc + 2 = pc') {k : Nat} {v : Value} (hd : decode c.code pc = .ok (.aload k, 2)) (hl : Ls[k]? = some (.val v)) (hv : v.isRef = true) (h : Go p.tables e below E (T.setTop (mkF m pc' Ls (v :: st)))) : Go p.tables e below E (T.setTop (mkF m pc Ls st)) := by
  subst hpc; exact Go.via (fun _ k => XS.aload X.here hx rfl hd hl hv k) h
theorem o_aloadN (pc' : Nat) (X : Stand p l e R s m args below meth c T locs cells slots) (hx : p.tables.exec = Jvm.exec) (hpc : pc + 1 = pc') {k : Fin 4} {v : Value} (hd : decode c.code pc = .ok (.aload_n k, 1)) (hl : Ls[k.val]? = some (.val v)) (hv : v.isRef = true) (h : Go p.tables e below E (T.setTop (mkF m pc' Ls (v :: st)))) : Go p.tables e below E (T.setTop (mkF m pc Ls st)) := by
  subst hpc; exact Go.via (fun _ k => XS.aloadN X.here hx rfl hd hl hv k) h
theorem o_istore (pc' : Nat) (X : Stand p l e R s m args below meth c T locs cells slots) (hx : p.tables.exec = Jvm.exec) (hpc : pc + 2 = pc') {k : Nat} {v : Int32} (hd : decode c.code pc = .ok (.istore k, 2)) (Ls' : Array Slot) (hl : storeLocals Ls k (.int v) = some Ls') (h : Go p.tables e below E (T.setTop (mkF m pc' Ls' st))) : Go p.tables e below E (T.setTop (mkF m pc Ls ((.int v) :: st))) := by
  subst hpc; exact Go.via (fun _ k => XS.istore X.here hx rfl hd rfl hl k) h
theorem o_lstore (pc' : Nat) (X : Stand p l e R s m args below meth c T locs cells slots) (hx : p.tables.exec = Jvm.exec) (hpc : pc + 2 = pc') {k : Nat} {v : Int64} (hd : decode c.code pc = .ok (.lstore k, 2)) (Ls' : Array Slot) (hl : storeLocals Ls k (.long v) = some Ls') (h : Go p.tables e below E (T.setTop (mkF m pc' Ls' st))) : Go p.tables e below E (T.setTop (mkF m pc Ls ((.long v) :: st))) := by
  subst hpc; exact Go.via (fun _ k => XS.lstore X.here hx rfl hd rfl hl k) h
theorem o_istoreN (pc' : Nat) (X : Stand p l e R s m args below meth c T locs cells slots) (hx : p.tables.exec = Jvm.exec) (hpc : pc + 1 = pc') {k : Fin 4} {v : Int32} (hd : decode c.code pc = .ok (.istore_n k, 1)) (Ls' : Array Slot) (hl : storeLocals Ls k.val (.int v) = some Ls') (h : Go p.tables e below E (T.setTop (mkF m pc' Ls' st))) : Go p.tables e below E (T.setTop (mkF m pc Ls ((.int v) :: st))) := by
  subst hpc; exact Go.via (fun _ k => XS.istoreN X.here hx rfl hd rfl hl k) h
theorem o_astore (pc' : Nat) (X : Stand p l e R s m args below meth c T locs cells slots) (hx : p.tables.exec = Jvm.exec) (hpc : pc + 2 = pc') {k : Nat} {v : Value} (hd : decode c.code pc = .ok (.astore k, 2)) (hv : v.isRef = true) (Ls' : Array Slot) (hl : storeLocals Ls k v = some Ls') (h : Go p.tables e below E (T.setTop (mkF m pc' Ls' st))) : Go p.tables e below E (T.setTop (mkF m pc Ls (v :: st))) := by
  subst hpc; exact Go.via (fun _ k => XS.astore X.here hx rfl hd rfl hv hl k) h
theorem o_iinc (pc' : Nat) (X : Stand p l e R s m args below meth c T locs cells slots) (hx : p.tables.exec = Jvm.exec) (hpc : pc + 3 = pc') {k : Nat} {cst : Int} {v : Int32} (hd : decode c.code pc = .ok (.iinc k cst, 3)) (w : Int32) (hw : Int32.ofInt cst = w) (hl : Ls[k]? = some (.val (.int v))) (Ls' : Array Slot) (hl' : storeLocals Ls k (.int (v + w)) = some Ls') (h : Go p.tables e below E (T.setTop (mkF m pc' Ls' st))) : Go p.tables e below E (T.setTop (mkF m pc Ls st)) := by
  subst hpc; exact Go.via (fun _ k => XS.iinc X.here hx rfl hd hl (by rw [hw]; exact hl') k) h
theorem o_iconst (pc' : Nat) (X : Stand p l e R s m args below meth c T locs cells slots) (hx : p.tables.exec = Jvm.exec) (hpc : pc + 1 = pc') {i : Int} (hd : decode c.code pc = .ok (.iconst i, 1)) (v : Int32) (hv : Int32.ofInt i = v) (h : Go p.tables e below E (T.setTop (mkF m pc' Ls (.int v :: st)))) : Go p.tables e below E (T.setTop (mkF m pc Ls st)) := by
  subst hpc; exact Go.via (fun _ k => XS.iconst X.here hx rfl hd (by rw [hv]; exact k)) h
theorem o_bipush (pc' : Nat) (X : Stand p l e R s m args below meth c T locs cells slots) (hx : p.tables.exec = Jvm.exec) (hpc : pc + 2 = pc') {i : Int} (hd : decode c.code pc = .ok (.bipush i, 2)) (v : Int32) (hv : (Int8.ofInt i).toInt32 = v) (h : Go p.tables e below E (T.setTop (mkF m pc' Ls (.int v :: st)))) : Go p.tables e below E (T.setTop (mkF m pc Ls st)) := by
  subst hpc; exact Go.via (fun _ k => XS.bipush X.here hx rfl hd (by rw [hv]; exact k)) h
theorem o_sipush (pc' : Nat) (X : Stand p l e R s m args below meth c T locs cells slots) (hx : p.tables.exec = Jvm.exec) (hpc : pc + 3 = pc') {i : Int} (hd : decode c.code pc = .ok (.sipush i, 3)) (v : Int32) (hv : (Int16.ofInt i).toInt32 = v) (h : Go p.tables e below E (T.setTop (mkF m pc' Ls (.int v :: st)))) : Go p.tables e below E (T.setTop (mkF m pc Ls st)) := by
  subst hpc; exact Go.via (fun _ k => XS.sipush X.here hx rfl hd (by rw [hv]; exact k)) h
theorem o_ldcInt (pc' : Nat) (X : Stand p l e R s m args below meth c T locs cells slots) (hx : p.tables.exec = Jvm.exec) (hpc : pc + 2 = pc') (hZ : Z.Warmed39 s.vm) {own : String} {index : Nat} (hown : s.vm.findClass own = some m.cls) {v : Int32} (w : (Jvm.Cond.constant own index v).before a0 Z = true) (hd : decode c.code pc = .ok (.ldc index, 2)) (h : Go p.tables e below E (T.setTop (mkF m pc' Ls (.int v :: st)))) : Go p.tables e below E (T.setTop (mkF m pc Ls st)) := by
  subst hpc; exact Go.via (fun _ k => X.ldcInt hx hown (mvT hZ w) (g := mkF m pc Ls st) rfl hd _ k) h
theorem o_ldc2Long (pc' : Nat) (X : Stand p l e R s m args below meth c T locs cells slots) (hx : p.tables.exec = Jvm.exec) (hpc : pc + 3 = pc') (hZ : Z.Warmed39 s.vm) {own : String} {index : Nat} (hown : s.vm.findClass own = some m.cls) {v : Int64} (w : (Jvm.Cond.constantLong own index v).before a0 Z = true) (hd : decode c.code pc = .ok (.ldc2_w index, 3)) (h : Go p.tables e below E (T.setTop (mkF m pc' Ls (.long v :: st)))) : Go p.tables e below E (T.setTop (mkF m pc Ls st)) := by
  subst hpc; exact Go.via (fun _ k => X.ldc2Long hx hown (mvT hZ w) (g := mkF m pc Ls st) rfl hd _ k) h
theorem o_iadd (pc' : Nat) (X : Stand p l e R s m args below meth c T locs cells slots) (hx : p.tables.exec = Jvm.exec) (hpc : pc + 1 = pc') {x : Int32} {y : Int32} (hd : decode c.code pc = .ok (.iadd, 1)) (h : Go p.tables e below E (T.setTop (mkF m pc' Ls (.int (x + y) :: st)))) : Go p.tables e below E (T.setTop (mkF m pc Ls (.int y :: .int x :: st))) := by
  subst hpc; exact Go.via (fun _ k => XS.iadd X.here hx rfl hd rfl k) h
theorem o_imul (pc' : Nat) (X : Stand p l e R s m args below meth c T locs cells slots) (hx : p.tables.exec = Jvm.exec) (hpc : pc + 1 = pc') {x : Int32} {y : Int32} (hd : decode c.code pc = .ok (.imul, 1)) (h : Go p.tables e below E (T.setTop (mkF m pc' Ls (.int (x * y) :: st)))) : Go p.tables e below E (T.setTop (mkF m pc Ls (.int y :: .int x :: st))) := by
  subst hpc; exact Go.via (fun _ k => XS.imul X.here hx rfl hd rfl k) h
theorem o_iand (pc' : Nat) (X : Stand p l e R s m args below meth c T locs cells slots) (hx : p.tables.exec = Jvm.exec) (hpc : pc + 1 = pc') {x : Int32} {y : Int32} (hd : decode c.code pc = .ok (.iand, 1)) (h : Go p.tables e below E (T.setTop (mkF m pc' Ls (.int (x &&& y) :: st)))) : Go p.tables e below E (T.setTop (mkF m pc Ls (.int y :: .int x :: st))) := by
  subst hpc; exact Go.via (fun _ k => XS.iand X.here hx rfl hd rfl k) h
theorem o_ixor (pc' : Nat) (X : Stand p l e R s m args below meth c T locs cells slots) (hx : p.tables.exec = Jvm.exec) (hpc : pc + 1 = pc') {x : Int32} {y : Int32} (hd : decode c.code pc = .ok (.ixor, 1)) (h : Go p.tables e below E (T.setTop (mkF m pc' Ls (.int (x ^^^ y) :: st)))) : Go p.tables e below E (T.setTop (mkF m pc Ls (.int y :: .int x :: st))) := by
  subst hpc; exact Go.via (fun _ k => XS.ixor X.here hx rfl hd rfl k) h
theorem o_iushr (pc' : Nat) (X : Stand p l e R s m args below meth c T locs cells slots) (hx : p.tables.exec = Jvm.exec) (hpc : pc + 1 = pc') {x : Int32} {y : Int32} (hd : decode c.code pc = .ok (.iushr, 1)) (h : Go p.tables e below E (T.setTop (mkF m pc' Ls (.int ((x.toUInt32 >>> (y &&& 31).toUInt32).toInt32) :: st)))) : Go p.tables e below E (T.setTop (mkF m pc Ls (.int y :: .int x :: st))) := by
  subst hpc; exact Go.via (fun _ k => XS.iushr X.here hx rfl hd rfl k) h
theorem o_lmul (pc' : Nat) (X : Stand p l e R s m args below meth c T locs cells slots) (hx : p.tables.exec = Jvm.exec) (hpc : pc + 1 = pc') {x : Int64} {y : Int64} (hd : decode c.code pc = .ok (.lmul, 1)) (h : Go p.tables e below E (T.setTop (mkF m pc' Ls (.long (x * y) :: st)))) : Go p.tables e below E (T.setTop (mkF m pc Ls (.long y :: .long x :: st))) := by
  subst hpc; exact Go.via (fun _ k => XS.lmul X.here hx rfl hd rfl k) h
theorem o_land (pc' : Nat) (X : Stand p l e R s m args below meth c T locs cells slots) (hx : p.tables.exec = Jvm.exec) (hpc : pc + 1 = pc') {x : Int64} {y : Int64} (hd : decode c.code pc = .ok (.land, 1)) (h : Go p.tables e below E (T.setTop (mkF m pc' Ls (.long (x &&& y) :: st)))) : Go p.tables e below E (T.setTop (mkF m pc Ls (.long y :: .long x :: st))) := by
  subst hpc; exact Go.via (fun _ k => XS.land X.here hx rfl hd rfl k) h
theorem o_lxor (pc' : Nat) (X : Stand p l e R s m args below meth c T locs cells slots) (hx : p.tables.exec = Jvm.exec) (hpc : pc + 1 = pc') {x : Int64} {y : Int64} (hd : decode c.code pc = .ok (.lxor, 1)) (h : Go p.tables e below E (T.setTop (mkF m pc' Ls (.long (x ^^^ y) :: st)))) : Go p.tables e below E (T.setTop (mkF m pc Ls (.long y :: .long x :: st))) := by
  subst hpc; exact Go.via (fun _ k => XS.lxor X.here hx rfl hd rfl k) h
theorem o_lushr (pc' : Nat) (X : Stand p l e R s m args below meth c T locs cells slots) (hx : p.tables.exec = Jvm.exec) (hpc : pc + 1 = pc') {x : Int64} {y : Int32} (hd : decode c.code pc = .ok (.lushr, 1)) (h : Go p.tables e below E (T.setTop (mkF m pc' Ls (.long ((x.toUInt64 >>> (y &&& 0x3f).toInt64.toUInt64).toInt64) :: st)))) : Go p.tables e below E (T.setTop (mkF m pc Ls (.int y :: .long x :: st))) := by
  subst hpc; exact Go.via (fun _ k => XS.lushr X.here hx rfl hd rfl k) h
theorem o_irem (pc' : Nat) (X : Stand p l e R s m args below meth c T locs cells slots) (hx : p.tables.exec = Jvm.exec) (hpc : pc + 1 = pc') {x y : Int32} (hd : decode c.code pc = .ok (.irem, 1)) (hy : y ≠ 0) (h : Go p.tables e below E (T.setTop (mkF m pc' Ls (.int (x % y) :: st)))) : Go p.tables e below E (T.setTop (mkF m pc Ls (.int y :: .int x :: st))) := by
  subst hpc; exact Go.via (fun _ k => iremM (g := mkF m pc Ls (.int y :: .int x :: st)) X hx rfl hd rfl hy k) h
theorem o_i2l (pc' : Nat) (X : Stand p l e R s m args below meth c T locs cells slots) (hx : p.tables.exec = Jvm.exec) (hpc : pc + 1 = pc') {x : Int32} (hd : decode c.code pc = .ok (.i2l, 1)) (h : Go p.tables e below E (T.setTop (mkF m pc' Ls (.long (x.toInt64) :: st)))) : Go p.tables e below E (T.setTop (mkF m pc Ls (.int x :: st))) := by
  subst hpc; exact Go.via (fun _ k => XS.i2l X.here hx rfl hd rfl k) h
theorem o_l2i (pc' : Nat) (X : Stand p l e R s m args below meth c T locs cells slots) (hx : p.tables.exec = Jvm.exec) (hpc : pc + 1 = pc') {x : Int64} (hd : decode c.code pc = .ok (.l2i, 1)) (h : Go p.tables e below E (T.setTop (mkF m pc' Ls (.int (x.toInt32) :: st)))) : Go p.tables e below E (T.setTop (mkF m pc Ls (.long x :: st))) := by
  subst hpc; exact Go.via (fun _ k => XS.l2i X.here hx rfl hd rfl k) h
theorem o_i2b (pc' : Nat) (X : Stand p l e R s m args below meth c T locs cells slots) (hx : p.tables.exec = Jvm.exec) (hpc : pc + 1 = pc') {x : Int32} (hd : decode c.code pc = .ok (.i2b, 1)) (h : Go p.tables e below E (T.setTop (mkF m pc' Ls (.int (x.toInt8.toInt32) :: st)))) : Go p.tables e below E (T.setTop (mkF m pc Ls (.int x :: st))) := by
  subst hpc; exact Go.via (fun _ k => XS.i2b X.here hx rfl hd rfl k) h
theorem o_goto (pc' : Nat) (X : Stand p l e R s m args below meth c T locs cells slots) (hx : p.tables.exec = Jvm.exec) {o : Int} (hd : decode c.code pc = .ok (.goto o, 3)) (ho : 0 ≤ (pc : Int) + o) (hp : ((pc : Int) + o).toNat = pc') (h : Go p.tables e below E (T.setTop (mkF m pc' Ls st))) : Go p.tables e below E (T.setTop (mkF m pc Ls st)) := by
  exact Go.via (fun _ k => XS.goto X.here hx rfl (pc0 := pc) (pc' := pc') rfl hd ho hp k) h
theorem o_ifYes (pc' : Nat) (X : Stand p l e R s m args below meth c T locs cells slots) (hx : p.tables.exec = Jvm.exec) {cd : ClassFile.Cond} {x : Int32} {o : Int} (hd : decode c.code pc = .ok (.ifCond cd o, 3)) (hc : if_icmp.holds cd x 0 = true) (ho : 0 ≤ (pc : Int) + o) (hp : ((pc : Int) + o).toNat = pc') (h : Go p.tables e below E (T.setTop (mkF m pc' Ls st))) : Go p.tables e below E (T.setTop (mkF m pc Ls (.int x :: st))) := by
  exact Go.via (fun _ k => XS.ifYes X.here hx rfl (pc0 := pc) (pc' := pc') rfl hd rfl ((if0 _ _).trans hc) ho hp k) h
theorem o_ifNo (pc' : Nat) (X : Stand p l e R s m args below meth c T locs cells slots) (hx : p.tables.exec = Jvm.exec) (hpc : pc + 3 = pc') {cd : ClassFile.Cond} {x : Int32} {o : Int} (hd : decode c.code pc = .ok (.ifCond cd o, 3)) (hc : if_icmp.holds cd x 0 = false) (h : Go p.tables e below E (T.setTop (mkF m pc' Ls st))) : Go p.tables e below E (T.setTop (mkF m pc Ls (.int x :: st))) := by
  subst hpc; exact Go.via (fun _ k => XS.ifNo X.here hx rfl hd rfl ((if0 _ _).trans hc) k) h
theorem o_icmpYes (pc' : Nat) (X : Stand p l e R s m args below meth c T locs cells slots) (hx : p.tables.exec = Jvm.exec) {cd : ClassFile.Cond} {x y : Int32} {o : Int} (hd : decode c.code pc = .ok (.if_icmp cd o, 3)) (hc : if_icmp.holds cd x y = true) (ho : 0 ≤ (pc : Int) + o) (hp : ((pc : Int) + o).toNat = pc') (h : Go p.tables e below E (T.setTop (mkF m pc' Ls st))) : Go p.tables e below E (T.setTop (mkF m pc Ls (.int y :: .int x :: st))) := by
  exact Go.via (fun _ k => XS.icmpYes X.here hx rfl (pc0 := pc) (pc' := pc') rfl hd rfl hc ho hp k) h
theorem o_icmpNo (pc' : Nat) (X : Stand p l e R s m args below meth c T locs cells slots) (hx : p.tables.exec = Jvm.exec) (hpc : pc + 3 = pc') {cd : ClassFile.Cond} {x y : Int32} {o : Int} (hd : decode c.code pc = .ok (.if_icmp cd o, 3)) (hc : if_icmp.holds cd x y = false) (h : Go p.tables e below E (T.setTop (mkF m pc' Ls st))) : Go p.tables e below E (T.setTop (mkF m pc Ls (.int y :: .int x :: st))) := by
  subst hpc; exact Go.via (fun _ k => XS.icmpNo X.here hx rfl hd rfl hc k) h
theorem o_out (X : Stand p l e R s m args below meth c T locs cells slots) (hx : p.tables.exec = Jvm.exec) {rm : Room} {Q : Option Value → Heap → List Loc → Prop} {v : Option Value} (hv : meth.sig.returnType = none → v = none) (hlk : meth.locks = false) {g : JFrame}
    (hst : ∀ fs, (∀ (f : JFrame) (acts : List Action), f.method = m → f.locked = none → f.entered = [] → (doReturn e (T.setTop f) acts v).1 = T.setFrames fs) → Steps p.tables e below (T.setTop g) (T.setFrames fs)) (hq : Q v T.heap locs) (hk : cells ≤ rm.cells) (hn : slots ≤ rm.slots) : Go p.tables e below (EndE s rm Q) (T.setTop g) := by
  obtain ⟨fs, hr, hrun, hended, hW, hsame⟩ := X.leave (v := v) hv hlk
  exact ⟨_, _, hst fs hr, hrun, hended, _, _, rfl, hq, ⟨_, rfl⟩, hW, hsame.mono hk hn⟩
theorem own_retI (X : Stand p l e R s m args below meth c T locs cells slots) (hx : p.tables.exec = Jvm.exec) {z : Int32} (hret : meth.sig.returnType = some .int) (hd : decode c.code pc = .ok (.ireturn, 1)) {fs : List Frame}
    (hl : ∀ (f : JFrame) (acts : List Action), f.method = m → f.locked = none → f.entered = [] → (doReturn e (T.setTop f) acts (some (.int z))).1 = T.setFrames fs) : Steps p.tables e below (T.setTop (mkF m pc Ls (.int z :: st))) (T.setFrames fs) :=
  retOut X hx hret rfl (Or.inl ⟨rfl, Or.inl rfl, z, rfl⟩) hd hl
theorem o_retI (X : Stand p l e R s m args below meth c T locs cells slots) (hx : p.tables.exec = Jvm.exec) {z : Int32} {rm : Room} {Q : Option Value → Heap → List Loc → Prop} (hret : meth.sig.returnType = some .int) (hlk : meth.locks = false) (hd : decode c.code pc = .ok (.ireturn, 1)) (hk : cells ≤ rm.cells) (hn : slots ≤ rm.slots) (hq : Q (some (.int z)) T.heap locs) : Go p.tables e below (EndE s rm Q) (T.setTop (mkF m pc Ls (.int z :: st))) :=
  o_out X hx (fun q => by rw [hret] at q; cases q) hlk (fun fs hr => own_retI X hx hret hd hr) hq hk hn
theorem o_retJ (X : Stand p l e R s m args below meth c T locs cells slots) (hx : p.tables.exec = Jvm.exec) {z : Int64} {rm : Room} {Q : Option Value → Heap → List Loc → Prop} (hret : meth.sig.returnType = some .long) (hlk : meth.locks = false) (hd : decode c.code pc = .ok (.lreturn, 1)) (hk : cells ≤ rm.cells) (hn : slots ≤ rm.slots) (hq : Q (some (.long z)) T.heap locs) : Go p.tables e below (EndE s rm Q) (T.setTop (mkF m pc Ls (.long z :: st))) :=
  o_out X hx (fun q => by rw [hret] at q; cases q) hlk (fun fs hr => retOut X hx hret rfl (Or.inr (Or.inl ⟨rfl, rfl, z, rfl⟩)) hd hr) hq hk hn
theorem o_retN (X : Stand p l e R s m args below meth c T locs cells slots) (hx : p.tables.exec = Jvm.exec) {z : Int32} (t : FieldType) (ht : t = .boolean ∨ t = .byte ∨ t = .char ∨ t = .short) {rm : Room} {Q : Option Value → Heap → List Loc → Prop} (hret : meth.sig.returnType = some t) (hlk : meth.locks = false) (hd : decode c.code pc = .ok (.ireturn, 1)) (hk : cells ≤ rm.cells) (hn : slots ≤ rm.slots) (hq : Q (some (.int (nar t z))) T.heap locs) : Go p.tables e below (EndE s rm Q) (T.setTop (mkF m pc Ls (.int z :: st))) :=
  o_out X hx (fun q => by rw [hret] at q; cases q) hlk (fun fs hr => retN X hx hret ht hd hr) hq hk hn
theorem o_callS (pc' : Nat) (X : Stand p l e R s m args below meth c T locs cells slots) (hx : p.tables.exec = Jvm.exec) (hpc : pc + 3 = pc') (hZ : Z.Warmed39 s.vm) {own : String} {index : Nat} {y : MethodName} {bytes : ByteArray} {maxL : Nat} {ret : Option FieldType} {rm : Room} {as' : Array Value} {Q : Option Value → Heap → List Loc → Prop} (hown : s.vm.findClass own = some m.cls) (w1 : (Jvm.Cond.methodLink own index y).before a0 Z = true) (w2 : (Jvm.Cond.static y).before a0 Z = true) (w3 : (Jvm.Cond.initialized y.cls).before a0 Z = true) (w4 : (Jvm.Cond.code y bytes maxL ret).before a0 Z = true) (hy : y.cls ≠ "java/lang/invoke/MethodHandle" ∧ y.cls ≠ "java/lang/invoke/VarHandle") (eT : T.heap = h)
    (hM : MetP l y bytes maxL ret [] rm Z as' h Q) {ps : List FieldType} {r : Option FieldType} (hdsc : parseMethodDescriptor y.desc = some ⟨ps, r⟩) (argsL rest : List Value) (hlen : argsL.length = ps.length) (has : argsL.toArray = as') (hsize : Ls.size = c.maxLocals) (hst : st = argsL.reverse ++ rest) (hd : decode c.code pc = .ok (.invokestatic index, 3)) (W : Nat) (hW : (rest.map fun v => v.category).sum ≤ W) (hf : rm.frames + 1 ≤ R.frames) (hlo : W + (maxL + 11) + rm.locals ≤ R.locals) (hc : cells + rm.cells ≤ R.cells) (hsl : slots + rm.slots ≤ R.slots)
    (k : ∀ (v : Option Value) (T' : State) (L : List Loc), Stand p l e R s m args below meth c T' (locs ++ L) (cells + rm.cells) (slots + rm.slots) → Q v T'.heap L → Go p.tables e below E (T'.setTop (mkF m pc' Ls (v.toList ++ rest)))) : Go p.tables e below E (T.setTop (mkF m pc Ls st)) := by
  subst hpc
  obtain ⟨v, _, ⟨T', L', c', s'⟩, -, X', ⟨L, hQ, h1, h2, h3⟩, st'⟩ := Jvm.LawKit.callS X hx (y := y) hown (mvT hZ w1) (mvT hZ w2) (mvT hZ w3) (mvT hZ w4) hy (backOf (W := W) hM hZ w4 w3 hf hlo) (g := mkF m pc Ls st) rfl hsize (argsL := argsL) (rest := rest) (lenOf hdsc hlen) hst (by show 2 * 0 + _ ≤ _; rw [Nat.mul_zero, Nat.zero_add]; exact hW) hd (fun _ _ => ⟨has, eT, hc, hsl⟩)
  dsimp only [Pt.U, Pt.locs, Pt.cells, Pt.slots] at X' h1 h2 h3 st' hQ
  subst h1 h2 h3
  exact Go.via st' (k v T' L X' hQ)
theorem o_callP (pc' : Nat) (X : Stand p l e R s m args below meth c T locs cells slots) (hx : p.tables.exec = Jvm.exec) (hpc : pc + 3 = pc') (hZ : Z.Warmed39 s.vm) {own : String} {index : Nat} {y : MethodName} {bytes : ByteArray} {maxL : Nat} {ret : Option FieldType} {rm : Room} {as' : Array Value} {rv : Value} (hown : s.vm.findClass own = some m.cls) (w1 : (Jvm.Cond.methodLink own index y).before a0 Z = true) (w2 : (Jvm.Cond.static y).before a0 Z = true) (w3 : (Jvm.Cond.initialized y.cls).before a0 Z = true) (w4 : (Jvm.Cond.code y bytes maxL ret).before a0 Z = true) (hy : y.cls ≠ "java/lang/invoke/MethodHandle" ∧ y.cls ≠ "java/lang/invoke/VarHandle") (eT : T.heap = h)
    (hM : MetP l y bytes maxL ret [] rm Z as' h (Pure rv h)) {ps : List FieldType} {r : Option FieldType} (hdsc : parseMethodDescriptor y.desc = some ⟨ps, r⟩) (argsL rest : List Value) (hlen : argsL.length = ps.length) (has : argsL.toArray = as') (hsize : Ls.size = c.maxLocals) (hst : st = argsL.reverse ++ rest) (hd : decode c.code pc = .ok (.invokestatic index, 3)) (W : Nat) (hW : (rest.map fun v => v.category).sum ≤ W) (hf : rm.frames + 1 ≤ R.frames) (hlo : W + (maxL + 11) + rm.locals ≤ R.locals) (hc : cells + rm.cells ≤ R.cells) (hsl : slots + rm.slots ≤ R.slots) (hc0 : rm.cells = 0) (hs0 : rm.slots = 0)
    (k : ∀ (T' : State), Stand p l e R s m args below meth c T' locs cells slots → T'.heap = h → Go p.tables e below E (T'.setTop (mkF m pc' Ls (rv :: rest)))) : Go p.tables e below E (T.setTop (mkF m pc Ls st)) := by
  refine o_callS pc' X hx hpc hZ hown w1 w2 w3 w4 hy eT hM hdsc argsL rest hlen has hsize hst hd W hW hf hlo hc hsl ?_
  intro v T' L X' hQ
  obtain ⟨rfl, rfl, e'⟩ := hQ
  rw [hc0, hs0, List.append_nil] at X'
  exact k T' X' e' 
theorem o_newarr (pc' : Nat) (X : Stand p l e R s m args below meth c T locs cells slots) (hx : p.tables.exec = Jvm.exec) (hpc : pc + 2 = pc') (hZ : Z.Warmed39 s.vm) (aty : ArrayType) (ty : FieldType) (hty : newarray.typeOf aty = ty) (w : (Jvm.Cond.arrayClass ty).before a0 Z = true) (eT : T.heap = h) {n : Int32} (hd : decode c.code pc = .ok (.newarray aty, 2)) (hn : ¬ n < 0) (cap : Nat) (hcap : n.toNatClampNeg ≤ cap) (hb : cap * 8 ≤ 536870912) (hc : cells + 1 ≤ R.cells) (hl : slots + cap ≤ R.slots)
    (k : ∀ (T' : State) (h' : Heap) (a : Addr) (cA : ClassId), a = h.size → Stand p l e R s m args below meth c T' locs (cells + 1) (slots + cap) → T'.heap = h' → Ext h h' → Arv Z h' a cA ty n [] (defaultValue ty) → Go p.tables e below E (T'.setTop (mkF m pc' Ls (.ref a :: st)))) : Go p.tables e below E (T.setTop (mkF m pc Ls (.int n :: st))) := by
  subst hpc; subst hty
  obtain ⟨T', h', cA, X', e', E', A', st'⟩ := newP X hx hZ w eT (g := mkF m pc Ls (.int n :: st)) rfl hd rfl hn hcap hb hc hl
  exact Go.via st' (k T' h' h.size cA rfl X' e' E' (Arv.new A' hn))
theorem o_baloadB (pc' : Nat) (X : Stand p l e R s m args below meth c T locs cells slots) (hx : p.tables.exec = Jvm.exec) (hpc : pc + 1 = pc') (hZ : Z.Warmed39 s.vm) (eT : T.heap = h) {a : Addr} {ka : ClassId} {n j : Int32} {vs : List Value} {dv : Value} (F : Arv Z h a ka .byte n vs dv) (hj : ¬ j < 0 ∧ j < n) (v : Value) (hv : vs.getD j.toNatClampNeg dv = v) (hd : decode c.code pc = .ok (.baload, 1)) (k : Go p.tables e below E (T.setTop (mkF m pc' Ls (v :: st)))) : Go p.tables e below E (T.setTop (mkF m pc Ls (.int j :: .ref a :: st))) := by
  subst hpc
  obtain ⟨cl, A, -, S, M, H, -⟩ := F
  have hin := inb_of S hj
  exact Go.via (fun _ q => X.baloadBytes hx (j := j) (v := v) (by rw [eT]; exact A.1) (State.isArrayOf_alike hZ.alike A.2.1) A.2.2 hin (H.at hin hv) (g := mkF m pc Ls (.int j :: .ref a :: st)) rfl rfl hd _ q) k
theorem o_bastoreB (pc' : Nat) (X : Stand p l e R s m args below meth c T locs cells slots) (hx : p.tables.exec = Jvm.exec) (hpc : pc + 1 = pc') (hZ : Z.Warmed39 s.vm) (eT : T.heap = h) {a : Addr} {ka : ClassId} {n j : Int32} {x : Int32} {vs : List Value} {dv : Value} (F : Arv Z h a ka .byte n vs dv) (hj : ¬ j < 0 ∧ j < n) (i : Nat) (hi : j.toNatClampNeg = i) (hlt : i < vs.length) (vs' : List Value) (hvs : vs.set i (.int (nar .byte x)) = vs') {n0 : Nat} (N : Fr n0 locs) (ga : n0 ≤ a) (hd : decode c.code pc = .ok (.bastore, 1))
    (k : ∀ (T' : State) (h' : Heap) (L' : List Loc), Stand p l e R s m args below meth c T' L' cells slots → Fr n0 L' → T'.heap = h' → Wr h h' a j.toNatClampNeg (.int (nar .byte x)) → Arv Z h' a ka .byte n vs' dv → Go p.tables e below E (T'.setTop (mkF m pc' Ls st))) : Go p.tables e below E (T.setTop (mkF m pc Ls (.int x :: .int j :: .ref a :: st))) := by
  subst hpc; subst hvs
  obtain ⟨cl, A, q1, S, M, H, G⟩ := F
  have hin := inb_of S hj
  obtain ⟨T', h', X', e', W', st'⟩ := stB X hx hZ eT A hin (g := mkF m pc Ls (.int x :: .int j :: .ref a :: st)) rfl rfl hd
  exact Go.via st' (k T' h' _ X' (Fr.snoc X' N ga) e' W' (Arv.set A q1 S M H G (fits_nar_byte x) W' i hi hlt))
theorem own_getI (xs : List Int32) (i : Nat) : (xs.map Value.int).getD i (.int 0) = .int (xs.getD i 0) := by
  simp only [List.getD_eq_getElem?_getD, List.getElem?_map]; cases xs[i]? <;> rfl
theorem o_baloadBX (pc' : Nat) (X : Stand p l e R s m args below meth c T locs cells slots) (hx : p.tables.exec = Jvm.exec) (hpc : pc + 1 = pc') (hZ : Z.Warmed39 s.vm) (eT : T.heap = h) {a : Addr} {ka : ClassId} {n j : Int32} {xs : List Int32} (F : Arv Z h a ka .byte n (xs.map Value.int) (.int 0)) (hj : ¬ j < 0 ∧ j < n) (hd : decode c.code pc = .ok (.baload, 1)) (v : Int32) (hv : xs.getD j.toNatClampNeg 0 = v) (k : Go p.tables e below E (T.setTop (mkF m pc' Ls (.int v :: st)))) : Go p.tables e below E (T.setTop (mkF m pc Ls (.int j :: .ref a :: st))) := by
  subst hv; exact o_baloadB pc' X hx hpc hZ eT F hj _ (own_getI xs _) hd k
theorem o_bastoreBX (pc' : Nat) (X : Stand p l e R s m args below meth c T locs cells slots) (hx : p.tables.exec = Jvm.exec) (hpc : pc + 1 = pc') (hZ : Z.Warmed39 s.vm) (eT : T.heap = h) {a : Addr} {ka : ClassId} {n j : Int32} {x : Int32} {xs : List Int32} (F : Arv Z h a ka .byte n (xs.map Value.int) (.int 0)) (hj : ¬ j < 0 ∧ j < n) (hlt : j.toNatClampNeg < xs.length) (xs' : List Int32) (hxs : xs.set j.toNatClampNeg (nar .byte x) = xs') {n0 : Nat} (N : Fr n0 locs) (ga : n0 ≤ a) (hd : decode c.code pc = .ok (.bastore, 1))
    (k : ∀ (T' : State) (h' : Heap) (L' : List Loc), Stand p l e R s m args below meth c T' L' cells slots → Fr n0 L' → T'.heap = h' → Wr h h' a j.toNatClampNeg (.int (nar .byte x)) → Arv Z h' a ka .byte n (xs'.map Value.int) (.int 0) → Go p.tables e below E (T'.setTop (mkF m pc' Ls st))) : Go p.tables e below E (T.setTop (mkF m pc Ls (.int x :: .int j :: .ref a :: st))) := by
  subst hxs
  exact o_bastoreB pc' X hx hpc hZ eT F hj _ rfl (by rw [List.length_map]; exact hlt) _ (List.map_set.symm) N ga hd k
theorem o_newarrI (pc' : Nat) (X : Stand p l e R s m args below meth c T locs cells slots) (hx : p.tables.exec = Jvm.exec) (hpc : pc + 2 = pc') (hZ : Z.Warmed39 s.vm) (aty : ArrayType) (ty : FieldType) (hty : newarray.typeOf aty = ty) (hdf : defaultValue ty = .int 0) (w : (Jvm.Cond.arrayClass ty).before a0 Z = true) (eT : T.heap = h) {n : Int32} (hd : decode c.code pc = .ok (.newarray aty, 2)) (hn : ¬ n < 0) (cap : Nat) (hcap : n.toNatClampNeg ≤ cap) (hb : cap * 8 ≤ 536870912) (hc : cells + 1 ≤ R.cells) (hl : slots + cap ≤ R.slots) (xs : List Int32) (hxs : List.replicate n.toNatClampNeg 0 = xs)
    (k : ∀ (T' : State) (h' : Heap) (a : Addr) (cA : ClassId), a = h.size → Stand p l e R s m args below meth c T' locs (cells + 1) (slots + cap) → T'.heap = h' → Ext h h' → Arv Z h' a cA ty n (xs.map Value.int) (.int 0) → Go p.tables e below E (T'.setTop (mkF m pc' Ls (.ref a :: st)))) : Go p.tables e below E (T.setTop (mkF m pc Ls (.int n :: st))) := by
  subst hxs
  refine o_newarr pc' X hx hpc hZ aty ty hty w eT hd hn cap hcap hb hc hl ?_
  intro T' h' a cA g X' e' E' A'
  rw [hdf] at A'
  refine k T' h' a cA g X' e' E' ?_
  rw [List.map_replicate]
  exact A'.pad (pad_rep [] _ _)
end OwnKit
theorem l_tlt {x y : Int64} (h : x < y) : lcmpW x y < 0 := (lw_lt x y).mpr h
theorem l_flt {x y : Int64} (h : ¬ x < y) : ¬ lcmpW x y < 0 := fun q => h ((lw_lt x y).mp q)
theorem l_tgt {x y : Int64} (h : y < x) : 0 < lcmpW x y := (lw_gt x y).mpr h
theorem l_fgt {x y : Int64} (h : ¬ y < x) : ¬ 0 < lcmpW x y := fun q => h ((lw_gt x y).mp q)
theorem l_teq {x y : Int64} (h : x = y) : lcmpW x y = 0 := (lw_eq x y).mpr h
theorem l_feq {x y : Int64} (h : ¬ x = y) : ¬ lcmpW x y = 0 := fun q => h ((lw_eq x y).mp q)
theorem wd_0 {Z : State} {a0 : Array Value} (hw : ∀ d ∈ tables_1, d.before a0 Z = true) : (Jvm.Cond.arrayClass Jvm.ClassFile.FieldType.byte).before a0 Z = true := hw _ (List.mem_of_getElem? (i := 0) rfl)
theorem wd_1 {Z : State} {a0 : Array Value} (hw : ∀ d ∈ tables_1, d.before a0 Z = true) : (Jvm.Cond.methodLink "com/example/headword/headword/stardict/ListedHeadwordsHashPinLaw" (7 : Nat) ({ cls := "com/example/headword/headword/stardict/ListedHeadwords", name := "hash", desc := "([BII)I" } : Jvm.MethodName)).before a0 Z = true := hw _ (List.mem_of_getElem? (i := 1) rfl)
theorem wd_2 {Z : State} {a0 : Array Value} (hw : ∀ d ∈ tables_1, d.before a0 Z = true) : (Jvm.Cond.static ({ cls := "com/example/headword/headword/stardict/ListedHeadwords", name := "hash", desc := "([BII)I" } : Jvm.MethodName)).before a0 Z = true := hw _ (List.mem_of_getElem? (i := 2) rfl)
theorem wd_3 {Z : State} {a0 : Array Value} (hw : ∀ d ∈ tables_1, d.before a0 Z = true) : (Jvm.Cond.initialized "com/example/headword/headword/stardict/ListedHeadwords").before a0 Z = true := hw _ (List.mem_of_getElem? (i := 3) rfl)
theorem wd_4 {Z : State} {a0 : Array Value} (hw : ∀ d ∈ tables_1, d.before a0 Z = true) : (Jvm.Cond.code ({ cls := "com/example/headword/headword/stardict/ListedHeadwords", name := "hash", desc := "([BII)I" } : Jvm.MethodName) prog_58_method_18_code (5 : Nat) (Option.some Jvm.ClassFile.FieldType.int)).before a0 Z = true := hw _ (List.mem_of_getElem? (i := 4) rfl)
theorem wd_5 {Z : State} {a0 : Array Value} (hw : ∀ d ∈ tables_1, d.before a0 Z = true) : (Jvm.Cond.constant "com/example/headword/headword/stardict/ListedHeadwords" (147 : Nat) (-2128831035 : Int32)).before a0 Z = true := hw _ (List.mem_of_getElem? (i := 5) rfl)
theorem wd_6 {Z : State} {a0 : Array Value} (hw : ∀ d ∈ tables_1, d.before a0 Z = true) : (Jvm.Cond.constantLong "com/example/headword/headword/stardict/ListedHeadwordsHashPinLaw" (13 : Nat) (2166136261 : Int64)).before a0 Z = true := hw _ (List.mem_of_getElem? (i := 6) rfl)
theorem wd_7 {Z : State} {a0 : Array Value} (hw : ∀ d ∈ tables_1, d.before a0 Z = true) : (Jvm.Cond.constant "com/example/headword/headword/stardict/ListedHeadwords" (148 : Nat) (16777619 : Int32)).before a0 Z = true := hw _ (List.mem_of_getElem? (i := 7) rfl)
theorem wd_8 {Z : State} {a0 : Array Value} (hw : ∀ d ∈ tables_1, d.before a0 Z = true) : (Jvm.Cond.methodLink "com/example/headword/headword/stardict/ListedHeadwordsHashPinLaw" (15 : Nat) ({ cls := "com/example/headword/headword/stardict/ListedHeadwordsHashPinLaw", name := "step", desc := "(JB)J" } : Jvm.MethodName)).before a0 Z = true := hw _ (List.mem_of_getElem? (i := 8) rfl)
theorem wd_9 {Z : State} {a0 : Array Value} (hw : ∀ d ∈ tables_1, d.before a0 Z = true) : (Jvm.Cond.static ({ cls := "com/example/headword/headword/stardict/ListedHeadwordsHashPinLaw", name := "step", desc := "(JB)J" } : Jvm.MethodName)).before a0 Z = true := hw _ (List.mem_of_getElem? (i := 9) rfl)
theorem wd_10 {Z : State} {a0 : Array Value} (hw : ∀ d ∈ tables_1, d.before a0 Z = true) : (Jvm.Cond.initialized "com/example/headword/headword/stardict/ListedHeadwordsHashPinLaw").before a0 Z = true := hw _ (List.mem_of_getElem? (i := 10) rfl)
theorem wd_11 {Z : State} {a0 : Array Value} (hw : ∀ d ∈ tables_1, d.before a0 Z = true) : (Jvm.Cond.code ({ cls := "com/example/headword/headword/stardict/ListedHeadwordsHashPinLaw", name := "step", desc := "(JB)J" } : Jvm.MethodName) method_3_code (3 : Nat) (Option.some Jvm.ClassFile.FieldType.long)).before a0 Z = true := hw _ (List.mem_of_getElem? (i := 11) rfl)
theorem wd_12 {Z : State} {a0 : Array Value} (hw : ∀ d ∈ tables_1, d.before a0 Z = true) : (Jvm.Cond.constantLong "com/example/headword/headword/stardict/ListedHeadwordsHashPinLaw" (21 : Nat) (255 : Int64)).before a0 Z = true := hw _ (List.mem_of_getElem? (i := 12) rfl)
theorem wd_13 {Z : State} {a0 : Array Value} (hw : ∀ d ∈ tables_1, d.before a0 Z = true) : (Jvm.Cond.constantLong "com/example/headword/headword/stardict/ListedHeadwordsHashPinLaw" (23 : Nat) (16777619 : Int64)).before a0 Z = true := hw _ (List.mem_of_getElem? (i := 13) rfl)
theorem wd_14 {Z : State} {a0 : Array Value} (hw : ∀ d ∈ tables_1, d.before a0 Z = true) : (Jvm.Cond.constantLong "com/example/headword/headword/stardict/ListedHeadwordsHashPinLaw" (25 : Nat) (4294967295 : Int64)).before a0 Z = true := hw _ (List.mem_of_getElem? (i := 14) rfl)
theorem d1_0 : decode prog_58_method_18_code 0 = .ok (.ldc 147, 2) := by decide +kernel
theorem d1_10 : decode prog_58_method_18_code 10 = .ok (.iadd, 1) := by decide +kernel
theorem d1_11 : decode prog_58_method_18_code 11 = .ok (.if_icmp .ge 23, 3) := by decide +kernel
theorem d1_14 : decode prog_58_method_18_code 14 = .ok (.iload_n 3, 1) := by decide +kernel
theorem d1_15 : decode prog_58_method_18_code 15 = .ok (.aload_n 0, 1) := by decide +kernel
theorem d1_16 : decode prog_58_method_18_code 16 = .ok (.iload 4, 2) := by decide +kernel
theorem d1_18 : decode prog_58_method_18_code 18 = .ok (.baload, 1) := by decide +kernel
theorem d1_19 : decode prog_58_method_18_code 19 = .ok (.sipush 255, 3) := by decide +kernel
theorem d1_2 : decode prog_58_method_18_code 2 = .ok (.istore_n 3, 1) := by decide +kernel
theorem d1_22 : decode prog_58_method_18_code 22 = .ok (.iand, 1) := by decide +kernel
theorem d1_23 : decode prog_58_method_18_code 23 = .ok (.ixor, 1) := by decide +kernel
theorem d1_24 : decode prog_58_method_18_code 24 = .ok (.ldc 148, 2) := by decide +kernel
theorem d1_26 : decode prog_58_method_18_code 26 = .ok (.imul, 1) := by decide +kernel
theorem d1_27 : decode prog_58_method_18_code 27 = .ok (.istore_n 3, 1) := by decide +kernel
theorem d1_28 : decode prog_58_method_18_code 28 = .ok (.iinc 4 1, 3) := by decide +kernel
theorem d1_3 : decode prog_58_method_18_code 3 = .ok (.iload_n 1, 1) := by decide +kernel
theorem d1_31 : decode prog_58_method_18_code 31 = .ok (.goto (-25), 3) := by decide +kernel
theorem d1_34 : decode prog_58_method_18_code 34 = .ok (.iload_n 3, 1) := by decide +kernel
theorem d1_35 : decode prog_58_method_18_code 35 = .ok (.iload_n 3, 1) := by decide +kernel
theorem d1_36 : decode prog_58_method_18_code 36 = .ok (.bipush 16, 2) := by decide +kernel
theorem d1_38 : decode prog_58_method_18_code 38 = .ok (.iushr, 1) := by decide +kernel
theorem d1_39 : decode prog_58_method_18_code 39 = .ok (.ixor, 1) := by decide +kernel
theorem d1_4 : decode prog_58_method_18_code 4 = .ok (.istore 4, 2) := by decide +kernel
theorem d1_40 : decode prog_58_method_18_code 40 = .ok (.ireturn, 1) := by decide +kernel
theorem d1_6 : decode prog_58_method_18_code 6 = .ok (.iload 4, 2) := by decide +kernel
theorem d1_8 : decode prog_58_method_18_code 8 = .ok (.iload_n 1, 1) := by decide +kernel
theorem d1_9 : decode prog_58_method_18_code 9 = .ok (.iload_n 2, 1) := by decide +kernel
theorem d2_0 : decode method_3_code 0 = .ok (.lload_n 0, 1) := by decide +kernel
theorem d2_1 : decode method_3_code 1 = .ok (.iload_n 2, 1) := by decide +kernel
theorem d2_11 : decode method_3_code 11 = .ok (.lmul, 1) := by decide +kernel
theorem d2_12 : decode method_3_code 12 = .ok (.ldc2_w 25, 3) := by decide +kernel
theorem d2_15 : decode method_3_code 15 = .ok (.land, 1) := by decide +kernel
theorem d2_16 : decode method_3_code 16 = .ok (.lreturn, 1) := by decide +kernel
theorem d2_2 : decode method_3_code 2 = .ok (.i2l, 1) := by decide +kernel
theorem d2_3 : decode method_3_code 3 = .ok (.ldc2_w 21, 3) := by decide +kernel
theorem d2_6 : decode method_3_code 6 = .ok (.land, 1) := by decide +kernel
theorem d2_7 : decode method_3_code 7 = .ok (.lxor, 1) := by decide +kernel
theorem d2_8 : decode method_3_code 8 = .ok (.ldc2_w 23, 3) := by decide +kernel
theorem pd_lJBrJ : parseMethodDescriptor "(JB)J" = some ⟨[.long, .byte], some .long⟩ := by decide +kernel
theorem pd_laBIIrI : parseMethodDescriptor "([BII)I" = some ⟨[(.array .byte), .int, .int], some .int⟩ := by decide +kernel
theorem pn_0 : plainFor x = true := plainFor_of_name (show plainName "com/example/headword/headword/stardict/ListedHeadwordsHashPinLaw" = true by first | (simp [plainName, overriddenIn]; done) | decide +kernel)
theorem pn_1 : plainFor (⟨"com/example/headword/headword/stardict/ListedHeadwords", "hash", "([BII)I"⟩ : MethodName) = true := plainFor_of_name (show plainName "com/example/headword/headword/stardict/ListedHeadwords" = true by first | (simp [plainName, overriddenIn]; done) | decide +kernel)
theorem pn_2 : plainFor (⟨"com/example/headword/headword/stardict/ListedHeadwordsHashPinLaw", "step", "(JB)J"⟩ : MethodName) = true := plainFor_of_name (show plainName "com/example/headword/headword/stardict/ListedHeadwordsHashPinLaw" = true by first | (simp [plainName, overriddenIn]; done) | decide +kernel)
theorem own_lt {i n : Nat} (h : i < n) (hn : n < 2147483648) : Int32.ofNat i < Int32.ofNat n := by
  rw [Int32.lt_iff_toInt_lt, Int32.toInt_ofNat_of_lt (by omega), Int32.toInt_ofNat_of_lt (by omega)]
  omega
theorem own_nn {n : Nat} (hn : n < 2147483648) : ¬ Int32.ofNat n < 0 := by
  rw [Int32.lt_iff_toInt_lt, Int32.toInt_ofNat_of_lt (by omega), show (0 : Int32).toInt = 0 from rfl]
  omega
theorem own_n32 {n : Nat} (hn : n < 2147483648) : (Int32.ofNat n).toNatClampNeg = n := by
  rw [Int32.toNatClampNeg, Int32.toInt_ofNat_of_lt (by omega)]; rfl
theorem own_one (i : Nat) : Int32.ofNat i + (1 : Int32) = Int32.ofNat (i + 1) := (Int32.ofNat_add i 1).symm
theorem own_hd {xs ys : List Int32} {y : Int32} {i : Nat} (h : xs.drop i = y :: ys) : xs.getD i 0 = y := by
  have q : xs[i]? = some y := by have := congrArg (fun l => l[0]?) h; simpa [List.getElem?_drop] using this
  rw [List.getD_eq_getElem?_getD, q]; rfl
theorem own_tl {xs ys : List Int32} {y : Int32} {i : Nat} (h : xs.drop i = y :: ys) : xs.drop (i + 1) = ys := by
  have := congrArg (List.drop 1) h; simpa [List.drop_drop] using this
def own_hs (M : Int32) (xs : List Int32) : Nat → Nat → Int32 → Int32
  | _, 0, h => h
  | i, k + 1, h => own_hs M xs (i + 1) k ((h ^^^ (xs.getD i 0 &&& (255 : Int32))) * M)
def own_hf (h : Int32) : Int32 := (h ^^^ ((h.toUInt32 >>> ((16 : Int32) &&& 31).toUInt32).toInt32))
theorem own_s0 (M : Int32) (xs : List Int32) (i : Nat) (v : Int32) : own_hs M xs i 0 v = v := by rw [own_hs]
theorem own_s1 (M : Int32) (xs : List Int32) (i k : Nat) (v : Int32) : own_hs M xs i (k + 1) v = own_hs M xs (i + 1) k ((v ^^^ (xs.getD i 0 &&& (255 : Int32))) * M) := by rw [own_hs]
theorem ef_2 (m : MethodId) (y0 : Int64) (y1 : Int32) : entryFrame m #[(.long y0), (.int y1)] 3 = mkF m 0 #[.val (.long y0), .second, .val (.int y1)] [] := by first | (simp [entryFrame, mkF, argsToLocals, Value.category]; done) | rfl
def fn2 (q0 : Int64) (i1 : Int32) : Int64 := (((q0 ^^^ ((i1.toInt64) &&& (255 : Int64))) * (16777619 : Int64)) &&& (4294967295 : Int64))
set_option maxRecDepth 65536 in
set_option maxHeartbeats 40000000 in
theorem rm2 (l : Launch) (Z : State) (a0 : Array Value) (hw : ∀ d ∈ tables_1, d.before a0 Z = true) (q0 : Int64) (i1 : Int32) (h0 : Heap) : MetP l (⟨"com/example/headword/headword/stardict/ListedHeadwordsHashPinLaw", "step", "(JB)J"⟩ : MethodName) method_3_code 3 (some .long) [] ({ frames := 0, cells := 0, slots := 0, locals := 0 } : Room) Z #[(.long q0), (.int i1)] h0 (Pure (.long (fn2 q0 i1)) h0) := by
  refine met_go pn_2 ?_
  intro p e s m below meth c s₁ hx hby hml hown hnm hret hlk hZ e0 X0
  rw [ef_2 m q0 i1]
  refine o_lloadN 1 X0 hx rfl (hb hby d2_0) rfl ?_
  refine o_iloadN 2 X0 hx rfl (hb hby d2_1) rfl ?_
  refine o_i2l 3 X0 hx rfl (hb hby d2_2) ?_
  refine o_ldc2Long 6 X0 hx rfl hZ hown (wd_12 hw) (hb hby d2_3) ?_
  refine o_land 7 X0 hx rfl (hb hby d2_6) ?_
  refine o_lxor 8 X0 hx rfl (hb hby d2_7) ?_
  refine o_ldc2Long 11 X0 hx rfl hZ hown (wd_13 hw) (hb hby d2_8) ?_
  refine o_lmul 12 X0 hx rfl (hb hby d2_11) ?_
  refine o_ldc2Long 15 X0 hx rfl hZ hown (wd_14 hw) (hb hby d2_12) ?_
  refine o_land 16 X0 hx rfl (hb hby d2_15) ?_
  refine o_retJ X0 hx hret hlk (hb hby d2_16) (by decide) (by decide) ?_
  exact ⟨show some (Value.long (((q0 ^^^ ((i1.toInt64) &&& (255 : Int64))) * (16777619 : Int64)) &&& (4294967295 : Int64))) = some (Value.long (fn2 q0 i1)) from by rw [show (fn2 q0 i1) = (((q0 ^^^ ((i1.toInt64) &&& (255 : Int64))) * (16777619 : Int64)) &&& (4294967295 : Int64)) from by rfl], rfl, e0⟩
theorem ef_1 (m : MethodId) (y0 : Addr) (y1 : Int32) (y2 : Int32) : entryFrame m #[(.ref y0), (.int y1), (.int y2)] 5 = mkF m 0 #[.val (.ref y0), .val (.int y1), .val (.int y2), .unset, .unset] [] := by first | (simp [entryFrame, mkF, argsToLocals, Value.category]; done) | rfl
set_option maxRecDepth 65536 in
set_option maxHeartbeats 40000000 in
theorem rm1 (l : Launch) (Z : State) (a0 : Array Value) (hw : ∀ d ∈ tables_1, d.before a0 Z = true) (r0 : Addr) (ka : ClassId) (A C N : Nat) (xs : List Int32) (h0 : Heap) (hN : N < 2147483648) (hAC : A + C ≤ N) (A0 : Arv Z h0 r0 ka .byte (Int32.ofNat N) (xs.map Value.int) (.int 0)) : MetP l (⟨"com/example/headword/headword/stardict/ListedHeadwords", "hash", "([BII)I"⟩ : MethodName) prog_58_method_18_code 5 (some .int) [] ({ frames := 0, cells := 0, slots := 0, locals := 0 } : Room) Z #[(.ref r0), (.int (Int32.ofNat A)), (.int (Int32.ofNat C))] h0 (Pure (.int (own_hf (own_hs (16777619 : Int32) xs A C (-2128831035 : Int32)))) h0) := by
  refine met_go pn_1 ?_
  intro p e s m below meth c s₁ hx hby hml hown hnm hret hlk hZ e0 X0
  rw [ef_1 m r0 (Int32.ofNat A) (Int32.ofNat C)]
  refine o_ldcInt 2 X0 hx rfl hZ hown (wd_5 hw) (hb hby d1_0) ?_
  refine o_istoreN 3 X0 hx rfl (hb hby d1_2) #[.val (.ref r0), .val (.int (Int32.ofNat A)), .val (.int (Int32.ofNat C)), .val (.int (-2128831035 : Int32)), .unset] rfl ?_
  refine o_iloadN 4 X0 hx rfl (hb hby d1_3) rfl ?_
  refine o_istore 6 X0 hx rfl (hb hby d1_4) #[.val (.ref r0), .val (.int (Int32.ofNat A)), .val (.int (Int32.ofNat C)), .val (.int (-2128831035 : Int32)), .val (.int (Int32.ofNat A))] rfl ?_
  suffices loop : ∀ (k i : Nat) (v : Int32), i + k = A + C → own_hs (16777619 : Int32) xs i k v = own_hs (16777619 : Int32) xs A C (-2128831035 : Int32) → Go p.tables e below (EndE s ({ frames := 0, cells := 0, slots := 0, locals := 0 } : Room) (Pure (.int (own_hf (own_hs (16777619 : Int32) xs A C (-2128831035 : Int32)))) h0)) (s₁.setTop (mkF m 6 #[.val (.ref r0), .val (.int (Int32.ofNat A)), .val (.int (Int32.ofNat C)), .val (.int v), .val (.int (Int32.ofNat i))] [])) by
    exact loop C A _ rfl rfl
  intro k
  induction k with
  | zero =>
    intro i v hi hval
    have hi' : i = A + C := by omega
    subst hi'
    refine o_iload 8 X0 hx rfl (hb hby d1_6) rfl ?_
    refine o_iloadN 9 X0 hx rfl (hb hby d1_8) rfl ?_
    refine o_iloadN 10 X0 hx rfl (hb hby d1_9) rfl ?_
    refine o_iadd 11 X0 hx rfl (hb hby d1_10) ?_
    refine o_icmpYes 34 X0 hx (hb hby d1_11) (flt (by rw [← Int32.ofNat_add]; exact Int32.lt_irrefl)).2.1 (by decide) (by decide) ?_
    refine o_iloadN 35 X0 hx rfl (hb hby d1_34) rfl ?_
    refine o_iloadN 36 X0 hx rfl (hb hby d1_35) rfl ?_
    refine o_bipush 38 X0 hx rfl (hb hby d1_36) (16 : Int32) rfl ?_
    refine o_iushr 39 X0 hx rfl (hb hby d1_38) ?_
    refine o_ixor 40 X0 hx rfl (hb hby d1_39) ?_
    refine o_retI X0 hx hret hlk (hb hby d1_40) (by decide) (by decide) ?_
    exact ⟨show some (Value.int (v ^^^ ((v.toUInt32 >>> ((16 : Int32) &&& 31).toUInt32).toInt32))) = some (Value.int (own_hf (own_hs (16777619 : Int32) xs A C (-2128831035 : Int32)))) from by rw [← hval, own_s0, own_hf], rfl, e0⟩
  | succ k ih =>
    intro i v hi hval
    have hiN : i < N := by omega
    have hi2 : i < 2147483648 := by omega
    refine o_iload 8 X0 hx rfl (hb hby d1_6) rfl ?_
    refine o_iloadN 9 X0 hx rfl (hb hby d1_8) rfl ?_
    refine o_iloadN 10 X0 hx rfl (hb hby d1_9) rfl ?_
    refine o_iadd 11 X0 hx rfl (hb hby d1_10) ?_
    refine o_icmpNo 14 X0 hx rfl (hb hby d1_11) (tlt (by rw [← Int32.ofNat_add]; exact own_lt (by omega) (by omega))).2.1 ?_
    refine o_iloadN 15 X0 hx rfl (hb hby d1_14) rfl ?_
    refine o_aloadN 16 X0 hx rfl (hb hby d1_15) rfl rfl ?_
    refine o_iload 18 X0 hx rfl (hb hby d1_16) rfl ?_
    refine o_baloadBX 19 X0 hx rfl hZ e0 A0 ⟨own_nn hi2, own_lt hiN hN⟩ (hb hby d1_18) (xs.getD i 0) (by rw [own_n32 hi2]) ?_
    refine o_sipush 22 X0 hx rfl (hb hby d1_19) (255 : Int32) rfl ?_
    refine o_iand 23 X0 hx rfl (hb hby d1_22) ?_
    refine o_ixor 24 X0 hx rfl (hb hby d1_23) ?_
    refine o_ldcInt 26 X0 hx rfl hZ hown (wd_7 hw) (hb hby d1_24) ?_
    refine o_imul 27 X0 hx rfl (hb hby d1_26) ?_
    refine o_istoreN 28 X0 hx rfl (hb hby d1_27) #[.val (.ref r0), .val (.int (Int32.ofNat A)), .val (.int (Int32.ofNat C)), .val (.int ((v ^^^ ((xs.getD i 0) &&& (255 : Int32))) * (16777619 : Int32))), .val (.int (Int32.ofNat i))] rfl ?_
    refine o_iinc 31 X0 hx rfl (hb hby d1_28) (1 : Int32) rfl rfl #[.val (.ref r0), .val (.int (Int32.ofNat A)), .val (.int (Int32.ofNat C)), .val (.int ((v ^^^ ((xs.getD i 0) &&& (255 : Int32))) * (16777619 : Int32))), .val (.int ((Int32.ofNat i) + (1 : Int32)))] rfl ?_
    refine o_goto 6 X0 hx (hb hby d1_31) (by decide) (by decide) ?_
    rw [own_one]
    exact ih (i + 1) _ (by omega) (by rw [← hval, own_s1])
theorem ef_0 (m : MethodId) (y0 : Int32) (y1 : Int32) (y2 : Int32) : entryFrame m #[(.int y0), (.int y1), (.int y2)] maxLocals = mkF m 0 #[.val (.int y0), .val (.int y1), .val (.int y2), .unset, .unset, .unset, .unset, .unset, .unset, .unset, .unset, .unset, .unset, .unset, .unset] [] := by first | (simp [entryFrame, mkF, argsToLocals, Value.category, maxLocals]; done) | rfl
def f0_9 (i2 : Int32) : Int32 := (((i2.toUInt32 >>> ((2 : Int32) &&& 31).toUInt32).toInt32) % (5 : Int32))
def f0_94 (i0 : Int32) : Int32 := (((i0.toUInt32 >>> ((8 : Int32) &&& 31).toUInt32).toInt32).toInt8.toInt32)
def f0_101 (i0 : Int32) : Int32 := (((i0.toUInt32 >>> ((16 : Int32) &&& 31).toUInt32).toInt32).toInt8.toInt32)
def f0_108 (i0 : Int32) : Int32 := (((i0.toUInt32 >>> ((24 : Int32) &&& 31).toUInt32).toInt32).toInt8.toInt32)
theorem own_at (i2 : Int32) : ∃ A : Nat, A ≤ 3 ∧ (i2 &&& (3 : Int32)) = Int32.ofNat A := by
  have e1 : (i2 &&& (3 : Int32)).toInt = i2.toInt % (2 ^ 2 : Nat) := c_mask i2 3 2 (by decide) (by decide)
  refine ⟨(i2 &&& (3 : Int32)).toInt.toNat, by omega, ?_⟩
  apply Int32.toInt_inj.mp; rw [Int32.toInt_ofNat_of_lt (by omega)]; omega
theorem own_len (i2 : Int32) : f0_9 i2 = 0 ∨ f0_9 i2 = 1 ∨ f0_9 i2 = 2 ∨ f0_9 i2 = 3 ∨ f0_9 i2 = 4 := by
  have e1 := c_iushr i2 2 2 (by decide) (by decide)
  have e2 := (c_irem ((i2.toUInt32 >>> ((2 : Int32) &&& 31).toUInt32).toInt32) 5 5 rfl).1 (by rw [e1]; omega)
  have h : (f0_9 i2).toInt = 0 ∨ (f0_9 i2).toInt = 1 ∨ (f0_9 i2).toInt = 2 ∨ (f0_9 i2).toInt = 3 ∨ (f0_9 i2).toInt = 4 := by unfold f0_9; rw [e2]; omega
  rcases h with h | h | h | h | h
  · exact Or.inl (Int32.toInt_inj.mp h)
  · exact Or.inr (Or.inl (Int32.toInt_inj.mp h))
  · exact Or.inr (Or.inr (Or.inl (Int32.toInt_inj.mp h)))
  · exact Or.inr (Or.inr (Or.inr (Or.inl (Int32.toInt_inj.mp h))))
  · exact Or.inr (Or.inr (Or.inr (Or.inr (Int32.toInt_inj.mp h))))
theorem own_c1 : (255 : Int64).toInt32 = (255 : Int32) := Int64.toInt32_ofNat
theorem own_c2 : (16777619 : Int64).toInt32 = (16777619 : Int32) := Int64.toInt32_ofNat
theorem own_c3 : (4294967295 : Int64).toInt32 = (-1 : Int32) := by decide +kernel
theorem own_c4 : (2166136261 : Int64).toInt32 = (-2128831035 : Int32) := by decide +kernel
theorem own_c5 : 0 ≤ (2166136261 : Int64).toInt ∧ (2166136261 : Int64).toInt < 4294967296 := by decide +kernel
theorem own_nb (b : Int32) : (nar .byte b &&& (255 : Int32)) = b &&& (255 : Int32) := by
  have e1 : (nar .byte b &&& (255 : Int32)).toInt = (nar .byte b).toInt % (2 ^ 8 : Nat) := c_mask (nar .byte b) 255 8 (by decide) (by decide)
  have e2 : (b &&& (255 : Int32)).toInt = b.toInt % (2 ^ 8 : Nat) := c_mask b 255 8 (by decide) (by decide)
  have e3 := c_i2b b
  have e4 : (nar .byte b).toInt = b.toInt8.toInt32.toInt := rfl
  apply Int32.toInt_inj.mp
  omega
theorem own_hstep {H : Int64} {h : Int32} (b : Int32) (e : H.toInt32 = h) : (fn2 H b).toInt32 = ((h ^^^ (nar .byte b &&& (255 : Int32))) * (16777619 : Int32)) := by
  unfold fn2
  rw [Int64.toInt32_and, Int64.toInt32_mul, Int64.toInt32_xor, Int64.toInt32_and, Int32.toInt32_toInt64, e, own_nb, own_c1, own_c2, own_c3]
  exact Int32.and_neg_one
theorem own_hr (H : Int64) (b : Int32) : 0 ≤ (fn2 H b).toInt ∧ (fn2 H b).toInt < 4294967296 := by
  have e : (fn2 H b).toInt = ((H ^^^ ((b.toInt64) &&& (255 : Int64))) * (16777619 : Int64)).toInt % (2 ^ 32 : Nat) := c_maskL _ 4294967295 32 (by decide) (by decide)
  omega
theorem own_hfin (H : Int64) (h : Int32) (hr : 0 ≤ H.toInt ∧ H.toInt < 4294967296) (e : H.toInt32 = h) : own_hf h = ((H ^^^ ((H.toUInt64 >>> ((16 : Int32) &&& 0x3f).toInt64.toUInt64).toInt64)).toInt32) := by
  have e1 := c_lushr H 16 16 (by decide) (by decide)
  have e3 := c_iushr h 16 16 (by decide) (by decide)
  have e4 := c_l2i H
  rw [e] at e4
  unfold own_hf
  rw [Int64.toInt32_xor, e]
  congr 1
  generalize ((H.toUInt64 >>> ((16 : Int32) &&& 0x3f).toInt64.toUInt64).toInt64) = X at e1 ⊢
  generalize ((h.toUInt32 >>> ((16 : Int32) &&& 31).toUInt32).toInt32) = Y at e3 ⊢
  have e2 := c_l2i X
  have r := rng32 X.toInt32
  have a1 : X.toInt = H.toInt / 65536 := by rw [e1, Int.emod_eq_of_lt hr.1 (by omega)] <;> rfl
  have a2 : h.toInt % 4294967296 = H.toInt := by clear e1 e2 e3 r a1; omega
  have a3 : Y.toInt = H.toInt / 65536 := by rw [e3, a2] <;> rfl
  apply Int32.toInt_inj.mp
  rw [a3, ← a1]
  clear e1 e3 e4 a2 a3
  omega
theorem own_gs (xs : List Int32) (i j : Nat) (v : Int32) (h : i < xs.length) : (xs.set i v).getD j 0 = if i = j then v else xs.getD j 0 := by
  rw [List.getD_eq_getElem?_getD, List.getD_eq_getElem?_getD, List.getElem?_set]
  by_cases e : i = j
  · rw [if_pos e, if_pos e, if_pos h]; rfl
  · rw [if_neg e, if_neg e]
theorem own_fin0 (gs : List Int32) (A : Nat) (hgs : gs.length = 8) (hA : A ≤ 3) (b0 b1 b2 b3 : Int32) : (own_hf (own_hs (16777619 : Int32) gs A 0 (-2128831035 : Int32))) = (((2166136261 : Int64) ^^^ (((2166136261 : Int64).toUInt64 >>> ((16 : Int32) &&& 0x3f).toInt64.toUInt64).toInt64)).toInt32) := by
  rw [own_s0]
  exact own_hfin (2166136261 : Int64) _ own_c5 own_c4
theorem own_fin1 (gs : List Int32) (A : Nat) (hgs : gs.length = 8) (hA : A ≤ 3) (b0 b1 b2 b3 : Int32) : (own_hf (own_hs (16777619 : Int32) (gs.set A (nar .byte b0)) A 1 (-2128831035 : Int32))) = (((fn2 (2166136261 : Int64) b0) ^^^ (((fn2 (2166136261 : Int64) b0).toUInt64 >>> ((16 : Int32) &&& 0x3f).toInt64.toUInt64).toInt64)).toInt32) := by
  have g0 : (gs.set A (nar .byte b0)).getD A 0 = nar .byte b0 := by rw [own_gs _ _ _ _ (by omega), if_pos (by omega)]
  rw [own_s1, own_s0, g0]
  exact own_hfin (fn2 (2166136261 : Int64) b0) _ (own_hr (2166136261 : Int64) b0) (own_hstep b0 own_c4)
theorem own_fin2 (gs : List Int32) (A : Nat) (hgs : gs.length = 8) (hA : A ≤ 3) (b0 b1 b2 b3 : Int32) : (own_hf (own_hs (16777619 : Int32) ((gs.set A (nar .byte b0)).set (A + 1) (nar .byte b1)) A 2 (-2128831035 : Int32))) = (((fn2 (fn2 (2166136261 : Int64) b0) b1) ^^^ (((fn2 (fn2 (2166136261 : Int64) b0) b1).toUInt64 >>> ((16 : Int32) &&& 0x3f).toInt64.toUInt64).toInt64)).toInt32) := by
  have g0 : ((gs.set A (nar .byte b0)).set (A + 1) (nar .byte b1)).getD A 0 = nar .byte b0 := by rw [own_gs _ _ _ _ (by simp only [List.length_set]; omega), if_neg (by omega), own_gs _ _ _ _ (by omega), if_pos (by omega)]
  have g1 : ((gs.set A (nar .byte b0)).set (A + 1) (nar .byte b1)).getD (A + 1) 0 = nar .byte b1 := by rw [own_gs _ _ _ _ (by simp only [List.length_set]; omega), if_pos (by omega)]
  rw [own_s1, own_s1, own_s0, g0, g1]
  exact own_hfin (fn2 (fn2 (2166136261 : Int64) b0) b1) _ (own_hr (fn2 (2166136261 : Int64) b0) b1) (own_hstep b1 (own_hstep b0 own_c4))
theorem own_fin3 (gs : List Int32) (A : Nat) (hgs : gs.length = 8) (hA : A ≤ 3) (b0 b1 b2 b3 : Int32) : (own_hf (own_hs (16777619 : Int32) (((gs.set A (nar .byte b0)).set (A + 1) (nar .byte b1)).set (A + 2) (nar .byte b2)) A 3 (-2128831035 : Int32))) = (((fn2 (fn2 (fn2 (2166136261 : Int64) b0) b1) b2) ^^^ (((fn2 (fn2 (fn2 (2166136261 : Int64) b0) b1) b2).toUInt64 >>> ((16 : Int32) &&& 0x3f).toInt64.toUInt64).toInt64)).toInt32) := by
  have g0 : (((gs.set A (nar .byte b0)).set (A + 1) (nar .byte b1)).set (A + 2) (nar .byte b2)).getD A 0 = nar .byte b0 := by rw [own_gs _ _ _ _ (by simp only [List.length_set]; omega), if_neg (by omega), own_gs _ _ _ _ (by simp only [List.length_set]; omega), if_neg (by omega), own_gs _ _ _ _ (by omega), if_pos (by omega)]
  have g1 : (((gs.set A (nar .byte b0)).set (A + 1) (nar .byte b1)).set (A + 2) (nar .byte b2)).getD (A + 1) 0 = nar .byte b1 := by rw [own_gs _ _ _ _ (by simp only [List.length_set]; omega), if_neg (by omega), own_gs _ _ _ _ (by simp only [List.length_set]; omega), if_pos (by omega)]
  have g2 : (((gs.set A (nar .byte b0)).set (A + 1) (nar .byte b1)).set (A + 2) (nar .byte b2)).getD (A + 1 + 1) 0 = nar .byte b2 := by rw [own_gs _ _ _ _ (by simp only [List.length_set]; omega), if_pos (by omega)]
  rw [own_s1, own_s1, own_s1, own_s0, g0, g1, g2]
  exact own_hfin (fn2 (fn2 (fn2 (2166136261 : Int64) b0) b1) b2) _ (own_hr (fn2 (fn2 (2166136261 : Int64) b0) b1) b2) (own_hstep b2 (own_hstep b1 (own_hstep b0 own_c4)))
theorem own_fin4 (gs : List Int32) (A : Nat) (hgs : gs.length = 8) (hA : A ≤ 3) (b0 b1 b2 b3 : Int32) : (own_hf (own_hs (16777619 : Int32) ((((gs.set A (nar .byte b0)).set (A + 1) (nar .byte b1)).set (A + 2) (nar .byte b2)).set (A + 3) (nar .byte b3)) A 4 (-2128831035 : Int32))) = (((fn2 (fn2 (fn2 (fn2 (2166136261 : Int64) b0) b1) b2) b3) ^^^ (((fn2 (fn2 (fn2 (fn2 (2166136261 : Int64) b0) b1) b2) b3).toUInt64 >>> ((16 : Int32) &&& 0x3f).toInt64.toUInt64).toInt64)).toInt32) := by
  have g0 : ((((gs.set A (nar .byte b0)).set (A + 1) (nar .byte b1)).set (A + 2) (nar .byte b2)).set (A + 3) (nar .byte b3)).getD A 0 = nar .byte b0 := by rw [own_gs _ _ _ _ (by simp only [List.length_set]; omega), if_neg (by omega), own_gs _ _ _ _ (by simp only [List.length_set]; omega), if_neg (by omega), own_gs _ _ _ _ (by simp only [List.length_set]; omega), if_neg (by omega), own_gs _ _ _ _ (by omega), if_pos (by omega)]
  have g1 : ((((gs.set A (nar .byte b0)).set (A + 1) (nar .byte b1)).set (A + 2) (nar .byte b2)).set (A + 3) (nar .byte b3)).getD (A + 1) 0 = nar .byte b1 := by rw [own_gs _ _ _ _ (by simp only [List.length_set]; omega), if_neg (by omega), own_gs _ _ _ _ (by simp only [List.length_set]; omega), if_neg (by omega), own_gs _ _ _ _ (by simp only [List.length_set]; omega), if_pos (by omega)]
  have g2 : ((((gs.set A (nar .byte b0)).set (A + 1) (nar .byte b1)).set (A + 2) (nar .byte b2)).set (A + 3) (nar .byte b3)).getD (A + 1 + 1) 0 = nar .byte b2 := by rw [own_gs _ _ _ _ (by simp only [List.length_set]; omega), if_neg (by omega), own_gs _ _ _ _ (by simp only [List.length_set]; omega), if_pos (by omega)]
  have g3 : ((((gs.set A (nar .byte b0)).set (A + 1) (nar .byte b1)).set (A + 2) (nar .byte b2)).set (A + 3) (nar .byte b3)).getD (A + 1 + 1 + 1) 0 = nar .byte b3 := by rw [own_gs _ _ _ _ (by simp only [List.length_set]; omega), if_pos (by omega)]
  rw [own_s1, own_s1, own_s1, own_s1, own_s0, g0, g1, g2, g3]
  exact own_hfin (fn2 (fn2 (fn2 (fn2 (2166136261 : Int64) b0) b1) b2) b3) _ (own_hr (fn2 (fn2 (fn2 (2166136261 : Int64) b0) b1) b2) b3) (own_hstep b3 (own_hstep b2 (own_hstep b1 (own_hstep b0 own_c4))))
set_option maxRecDepth 65536 in
set_option maxHeartbeats 40000000 in
theorem rm0 (l : Launch) (Z : State) (a0 : Array Value) (hw : ∀ d ∈ tables_1, d.before a0 Z = true) (ws : List Jvm.Cond) (i0 : Int32) (i1 : Int32) (i2 : Int32) (h0 : Heap) (n0 : Nat) (Z0 : n0 ≤ h0.size) : MetP l x code maxLocals ret ws room_1 Z #[(.int i0), (.int i1), (.int i2)] h0 (fun v h L => v = some (.int (1 : Int32)) ∧ Fr n0 L) := by
  refine met_go pn_0 ?_
  intro p e s m below meth c s₁ hx hby hml hown hnm hret hlk hZ e0 X0
  have N0 := Fr.nil n0
  rw [ef_0 m i0 i1 i2]
  refine o_iloadN 1 X0 hx rfl (hb hby at_0) rfl ?_
  refine o_iconst 2 X0 hx rfl (hb hby at_1) (3 : Int32) rfl ?_
  refine o_iand 3 X0 hx rfl (hb hby at_2) ?_
  refine o_istoreN 4 X0 hx rfl (hb hby at_3) #[.val (.int i0), .val (.int i1), .val (.int i2), .val (.int (i2 &&& (3 : Int32))), .unset, .unset, .unset, .unset, .unset, .unset, .unset, .unset, .unset, .unset, .unset] rfl ?_
  refine o_iloadN 5 X0 hx rfl (hb hby at_4) rfl ?_
  refine o_iconst 6 X0 hx rfl (hb hby at_5) (2 : Int32) rfl ?_
  refine o_iushr 7 X0 hx rfl (hb hby at_6) ?_
  refine o_iconst 8 X0 hx rfl (hb hby at_7) (5 : Int32) rfl ?_
  refine o_irem 9 X0 hx rfl (hb hby at_8) (by decide) ?_
  refine o_istore 11 X0 hx rfl (hb hby at_9) #[.val (.int i0), .val (.int i1), .val (.int i2), .val (.int (i2 &&& (3 : Int32))), .val (.int (f0_9 i2)), .unset, .unset, .unset, .unset, .unset, .unset, .unset, .unset, .unset, .unset] rfl ?_
  refine o_bipush 13 X0 hx rfl (hb hby at_11) (8 : Int32) rfl ?_
  refine o_newarrI 15 X0 hx rfl hZ .byte .byte rfl rfl (wd_0 hw) e0 (hb hby at_13) (by decide) 8 (by decide) (by decide) (by decide) (by decide) [(0 : Int32), (0 : Int32), (0 : Int32), (0 : Int32), (0 : Int32), (0 : Int32), (0 : Int32), (0 : Int32)] rfl fun T1 h1 a1 k1 g1 X1 e1 E1 A1 => ?_
  have ge2 : n0 ≤ a1 := Nat.le_trans Z0 (Nat.le_of_eq g1.symm)
  have sz3 : n0 ≤ h1.size := Nat.le_trans Z0 E1.1
  refine o_astore 17 X1 hx rfl (hb hby at_15) rfl #[.val (.int i0), .val (.int i1), .val (.int i2), .val (.int (i2 &&& (3 : Int32))), .val (.int (f0_9 i2)), .val (.ref a1), .unset, .unset, .unset, .unset, .unset, .unset, .unset, .unset, .unset] rfl ?_
  refine o_aload 19 X1 hx rfl (hb hby at_17) rfl rfl ?_
  refine o_iconst 20 X1 hx rfl (hb hby at_19) (0 : Int32) rfl ?_
  refine o_iloadN 21 X1 hx rfl (hb hby at_20) rfl ?_
  refine o_i2b 22 X1 hx rfl (hb hby at_21) ?_
  refine o_bastoreBX 23 X1 hx rfl hZ e1 A1 (by decide) (Nat.le_of_ble_eq_true rfl) [(nar .byte (i1.toInt8.toInt32)), (0 : Int32), (0 : Int32), (0 : Int32), (0 : Int32), (0 : Int32), (0 : Int32), (0 : Int32)] rfl N0 ge2 (hb hby at_22) fun T4 h4 L4 X4 N4 e4 W4 A4 => ?_
  have sz5 : n0 ≤ h4.size := Nat.le_trans sz3 (Keep.of_wr W4).1
  refine o_aload 25 X4 hx rfl (hb hby at_23) rfl rfl ?_
  refine o_iconst 26 X4 hx rfl (hb hby at_25) (1 : Int32) rfl ?_
  refine o_iloadN 27 X4 hx rfl (hb hby at_26) rfl ?_
  refine o_bipush 29 X4 hx rfl (hb hby at_27) (8 : Int32) rfl ?_
  refine o_iushr 30 X4 hx rfl (hb hby at_29) ?_
  refine o_i2b 31 X4 hx rfl (hb hby at_30) ?_
  refine o_bastoreBX 32 X4 hx rfl hZ e4 A4 (by decide) (Nat.le_of_ble_eq_true rfl) [(nar .byte (i1.toInt8.toInt32)), (nar .byte (((i1.toUInt32 >>> ((8 : Int32) &&& 31).toUInt32).toInt32).toInt8.toInt32)), (0 : Int32), (0 : Int32), (0 : Int32), (0 : Int32), (0 : Int32), (0 : Int32)] rfl N4 ge2 (hb hby at_31) fun T6 h6 L6 X6 N6 e6 W6 A6 => ?_
  have sz7 : n0 ≤ h6.size := Nat.le_trans sz5 (Keep.of_wr W6).1
  refine o_aload 34 X6 hx rfl (hb hby at_32) rfl rfl ?_
  refine o_iconst 35 X6 hx rfl (hb hby at_34) (2 : Int32) rfl ?_
  refine o_iloadN 36 X6 hx rfl (hb hby at_35) rfl ?_
  refine o_bipush 38 X6 hx rfl (hb hby at_36) (16 : Int32) rfl ?_
  refine o_iushr 39 X6 hx rfl (hb hby at_38) ?_
  refine o_i2b 40 X6 hx rfl (hb hby at_39) ?_
  refine o_bastoreBX 41 X6 hx rfl hZ e6 A6 (by decide) (Nat.le_of_ble_eq_true rfl) [(nar .byte (i1.toInt8.toInt32)), (nar .byte (((i1.toUInt32 >>> ((8 : Int32) &&& 31).toUInt32).toInt32).toInt8.toInt32)), (nar .byte (((i1.toUInt32 >>> ((16 : Int32) &&& 31).toUInt32).toInt32).toInt8.toInt32)), (0 : Int32), (0 : Int32), (0 : Int32), (0 : Int32), (0 : Int32)] rfl N6 ge2 (hb hby at_40) fun T8 h8 L8 X8 N8 e8 W8 A8 => ?_
  have sz9 : n0 ≤ h8.size := Nat.le_trans sz7 (Keep.of_wr W8).1
  refine o_aload 43 X8 hx rfl (hb hby at_41) rfl rfl ?_
  refine o_iconst 44 X8 hx rfl (hb hby at_43) (3 : Int32) rfl ?_
  refine o_iloadN 45 X8 hx rfl (hb hby at_44) rfl ?_
  refine o_bipush 47 X8 hx rfl (hb hby at_45) (24 : Int32) rfl ?_
  refine o_iushr 48 X8 hx rfl (hb hby at_47) ?_
  refine o_i2b 49 X8 hx rfl (hb hby at_48) ?_
  refine o_bastoreBX 50 X8 hx rfl hZ e8 A8 (by decide) (Nat.le_of_ble_eq_true rfl) [(nar .byte (i1.toInt8.toInt32)), (nar .byte (((i1.toUInt32 >>> ((8 : Int32) &&& 31).toUInt32).toInt32).toInt8.toInt32)), (nar .byte (((i1.toUInt32 >>> ((16 : Int32) &&& 31).toUInt32).toInt32).toInt8.toInt32)), (nar .byte (((i1.toUInt32 >>> ((24 : Int32) &&& 31).toUInt32).toInt32).toInt8.toInt32)), (0 : Int32), (0 : Int32), (0 : Int32), (0 : Int32)] rfl N8 ge2 (hb hby at_49) fun T10 h10 L10 X10 N10 e10 W10 A10 => ?_
  have sz11 : n0 ≤ h10.size := Nat.le_trans sz9 (Keep.of_wr W10).1
  refine o_aload 52 X10 hx rfl (hb hby at_50) rfl rfl ?_
  refine o_iconst 53 X10 hx rfl (hb hby at_52) (4 : Int32) rfl ?_
  refine o_iloadN 54 X10 hx rfl (hb hby at_53) rfl ?_
  refine o_bipush 56 X10 hx rfl (hb hby at_54) (24 : Int32) rfl ?_
  refine o_iushr 57 X10 hx rfl (hb hby at_56) ?_
  refine o_i2b 58 X10 hx rfl (hb hby at_57) ?_
  refine o_bastoreBX 59 X10 hx rfl hZ e10 A10 (by decide) (Nat.le_of_ble_eq_true rfl) [(nar .byte (i1.toInt8.toInt32)), (nar .byte (((i1.toUInt32 >>> ((8 : Int32) &&& 31).toUInt32).toInt32).toInt8.toInt32)), (nar .byte (((i1.toUInt32 >>> ((16 : Int32) &&& 31).toUInt32).toInt32).toInt8.toInt32)), (nar .byte (((i1.toUInt32 >>> ((24 : Int32) &&& 31).toUInt32).toInt32).toInt8.toInt32)), (nar .byte (((i1.toUInt32 >>> ((24 : Int32) &&& 31).toUInt32).toInt32).toInt8.toInt32)), (0 : Int32), (0 : Int32), (0 : Int32)] rfl N10 ge2 (hb hby at_58) fun T12 h12 L12 X12 N12 e12 W12 A12 => ?_
  have sz13 : n0 ≤ h12.size := Nat.le_trans sz11 (Keep.of_wr W12).1
  refine o_aload 61 X12 hx rfl (hb hby at_59) rfl rfl ?_
  refine o_iconst 62 X12 hx rfl (hb hby at_61) (5 : Int32) rfl ?_
  refine o_iloadN 63 X12 hx rfl (hb hby at_62) rfl ?_
  refine o_bipush 65 X12 hx rfl (hb hby at_63) (16 : Int32) rfl ?_
  refine o_iushr 66 X12 hx rfl (hb hby at_65) ?_
  refine o_i2b 67 X12 hx rfl (hb hby at_66) ?_
  refine o_bastoreBX 68 X12 hx rfl hZ e12 A12 (by decide) (Nat.le_of_ble_eq_true rfl) [(nar .byte (i1.toInt8.toInt32)), (nar .byte (((i1.toUInt32 >>> ((8 : Int32) &&& 31).toUInt32).toInt32).toInt8.toInt32)), (nar .byte (((i1.toUInt32 >>> ((16 : Int32) &&& 31).toUInt32).toInt32).toInt8.toInt32)), (nar .byte (((i1.toUInt32 >>> ((24 : Int32) &&& 31).toUInt32).toInt32).toInt8.toInt32)), (nar .byte (((i1.toUInt32 >>> ((24 : Int32) &&& 31).toUInt32).toInt32).toInt8.toInt32)), (nar .byte (((i1.toUInt32 >>> ((16 : Int32) &&& 31).toUInt32).toInt32).toInt8.toInt32)), (0 : Int32), (0 : Int32)] rfl N12 ge2 (hb hby at_67) fun T14 h14 L14 X14 N14 e14 W14 A14 => ?_
  have sz15 : n0 ≤ h14.size := Nat.le_trans sz13 (Keep.of_wr W14).1
  refine o_aload 70 X14 hx rfl (hb hby at_68) rfl rfl ?_
  refine o_bipush 72 X14 hx rfl (hb hby at_70) (6 : Int32) rfl ?_
  refine o_iloadN 73 X14 hx rfl (hb hby at_72) rfl ?_
  refine o_bipush 75 X14 hx rfl (hb hby at_73) (8 : Int32) rfl ?_
  refine o_iushr 76 X14 hx rfl (hb hby at_75) ?_
  refine o_i2b 77 X14 hx rfl (hb hby at_76) ?_
  refine o_bastoreBX 78 X14 hx rfl hZ e14 A14 (by decide) (Nat.le_of_ble_eq_true rfl) [(nar .byte (i1.toInt8.toInt32)), (nar .byte (((i1.toUInt32 >>> ((8 : Int32) &&& 31).toUInt32).toInt32).toInt8.toInt32)), (nar .byte (((i1.toUInt32 >>> ((16 : Int32) &&& 31).toUInt32).toInt32).toInt8.toInt32)), (nar .byte (((i1.toUInt32 >>> ((24 : Int32) &&& 31).toUInt32).toInt32).toInt8.toInt32)), (nar .byte (((i1.toUInt32 >>> ((24 : Int32) &&& 31).toUInt32).toInt32).toInt8.toInt32)), (nar .byte (((i1.toUInt32 >>> ((16 : Int32) &&& 31).toUInt32).toInt32).toInt8.toInt32)), (nar .byte (((i1.toUInt32 >>> ((8 : Int32) &&& 31).toUInt32).toInt32).toInt8.toInt32)), (0 : Int32)] rfl N14 ge2 (hb hby at_77) fun T16 h16 L16 X16 N16 e16 W16 A16 => ?_
  have sz17 : n0 ≤ h16.size := Nat.le_trans sz15 (Keep.of_wr W16).1
  refine o_aload 80 X16 hx rfl (hb hby at_78) rfl rfl ?_
  refine o_bipush 82 X16 hx rfl (hb hby at_80) (7 : Int32) rfl ?_
  refine o_iloadN 83 X16 hx rfl (hb hby at_82) rfl ?_
  refine o_i2b 84 X16 hx rfl (hb hby at_83) ?_
  refine o_bastoreBX 85 X16 hx rfl hZ e16 A16 (by decide) (Nat.le_of_ble_eq_true rfl) [(nar .byte (i1.toInt8.toInt32)), (nar .byte (((i1.toUInt32 >>> ((8 : Int32) &&& 31).toUInt32).toInt32).toInt8.toInt32)), (nar .byte (((i1.toUInt32 >>> ((16 : Int32) &&& 31).toUInt32).toInt32).toInt8.toInt32)), (nar .byte (((i1.toUInt32 >>> ((24 : Int32) &&& 31).toUInt32).toInt32).toInt8.toInt32)), (nar .byte (((i1.toUInt32 >>> ((24 : Int32) &&& 31).toUInt32).toInt32).toInt8.toInt32)), (nar .byte (((i1.toUInt32 >>> ((16 : Int32) &&& 31).toUInt32).toInt32).toInt8.toInt32)), (nar .byte (((i1.toUInt32 >>> ((8 : Int32) &&& 31).toUInt32).toInt32).toInt8.toInt32)), (nar .byte (i1.toInt8.toInt32))] rfl N16 ge2 (hb hby at_84) fun T18 h18 L18 X18 N18 e18 W18 A18 => ?_
  have sz19 : n0 ≤ h18.size := Nat.le_trans sz17 (Keep.of_wr W18).1
  refine o_iloadN 86 X18 hx rfl (hb hby at_85) rfl ?_
  refine o_i2b 87 X18 hx rfl (hb hby at_86) ?_
  refine o_istore 89 X18 hx rfl (hb hby at_87) #[.val (.int i0), .val (.int i1), .val (.int i2), .val (.int (i2 &&& (3 : Int32))), .val (.int (f0_9 i2)), .val (.ref a1), .val (.int (i0.toInt8.toInt32)), .unset, .unset, .unset, .unset, .unset, .unset, .unset, .unset] rfl ?_
  refine o_iloadN 90 X18 hx rfl (hb hby at_89) rfl ?_
  refine o_bipush 92 X18 hx rfl (hb hby at_90) (8 : Int32) rfl ?_
  refine o_iushr 93 X18 hx rfl (hb hby at_92) ?_
  refine o_i2b 94 X18 hx rfl (hb hby at_93) ?_
  refine o_istore 96 X18 hx rfl (hb hby at_94) #[.val (.int i0), .val (.int i1), .val (.int i2), .val (.int (i2 &&& (3 : Int32))), .val (.int (f0_9 i2)), .val (.ref a1), .val (.int (i0.toInt8.toInt32)), .val (.int (f0_94 i0)), .unset, .unset, .unset, .unset, .unset, .unset, .unset] rfl ?_
  refine o_iloadN 97 X18 hx rfl (hb hby at_96) rfl ?_
  refine o_bipush 99 X18 hx rfl (hb hby at_97) (16 : Int32) rfl ?_
  refine o_iushr 100 X18 hx rfl (hb hby at_99) ?_
  refine o_i2b 101 X18 hx rfl (hb hby at_100) ?_
  refine o_istore 103 X18 hx rfl (hb hby at_101) #[.val (.int i0), .val (.int i1), .val (.int i2), .val (.int (i2 &&& (3 : Int32))), .val (.int (f0_9 i2)), .val (.ref a1), .val (.int (i0.toInt8.toInt32)), .val (.int (f0_94 i0)), .val (.int (f0_101 i0)), .unset, .unset, .unset, .unset, .unset, .unset] rfl ?_
  refine o_iloadN 104 X18 hx rfl (hb hby at_103) rfl ?_
  refine o_bipush 106 X18 hx rfl (hb hby at_104) (24 : Int32) rfl ?_
  refine o_iushr 107 X18 hx rfl (hb hby at_106) ?_
  refine o_i2b 108 X18 hx rfl (hb hby at_107) ?_
  refine o_istore 110 X18 hx rfl (hb hby at_108) #[.val (.int i0), .val (.int i1), .val (.int i2), .val (.int (i2 &&& (3 : Int32))), .val (.int (f0_9 i2)), .val (.ref a1), .val (.int (i0.toInt8.toInt32)), .val (.int (f0_94 i0)), .val (.int (f0_101 i0)), .val (.int (f0_108 i0)), .unset, .unset, .unset, .unset, .unset] rfl ?_
  obtain ⟨gs, hgs, Ag⟩ : ∃ gs : List Int32, gs.length = 8 ∧ Arv Z h18 a1 k1 .byte (8 : Int32) (gs.map Value.int) (.int 0) := ⟨_, rfl, A18⟩
  obtain ⟨A, hA, ha⟩ := own_at i2
  rw [ha]
  generalize (i0.toInt8.toInt32) = b0
  generalize (f0_94 i0) = b1
  generalize (f0_101 i0) = b2
  generalize (f0_108 i0) = b3
  have hcase := own_len i2
  generalize (f0_9 i2) = n at hcase ⊢
  rcases hcase with rfl | rfl | rfl | rfl | rfl
  · refine o_iload 112 X18 hx rfl (hb hby at_110) rfl ?_
    refine o_ifYes 121 X18 hx (hb hby at_112) (flt (show ¬ ((0 : Int32) < (0 : Int32)) by decide)).2.2.2 (by decide) (by decide) ?_
    refine o_iload 123 X18 hx rfl (hb hby at_121) rfl ?_
    refine o_iconst 124 X18 hx rfl (hb hby at_123) (1 : Int32) rfl ?_
    refine o_icmpYes 135 X18 hx (hb hby at_124) (flt (show ¬ ((1 : Int32) < (0 : Int32)) by decide)).2.2.2 (by decide) (by decide) ?_
    refine o_iload 137 X18 hx rfl (hb hby at_135) rfl ?_
    refine o_iconst 138 X18 hx rfl (hb hby at_137) (2 : Int32) rfl ?_
    refine o_icmpYes 149 X18 hx (hb hby at_138) (flt (show ¬ ((2 : Int32) < (0 : Int32)) by decide)).2.2.2 (by decide) (by decide) ?_
    refine o_iload 151 X18 hx rfl (hb hby at_149) rfl ?_
    refine o_iconst 152 X18 hx rfl (hb hby at_151) (3 : Int32) rfl ?_
    refine o_icmpYes 163 X18 hx (hb hby at_152) (flt (show ¬ ((3 : Int32) < (0 : Int32)) by decide)).2.2.2 (by decide) (by decide) ?_
    refine o_aload 165 X18 hx rfl (hb hby at_163) rfl rfl ?_
    refine o_iloadN 166 X18 hx rfl (hb hby at_165) rfl ?_
    refine o_iload 168 X18 hx rfl (hb hby at_166) rfl ?_
    refine o_callP (rv := (.int (own_hf (own_hs (16777619 : Int32) gs A 0 (-2128831035 : Int32))))) 171 X18 hx rfl hZ hown (wd_1 hw) (wd_2 hw) (wd_3 hw) (wd_4 hw) (by decide) e18 (rm1 l Z a0 hw a1 k1 A 0 8 gs h18 (by decide) (by omega) Ag) pd_laBIIrI [(.ref a1), (.int (Int32.ofNat A)), (.int (0 : Int32))] [] rfl rfl (by rw [hml]; rfl) rfl (hb hby at_168) 0 (Nat.le_of_eq rfl) (by decide) (by decide) (by decide) (by decide) rfl rfl fun T20 X20 e20 => ?_
    refine o_istore 173 X20 hx rfl (hb hby at_171) #[.val (.int i0), .val (.int i1), .val (.int i2), .val (.int (Int32.ofNat A)), .val (.int (0 : Int32)), .val (.ref a1), .val (.int b0), .val (.int b1), .val (.int b2), .val (.int b3), .val (.int (own_hf (own_hs (16777619 : Int32) gs A 0 (-2128831035 : Int32)))), .unset, .unset, .unset, .unset] rfl ?_
    refine o_ldc2Long 176 X20 hx rfl hZ hown (wd_6 hw) (hb hby at_173) ?_
    refine o_lstore 178 X20 hx rfl (hb hby at_176) #[.val (.int i0), .val (.int i1), .val (.int i2), .val (.int (Int32.ofNat A)), .val (.int (0 : Int32)), .val (.ref a1), .val (.int b0), .val (.int b1), .val (.int b2), .val (.int b3), .val (.int (own_hf (own_hs (16777619 : Int32) gs A 0 (-2128831035 : Int32)))), .val (.long (2166136261 : Int64)), .second, .unset, .unset] rfl ?_
    refine o_iload 180 X20 hx rfl (hb hby at_178) rfl ?_
    refine o_ifYes 192 X20 hx (hb hby at_180) (flt (show ¬ ((0 : Int32) < (0 : Int32)) by decide)).2.2.2 (by decide) (by decide) ?_
    refine o_iload 194 X20 hx rfl (hb hby at_192) rfl ?_
    refine o_iconst 195 X20 hx rfl (hb hby at_194) (1 : Int32) rfl ?_
    refine o_icmpYes 207 X20 hx (hb hby at_195) (flt (show ¬ ((1 : Int32) < (0 : Int32)) by decide)).2.2.2 (by decide) (by decide) ?_
    refine o_iload 209 X20 hx rfl (hb hby at_207) rfl ?_
    refine o_iconst 210 X20 hx rfl (hb hby at_209) (2 : Int32) rfl ?_
    refine o_icmpYes 222 X20 hx (hb hby at_210) (flt (show ¬ ((2 : Int32) < (0 : Int32)) by decide)).2.2.2 (by decide) (by decide) ?_
    refine o_iload 224 X20 hx rfl (hb hby at_222) rfl ?_
    refine o_iconst 225 X20 hx rfl (hb hby at_224) (3 : Int32) rfl ?_
    refine o_icmpYes 237 X20 hx (hb hby at_225) (flt (show ¬ ((3 : Int32) < (0 : Int32)) by decide)).2.2.2 (by decide) (by decide) ?_
    refine o_lload 239 X20 hx rfl (hb hby at_237) rfl ?_
    refine o_lload 241 X20 hx rfl (hb hby at_239) rfl ?_
    refine o_bipush 243 X20 hx rfl (hb hby at_241) (16 : Int32) rfl ?_
    refine o_lushr 244 X20 hx rfl (hb hby at_243) ?_
    refine o_lxor 245 X20 hx rfl (hb hby at_244) ?_
    refine o_lstore 247 X20 hx rfl (hb hby at_245) #[.val (.int i0), .val (.int i1), .val (.int i2), .val (.int (Int32.ofNat A)), .val (.int (0 : Int32)), .val (.ref a1), .val (.int b0), .val (.int b1), .val (.int b2), .val (.int b3), .val (.int (own_hf (own_hs (16777619 : Int32) gs A 0 (-2128831035 : Int32)))), .val (.long (2166136261 : Int64)), .second, .val (.long ((2166136261 : Int64) ^^^ (((2166136261 : Int64).toUInt64 >>> ((16 : Int32) &&& 0x3f).toInt64.toUInt64).toInt64))), .second] rfl ?_
    refine o_iload 249 X20 hx rfl (hb hby at_247) rfl ?_
    refine o_lload 251 X20 hx rfl (hb hby at_249) rfl ?_
    refine o_l2i 252 X20 hx rfl (hb hby at_251) ?_
    refine o_icmpNo 255 X20 hx rfl (hb hby at_252) (teq (own_fin0 gs A hgs hA b0 b1 b2 b3)).2 ?_
    refine o_iconst 256 X20 hx rfl (hb hby at_255) (1 : Int32) rfl ?_
    refine o_goto 260 X20 hx (hb hby at_256) (by decide) (by decide) ?_
    refine o_retN X20 hx .boolean (by simp) hret hlk (hb hby at_260) (by decide) (by decide) ?_
    exact ⟨rfl, N18⟩
  · refine o_iload 112 X18 hx rfl (hb hby at_110) rfl ?_
    refine o_ifNo 115 X18 hx rfl (hb hby at_112) (tlt (show (0 : Int32) < (1 : Int32) by decide)).2.2.2 ?_
    refine o_aload 117 X18 hx rfl (hb hby at_115) rfl rfl ?_
    refine o_iloadN 118 X18 hx rfl (hb hby at_117) rfl ?_
    refine o_iload 120 X18 hx rfl (hb hby at_118) rfl ?_
    refine o_bastoreBX 121 X18 hx rfl hZ e18 Ag ⟨own_nn (by omega), own_lt (n := 8) (by omega) (by decide)⟩ (by rw [own_n32 (by omega)]; omega) ((gs.set A (nar .byte b0))) (by rw [own_n32 (by omega)]) N18 ge2 (hb hby at_120) fun T21 h21 L21 X21 N21 e21 W21 A21 => ?_
    have sz22 : n0 ≤ h21.size := Nat.le_trans sz19 (Keep.of_wr W21).1
    refine o_iload 123 X21 hx rfl (hb hby at_121) rfl ?_
    refine o_iconst 124 X21 hx rfl (hb hby at_123) (1 : Int32) rfl ?_
    refine o_icmpYes 135 X21 hx (hb hby at_124) (flt (show ¬ ((1 : Int32) < (1 : Int32)) by decide)).2.2.2 (by decide) (by decide) ?_
    refine o_iload 137 X21 hx rfl (hb hby at_135) rfl ?_
    refine o_iconst 138 X21 hx rfl (hb hby at_137) (2 : Int32) rfl ?_
    refine o_icmpYes 149 X21 hx (hb hby at_138) (flt (show ¬ ((2 : Int32) < (1 : Int32)) by decide)).2.2.2 (by decide) (by decide) ?_
    refine o_iload 151 X21 hx rfl (hb hby at_149) rfl ?_
    refine o_iconst 152 X21 hx rfl (hb hby at_151) (3 : Int32) rfl ?_
    refine o_icmpYes 163 X21 hx (hb hby at_152) (flt (show ¬ ((3 : Int32) < (1 : Int32)) by decide)).2.2.2 (by decide) (by decide) ?_
    refine o_aload 165 X21 hx rfl (hb hby at_163) rfl rfl ?_
    refine o_iloadN 166 X21 hx rfl (hb hby at_165) rfl ?_
    refine o_iload 168 X21 hx rfl (hb hby at_166) rfl ?_
    refine o_callP (rv := (.int (own_hf (own_hs (16777619 : Int32) (gs.set A (nar .byte b0)) A 1 (-2128831035 : Int32))))) 171 X21 hx rfl hZ hown (wd_1 hw) (wd_2 hw) (wd_3 hw) (wd_4 hw) (by decide) e21 (rm1 l Z a0 hw a1 k1 A 1 8 (gs.set A (nar .byte b0)) h21 (by decide) (by omega) A21) pd_laBIIrI [(.ref a1), (.int (Int32.ofNat A)), (.int (1 : Int32))] [] rfl rfl (by rw [hml]; rfl) rfl (hb hby at_168) 0 (Nat.le_of_eq rfl) (by decide) (by decide) (by decide) (by decide) rfl rfl fun T23 X23 e23 => ?_
    refine o_istore 173 X23 hx rfl (hb hby at_171) #[.val (.int i0), .val (.int i1), .val (.int i2), .val (.int (Int32.ofNat A)), .val (.int (1 : Int32)), .val (.ref a1), .val (.int b0), .val (.int b1), .val (.int b2), .val (.int b3), .val (.int (own_hf (own_hs (16777619 : Int32) (gs.set A (nar .byte b0)) A 1 (-2128831035 : Int32)))), .unset, .unset, .unset, .unset] rfl ?_
    refine o_ldc2Long 176 X23 hx rfl hZ hown (wd_6 hw) (hb hby at_173) ?_
    refine o_lstore 178 X23 hx rfl (hb hby at_176) #[.val (.int i0), .val (.int i1), .val (.int i2), .val (.int (Int32.ofNat A)), .val (.int (1 : Int32)), .val (.ref a1), .val (.int b0), .val (.int b1), .val (.int b2), .val (.int b3), .val (.int (own_hf (own_hs (16777619 : Int32) (gs.set A (nar .byte b0)) A 1 (-2128831035 : Int32)))), .val (.long (2166136261 : Int64)), .second, .unset, .unset] rfl ?_
    refine o_iload 180 X23 hx rfl (hb hby at_178) rfl ?_
    refine o_ifNo 183 X23 hx rfl (hb hby at_180) (tlt (show (0 : Int32) < (1 : Int32) by decide)).2.2.2 ?_
    refine o_lload 185 X23 hx rfl (hb hby at_183) rfl ?_
    refine o_iload 187 X23 hx rfl (hb hby at_185) rfl ?_
    refine o_callP (rv := (.long (fn2 (2166136261 : Int64) b0))) 190 X23 hx rfl hZ hown (wd_8 hw) (wd_9 hw) (wd_10 hw) (wd_11 hw) (by decide) e23 (rm2 l Z a0 hw (2166136261 : Int64) b0 h21) pd_lJBrJ [(.long (2166136261 : Int64)), (.int b0)] [] rfl rfl (by rw [hml]; rfl) rfl (hb hby at_187) 0 (Nat.le_of_eq rfl) (by decide) (by decide) (by decide) (by decide) rfl rfl fun T24 X24 e24 => ?_
    refine o_lstore 192 X24 hx rfl (hb hby at_190) #[.val (.int i0), .val (.int i1), .val (.int i2), .val (.int (Int32.ofNat A)), .val (.int (1 : Int32)), .val (.ref a1), .val (.int b0), .val (.int b1), .val (.int b2), .val (.int b3), .val (.int (own_hf (own_hs (16777619 : Int32) (gs.set A (nar .byte b0)) A 1 (-2128831035 : Int32)))), .val (.long (fn2 (2166136261 : Int64) b0)), .second, .unset, .unset] rfl ?_
    refine o_iload 194 X24 hx rfl (hb hby at_192) rfl ?_
    refine o_iconst 195 X24 hx rfl (hb hby at_194) (1 : Int32) rfl ?_
    refine o_icmpYes 207 X24 hx (hb hby at_195) (flt (show ¬ ((1 : Int32) < (1 : Int32)) by decide)).2.2.2 (by decide) (by decide) ?_
    refine o_iload 209 X24 hx rfl (hb hby at_207) rfl ?_
    refine o_iconst 210 X24 hx rfl (hb hby at_209) (2 : Int32) rfl ?_
    refine o_icmpYes 222 X24 hx (hb hby at_210) (flt (show ¬ ((2 : Int32) < (1 : Int32)) by decide)).2.2.2 (by decide) (by decide) ?_
    refine o_iload 224 X24 hx rfl (hb hby at_222) rfl ?_
    refine o_iconst 225 X24 hx rfl (hb hby at_224) (3 : Int32) rfl ?_
    refine o_icmpYes 237 X24 hx (hb hby at_225) (flt (show ¬ ((3 : Int32) < (1 : Int32)) by decide)).2.2.2 (by decide) (by decide) ?_
    refine o_lload 239 X24 hx rfl (hb hby at_237) rfl ?_
    refine o_lload 241 X24 hx rfl (hb hby at_239) rfl ?_
    refine o_bipush 243 X24 hx rfl (hb hby at_241) (16 : Int32) rfl ?_
    refine o_lushr 244 X24 hx rfl (hb hby at_243) ?_
    refine o_lxor 245 X24 hx rfl (hb hby at_244) ?_
    refine o_lstore 247 X24 hx rfl (hb hby at_245) #[.val (.int i0), .val (.int i1), .val (.int i2), .val (.int (Int32.ofNat A)), .val (.int (1 : Int32)), .val (.ref a1), .val (.int b0), .val (.int b1), .val (.int b2), .val (.int b3), .val (.int (own_hf (own_hs (16777619 : Int32) (gs.set A (nar .byte b0)) A 1 (-2128831035 : Int32)))), .val (.long (fn2 (2166136261 : Int64) b0)), .second, .val (.long ((fn2 (2166136261 : Int64) b0) ^^^ (((fn2 (2166136261 : Int64) b0).toUInt64 >>> ((16 : Int32) &&& 0x3f).toInt64.toUInt64).toInt64))), .second] rfl ?_
    refine o_iload 249 X24 hx rfl (hb hby at_247) rfl ?_
    refine o_lload 251 X24 hx rfl (hb hby at_249) rfl ?_
    refine o_l2i 252 X24 hx rfl (hb hby at_251) ?_
    refine o_icmpNo 255 X24 hx rfl (hb hby at_252) (teq (own_fin1 gs A hgs hA b0 b1 b2 b3)).2 ?_
    refine o_iconst 256 X24 hx rfl (hb hby at_255) (1 : Int32) rfl ?_
    refine o_goto 260 X24 hx (hb hby at_256) (by decide) (by decide) ?_
    refine o_retN X24 hx .boolean (by simp) hret hlk (hb hby at_260) (by decide) (by decide) ?_
    exact ⟨rfl, N21⟩
  · refine o_iload 112 X18 hx rfl (hb hby at_110) rfl ?_
    refine o_ifNo 115 X18 hx rfl (hb hby at_112) (tlt (show (0 : Int32) < (2 : Int32) by decide)).2.2.2 ?_
    refine o_aload 117 X18 hx rfl (hb hby at_115) rfl rfl ?_
    refine o_iloadN 118 X18 hx rfl (hb hby at_117) rfl ?_
    refine o_iload 120 X18 hx rfl (hb hby at_118) rfl ?_
    refine o_bastoreBX 121 X18 hx rfl hZ e18 Ag ⟨own_nn (by omega), own_lt (n := 8) (by omega) (by decide)⟩ (by rw [own_n32 (by omega)]; omega) ((gs.set A (nar .byte b0))) (by rw [own_n32 (by omega)]) N18 ge2 (hb hby at_120) fun T25 h25 L25 X25 N25 e25 W25 A25 => ?_
    have sz26 : n0 ≤ h25.size := Nat.le_trans sz19 (Keep.of_wr W25).1
    refine o_iload 123 X25 hx rfl (hb hby at_121) rfl ?_
    refine o_iconst 124 X25 hx rfl (hb hby at_123) (1 : Int32) rfl ?_
    refine o_icmpNo 127 X25 hx rfl (hb hby at_124) (tlt (show (1 : Int32) < (2 : Int32) by decide)).2.2.2 ?_
    refine o_aload 129 X25 hx rfl (hb hby at_127) rfl rfl ?_
    refine o_iloadN 130 X25 hx rfl (hb hby at_129) rfl ?_
    refine o_iconst 131 X25 hx rfl (hb hby at_130) (1 : Int32) rfl ?_
    refine o_iadd 132 X25 hx rfl (hb hby at_131) ?_
    rw [show (Int32.ofNat A) + (1 : Int32) = Int32.ofNat (A + 1) from (Int32.ofNat_add A 1).symm]
    refine o_iload 134 X25 hx rfl (hb hby at_132) rfl ?_
    refine o_bastoreBX 135 X25 hx rfl hZ e25 A25 ⟨own_nn (by omega), own_lt (n := 8) (by omega) (by decide)⟩ (by rw [own_n32 (by omega)]; simp only [List.length_set]; omega) (((gs.set A (nar .byte b0)).set (A + 1) (nar .byte b1))) (by rw [own_n32 (by omega)]) N25 ge2 (hb hby at_134) fun T27 h27 L27 X27 N27 e27 W27 A27 => ?_
    have sz28 : n0 ≤ h27.size := Nat.le_trans sz26 (Keep.of_wr W27).1
    refine o_iload 137 X27 hx rfl (hb hby at_135) rfl ?_
    refine o_iconst 138 X27 hx rfl (hb hby at_137) (2 : Int32) rfl ?_
    refine o_icmpYes 149 X27 hx (hb hby at_138) (flt (show ¬ ((2 : Int32) < (2 : Int32)) by decide)).2.2.2 (by decide) (by decide) ?_
    refine o_iload 151 X27 hx rfl (hb hby at_149) rfl ?_
    refine o_iconst 152 X27 hx rfl (hb hby at_151) (3 : Int32) rfl ?_
    refine o_icmpYes 163 X27 hx (hb hby at_152) (flt (show ¬ ((3 : Int32) < (2 : Int32)) by decide)).2.2.2 (by decide) (by decide) ?_
    refine o_aload 165 X27 hx rfl (hb hby at_163) rfl rfl ?_
    refine o_iloadN 166 X27 hx rfl (hb hby at_165) rfl ?_
    refine o_iload 168 X27 hx rfl (hb hby at_166) rfl ?_
    refine o_callP (rv := (.int (own_hf (own_hs (16777619 : Int32) ((gs.set A (nar .byte b0)).set (A + 1) (nar .byte b1)) A 2 (-2128831035 : Int32))))) 171 X27 hx rfl hZ hown (wd_1 hw) (wd_2 hw) (wd_3 hw) (wd_4 hw) (by decide) e27 (rm1 l Z a0 hw a1 k1 A 2 8 ((gs.set A (nar .byte b0)).set (A + 1) (nar .byte b1)) h27 (by decide) (by omega) A27) pd_laBIIrI [(.ref a1), (.int (Int32.ofNat A)), (.int (2 : Int32))] [] rfl rfl (by rw [hml]; rfl) rfl (hb hby at_168) 0 (Nat.le_of_eq rfl) (by decide) (by decide) (by decide) (by decide) rfl rfl fun T29 X29 e29 => ?_
    refine o_istore 173 X29 hx rfl (hb hby at_171) #[.val (.int i0), .val (.int i1), .val (.int i2), .val (.int (Int32.ofNat A)), .val (.int (2 : Int32)), .val (.ref a1), .val (.int b0), .val (.int b1), .val (.int b2), .val (.int b3), .val (.int (own_hf (own_hs (16777619 : Int32) ((gs.set A (nar .byte b0)).set (A + 1) (nar .byte b1)) A 2 (-2128831035 : Int32)))), .unset, .unset, .unset, .unset] rfl ?_
    refine o_ldc2Long 176 X29 hx rfl hZ hown (wd_6 hw) (hb hby at_173) ?_
    refine o_lstore 178 X29 hx rfl (hb hby at_176) #[.val (.int i0), .val (.int i1), .val (.int i2), .val (.int (Int32.ofNat A)), .val (.int (2 : Int32)), .val (.ref a1), .val (.int b0), .val (.int b1), .val (.int b2), .val (.int b3), .val (.int (own_hf (own_hs (16777619 : Int32) ((gs.set A (nar .byte b0)).set (A + 1) (nar .byte b1)) A 2 (-2128831035 : Int32)))), .val (.long (2166136261 : Int64)), .second, .unset, .unset] rfl ?_
    refine o_iload 180 X29 hx rfl (hb hby at_178) rfl ?_
    refine o_ifNo 183 X29 hx rfl (hb hby at_180) (tlt (show (0 : Int32) < (2 : Int32) by decide)).2.2.2 ?_
    refine o_lload 185 X29 hx rfl (hb hby at_183) rfl ?_
    refine o_iload 187 X29 hx rfl (hb hby at_185) rfl ?_
    refine o_callP (rv := (.long (fn2 (2166136261 : Int64) b0))) 190 X29 hx rfl hZ hown (wd_8 hw) (wd_9 hw) (wd_10 hw) (wd_11 hw) (by decide) e29 (rm2 l Z a0 hw (2166136261 : Int64) b0 h27) pd_lJBrJ [(.long (2166136261 : Int64)), (.int b0)] [] rfl rfl (by rw [hml]; rfl) rfl (hb hby at_187) 0 (Nat.le_of_eq rfl) (by decide) (by decide) (by decide) (by decide) rfl rfl fun T30 X30 e30 => ?_
    refine o_lstore 192 X30 hx rfl (hb hby at_190) #[.val (.int i0), .val (.int i1), .val (.int i2), .val (.int (Int32.ofNat A)), .val (.int (2 : Int32)), .val (.ref a1), .val (.int b0), .val (.int b1), .val (.int b2), .val (.int b3), .val (.int (own_hf (own_hs (16777619 : Int32) ((gs.set A (nar .byte b0)).set (A + 1) (nar .byte b1)) A 2 (-2128831035 : Int32)))), .val (.long (fn2 (2166136261 : Int64) b0)), .second, .unset, .unset] rfl ?_
    refine o_iload 194 X30 hx rfl (hb hby at_192) rfl ?_
    refine o_iconst 195 X30 hx rfl (hb hby at_194) (1 : Int32) rfl ?_
    refine o_icmpNo 198 X30 hx rfl (hb hby at_195) (tlt (show (1 : Int32) < (2 : Int32) by decide)).2.2.2 ?_
    refine o_lload 200 X30 hx rfl (hb hby at_198) rfl ?_
    refine o_iload 202 X30 hx rfl (hb hby at_200) rfl ?_
    refine o_callP (rv := (.long (fn2 (fn2 (2166136261 : Int64) b0) b1))) 205 X30 hx rfl hZ hown (wd_8 hw) (wd_9 hw) (wd_10 hw) (wd_11 hw) (by decide) e30 (rm2 l Z a0 hw (fn2 (2166136261 : Int64) b0) b1 h27) pd_lJBrJ [(.long (fn2 (2166136261 : Int64) b0)), (.int b1)] [] rfl rfl (by rw [hml]; rfl) rfl (hb hby at_202) 0 (Nat.le_of_eq rfl) (by decide) (by decide) (by decide) (by decide) rfl rfl fun T31 X31 e31 => ?_
    refine o_lstore 207 X31 hx rfl (hb hby at_205) #[.val (.int i0), .val (.int i1), .val (.int i2), .val (.int (Int32.ofNat A)), .val (.int (2 : Int32)), .val (.ref a1), .val (.int b0), .val (.int b1), .val (.int b2), .val (.int b3), .val (.int (own_hf (own_hs (16777619 : Int32) ((gs.set A (nar .byte b0)).set (A + 1) (nar .byte b1)) A 2 (-2128831035 : Int32)))), .val (.long (fn2 (fn2 (2166136261 : Int64) b0) b1)), .second, .unset, .unset] rfl ?_
    refine o_iload 209 X31 hx rfl (hb hby at_207) rfl ?_
    refine o_iconst 210 X31 hx rfl (hb hby at_209) (2 : Int32) rfl ?_
    refine o_icmpYes 222 X31 hx (hb hby at_210) (flt (show ¬ ((2 : Int32) < (2 : Int32)) by decide)).2.2.2 (by decide) (by decide) ?_
    refine o_iload 224 X31 hx rfl (hb hby at_222) rfl ?_
    refine o_iconst 225 X31 hx rfl (hb hby at_224) (3 : Int32) rfl ?_
    refine o_icmpYes 237 X31 hx (hb hby at_225) (flt (show ¬ ((3 : Int32) < (2 : Int32)) by decide)).2.2.2 (by decide) (by decide) ?_
    refine o_lload 239 X31 hx rfl (hb hby at_237) rfl ?_
    refine o_lload 241 X31 hx rfl (hb hby at_239) rfl ?_
    refine o_bipush 243 X31 hx rfl (hb hby at_241) (16 : Int32) rfl ?_
    refine o_lushr 244 X31 hx rfl (hb hby at_243) ?_
    refine o_lxor 245 X31 hx rfl (hb hby at_244) ?_
    refine o_lstore 247 X31 hx rfl (hb hby at_245) #[.val (.int i0), .val (.int i1), .val (.int i2), .val (.int (Int32.ofNat A)), .val (.int (2 : Int32)), .val (.ref a1), .val (.int b0), .val (.int b1), .val (.int b2), .val (.int b3), .val (.int (own_hf (own_hs (16777619 : Int32) ((gs.set A (nar .byte b0)).set (A + 1) (nar .byte b1)) A 2 (-2128831035 : Int32)))), .val (.long (fn2 (fn2 (2166136261 : Int64) b0) b1)), .second, .val (.long ((fn2 (fn2 (2166136261 : Int64) b0) b1) ^^^ (((fn2 (fn2 (2166136261 : Int64) b0) b1).toUInt64 >>> ((16 : Int32) &&& 0x3f).toInt64.toUInt64).toInt64))), .second] rfl ?_
    refine o_iload 249 X31 hx rfl (hb hby at_247) rfl ?_
    refine o_lload 251 X31 hx rfl (hb hby at_249) rfl ?_
    refine o_l2i 252 X31 hx rfl (hb hby at_251) ?_
    refine o_icmpNo 255 X31 hx rfl (hb hby at_252) (teq (own_fin2 gs A hgs hA b0 b1 b2 b3)).2 ?_
    refine o_iconst 256 X31 hx rfl (hb hby at_255) (1 : Int32) rfl ?_
    refine o_goto 260 X31 hx (hb hby at_256) (by decide) (by decide) ?_
    refine o_retN X31 hx .boolean (by simp) hret hlk (hb hby at_260) (by decide) (by decide) ?_
    exact ⟨rfl, N27⟩
  · refine o_iload 112 X18 hx rfl (hb hby at_110) rfl ?_
    refine o_ifNo 115 X18 hx rfl (hb hby at_112) (tlt (show (0 : Int32) < (3 : Int32) by decide)).2.2.2 ?_
    refine o_aload 117 X18 hx rfl (hb hby at_115) rfl rfl ?_
    refine o_iloadN 118 X18 hx rfl (hb hby at_117) rfl ?_
    refine o_iload 120 X18 hx rfl (hb hby at_118) rfl ?_
    refine o_bastoreBX 121 X18 hx rfl hZ e18 Ag ⟨own_nn (by omega), own_lt (n := 8) (by omega) (by decide)⟩ (by rw [own_n32 (by omega)]; omega) ((gs.set A (nar .byte b0))) (by rw [own_n32 (by omega)]) N18 ge2 (hb hby at_120) fun T32 h32 L32 X32 N32 e32 W32 A32 => ?_
    have sz33 : n0 ≤ h32.size := Nat.le_trans sz19 (Keep.of_wr W32).1
    refine o_iload 123 X32 hx rfl (hb hby at_121) rfl ?_
    refine o_iconst 124 X32 hx rfl (hb hby at_123) (1 : Int32) rfl ?_
    refine o_icmpNo 127 X32 hx rfl (hb hby at_124) (tlt (show (1 : Int32) < (3 : Int32) by decide)).2.2.2 ?_
    refine o_aload 129 X32 hx rfl (hb hby at_127) rfl rfl ?_
    refine o_iloadN 130 X32 hx rfl (hb hby at_129) rfl ?_
    refine o_iconst 131 X32 hx rfl (hb hby at_130) (1 : Int32) rfl ?_
    refine o_iadd 132 X32 hx rfl (hb hby at_131) ?_
    rw [show (Int32.ofNat A) + (1 : Int32) = Int32.ofNat (A + 1) from (Int32.ofNat_add A 1).symm]
    refine o_iload 134 X32 hx rfl (hb hby at_132) rfl ?_
    refine o_bastoreBX 135 X32 hx rfl hZ e32 A32 ⟨own_nn (by omega), own_lt (n := 8) (by omega) (by decide)⟩ (by rw [own_n32 (by omega)]; simp only [List.length_set]; omega) (((gs.set A (nar .byte b0)).set (A + 1) (nar .byte b1))) (by rw [own_n32 (by omega)]) N32 ge2 (hb hby at_134) fun T34 h34 L34 X34 N34 e34 W34 A34 => ?_
    have sz35 : n0 ≤ h34.size := Nat.le_trans sz33 (Keep.of_wr W34).1
    refine o_iload 137 X34 hx rfl (hb hby at_135) rfl ?_
    refine o_iconst 138 X34 hx rfl (hb hby at_137) (2 : Int32) rfl ?_
    refine o_icmpNo 141 X34 hx rfl (hb hby at_138) (tlt (show (2 : Int32) < (3 : Int32) by decide)).2.2.2 ?_
    refine o_aload 143 X34 hx rfl (hb hby at_141) rfl rfl ?_
    refine o_iloadN 144 X34 hx rfl (hb hby at_143) rfl ?_
    refine o_iconst 145 X34 hx rfl (hb hby at_144) (2 : Int32) rfl ?_
    refine o_iadd 146 X34 hx rfl (hb hby at_145) ?_
    rw [show (Int32.ofNat A) + (2 : Int32) = Int32.ofNat (A + 2) from (Int32.ofNat_add A 2).symm]
    refine o_iload 148 X34 hx rfl (hb hby at_146) rfl ?_
    refine o_bastoreBX 149 X34 hx rfl hZ e34 A34 ⟨own_nn (by omega), own_lt (n := 8) (by omega) (by decide)⟩ (by rw [own_n32 (by omega)]; simp only [List.length_set]; omega) ((((gs.set A (nar .byte b0)).set (A + 1) (nar .byte b1)).set (A + 2) (nar .byte b2))) (by rw [own_n32 (by omega)]) N34 ge2 (hb hby at_148) fun T36 h36 L36 X36 N36 e36 W36 A36 => ?_
    have sz37 : n0 ≤ h36.size := Nat.le_trans sz35 (Keep.of_wr W36).1
    refine o_iload 151 X36 hx rfl (hb hby at_149) rfl ?_
    refine o_iconst 152 X36 hx rfl (hb hby at_151) (3 : Int32) rfl ?_
    refine o_icmpYes 163 X36 hx (hb hby at_152) (flt (show ¬ ((3 : Int32) < (3 : Int32)) by decide)).2.2.2 (by decide) (by decide) ?_
    refine o_aload 165 X36 hx rfl (hb hby at_163) rfl rfl ?_
    refine o_iloadN 166 X36 hx rfl (hb hby at_165) rfl ?_
    refine o_iload 168 X36 hx rfl (hb hby at_166) rfl ?_
    refine o_callP (rv := (.int (own_hf (own_hs (16777619 : Int32) (((gs.set A (nar .byte b0)).set (A + 1) (nar .byte b1)).set (A + 2) (nar .byte b2)) A 3 (-2128831035 : Int32))))) 171 X36 hx rfl hZ hown (wd_1 hw) (wd_2 hw) (wd_3 hw) (wd_4 hw) (by decide) e36 (rm1 l Z a0 hw a1 k1 A 3 8 (((gs.set A (nar .byte b0)).set (A + 1) (nar .byte b1)).set (A + 2) (nar .byte b2)) h36 (by decide) (by omega) A36) pd_laBIIrI [(.ref a1), (.int (Int32.ofNat A)), (.int (3 : Int32))] [] rfl rfl (by rw [hml]; rfl) rfl (hb hby at_168) 0 (Nat.le_of_eq rfl) (by decide) (by decide) (by decide) (by decide) rfl rfl fun T38 X38 e38 => ?_
    refine o_istore 173 X38 hx rfl (hb hby at_171) #[.val (.int i0), .val (.int i1), .val (.int i2), .val (.int (Int32.ofNat A)), .val (.int (3 : Int32)), .val (.ref a1), .val (.int b0), .val (.int b1), .val (.int b2), .val (.int b3), .val (.int (own_hf (own_hs (16777619 : Int32) (((gs.set A (nar .byte b0)).set (A + 1) (nar .byte b1)).set (A + 2) (nar .byte b2)) A 3 (-2128831035 : Int32)))), .unset, .unset, .unset, .unset] rfl ?_
    refine o_ldc2Long 176 X38 hx rfl hZ hown (wd_6 hw) (hb hby at_173) ?_
    refine o_lstore 178 X38 hx rfl (hb hby at_176) #[.val (.int i0), .val (.int i1), .val (.int i2), .val (.int (Int32.ofNat A)), .val (.int (3 : Int32)), .val (.ref a1), .val (.int b0), .val (.int b1), .val (.int b2), .val (.int b3), .val (.int (own_hf (own_hs (16777619 : Int32) (((gs.set A (nar .byte b0)).set (A + 1) (nar .byte b1)).set (A + 2) (nar .byte b2)) A 3 (-2128831035 : Int32)))), .val (.long (2166136261 : Int64)), .second, .unset, .unset] rfl ?_
    refine o_iload 180 X38 hx rfl (hb hby at_178) rfl ?_
    refine o_ifNo 183 X38 hx rfl (hb hby at_180) (tlt (show (0 : Int32) < (3 : Int32) by decide)).2.2.2 ?_
    refine o_lload 185 X38 hx rfl (hb hby at_183) rfl ?_
    refine o_iload 187 X38 hx rfl (hb hby at_185) rfl ?_
    refine o_callP (rv := (.long (fn2 (2166136261 : Int64) b0))) 190 X38 hx rfl hZ hown (wd_8 hw) (wd_9 hw) (wd_10 hw) (wd_11 hw) (by decide) e38 (rm2 l Z a0 hw (2166136261 : Int64) b0 h36) pd_lJBrJ [(.long (2166136261 : Int64)), (.int b0)] [] rfl rfl (by rw [hml]; rfl) rfl (hb hby at_187) 0 (Nat.le_of_eq rfl) (by decide) (by decide) (by decide) (by decide) rfl rfl fun T39 X39 e39 => ?_
    refine o_lstore 192 X39 hx rfl (hb hby at_190) #[.val (.int i0), .val (.int i1), .val (.int i2), .val (.int (Int32.ofNat A)), .val (.int (3 : Int32)), .val (.ref a1), .val (.int b0), .val (.int b1), .val (.int b2), .val (.int b3), .val (.int (own_hf (own_hs (16777619 : Int32) (((gs.set A (nar .byte b0)).set (A + 1) (nar .byte b1)).set (A + 2) (nar .byte b2)) A 3 (-2128831035 : Int32)))), .val (.long (fn2 (2166136261 : Int64) b0)), .second, .unset, .unset] rfl ?_
    refine o_iload 194 X39 hx rfl (hb hby at_192) rfl ?_
    refine o_iconst 195 X39 hx rfl (hb hby at_194) (1 : Int32) rfl ?_
    refine o_icmpNo 198 X39 hx rfl (hb hby at_195) (tlt (show (1 : Int32) < (3 : Int32) by decide)).2.2.2 ?_
    refine o_lload 200 X39 hx rfl (hb hby at_198) rfl ?_
    refine o_iload 202 X39 hx rfl (hb hby at_200) rfl ?_
    refine o_callP (rv := (.long (fn2 (fn2 (2166136261 : Int64) b0) b1))) 205 X39 hx rfl hZ hown (wd_8 hw) (wd_9 hw) (wd_10 hw) (wd_11 hw) (by decide) e39 (rm2 l Z a0 hw (fn2 (2166136261 : Int64) b0) b1 h36) pd_lJBrJ [(.long (fn2 (2166136261 : Int64) b0)), (.int b1)] [] rfl rfl (by rw [hml]; rfl) rfl (hb hby at_202) 0 (Nat.le_of_eq rfl) (by decide) (by decide) (by decide) (by decide) rfl rfl fun T40 X40 e40 => ?_
    refine o_lstore 207 X40 hx rfl (hb hby at_205) #[.val (.int i0), .val (.int i1), .val (.int i2), .val (.int (Int32.ofNat A)), .val (.int (3 : Int32)), .val (.ref a1), .val (.int b0), .val (.int b1), .val (.int b2), .val (.int b3), .val (.int (own_hf (own_hs (16777619 : Int32) (((gs.set A (nar .byte b0)).set (A + 1) (nar .byte b1)).set (A + 2) (nar .byte b2)) A 3 (-2128831035 : Int32)))), .val (.long (fn2 (fn2 (2166136261 : Int64) b0) b1)), .second, .unset, .unset] rfl ?_
    refine o_iload 209 X40 hx rfl (hb hby at_207) rfl ?_
    refine o_iconst 210 X40 hx rfl (hb hby at_209) (2 : Int32) rfl ?_
    refine o_icmpNo 213 X40 hx rfl (hb hby at_210) (tlt (show (2 : Int32) < (3 : Int32) by decide)).2.2.2 ?_
    refine o_lload 215 X40 hx rfl (hb hby at_213) rfl ?_
    refine o_iload 217 X40 hx rfl (hb hby at_215) rfl ?_
    refine o_callP (rv := (.long (fn2 (fn2 (fn2 (2166136261 : Int64) b0) b1) b2))) 220 X40 hx rfl hZ hown (wd_8 hw) (wd_9 hw) (wd_10 hw) (wd_11 hw) (by decide) e40 (rm2 l Z a0 hw (fn2 (fn2 (2166136261 : Int64) b0) b1) b2 h36) pd_lJBrJ [(.long (fn2 (fn2 (2166136261 : Int64) b0) b1)), (.int b2)] [] rfl rfl (by rw [hml]; rfl) rfl (hb hby at_217) 0 (Nat.le_of_eq rfl) (by decide) (by decide) (by decide) (by decide) rfl rfl fun T41 X41 e41 => ?_
    refine o_lstore 222 X41 hx rfl (hb hby at_220) #[.val (.int i0), .val (.int i1), .val (.int i2), .val (.int (Int32.ofNat A)), .val (.int (3 : Int32)), .val (.ref a1), .val (.int b0), .val (.int b1), .val (.int b2), .val (.int b3), .val (.int (own_hf (own_hs (16777619 : Int32) (((gs.set A (nar .byte b0)).set (A + 1) (nar .byte b1)).set (A + 2) (nar .byte b2)) A 3 (-2128831035 : Int32)))), .val (.long (fn2 (fn2 (fn2 (2166136261 : Int64) b0) b1) b2)), .second, .unset, .unset] rfl ?_
    refine o_iload 224 X41 hx rfl (hb hby at_222) rfl ?_
    refine o_iconst 225 X41 hx rfl (hb hby at_224) (3 : Int32) rfl ?_
    refine o_icmpYes 237 X41 hx (hb hby at_225) (flt (show ¬ ((3 : Int32) < (3 : Int32)) by decide)).2.2.2 (by decide) (by decide) ?_
    refine o_lload 239 X41 hx rfl (hb hby at_237) rfl ?_
    refine o_lload 241 X41 hx rfl (hb hby at_239) rfl ?_
    refine o_bipush 243 X41 hx rfl (hb hby at_241) (16 : Int32) rfl ?_
    refine o_lushr 244 X41 hx rfl (hb hby at_243) ?_
    refine o_lxor 245 X41 hx rfl (hb hby at_244) ?_
    refine o_lstore 247 X41 hx rfl (hb hby at_245) #[.val (.int i0), .val (.int i1), .val (.int i2), .val (.int (Int32.ofNat A)), .val (.int (3 : Int32)), .val (.ref a1), .val (.int b0), .val (.int b1), .val (.int b2), .val (.int b3), .val (.int (own_hf (own_hs (16777619 : Int32) (((gs.set A (nar .byte b0)).set (A + 1) (nar .byte b1)).set (A + 2) (nar .byte b2)) A 3 (-2128831035 : Int32)))), .val (.long (fn2 (fn2 (fn2 (2166136261 : Int64) b0) b1) b2)), .second, .val (.long ((fn2 (fn2 (fn2 (2166136261 : Int64) b0) b1) b2) ^^^ (((fn2 (fn2 (fn2 (2166136261 : Int64) b0) b1) b2).toUInt64 >>> ((16 : Int32) &&& 0x3f).toInt64.toUInt64).toInt64))), .second] rfl ?_
    refine o_iload 249 X41 hx rfl (hb hby at_247) rfl ?_
    refine o_lload 251 X41 hx rfl (hb hby at_249) rfl ?_
    refine o_l2i 252 X41 hx rfl (hb hby at_251) ?_
    refine o_icmpNo 255 X41 hx rfl (hb hby at_252) (teq (own_fin3 gs A hgs hA b0 b1 b2 b3)).2 ?_
    refine o_iconst 256 X41 hx rfl (hb hby at_255) (1 : Int32) rfl ?_
    refine o_goto 260 X41 hx (hb hby at_256) (by decide) (by decide) ?_
    refine o_retN X41 hx .boolean (by simp) hret hlk (hb hby at_260) (by decide) (by decide) ?_
    exact ⟨rfl, N36⟩
  · refine o_iload 112 X18 hx rfl (hb hby at_110) rfl ?_
    refine o_ifNo 115 X18 hx rfl (hb hby at_112) (tlt (show (0 : Int32) < (4 : Int32) by decide)).2.2.2 ?_
    refine o_aload 117 X18 hx rfl (hb hby at_115) rfl rfl ?_
    refine o_iloadN 118 X18 hx rfl (hb hby at_117) rfl ?_
    refine o_iload 120 X18 hx rfl (hb hby at_118) rfl ?_
    refine o_bastoreBX 121 X18 hx rfl hZ e18 Ag ⟨own_nn (by omega), own_lt (n := 8) (by omega) (by decide)⟩ (by rw [own_n32 (by omega)]; omega) ((gs.set A (nar .byte b0))) (by rw [own_n32 (by omega)]) N18 ge2 (hb hby at_120) fun T42 h42 L42 X42 N42 e42 W42 A42 => ?_
    have sz43 : n0 ≤ h42.size := Nat.le_trans sz19 (Keep.of_wr W42).1
    refine o_iload 123 X42 hx rfl (hb hby at_121) rfl ?_
    refine o_iconst 124 X42 hx rfl (hb hby at_123) (1 : Int32) rfl ?_
    refine o_icmpNo 127 X42 hx rfl (hb hby at_124) (tlt (show (1 : Int32) < (4 : Int32) by decide)).2.2.2 ?_
    refine o_aload 129 X42 hx rfl (hb hby at_127) rfl rfl ?_
    refine o_iloadN 130 X42 hx rfl (hb hby at_129) rfl ?_
    refine o_iconst 131 X42 hx rfl (hb hby at_130) (1 : Int32) rfl ?_
    refine o_iadd 132 X42 hx rfl (hb hby at_131) ?_
    rw [show (Int32.ofNat A) + (1 : Int32) = Int32.ofNat (A + 1) from (Int32.ofNat_add A 1).symm]
    refine o_iload 134 X42 hx rfl (hb hby at_132) rfl ?_
    refine o_bastoreBX 135 X42 hx rfl hZ e42 A42 ⟨own_nn (by omega), own_lt (n := 8) (by omega) (by decide)⟩ (by rw [own_n32 (by omega)]; simp only [List.length_set]; omega) (((gs.set A (nar .byte b0)).set (A + 1) (nar .byte b1))) (by rw [own_n32 (by omega)]) N42 ge2 (hb hby at_134) fun T44 h44 L44 X44 N44 e44 W44 A44 => ?_
    have sz45 : n0 ≤ h44.size := Nat.le_trans sz43 (Keep.of_wr W44).1
    refine o_iload 137 X44 hx rfl (hb hby at_135) rfl ?_
    refine o_iconst 138 X44 hx rfl (hb hby at_137) (2 : Int32) rfl ?_
    refine o_icmpNo 141 X44 hx rfl (hb hby at_138) (tlt (show (2 : Int32) < (4 : Int32) by decide)).2.2.2 ?_
    refine o_aload 143 X44 hx rfl (hb hby at_141) rfl rfl ?_
    refine o_iloadN 144 X44 hx rfl (hb hby at_143) rfl ?_
    refine o_iconst 145 X44 hx rfl (hb hby at_144) (2 : Int32) rfl ?_
    refine o_iadd 146 X44 hx rfl (hb hby at_145) ?_
    rw [show (Int32.ofNat A) + (2 : Int32) = Int32.ofNat (A + 2) from (Int32.ofNat_add A 2).symm]
    refine o_iload 148 X44 hx rfl (hb hby at_146) rfl ?_
    refine o_bastoreBX 149 X44 hx rfl hZ e44 A44 ⟨own_nn (by omega), own_lt (n := 8) (by omega) (by decide)⟩ (by rw [own_n32 (by omega)]; simp only [List.length_set]; omega) ((((gs.set A (nar .byte b0)).set (A + 1) (nar .byte b1)).set (A + 2) (nar .byte b2))) (by rw [own_n32 (by omega)]) N44 ge2 (hb hby at_148) fun T46 h46 L46 X46 N46 e46 W46 A46 => ?_
    have sz47 : n0 ≤ h46.size := Nat.le_trans sz45 (Keep.of_wr W46).1
    refine o_iload 151 X46 hx rfl (hb hby at_149) rfl ?_
    refine o_iconst 152 X46 hx rfl (hb hby at_151) (3 : Int32) rfl ?_
    refine o_icmpNo 155 X46 hx rfl (hb hby at_152) (tlt (show (3 : Int32) < (4 : Int32) by decide)).2.2.2 ?_
    refine o_aload 157 X46 hx rfl (hb hby at_155) rfl rfl ?_
    refine o_iloadN 158 X46 hx rfl (hb hby at_157) rfl ?_
    refine o_iconst 159 X46 hx rfl (hb hby at_158) (3 : Int32) rfl ?_
    refine o_iadd 160 X46 hx rfl (hb hby at_159) ?_
    rw [show (Int32.ofNat A) + (3 : Int32) = Int32.ofNat (A + 3) from (Int32.ofNat_add A 3).symm]
    refine o_iload 162 X46 hx rfl (hb hby at_160) rfl ?_
    refine o_bastoreBX 163 X46 hx rfl hZ e46 A46 ⟨own_nn (by omega), own_lt (n := 8) (by omega) (by decide)⟩ (by rw [own_n32 (by omega)]; simp only [List.length_set]; omega) (((((gs.set A (nar .byte b0)).set (A + 1) (nar .byte b1)).set (A + 2) (nar .byte b2)).set (A + 3) (nar .byte b3))) (by rw [own_n32 (by omega)]) N46 ge2 (hb hby at_162) fun T48 h48 L48 X48 N48 e48 W48 A48 => ?_
    have sz49 : n0 ≤ h48.size := Nat.le_trans sz47 (Keep.of_wr W48).1
    refine o_aload 165 X48 hx rfl (hb hby at_163) rfl rfl ?_
    refine o_iloadN 166 X48 hx rfl (hb hby at_165) rfl ?_
    refine o_iload 168 X48 hx rfl (hb hby at_166) rfl ?_
    refine o_callP (rv := (.int (own_hf (own_hs (16777619 : Int32) ((((gs.set A (nar .byte b0)).set (A + 1) (nar .byte b1)).set (A + 2) (nar .byte b2)).set (A + 3) (nar .byte b3)) A 4 (-2128831035 : Int32))))) 171 X48 hx rfl hZ hown (wd_1 hw) (wd_2 hw) (wd_3 hw) (wd_4 hw) (by decide) e48 (rm1 l Z a0 hw a1 k1 A 4 8 ((((gs.set A (nar .byte b0)).set (A + 1) (nar .byte b1)).set (A + 2) (nar .byte b2)).set (A + 3) (nar .byte b3)) h48 (by decide) (by omega) A48) pd_laBIIrI [(.ref a1), (.int (Int32.ofNat A)), (.int (4 : Int32))] [] rfl rfl (by rw [hml]; rfl) rfl (hb hby at_168) 0 (Nat.le_of_eq rfl) (by decide) (by decide) (by decide) (by decide) rfl rfl fun T50 X50 e50 => ?_
    refine o_istore 173 X50 hx rfl (hb hby at_171) #[.val (.int i0), .val (.int i1), .val (.int i2), .val (.int (Int32.ofNat A)), .val (.int (4 : Int32)), .val (.ref a1), .val (.int b0), .val (.int b1), .val (.int b2), .val (.int b3), .val (.int (own_hf (own_hs (16777619 : Int32) ((((gs.set A (nar .byte b0)).set (A + 1) (nar .byte b1)).set (A + 2) (nar .byte b2)).set (A + 3) (nar .byte b3)) A 4 (-2128831035 : Int32)))), .unset, .unset, .unset, .unset] rfl ?_
    refine o_ldc2Long 176 X50 hx rfl hZ hown (wd_6 hw) (hb hby at_173) ?_
    refine o_lstore 178 X50 hx rfl (hb hby at_176) #[.val (.int i0), .val (.int i1), .val (.int i2), .val (.int (Int32.ofNat A)), .val (.int (4 : Int32)), .val (.ref a1), .val (.int b0), .val (.int b1), .val (.int b2), .val (.int b3), .val (.int (own_hf (own_hs (16777619 : Int32) ((((gs.set A (nar .byte b0)).set (A + 1) (nar .byte b1)).set (A + 2) (nar .byte b2)).set (A + 3) (nar .byte b3)) A 4 (-2128831035 : Int32)))), .val (.long (2166136261 : Int64)), .second, .unset, .unset] rfl ?_
    refine o_iload 180 X50 hx rfl (hb hby at_178) rfl ?_
    refine o_ifNo 183 X50 hx rfl (hb hby at_180) (tlt (show (0 : Int32) < (4 : Int32) by decide)).2.2.2 ?_
    refine o_lload 185 X50 hx rfl (hb hby at_183) rfl ?_
    refine o_iload 187 X50 hx rfl (hb hby at_185) rfl ?_
    refine o_callP (rv := (.long (fn2 (2166136261 : Int64) b0))) 190 X50 hx rfl hZ hown (wd_8 hw) (wd_9 hw) (wd_10 hw) (wd_11 hw) (by decide) e50 (rm2 l Z a0 hw (2166136261 : Int64) b0 h48) pd_lJBrJ [(.long (2166136261 : Int64)), (.int b0)] [] rfl rfl (by rw [hml]; rfl) rfl (hb hby at_187) 0 (Nat.le_of_eq rfl) (by decide) (by decide) (by decide) (by decide) rfl rfl fun T51 X51 e51 => ?_
    refine o_lstore 192 X51 hx rfl (hb hby at_190) #[.val (.int i0), .val (.int i1), .val (.int i2), .val (.int (Int32.ofNat A)), .val (.int (4 : Int32)), .val (.ref a1), .val (.int b0), .val (.int b1), .val (.int b2), .val (.int b3), .val (.int (own_hf (own_hs (16777619 : Int32) ((((gs.set A (nar .byte b0)).set (A + 1) (nar .byte b1)).set (A + 2) (nar .byte b2)).set (A + 3) (nar .byte b3)) A 4 (-2128831035 : Int32)))), .val (.long (fn2 (2166136261 : Int64) b0)), .second, .unset, .unset] rfl ?_
    refine o_iload 194 X51 hx rfl (hb hby at_192) rfl ?_
    refine o_iconst 195 X51 hx rfl (hb hby at_194) (1 : Int32) rfl ?_
    refine o_icmpNo 198 X51 hx rfl (hb hby at_195) (tlt (show (1 : Int32) < (4 : Int32) by decide)).2.2.2 ?_
    refine o_lload 200 X51 hx rfl (hb hby at_198) rfl ?_
    refine o_iload 202 X51 hx rfl (hb hby at_200) rfl ?_
    refine o_callP (rv := (.long (fn2 (fn2 (2166136261 : Int64) b0) b1))) 205 X51 hx rfl hZ hown (wd_8 hw) (wd_9 hw) (wd_10 hw) (wd_11 hw) (by decide) e51 (rm2 l Z a0 hw (fn2 (2166136261 : Int64) b0) b1 h48) pd_lJBrJ [(.long (fn2 (2166136261 : Int64) b0)), (.int b1)] [] rfl rfl (by rw [hml]; rfl) rfl (hb hby at_202) 0 (Nat.le_of_eq rfl) (by decide) (by decide) (by decide) (by decide) rfl rfl fun T52 X52 e52 => ?_
    refine o_lstore 207 X52 hx rfl (hb hby at_205) #[.val (.int i0), .val (.int i1), .val (.int i2), .val (.int (Int32.ofNat A)), .val (.int (4 : Int32)), .val (.ref a1), .val (.int b0), .val (.int b1), .val (.int b2), .val (.int b3), .val (.int (own_hf (own_hs (16777619 : Int32) ((((gs.set A (nar .byte b0)).set (A + 1) (nar .byte b1)).set (A + 2) (nar .byte b2)).set (A + 3) (nar .byte b3)) A 4 (-2128831035 : Int32)))), .val (.long (fn2 (fn2 (2166136261 : Int64) b0) b1)), .second, .unset, .unset] rfl ?_
    refine o_iload 209 X52 hx rfl (hb hby at_207) rfl ?_
    refine o_iconst 210 X52 hx rfl (hb hby at_209) (2 : Int32) rfl ?_
    refine o_icmpNo 213 X52 hx rfl (hb hby at_210) (tlt (show (2 : Int32) < (4 : Int32) by decide)).2.2.2 ?_
    refine o_lload 215 X52 hx rfl (hb hby at_213) rfl ?_
    refine o_iload 217 X52 hx rfl (hb hby at_215) rfl ?_
    refine o_callP (rv := (.long (fn2 (fn2 (fn2 (2166136261 : Int64) b0) b1) b2))) 220 X52 hx rfl hZ hown (wd_8 hw) (wd_9 hw) (wd_10 hw) (wd_11 hw) (by decide) e52 (rm2 l Z a0 hw (fn2 (fn2 (2166136261 : Int64) b0) b1) b2 h48) pd_lJBrJ [(.long (fn2 (fn2 (2166136261 : Int64) b0) b1)), (.int b2)] [] rfl rfl (by rw [hml]; rfl) rfl (hb hby at_217) 0 (Nat.le_of_eq rfl) (by decide) (by decide) (by decide) (by decide) rfl rfl fun T53 X53 e53 => ?_
    refine o_lstore 222 X53 hx rfl (hb hby at_220) #[.val (.int i0), .val (.int i1), .val (.int i2), .val (.int (Int32.ofNat A)), .val (.int (4 : Int32)), .val (.ref a1), .val (.int b0), .val (.int b1), .val (.int b2), .val (.int b3), .val (.int (own_hf (own_hs (16777619 : Int32) ((((gs.set A (nar .byte b0)).set (A + 1) (nar .byte b1)).set (A + 2) (nar .byte b2)).set (A + 3) (nar .byte b3)) A 4 (-2128831035 : Int32)))), .val (.long (fn2 (fn2 (fn2 (2166136261 : Int64) b0) b1) b2)), .second, .unset, .unset] rfl ?_
    refine o_iload 224 X53 hx rfl (hb hby at_222) rfl ?_
    refine o_iconst 225 X53 hx rfl (hb hby at_224) (3 : Int32) rfl ?_
    refine o_icmpNo 228 X53 hx rfl (hb hby at_225) (tlt (show (3 : Int32) < (4 : Int32) by decide)).2.2.2 ?_
    refine o_lload 230 X53 hx rfl (hb hby at_228) rfl ?_
    refine o_iload 232 X53 hx rfl (hb hby at_230) rfl ?_
    refine o_callP (rv := (.long (fn2 (fn2 (fn2 (fn2 (2166136261 : Int64) b0) b1) b2) b3))) 235 X53 hx rfl hZ hown (wd_8 hw) (wd_9 hw) (wd_10 hw) (wd_11 hw) (by decide) e53 (rm2 l Z a0 hw (fn2 (fn2 (fn2 (2166136261 : Int64) b0) b1) b2) b3 h48) pd_lJBrJ [(.long (fn2 (fn2 (fn2 (2166136261 : Int64) b0) b1) b2)), (.int b3)] [] rfl rfl (by rw [hml]; rfl) rfl (hb hby at_232) 0 (Nat.le_of_eq rfl) (by decide) (by decide) (by decide) (by decide) rfl rfl fun T54 X54 e54 => ?_
    refine o_lstore 237 X54 hx rfl (hb hby at_235) #[.val (.int i0), .val (.int i1), .val (.int i2), .val (.int (Int32.ofNat A)), .val (.int (4 : Int32)), .val (.ref a1), .val (.int b0), .val (.int b1), .val (.int b2), .val (.int b3), .val (.int (own_hf (own_hs (16777619 : Int32) ((((gs.set A (nar .byte b0)).set (A + 1) (nar .byte b1)).set (A + 2) (nar .byte b2)).set (A + 3) (nar .byte b3)) A 4 (-2128831035 : Int32)))), .val (.long (fn2 (fn2 (fn2 (fn2 (2166136261 : Int64) b0) b1) b2) b3)), .second, .unset, .unset] rfl ?_
    refine o_lload 239 X54 hx rfl (hb hby at_237) rfl ?_
    refine o_lload 241 X54 hx rfl (hb hby at_239) rfl ?_
    refine o_bipush 243 X54 hx rfl (hb hby at_241) (16 : Int32) rfl ?_
    refine o_lushr 244 X54 hx rfl (hb hby at_243) ?_
    refine o_lxor 245 X54 hx rfl (hb hby at_244) ?_
    refine o_lstore 247 X54 hx rfl (hb hby at_245) #[.val (.int i0), .val (.int i1), .val (.int i2), .val (.int (Int32.ofNat A)), .val (.int (4 : Int32)), .val (.ref a1), .val (.int b0), .val (.int b1), .val (.int b2), .val (.int b3), .val (.int (own_hf (own_hs (16777619 : Int32) ((((gs.set A (nar .byte b0)).set (A + 1) (nar .byte b1)).set (A + 2) (nar .byte b2)).set (A + 3) (nar .byte b3)) A 4 (-2128831035 : Int32)))), .val (.long (fn2 (fn2 (fn2 (fn2 (2166136261 : Int64) b0) b1) b2) b3)), .second, .val (.long ((fn2 (fn2 (fn2 (fn2 (2166136261 : Int64) b0) b1) b2) b3) ^^^ (((fn2 (fn2 (fn2 (fn2 (2166136261 : Int64) b0) b1) b2) b3).toUInt64 >>> ((16 : Int32) &&& 0x3f).toInt64.toUInt64).toInt64))), .second] rfl ?_
    refine o_iload 249 X54 hx rfl (hb hby at_247) rfl ?_
    refine o_lload 251 X54 hx rfl (hb hby at_249) rfl ?_
    refine o_l2i 252 X54 hx rfl (hb hby at_251) ?_
    refine o_icmpNo 255 X54 hx rfl (hb hby at_252) (teq (own_fin4 gs A hgs hA b0 b1 b2 b3)).2 ?_
    refine o_iconst 256 X54 hx rfl (hb hby at_255) (1 : Int32) rfl ?_
    refine o_goto 260 X54 hx (hb hby at_256) (by decide) (by decide) ?_
    refine o_retN X54 hx .boolean (by simp) hret hlk (hb hby at_260) (by decide) (by decide) ?_
    exact ⟨rfl, N48⟩
set_option maxRecDepth 65536 in
set_option maxHeartbeats 40000000 in
theorem comes_1 {Post : Tables → Env → Array Value → State → Outcome → State → Prop} (hpost : ∀ tb e args s v u, (limb_1_1.after args s (.returned v) u = true ∧ limb_1_2.after args s (.returned v) u = true ∧ True) → FrameEnd s (.returned v) u (Jvm.fieldLocs frame_1_writes args s ++ Jvm.arrayLocs frame_1_arrays args s ++ Jvm.staticLocs frame_1_statics s) 16 128 → Post tb e args s (.returned v) u) :
    ArmFor flags0 classFile x code maxLocals ret World_1 tables_1 room_1 Calls_1 rest_1 Pre_1 Post := by
  intro l hfl _ _ p e ha hc hk s m args below hf hA hF happ hP
  obtain ⟨hcalls, hrest, hpre⟩ := hP
  obtain ⟨-, -, -, hnamed, -, -, -, hat⟩ := (Spec.applies_iff hf).mp happ
  obtain ⟨hg, hn⟩ := and_e (Cond.before_iff.mp (show (Jvm.Cond.and given_1 narrow_1).before args s = true from hpre))
  obtain ⟨gc, g0⟩ := and_e hg
  obtain ⟨ga0, g1⟩ := and_e g0
  obtain ⟨ga1, g2⟩ := and_e g1
  obtain ⟨w0, w1, w2, rfl⟩ : ∃ w0 w1 w2 : Value, args = #[w0, w1, w2] := by
    have hs : args.size = 3 := by simpa [Cond.value, given_1] using gc
    obtain ⟨L⟩ := args
    match L, hs with
    | [w0, w1, w2], _ => exact ⟨w0, w1, w2, rfl⟩
  have hw := fun d (hd : d ∈ tables_1) => atoms_spec (ws := Jvm.Cond.code x code maxLocals ret :: tables_1) hat d (List.mem_cons_of_mem _ hd)
  obtain ⟨i0, ei0⟩ := is_v ga0
  obtain rfl : w0 = (.int i0) := Option.some.inj ei0
  obtain ⟨i1, ei1⟩ := is_v ga1
  obtain rfl : w1 = (.int i1) := Option.some.inj ei1
  obtain ⟨i2, ei2⟩ := is_v g2
  obtain rfl : w2 = (.int i2) := Option.some.inj ei2
  obtain ⟨n, o, h1, h2, h3, _, L, rfl, ⟨rfl, N⟩, hq⟩ := rm0 l s _ hw tables_1 i0 i1 i2 s.heap s.heap.size (Nat.le_refl _) p e ha hc hk s m _ below hf ((Spec.applies_iff_loose hf).mp happ).1 ⟨rfl, State.Warmed39.refl s, rfl⟩ trivial
  refine ⟨n, _, h1, h2, h3, hpost _ _ _ _ _ _ ⟨Cond.after_iff.mpr rfl, Cond.after_iff.mpr (eq_i res_at (Term.int_eval (1)) rfl), trivial⟩ ⟨hq.1, hq.2.1, (hq.2.2.sift fun y hy => Or.inr (N y hy)).mono (by decide) (by decide)⟩⟩
theorem main_1_1 : Claimed_1_1 := comes_1 fun _ _ _ _ _ _ h hF => ⟨h.1, hF⟩
theorem main_1_2 : Claimed_1_2 := comes_1 fun _ _ _ _ _ _ h hF => ⟨h.2.1, hF⟩
end Jvm.Pilot.@@N@@
namespace Jvm.Pilot.@@N@@
open Jvm Jvm.ClassFile Sem Op Lib Jvm.Free Jvm.Stand Jvm.Pilot.@@N@@.Jvm.D
/-! MADE BY PROGRAM (witnessworld.py) out of the Statement's table words and the real class files: 9 classes; the members and pool entries that the words name. The judged class is class 1, her method 1. -/
namespace start1
open Jvm.ClassFile
def u (s : String) : CpInfo := .utf8 (stringToUtf16 s)
/-- a pool by its gaps: so many unusable entries, then the entry; so many at the end -/
def gap : Nat → List CpInfo → List CpInfo
  | 0, r => r
  | n + 1, r => .unusable :: gap n r
def poolList (es : List (Nat × CpInfo)) (last : Nat) : List CpInfo := es.foldr (fun e r => gap e.1 (e.2 :: r)) (gap last [])
def pool (es : List (Nat × CpInfo)) (last : Nat) : Array CpInfo := ⟨poolList es last⟩
def fileOf (pool : Array CpInfo) (this : Nat) (attrs : Array Attribute := #[]) (ms : Array MethodInfo := #[]) (fl : Nat := 33) (sup : Nat := 0) (ifs : Array Nat := #[]) (fds : Array FieldInfo := #[]) : ClassFile where
  minorVersion := 0
  majorVersion := 65
  constantPool := pool
  accessFlags := fl
  thisClass := this
  superClass := sup
  interfaces := ifs
  fields := fds
  methods := ms
  attributes := attrs
def plain (name : String) (sup : Option ClassId) : Class where
  name := name
  kind := .ordinary
  loader := none
  accessFlags := 33
  super := sup
  interfaces := #[]
  cf := none
  fields := #[]
  methods := #[]
  instanceTypes := #[]
  staticTypes := #[]
  resolved := #[]
  callSites := []
  init := .initialized
  statics := none
  mirror := none

def pool0 : Array CpInfo := pool [(5, u "<init>"), (0, u "()V"), (1, .class_ 10), (1, u "java/lang/Object")] 113

def k0m0 : Method := { name := "<init>", desc := "()V", sig := { parameters := [], returnType := none }, accessFlags := 1, code := none }
/-- java/lang/Object -/
def k0 : Class := { plain "java/lang/Object" none with
  accessFlags := 33
  interfaces := #[]
  cf := some (fileOf pool0 8 #[] #[{ accessFlags := 1, nameIndex := 5, descriptorIndex := 6, attributes := #[] }] 33 0 #[] #[])
  fields := #[]
  methods := #[k0m0]
  instanceTypes := #[]
  staticTypes := #[]
  resolved := Array.replicate 124 none
  statics := none }

def pool1 : Array CpInfo := pool [(2, .class_ 4), (1, u "java/lang/Object"), (0, u "<init>"), (0, u "()V"), (0, .methodref 8 9), (0, .class_ 10), (0, .nameAndType 11 12), (0, u "com/example/headword/headword/stardict/ListedHeadwords"), (0, u "hash"), (0, u "([BII)I"), (0, .long 2166136261), (1, .methodref 16 17), (0, .class_ 18), (0, .nameAndType 19 20), (0, u "com/example/headword/headword/stardict/ListedHeadwordsHashPinLaw"), (0, u "step"), (0, u "(JB)J"), (0, .long 255), (1, .long 16777619), (1, .long 4294967295), (3, u "law"), (0, u "(III)Z")] 5

def k1m0 : Method := { name := "<init>", desc := "()V", sig := { parameters := [], returnType := none }, accessFlags := 1, code := none }
def k1c1 : Code := { maxStack := 5, maxLocals := 15, code := code, exceptionTable := #[], attributes := #[] }
def k1m1 : Method := { name := "law", desc := "(III)Z", sig := { parameters := [.int, .int, .int], returnType := some .boolean }, accessFlags := 9, code := some k1c1 }
def k1c2 : Code := { maxStack := 6, maxLocals := 3, code := method_3_code, exceptionTable := #[], attributes := #[] }
def k1m2 : Method := { name := "step", desc := "(JB)J", sig := { parameters := [.long, .byte], returnType := some .long }, accessFlags := 10, code := some k1c2 }
/-- com/example/headword/headword/stardict/ListedHeadwordsHashPinLaw -/
def k1 : Class := { plain "com/example/headword/headword/stardict/ListedHeadwordsHashPinLaw" (some 0) with
  accessFlags := 49
  interfaces := #[]
  cf := some (fileOf pool1 16 #[] #[{ accessFlags := 1, nameIndex := 5, descriptorIndex := 6, attributes := #[] }, { accessFlags := 9, nameIndex := 29, descriptorIndex := 30, attributes := #[] }, { accessFlags := 10, nameIndex := 19, descriptorIndex := 20, attributes := #[] }] 49 2 #[] #[])
  fields := #[]
  methods := #[k1m0, k1m1, k1m2]
  instanceTypes := #[]
  staticTypes := #[]
  resolved := Array.replicate 36 none
  statics := none }

def pool2 : Array CpInfo := pool [(2, .class_ 4), (1, u "java/lang/Object"), (9, .class_ 16), (1, u "com/example/headword/headword/stardict/ListedHeadwords"), (0, u "keptAs"), (0, u "[I"), (4, u "kept"), (0, u "[[B"), (2, u "hashes"), (14, u "table"), (14, u "hash"), (0, u "([BII)I"), (4, .class_ 64), (0, u "com/example/headword/headword/stardict/ListedHeadwords$Met"), (5, u "entries"), (0, u "Lcom/example/headword/headword/stardict/ListedHeadwords$Met;"), (2, u "firstOffsets"), (0, u "[J"), (2, u "firstSizes"), (2, u "synonyms"), (28, u "anySynonym"), (0, u "Z"), (35, .integer 2166136261), (0, .integer 16777619)] 24

def k2c0 : Code := { maxStack := 3, maxLocals := 5, code := prog_58_method_18_code, exceptionTable := #[], attributes := #[] }
def k2m0 : Method := { name := "hash", desc := "([BII)I", sig := { parameters := [(.array .byte), .int, .int], returnType := some .int }, accessFlags := 8, code := some k2c0 }
/-- com/example/headword/headword/stardict/ListedHeadwords -/
def k2 : Class := { plain "com/example/headword/headword/stardict/ListedHeadwords" (some 0) with
  accessFlags := 48
  interfaces := #[]
  cf := some (fileOf pool2 14 #[.nestMembers #[63]] #[{ accessFlags := 8, nameIndex := 57, descriptorIndex := 58, attributes := #[] }] 48 2 #[] #[{ accessFlags := 18, nameIndex := 17, descriptorIndex := 18, attributes := #[] }, { accessFlags := 18, nameIndex := 23, descriptorIndex := 24, attributes := #[] }, { accessFlags := 18, nameIndex := 27, descriptorIndex := 18, attributes := #[] }, { accessFlags := 18, nameIndex := 42, descriptorIndex := 18, attributes := #[] }, { accessFlags := 18, nameIndex := 70, descriptorIndex := 71, attributes := #[] }, { accessFlags := 18, nameIndex := 74, descriptorIndex := 75, attributes := #[] }, { accessFlags := 18, nameIndex := 78, descriptorIndex := 75, attributes := #[] }, { accessFlags := 18, nameIndex := 81, descriptorIndex := 71, attributes := #[] }, { accessFlags := 2, nameIndex := 110, descriptorIndex := 111, attributes := #[] }])
  fields := #[{ name := "keptAs", type := (.array .int), accessFlags := 18, slot := 0, constantValue := 0 }, { name := "kept", type := (.array (.array .byte)), accessFlags := 18, slot := 1, constantValue := 0 }, { name := "hashes", type := (.array .int), accessFlags := 18, slot := 2, constantValue := 0 }, { name := "table", type := (.array .int), accessFlags := 18, slot := 3, constantValue := 0 }, { name := "entries", type := (.object "com/example/headword/headword/stardict/ListedHeadwords$Met"), accessFlags := 18, slot := 4, constantValue := 0 }, { name := "firstOffsets", type := (.array .long), accessFlags := 18, slot := 5, constantValue := 0 }, { name := "firstSizes", type := (.array .long), accessFlags := 18, slot := 6, constantValue := 0 }, { name := "synonyms", type := (.object "com/example/headword/headword/stardict/ListedHeadwords$Met"), accessFlags := 18, slot := 7, constantValue := 0 }, { name := "anySynonym", type := .boolean, accessFlags := 2, slot := 8, constantValue := 0 }]
  methods := #[k2m0]
  instanceTypes := #[(.array .int), (.array (.array .byte)), (.array .int), (.array .int), (.object "com/example/headword/headword/stardict/ListedHeadwords$Met"), (.array .long), (.array .long), (.object "com/example/headword/headword/stardict/ListedHeadwords$Met"), .boolean]
  staticTypes := #[]
  resolved := Array.replicate 173 none
  statics := none }

def pool3 : Array CpInfo := pool [(1, u "java/lang/Cloneable"), (0, .class_ 1), (0, u "java/lang/Object"), (0, .class_ 3)] 3

/-- java/lang/Cloneable -/
def k3 : Class := { plain "java/lang/Cloneable" (some 0) with
  accessFlags := 1537
  interfaces := #[]
  cf := some (fileOf pool3 2 #[] #[] 1537 4 #[] #[])
  fields := #[]
  methods := #[]
  instanceTypes := #[]
  staticTypes := #[]
  resolved := Array.replicate 8 none
  statics := none }

def pool4 : Array CpInfo := pool [(1, u "java/io/Serializable"), (0, .class_ 1), (0, u "java/lang/Object"), (0, .class_ 3)] 3

/-- java/io/Serializable -/
def k4 : Class := { plain "java/io/Serializable" (some 0) with
  accessFlags := 1537
  interfaces := #[]
  cf := some (fileOf pool4 2 #[] #[] 1537 4 #[] #[])
  fields := #[]
  methods := #[]
  instanceTypes := #[]
  staticTypes := #[]
  resolved := Array.replicate 8 none
  statics := none }

/-- the primitive byte -/
def k5 : Class := { plain "byte" none with kind := .primitive 'B', accessFlags := 0x411 }
/-- [B -/
def k6 : Class := { plain "[B" (some 0) with kind := .array 5 .byte, interfaces := #[3, 4], accessFlags := 1041 }

/-- the primitive int -/
def k7 : Class := { plain "int" none with kind := .primitive 'I', accessFlags := 0x411 }
/-- [I -/
def k8 : Class := { plain "[I" (some 0) with kind := .array 7 .int, interfaces := #[3, 4], accessFlags := 1041 }

def heap : Heap := #[]
def classes : Array Class := #[k0, k1, k2, k3, k4, k5, k6, k7, k8]
def interned : List (Array UInt16 × Addr) := []
def slotsUsed : Nat := 0
def theMethod : MethodId := ⟨1, 1⟩
def args0 : Array Value := #[.int 5, .int 5, .int 5]
def aboutOver (below : List Frame) : State where
  vm := { classes := classes, interned := interned.toArray }
  heap := heap
  slotsUsed := slotsUsed
  threads := #[{ frames := .invoking theMethod args0 :: below }]
def below0 : List Frame := [.native { method := ⟨0, 0⟩, args := #[] }]
def about1 : State := aboutOver below0
def p0 : Program := .bare "" "" ""
def e0 : Env := launch0.env 0 0 0
theorem w_frames : about1.frames = Frame.invoking theMethod args0 :: below0 := rfl
set_option maxRecDepth 65536 in
theorem w_args : argsFit about1.vm theMethod args0 = true := by decide +kernel
set_option maxRecDepth 65536 in
theorem w_heap : heapFits about1 = true := by decide +kernel
set_option maxRecDepth 65536 in
theorem w_runnable : about1.curStatus? = some .runnable := by decide +kernel
set_option maxRecDepth 65536 in
theorem w_alone : about1.alone = true := by decide +kernel
set_option maxRecDepth 65536 in
theorem w_named : about1.methodNamed? x = some theMethod := by decide +kernel
set_option maxRecDepth 65536 in
theorem w_hears : about1.hears theMethod below0 = true := by decide +kernel
set_option maxRecDepth 65536 in
theorem w_ripe : about1.ripe theMethod args0 below0 = true := by decide +kernel
theorem w_running : about1.status = .running := rfl
set_option maxRecDepth 65536 in
theorem w_room : about1.hasRoom e0.platform room_1 = true :=
  launch0.hasRoom_least _ room_1 (by decide +kernel) (by decide +kernel) (by decide +kernel) (by decide +kernel) (by decide +kernel) (by decide +kernel)
theorem allAtoms_all (ts : List Jvm.Cond) (a : Array Jvm.Value) (st : Jvm.State) : (allAtoms ts).before a st = ts.all (fun c => c.before a st) := by
  induction ts with
  | nil => rfl
  | cons c t ih =>
    show (Jvm.Cond.and c (allAtoms t)).before a st = _
    rw [Jvm.Cond.before_and, ih, List.all_cons]
def words1 : List Jvm.Cond := Jvm.Cond.code x code maxLocals ret :: tables_1
/-- a 'code' word, met by the world's own term for the bytes: nothing is compared byte by byte -/
theorem code_word {y : MethodName} {bytes : ByteArray} {mx : Nat} {rt : Option FieldType} {a : Array Value} {s : State} {m : MethodId} {meth : Method} {c : Code} (h1 : s.methodNamed? y = some m) (h2 : s.vm.method? m = some meth) (h3 : meth.code = some c) (h4 : c.code = bytes)
    (h5 : (c.maxLocals == mx && c.exceptionTable.isEmpty && decide (c.maxStack ≤ mostOperands) && decide (meth.sig.returnType = rt) && !meth.locks && decide (parseMethodDescriptor y.desc = some meth.sig)) = true) : (Jvm.Cond.code y bytes mx rt).before a s = true := by
  simp only [Bool.and_eq_true, beq_iff_eq, Bool.not_eq_true', decide_eq_true_eq] at h5
  obtain ⟨⟨⟨⟨⟨g1, g2⟩, g3⟩, g4⟩, g5⟩, g6⟩ := h5
  simp [Cond.before, Cond.holds, Cond.value, h1, h2, h3, h4, g1, g2, g3, g4, g5, g6]
def isCode : Jvm.Cond → Bool
  | .code _ _ _ _ => true
  | _ => false
theorem all_split {L : List Jvm.Cond} {P : Jvm.Cond → Bool} (h1 : L.all (fun c => isCode c || P c) = true) (h2 : ∀ c ∈ L.filter isCode, P c = true) : L.all P = true := by
  refine List.all_eq_true.mpr fun c hc => ?_
  have h := List.all_eq_true.mp h1 c hc
  rcases Bool.eq_false_or_eq_true (isCode c) with hi | hi
  · exact h2 c (List.mem_filter.mpr ⟨hc, hi⟩)
  · simpa [hi] using h
set_option maxRecDepth 65536 in
theorem w_c0 : (Jvm.Cond.code x code maxLocals ret).before args0 about1 = true := code_word (m := ⟨1, 1⟩) (meth := k1m1) (c := k1c1) (by decide +kernel) rfl rfl rfl (by decide +kernel)
set_option maxRecDepth 65536 in
theorem w_c1 : (Jvm.Cond.code ({ cls := "com/example/headword/headword/stardict/ListedHeadwords", name := "hash", desc := "([BII)I" } : Jvm.MethodName) prog_58_method_18_code (5 : Nat) (Option.some Jvm.ClassFile.FieldType.int)).before args0 about1 = true := code_word (m := ⟨2, 0⟩) (meth := k2m0) (c := k2c0) (by decide +kernel) rfl rfl rfl (by decide +kernel)
set_option maxRecDepth 65536 in
theorem w_c2 : (Jvm.Cond.code ({ cls := "com/example/headword/headword/stardict/ListedHeadwordsHashPinLaw", name := "step", desc := "(JB)J" } : Jvm.MethodName) method_3_code (3 : Nat) (Option.some Jvm.ClassFile.FieldType.long)).before args0 about1 = true := code_word (m := ⟨1, 2⟩) (meth := k1m2) (c := k1c2) (by decide +kernel) rfl rfl rfl (by decide +kernel)
def codes1 : List Jvm.Cond := [Jvm.Cond.code x code maxLocals ret, Jvm.Cond.code ({ cls := "com/example/headword/headword/stardict/ListedHeadwords", name := "hash", desc := "([BII)I" } : Jvm.MethodName) prog_58_method_18_code (5 : Nat) (Option.some Jvm.ClassFile.FieldType.int), Jvm.Cond.code ({ cls := "com/example/headword/headword/stardict/ListedHeadwordsHashPinLaw", name := "step", desc := "(JB)J" } : Jvm.MethodName) method_3_code (3 : Nat) (Option.some Jvm.ClassFile.FieldType.long)]
set_option maxRecDepth 65536 in
theorem codes_eq : words1.filter isCode = codes1 := rfl
theorem w_codes : ∀ c ∈ words1.filter isCode, c.before args0 about1 = true := by
  rw [codes_eq]
  intro c hc
  simp only [codes1, List.mem_cons, List.not_mem_nil, or_false] at hc
  rcases hc with rfl | rfl | rfl
  · exact w_c0
  · exact w_c1
  · exact w_c2
set_option maxRecDepth 65536 in
theorem w_t1 : words1.all (fun c => isCode c || c.before args0 about1) = true := by decide +kernel
theorem w_tables : (allAtoms (Jvm.Cond.code x code maxLocals ret :: tables_1)).before args0 about1 = true := by
  rw [allAtoms_all]
  show words1.all (fun c => c.before args0 about1) = true
  refine all_split ?_ w_codes
  rw [w_t1]
set_option maxRecDepth 65536 in
theorem w_case : (Jvm.Cond.and given_1 narrow_1).before args0 about1 = true := by decide +kernel
theorem w_applies : (headSpec (Jvm.Cond.code x code maxLocals ret :: tables_1) room_1).applies x e0.platform about1 = true :=
  (Spec.applies_iff w_frames).mpr ⟨w_running, w_runnable, w_alone, w_named, w_hears, w_ripe, w_room, w_tables⟩
theorem atStart : AtStart classFile x code maxLocals ret World_1 tables_1 room_1 Calls_1 rest_1 Pre_1 launch0 p0 e0 about1 theMethod args0 below0 :=
  ⟨lists_1, trivial, launch0.admits_env _ _ _, launch0.least_env, fairChoices_fair.cas, fairChoices_fair.clock, w_frames, w_args, w_heap, w_applies, trivial, trivial, w_case⟩
end start1
theorem witness_1 : WitnessClaimed_1 := ⟨start1.p0, start1.e0, start1.about1, start1.theMethod, start1.args0, start1.below0, start1.atStart⟩
end Jvm.Pilot.@@N@@
