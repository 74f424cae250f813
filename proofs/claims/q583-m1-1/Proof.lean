import JvmDerived
import JvmDerived.Pilot.@@N@@Statement
import JvmDerived.Pilot.@@N@@Code
set_option linter.unusedVariables false
set_option linter.unusedSimpArgs false
namespace Jvm.Pilot.@@N@@
open Jvm Jvm.ClassFile Sem Op Lib Jvm.Free Jvm.Stand Jvm.LawKit Jvm.RoadKit Bundle Jvm.Pilot.@@N@@.Jvm.D
/-- from S the run goes on below 'below', ends, and E holds of the end -/
def Go (tb : Tables) (e : Env) (below : List Frame) (E : State → Outcome → Prop) (S : State) : Prop := ∃ s₂ o, Steps tb e below S s₂ ∧ s₂.status = .running ∧ Ended s₂ below o ∧ E s₂ o
theorem Go.via {tb : Tables} {e : Env} {below : List Frame} {E : State → Outcome → Prop} {S S' : State} (k : ∀ t, Steps tb e below S' t → Steps tb e below S t) (h : Go tb e below E S') : Go tb e below E S := by
  obtain ⟨a, b, c, d⟩ := h; exact ⟨a, b, k _ c, d⟩
/-- a body's contract, short -/
abbrev MetP (l : Launch) (y : MethodName) (bytes : ByteArray) (maxL : Nat) (ret : Option FieldType) (ws : List Jvm.Cond) (rm : Room) (Z : State) (as' : Array Value) (h0 : Heap) (Q : Option Value → Heap → List Loc → Prop) : Prop :=
  MetFree l y (head1 (Jvm.Cond.code y bytes maxL ret :: ws) rm) (fun a U => a = as' ∧ Z.Warmed39 U.vm ∧ U.heap = h0) (fun _ _ _ _ _ => True) (fun _ U o U' => ∃ v L, o = .returned v ∧ Q v U'.heap L ∧ FrameEnd U o U' L rm.cells rm.slots)
/-- it returned r and wrote and made nothing -/
def Pure (r : Value) (h0 : Heap) (v : Option Value) (h : Heap) (L : List Loc) : Prop := v = some r ∧ L = [] ∧ h = h0
abbrev EndE (s : State) (rm : Room) (Q : Option Value → Heap → List Loc → Prop) : State → Outcome → Prop := fun s₂ o => ∃ v L, o = .returned v ∧ Q v s₂.heap L ∧ FrameEnd s o s₂ L rm.cells rm.slots
theorem met_go {l : Launch} {y : MethodName} {bytes : ByteArray} {maxL : Nat} {ret : Option FieldType} {ws : List Jvm.Cond} {rm : Room} {Z : State} {as' : Array Value} {h0 : Heap} {Q : Option Value → Heap → List Loc → Prop} (hpl : plainFor y = true)
    (body : ∀ (p : Program) (e : Env) (s : State) (m : MethodId) (below : List Frame) (meth : Method) (c : Code) (s₁ : State), p.tables.exec = Jvm.exec → c.code = bytes → c.maxLocals = maxL → s.vm.findClass y.cls = some m.cls → meth.name = y.name → meth.sig.returnType = ret → meth.locks = false → Z.Warmed39 s.vm → s₁.heap = h0 →
      Stand p l e rm s m as' below meth c s₁ [] 0 0 → Go p.tables e below (EndE s rm Q) (s₁.setTop (entryFrame m as' maxL))) : MetP l y bytes maxL ret ws rm Z as' h0 Q := by
  refine MetFree.of_bodySF hpl hisR ?_
  intro p e s m args below meth c s₁ Bd hml hP hK
  obtain ⟨rfl, hZ, hh⟩ := hP
  exact body p e s m below meth c s₁ Bd.exec Bd.bytes hml (findClass_of_methodNamed Bd.named) (name_of_methodNamed Bd.named Bd.method).1 Bd.returns Bd.notSynchronized hZ (by rw [← hh, Bd.state]; rfl) (Stand.of_body Bd)
abbrev EndW (s : State) (rm : Room) (Q : Option Value → Heap → List Loc → Prop) : State → Outcome → Prop := fun s₂ o => ∃ v L, o = .returned v ∧ Q v s₂.heap L ∧ ReturnedEndW s o s₂ L rm.cells rm.slots
theorem met_goW {l : Launch} {y : MethodName} {bytes : ByteArray} {maxL : Nat} {ret : Option FieldType} {ws : List Jvm.Cond} {rm : Room} {Z : State} {as' : Array Value} {h0 : Heap} {Q : Option Value → Heap → List Loc → Prop} (hpl : plainFor y = true)
    (body : ∀ (p : Program) (e : Env) (s : State) (m : MethodId) (below : List Frame) (meth : Method) (c : Code) (s₁ : State), p.tables.exec = Jvm.exec → c.code = bytes → c.maxLocals = maxL → s.vm.findClass y.cls = some m.cls → meth.name = y.name → meth.sig.returnType = ret → meth.locks = false → Z.Warmed39 s.vm → s₁.heap = h0 →
      Stand p l e rm s m as' below meth c s₁ [] 0 0 → Go p.tables e below (EndW s rm Q) (s₁.setTop (entryFrame m as' maxL))) : MetFree l y (head1 (Jvm.Cond.code y bytes maxL ret :: ws) rm) (fun a U => a = as' ∧ Z.Warmed39 U.vm ∧ U.heap = h0) (fun _ _ _ _ _ => True) (fun _ U o U' => ∃ v L, o = .returned v ∧ Q v U'.heap L ∧ ReturnedEndW U o U' L rm.cells rm.slots) := by
  refine MetFree.of_bodySF hpl hisR ?_
  intro p e s m args below meth c s₁ Bd hml hP hK
  obtain ⟨rfl, hZ, hh⟩ := hP
  exact body p e s m below meth c s₁ Bd.exec Bd.bytes hml (findClass_of_methodNamed Bd.named) (name_of_methodNamed Bd.named Bd.method).1 Bd.returns Bd.notSynchronized hZ (by rw [← hh, Bd.state]; rfl) (Stand.of_body Bd)
theorem met_goZ {l : Launch} {y : MethodName} {bytes : ByteArray} {maxL : Nat} {ret : Option FieldType} {ws : List Jvm.Cond} {rm : Room} {Z : State} {as' : Array Value} {Q : Option Value → Heap → List Loc → Prop} (hpl : plainFor y = true)
    (body : ∀ (p : Program) (e : Env) (s : State) (m : MethodId) (below : List Frame) (meth : Method) (c : Code) (s₁ : State), p.tables.exec = Jvm.exec → c.code = bytes → c.maxLocals = maxL → s.vm.findClass y.cls = some m.cls → meth.name = y.name → meth.sig.returnType = ret → meth.locks = false → s = Z → s₁.heap = Z.heap →
      Stand p l e rm s m as' below meth c s₁ [] 0 0 → Go p.tables e below (EndW s rm Q) (s₁.setTop (entryFrame m as' maxL))) : MetFree l y (head1 (Jvm.Cond.code y bytes maxL ret :: ws) rm) (fun a U => a = as' ∧ U = Z) (fun _ _ _ _ _ => True) (fun _ U o U' => ∃ v L, o = .returned v ∧ Q v U'.heap L ∧ ReturnedEndW U o U' L rm.cells rm.slots) := by
  refine MetFree.of_bodySF hpl hisR ?_
  intro p e s m args below meth c s₁ Bd hml hP hK
  obtain ⟨rfl, hZ⟩ := hP
  exact body p e s m below meth c s₁ Bd.exec Bd.bytes hml (findClass_of_methodNamed Bd.named) (name_of_methodNamed Bd.named Bd.method).1 Bd.returns Bd.notSynchronized hZ (by rw [← hZ, Bd.state]; rfl) (Stand.of_body Bd)
section OwnKit
variable {p : Program} {l : Launch} {e : Env} {R : Room} {s : State} {m : MethodId} {args : Array Value} {below : List Frame} {meth : Method} {c : Code} {T : State} {locs : List Loc} {cells slots : Nat} {E : State → Outcome → Prop} {Z : State} {a0 : Array Value} {h : Heap} {pc : Nat} {Ls Ls' : Array Slot} {st : List Value}
theorem o_iload (pc' : Nat) (X : Stand p l e R s m args below meth c T locs cells slots) (hx : p.tables.exec = Jvm.exec) (hpc : pc + 2 = pc') {k : Nat} {v : Int32} (hd : decode c.code pc = .ok (.iload k, 2)) (hl : Ls[k]? = some (.val (.int v))) (h : Go p.tables e below E (T.setTop (mkF m pc' Ls ((.int v) :: st)))) : Go p.tables e below E (T.setTop (mkF m pc Ls st)) := by
  subst hpc; exact Go.via (fun _ k => XS.iload X.here hx rfl hd hl k) h
theorem o_lload (pc' : Nat) (X : Stand p l e R s m args below meth c T locs cells slots) (hx : p.tables.exec = Jvm.exec) (hpc : pc + 2 = pc') {k : Nat} {v : Int64} (hd : decode c.code pc = .ok (.lload k, 2)) (hl : Ls[k]? = some (.val (.long v))) (h : Go p.tables e below E (T.setTop (mkF m pc' Ls ((.long v) :: st)))) : Go p.tables e below E (T.setTop (mkF m pc Ls st)) := by
  subst hpc; exact Go.via (fun _ k => XS.lload X.here hx rfl hd hl k) h
theorem o_iloadN (pc' : Nat) (X : Stand p l e R s m args below meth c T locs cells slots) (hx : p.tables.exec = Jvm.exec) (hpc : pc + 1 = pc') {k : Fin 4} {v : Int32} (hd : decode c.code pc = .ok (.iload_n k, 1)) (hl : Ls[k.val]? = some (.val (.int v))) (h : Go p.tables e below E (T.setTop (mkF m pc' Ls ((.int v) :: st)))) : Go p.tables e below E (T.setTop (mkF m pc Ls st)) := by
  subst hpc; exact Go.via (fun _ k => XS.iloadN X.here hx rfl hd hl k) h
theorem o_lloadN (pc' : Nat) (X : Stand p l e R s m args below meth c T locs cells slots) (hx : p.tables.exec = Jvm.exec) (hpc : pc + 1 = pc') {k : Fin 4} {v : Int64} (hd : decode c.code pc = .ok (.lload_n k, 1)) (hl : Ls[k.val]? = some (.val (.long v))) (h : Go p.tables e below E (T.setTop (mkF m pc' Ls ((.long v) :: st)))) : Go p.tables e below E (T.setTop (mkF m pc Ls st)) := by
  subst hpc; exact Go.via (fun _ k => XS.lloadN X.here hx rfl hd hl k) h
theorem o_aload (pc' : Nat) (X : Stand p l e R s m args below meth c T locs cells slots) (hx : p.tables.exec = Jvm.exec) (hpc : pc + 2 = pc') {k : Nat} {v : Value} (hd : decode c.code pc = .ok (.aload k, 2)) (hl : Ls[k]? = some (.val v)) (hv : v.isRef = true) (h : Go p.tables e below E (T.setTop (mkF m pc' Ls (v :: st)))) : Go p.tables e below E (T.setTop (mkF m pc Ls st)) := by
  subst hpc; exact Go.via (fun _ k => XS.aload X.here hx rfl hd hl hv k) h
theorem o_aloadN (pc' : Nat) (X : Stand p l e R s m args below meth c T locs cells slots) (hx : p.tables.exec = Jvm.exec) (hpc : pc + 1 = pc') {k : Fin 4} {v : Value} (hd : decode c.code pc = .ok (.aload_n k, 1)) (hl : Ls[k.val]? = some (.val v)) (hv : v.isRef = true) (h : Go p.tables e below E (T.setTop (mkF m pc' Ls (v :: st)))) : Go p.tables e below E (T.setTop (mkF m pc Ls st)) := by
  subst hpc; exact Go.via (fun _ k => XS.aloadN X.here hx rfl hd hl hv k) h
theorem o_istore (pc' : Nat) (X : Stand p l e R s m args below meth c T locs cells slots) (hx : p.tables.exec = Jvm.exec) (hpc : pc + 2 = pc') {k : Nat} {v : Int32} (hd : decode c.code pc = .ok (.istore k, 2)) (Ls' : Array Slot) (hl : storeLocals Ls k (.int v) = some Ls') (h : Go p.tables e below E (T.setTop (mkF m pc' Ls' st))) : Go p.tables e below E (T.setTop (mkF m pc Ls ((.int v) :: st))) := by
  subst hpc; exact Go.via (fun _ k => XS.istore X.here hx rfl hd rfl hl k) h
theorem o_lstore (pc' : Nat) (X : Stand p l e R s m args below meth c T locs cells slots) (hx : p.tables.exec = Jvm.exec) (hpc : pc + 2 = pc') {k : Nat} {v : Int64} (hd : decode c.code pc = .ok (.lstore k, 2)) (Ls' : Array Slot) (hl : storeLocals Ls k (.long v) = some Ls') (h : Go p.tables e below E (T.setTop (mkF m pc' Ls' st))) : Go p.tables e below E (T.setTop (mkF m pc Ls ((.long v) :: st))) := by
  subst hpc; exact Go.via (fun _ k => XS.lstore X.here hx rfl hd rfl hl k) h
theorem o_astore (pc' : Nat) (X : Stand p l e R s m args below meth c T locs cells slots) (hx : p.tables.exec = Jvm.exec) (hpc : pc + 2 = pc') {k : Nat} {v : Value} (hd : decode c.code pc = .ok (.astore k, 2)) (hv : v.isRef = true) (Ls' : Array Slot) (hl : storeLocals Ls k v = some Ls') (h : Go p.tables e below E (T.setTop (mkF m pc' Ls' st))) : Go p.tables e below E (T.setTop (mkF m pc Ls (v :: st))) := by
  subst hpc; exact Go.via (fun _ k => XS.astore X.here hx rfl hd rfl hv hl k) h
theorem o_iinc (pc' : Nat) (X : Stand p l e R s m args below meth c T locs cells slots) (hx : p.tables.exec = Jvm.exec) (hpc : pc + 3 = pc') {k : Nat} {cst : Int} {v : Int32} (hd : decode c.code pc = .ok (.iinc k cst, 3)) (w : Int32) (hw : Int32.ofInt cst = w) (hl : Ls[k]? = some (.val (.int v))) (Ls' : Array Slot) (hl' : storeLocals Ls k (.int (v + w)) = some Ls') (h : Go p.tables e below E (T.setTop (mkF m pc' Ls' st))) : Go p.tables e below E (T.setTop (mkF m pc Ls st)) := by
  subst hpc; exact Go.via (fun _ k => XS.iinc X.here hx rfl hd hl (by rw [hw]; exact hl') k) h
theorem o_iconst (pc' : Nat) (X : Stand p l e R s m args below meth c T locs cells slots) (hx : p.tables.exec = Jvm.exec) (hpc : pc + 1 = pc') {i : Int} (hd : decode c.code pc = .ok (.iconst i, 1)) (v : Int32) (hv : Int32.ofInt i = v) (h : Go p.tables e below E (T.setTop (mkF m pc' Ls (.int v :: st)))) : Go p.tables e below E (T.setTop (mkF m pc Ls st)) := by
  subst hpc; exact Go.via (fun _ k => XS.iconst X.here hx rfl hd (by rw [hv]; exact k)) h
theorem o_bipush (pc' : Nat) (X : Stand p l e R s m args below meth c T locs cells slots) (hx : p.tables.exec = Jvm.exec) (hpc : pc + 2 = pc') {i : Int} (hd : decode c.code pc = .ok (.bipush i, 2)) (v : Int32) (hv : (Int8.ofInt i).toInt32 = v) (h : Go p.tables e below E (T.setTop (mkF m pc' Ls (.int v :: st)))) : Go p.tables e below E (T.setTop (mkF m pc Ls st)) := by
  subst hpc; exact Go.via (fun _ k => XS.bipush X.here hx rfl hd (by rw [hv]; exact k)) h
theorem o_lconst (pc' : Nat) (X : Stand p l e R s m args below meth c T locs cells slots) (hx : p.tables.exec = Jvm.exec) (hpc : pc + 1 = pc') {i : Fin 2} (hd : decode c.code pc = .ok (.lconst i, 1)) (v : Int64) (hv : Int64.ofNat i = v) (h : Go p.tables e below E (T.setTop (mkF m pc' Ls (.long v :: st)))) : Go p.tables e below E (T.setTop (mkF m pc Ls st)) := by
  subst hpc; exact Go.via (fun _ k => XS.lconst X.here hx rfl hd (by rw [hv]; exact k)) h
theorem o_ldcInt (pc' : Nat) (X : Stand p l e R s m args below meth c T locs cells slots) (hx : p.tables.exec = Jvm.exec) (hpc : pc + 2 = pc') (hZ : Z.Warmed39 s.vm) {own : String} {index : Nat} (hown : s.vm.findClass own = some m.cls) {v : Int32} (w : (Jvm.Cond.constant own index v).before a0 Z = true) (hd : decode c.code pc = .ok (.ldc index, 2)) (h : Go p.tables e below E (T.setTop (mkF m pc' Ls (.int v :: st)))) : Go p.tables e below E (T.setTop (mkF m pc Ls st)) := by
  subst hpc; exact Go.via (fun _ k => X.ldcInt hx hown (mvT hZ w) (g := mkF m pc Ls st) rfl hd _ k) h
theorem o_ldc2Long (pc' : Nat) (X : Stand p l e R s m args below meth c T locs cells slots) (hx : p.tables.exec = Jvm.exec) (hpc : pc + 3 = pc') (hZ : Z.Warmed39 s.vm) {own : String} {index : Nat} (hown : s.vm.findClass own = some m.cls) {v : Int64} (w : (Jvm.Cond.constantLong own index v).before a0 Z = true) (hd : decode c.code pc = .ok (.ldc2_w index, 3)) (h : Go p.tables e below E (T.setTop (mkF m pc' Ls (.long v :: st)))) : Go p.tables e below E (T.setTop (mkF m pc Ls st)) := by
  subst hpc; exact Go.via (fun _ k => X.ldc2Long hx hown (mvT hZ w) (g := mkF m pc Ls st) rfl hd _ k) h
theorem o_iadd (pc' : Nat) (X : Stand p l e R s m args below meth c T locs cells slots) (hx : p.tables.exec = Jvm.exec) (hpc : pc + 1 = pc') {x : Int32} {y : Int32} (hd : decode c.code pc = .ok (.iadd, 1)) (h : Go p.tables e below E (T.setTop (mkF m pc' Ls (.int (x + y) :: st)))) : Go p.tables e below E (T.setTop (mkF m pc Ls (.int y :: .int x :: st))) := by
  subst hpc; exact Go.via (fun _ k => XS.iadd X.here hx rfl hd rfl k) h
theorem o_isub (pc' : Nat) (X : Stand p l e R s m args below meth c T locs cells slots) (hx : p.tables.exec = Jvm.exec) (hpc : pc + 1 = pc') {x : Int32} {y : Int32} (hd : decode c.code pc = .ok (.isub, 1)) (h : Go p.tables e below E (T.setTop (mkF m pc' Ls (.int (x - y) :: st)))) : Go p.tables e below E (T.setTop (mkF m pc Ls (.int y :: .int x :: st))) := by
  subst hpc; exact Go.via (fun _ k => XS.isub X.here hx rfl hd rfl k) h
theorem o_imul (pc' : Nat) (X : Stand p l e R s m args below meth c T locs cells slots) (hx : p.tables.exec = Jvm.exec) (hpc : pc + 1 = pc') {x : Int32} {y : Int32} (hd : decode c.code pc = .ok (.imul, 1)) (h : Go p.tables e below E (T.setTop (mkF m pc' Ls (.int (x * y) :: st)))) : Go p.tables e below E (T.setTop (mkF m pc Ls (.int y :: .int x :: st))) := by
  subst hpc; exact Go.via (fun _ k => XS.imul X.here hx rfl hd rfl k) h
theorem o_iand (pc' : Nat) (X : Stand p l e R s m args below meth c T locs cells slots) (hx : p.tables.exec = Jvm.exec) (hpc : pc + 1 = pc') {x : Int32} {y : Int32} (hd : decode c.code pc = .ok (.iand, 1)) (h : Go p.tables e below E (T.setTop (mkF m pc' Ls (.int (x &&& y) :: st)))) : Go p.tables e below E (T.setTop (mkF m pc Ls (.int y :: .int x :: st))) := by
  subst hpc; exact Go.via (fun _ k => XS.iand X.here hx rfl hd rfl k) h
theorem o_ladd (pc' : Nat) (X : Stand p l e R s m args below meth c T locs cells slots) (hx : p.tables.exec = Jvm.exec) (hpc : pc + 1 = pc') {x : Int64} {y : Int64} (hd : decode c.code pc = .ok (.ladd, 1)) (h : Go p.tables e below E (T.setTop (mkF m pc' Ls (.long (x + y) :: st)))) : Go p.tables e below E (T.setTop (mkF m pc Ls (.long y :: .long x :: st))) := by
  subst hpc; exact Go.via (fun _ k => XS.ladd X.here hx rfl hd rfl k) h
theorem o_lmul (pc' : Nat) (X : Stand p l e R s m args below meth c T locs cells slots) (hx : p.tables.exec = Jvm.exec) (hpc : pc + 1 = pc') {x : Int64} {y : Int64} (hd : decode c.code pc = .ok (.lmul, 1)) (h : Go p.tables e below E (T.setTop (mkF m pc' Ls (.long (x * y) :: st)))) : Go p.tables e below E (T.setTop (mkF m pc Ls (.long y :: .long x :: st))) := by
  subst hpc; exact Go.via (fun _ k => XS.lmul X.here hx rfl hd rfl k) h
theorem o_land (pc' : Nat) (X : Stand p l e R s m args below meth c T locs cells slots) (hx : p.tables.exec = Jvm.exec) (hpc : pc + 1 = pc') {x : Int64} {y : Int64} (hd : decode c.code pc = .ok (.land, 1)) (h : Go p.tables e below E (T.setTop (mkF m pc' Ls (.long (x &&& y) :: st)))) : Go p.tables e below E (T.setTop (mkF m pc Ls (.long y :: .long x :: st))) := by
  subst hpc; exact Go.via (fun _ k => XS.land X.here hx rfl hd rfl k) h
theorem o_lor (pc' : Nat) (X : Stand p l e R s m args below meth c T locs cells slots) (hx : p.tables.exec = Jvm.exec) (hpc : pc + 1 = pc') {x : Int64} {y : Int64} (hd : decode c.code pc = .ok (.lor, 1)) (h : Go p.tables e below E (T.setTop (mkF m pc' Ls (.long (x ||| y) :: st)))) : Go p.tables e below E (T.setTop (mkF m pc Ls (.long y :: .long x :: st))) := by
  subst hpc; exact Go.via (fun _ k => XS.lor X.here hx rfl hd rfl k) h
theorem o_lshl (pc' : Nat) (X : Stand p l e R s m args below meth c T locs cells slots) (hx : p.tables.exec = Jvm.exec) (hpc : pc + 1 = pc') {x : Int64} {y : Int32} (hd : decode c.code pc = .ok (.lshl, 1)) (h : Go p.tables e below E (T.setTop (mkF m pc' Ls (.long (x <<< (y &&& 0x3f).toInt64) :: st)))) : Go p.tables e below E (T.setTop (mkF m pc Ls (.int y :: .long x :: st))) := by
  subst hpc; exact Go.via (fun _ k => XS.lshl X.here hx rfl hd rfl k) h
theorem o_irem (pc' : Nat) (X : Stand p l e R s m args below meth c T locs cells slots) (hx : p.tables.exec = Jvm.exec) (hpc : pc + 1 = pc') {x y : Int32} (hd : decode c.code pc = .ok (.irem, 1)) (hy : y ≠ 0) (h : Go p.tables e below E (T.setTop (mkF m pc' Ls (.int (x % y) :: st)))) : Go p.tables e below E (T.setTop (mkF m pc Ls (.int y :: .int x :: st))) := by
  subst hpc; exact Go.via (fun _ k => iremM (g := mkF m pc Ls (.int y :: .int x :: st)) X hx rfl hd rfl hy k) h
theorem o_ldiv (pc' : Nat) (X : Stand p l e R s m args below meth c T locs cells slots) (hx : p.tables.exec = Jvm.exec) (hpc : pc + 1 = pc') {x y : Int64} (hd : decode c.code pc = .ok (.ldiv, 1)) (hy : y ≠ 0) (h : Go p.tables e below E (T.setTop (mkF m pc' Ls (.long (x / y) :: st)))) : Go p.tables e below E (T.setTop (mkF m pc Ls (.long y :: .long x :: st))) := by
  subst hpc; exact Go.via (fun _ k => XS.ldiv X.here hx rfl hd rfl hy k) h
theorem o_lrem (pc' : Nat) (X : Stand p l e R s m args below meth c T locs cells slots) (hx : p.tables.exec = Jvm.exec) (hpc : pc + 1 = pc') {x y : Int64} (hd : decode c.code pc = .ok (.lrem, 1)) (hy : y ≠ 0) (h : Go p.tables e below E (T.setTop (mkF m pc' Ls (.long (x % y) :: st)))) : Go p.tables e below E (T.setTop (mkF m pc Ls (.long y :: .long x :: st))) := by
  subst hpc; exact Go.via (fun _ k => XS.lrem X.here hx rfl hd rfl hy (by rw [lrem_mod]; exact k)) h
theorem o_l2i (pc' : Nat) (X : Stand p l e R s m args below meth c T locs cells slots) (hx : p.tables.exec = Jvm.exec) (hpc : pc + 1 = pc') {x : Int64} (hd : decode c.code pc = .ok (.l2i, 1)) (h : Go p.tables e below E (T.setTop (mkF m pc' Ls (.int (x.toInt32) :: st)))) : Go p.tables e below E (T.setTop (mkF m pc Ls (.long x :: st))) := by
  subst hpc; exact Go.via (fun _ k => XS.l2i X.here hx rfl hd rfl k) h
theorem o_i2b (pc' : Nat) (X : Stand p l e R s m args below meth c T locs cells slots) (hx : p.tables.exec = Jvm.exec) (hpc : pc + 1 = pc') {x : Int32} (hd : decode c.code pc = .ok (.i2b, 1)) (h : Go p.tables e below E (T.setTop (mkF m pc' Ls (.int (x.toInt8.toInt32) :: st)))) : Go p.tables e below E (T.setTop (mkF m pc Ls (.int x :: st))) := by
  subst hpc; exact Go.via (fun _ k => XS.i2b X.here hx rfl hd rfl k) h
theorem o_dup (pc' : Nat) (X : Stand p l e R s m args below meth c T locs cells slots) (hx : p.tables.exec = Jvm.exec) (hpc : pc + 1 = pc') {v : Value} (hd : decode c.code pc = .ok (.dup, 1)) (hv : v.category = 1) (h : Go p.tables e below E (T.setTop (mkF m pc' Ls (v :: v :: st)))) : Go p.tables e below E (T.setTop (mkF m pc Ls (v :: st))) := by
  subst hpc; exact Go.via (fun _ k => XS.dup X.here hx rfl hd rfl hv k) h
theorem o_goto (pc' : Nat) (X : Stand p l e R s m args below meth c T locs cells slots) (hx : p.tables.exec = Jvm.exec) {o : Int} (hd : decode c.code pc = .ok (.goto o, 3)) (ho : 0 ≤ (pc : Int) + o) (hp : ((pc : Int) + o).toNat = pc') (h : Go p.tables e below E (T.setTop (mkF m pc' Ls st))) : Go p.tables e below E (T.setTop (mkF m pc Ls st)) := by
  exact Go.via (fun _ k => XS.goto X.here hx rfl (pc0 := pc) (pc' := pc') rfl hd ho hp k) h
theorem o_icmpYes (pc' : Nat) (X : Stand p l e R s m args below meth c T locs cells slots) (hx : p.tables.exec = Jvm.exec) {cd : ClassFile.Cond} {x y : Int32} {o : Int} (hd : decode c.code pc = .ok (.if_icmp cd o, 3)) (hc : if_icmp.holds cd x y = true) (ho : 0 ≤ (pc : Int) + o) (hp : ((pc : Int) + o).toNat = pc') (h : Go p.tables e below E (T.setTop (mkF m pc' Ls st))) : Go p.tables e below E (T.setTop (mkF m pc Ls (.int y :: .int x :: st))) := by
  exact Go.via (fun _ k => XS.icmpYes X.here hx rfl (pc0 := pc) (pc' := pc') rfl hd rfl hc ho hp k) h
theorem o_icmpNo (pc' : Nat) (X : Stand p l e R s m args below meth c T locs cells slots) (hx : p.tables.exec = Jvm.exec) (hpc : pc + 3 = pc') {cd : ClassFile.Cond} {x y : Int32} {o : Int} (hd : decode c.code pc = .ok (.if_icmp cd o, 3)) (hc : if_icmp.holds cd x y = false) (h : Go p.tables e below E (T.setTop (mkF m pc' Ls st))) : Go p.tables e below E (T.setTop (mkF m pc Ls (.int y :: .int x :: st))) := by
  subst hpc; exact Go.via (fun _ k => XS.icmpNo X.here hx rfl hd rfl hc k) h
theorem o_out (X : Stand p l e R s m args below meth c T locs cells slots) (hx : p.tables.exec = Jvm.exec) {rm : Room} {Q : Option Value → Heap → List Loc → Prop} {v : Option Value} (hv : meth.sig.returnType = none → v = none) (hlk : meth.locks = false) {g : JFrame}
    (hst : ∀ fs, (∀ (f : JFrame) (acts : List Action), f.method = m → f.locked = none → f.entered = [] → (doReturn e (T.setTop f) acts v).1 = T.setFrames fs) → Steps p.tables e below (T.setTop g) (T.setFrames fs)) (hq : Q v T.heap locs) (hk : cells ≤ rm.cells) (hn : slots ≤ rm.slots) : Go p.tables e below (EndE s rm Q) (T.setTop g) := by
  obtain ⟨fs, hr, hrun, hended, hW, hsame⟩ := X.leave (v := v) hv hlk
  exact ⟨_, _, hst fs hr, hrun, hended, _, _, rfl, hq, ⟨_, rfl⟩, hW, hsame.mono hk hn⟩
theorem o_retJ (X : Stand p l e R s m args below meth c T locs cells slots) (hx : p.tables.exec = Jvm.exec) {z : Int64} {rm : Room} {Q : Option Value → Heap → List Loc → Prop} (hret : meth.sig.returnType = some .long) (hlk : meth.locks = false) (hd : decode c.code pc = .ok (.lreturn, 1)) (hk : cells ≤ rm.cells) (hn : slots ≤ rm.slots) (hq : Q (some (.long z)) T.heap locs) : Go p.tables e below (EndE s rm Q) (T.setTop (mkF m pc Ls (.long z :: st))) :=
  o_out X hx (fun q => by rw [hret] at q; cases q) hlk (fun fs hr => retOut X hx hret rfl (Or.inr (Or.inl ⟨rfl, rfl, z, rfl⟩)) hd hr) hq hk hn
theorem o_retN (X : Stand p l e R s m args below meth c T locs cells slots) (hx : p.tables.exec = Jvm.exec) {z : Int32} (t : FieldType) (ht : t = .boolean ∨ t = .byte ∨ t = .char ∨ t = .short) {rm : Room} {Q : Option Value → Heap → List Loc → Prop} (hret : meth.sig.returnType = some t) (hlk : meth.locks = false) (hd : decode c.code pc = .ok (.ireturn, 1)) (hk : cells ≤ rm.cells) (hn : slots ≤ rm.slots) (hq : Q (some (.int (nar t z))) T.heap locs) : Go p.tables e below (EndE s rm Q) (T.setTop (mkF m pc Ls (.int z :: st))) :=
  o_out X hx (fun q => by rw [hret] at q; cases q) hlk (fun fs hr => retN X hx hret ht hd hr) hq hk hn
theorem o_retV (X : Stand p l e R s m args below meth c T locs cells slots) (hx : p.tables.exec = Jvm.exec) {rm : Room} {Q : Option Value → Heap → List Loc → Prop} (hret : meth.sig.returnType = none) (hlk : meth.locks = false) (hd : decode c.code pc = .ok (.return_, 1)) (hk : cells ≤ rm.cells) (hn : slots ≤ rm.slots) (hq : Q none T.heap locs) : Go p.tables e below (EndE s rm Q) (T.setTop (mkF m pc Ls [])) :=
  o_out X hx (fun _ => rfl) hlk (fun fs hr => X.returnOut hx hret hd hr) hq hk hn
theorem o_callS (pc' : Nat) (X : Stand p l e R s m args below meth c T locs cells slots) (hx : p.tables.exec = Jvm.exec) (hpc : pc + 3 = pc') (hZ : Z.Warmed39 s.vm) {own : String} {index : Nat} {y : MethodName} {bytes : ByteArray} {maxL : Nat} {ret : Option FieldType} {rm : Room} {as' : Array Value} {Q : Option Value → Heap → List Loc → Prop} (hown : s.vm.findClass own = some m.cls) (w1 : (Jvm.Cond.methodLink own index y).before a0 Z = true) (w2 : (Jvm.Cond.static y).before a0 Z = true) (w3 : (Jvm.Cond.initialized y.cls).before a0 Z = true) (w4 : (Jvm.Cond.code y bytes maxL ret).before a0 Z = true) (hy : y.cls ≠ "java/lang/invoke/MethodHandle" ∧ y.cls ≠ "java/lang/invoke/VarHandle") (eT : T.heap = h)
    (hM : MetP l y bytes maxL ret [] rm Z as' h Q) {ps : List FieldType} {r : Option FieldType} (hdsc : parseMethodDescriptor y.desc = some ⟨ps, r⟩) (argsL rest : List Value) (hlen : argsL.length = ps.length) (has : argsL.toArray = as') (hsize : Ls.size = c.maxLocals) (hst : st = argsL.reverse ++ rest) (hd : decode c.code pc = .ok (.invokestatic index, 3)) (W : Nat) (hW : (rest.map fun v => v.category).sum ≤ W) (hf : rm.frames + 1 ≤ R.frames) (hlo : W + (maxL + 11) + rm.locals ≤ R.locals) (hc : cells + rm.cells ≤ R.cells) (hsl : slots + rm.slots ≤ R.slots)
    (k : ∀ (v : Option Value) (T' : State) (L : List Loc), Stand p l e R s m args below meth c T' (locs ++ L) (cells + rm.cells) (slots + rm.slots) → Q v T'.heap L → Go p.tables e below E (T'.setTop (mkF m pc' Ls (v.toList ++ rest)))) : Go p.tables e below E (T.setTop (mkF m pc Ls st)) := by
  subst hpc
  obtain ⟨v, _, ⟨T', L', c', s'⟩, -, X', ⟨L, hQ, h1, h2, h3⟩, st'⟩ := Jvm.LawKit.callS X hx (y := y) hown (mvT hZ w1) (mvT hZ w2) (mvT hZ w3) (mvT hZ w4) hy (backOf (W := W) hM hZ w4 w3 hf hlo) (g := mkF m pc Ls st) rfl hsize (argsL := argsL) (rest := rest) (lenOf hdsc hlen) hst (by show 2 * 0 + _ ≤ _; rw [Nat.mul_zero, Nat.zero_add]; exact hW) hd (fun _ _ => ⟨has, eT, hc, hsl⟩)
  dsimp only [Pt.U, Pt.locs, Pt.cells, Pt.slots] at X' h1 h2 h3 st' hQ
  subst h1 h2 h3
  exact Go.via st' (k v T' L X' hQ)
theorem o_callP (pc' : Nat) (X : Stand p l e R s m args below meth c T locs cells slots) (hx : p.tables.exec = Jvm.exec) (hpc : pc + 3 = pc') (hZ : Z.Warmed39 s.vm) {own : String} {index : Nat} {y : MethodName} {bytes : ByteArray} {maxL : Nat} {ret : Option FieldType} {rm : Room} {as' : Array Value} {rv : Value} (hown : s.vm.findClass own = some m.cls) (w1 : (Jvm.Cond.methodLink own index y).before a0 Z = true) (w2 : (Jvm.Cond.static y).before a0 Z = true) (w3 : (Jvm.Cond.initialized y.cls).before a0 Z = true) (w4 : (Jvm.Cond.code y bytes maxL ret).before a0 Z = true) (hy : y.cls ≠ "java/lang/invoke/MethodHandle" ∧ y.cls ≠ "java/lang/invoke/VarHandle") (eT : T.heap = h)
    (hM : MetP l y bytes maxL ret [] rm Z as' h (Pure rv h)) {ps : List FieldType} {r : Option FieldType} (hdsc : parseMethodDescriptor y.desc = some ⟨ps, r⟩) (argsL rest : List Value) (hlen : argsL.length = ps.length) (has : argsL.toArray = as') (hsize : Ls.size = c.maxLocals) (hst : st = argsL.reverse ++ rest) (hd : decode c.code pc = .ok (.invokestatic index, 3)) (W : Nat) (hW : (rest.map fun v => v.category).sum ≤ W) (hf : rm.frames + 1 ≤ R.frames) (hlo : W + (maxL + 11) + rm.locals ≤ R.locals) (hc : cells + rm.cells ≤ R.cells) (hsl : slots + rm.slots ≤ R.slots) (hc0 : rm.cells = 0) (hs0 : rm.slots = 0)
    (k : ∀ (T' : State), Stand p l e R s m args below meth c T' locs cells slots → T'.heap = h → Go p.tables e below E (T'.setTop (mkF m pc' Ls (rv :: rest)))) : Go p.tables e below E (T.setTop (mkF m pc Ls st)) := by
  refine o_callS pc' X hx hpc hZ hown w1 w2 w3 w4 hy eT hM hdsc argsL rest hlen has hsize hst hd W hW hf hlo hc hsl ?_
  intro v T' L X' hQ
  obtain ⟨rfl, rfl, e'⟩ := hQ
  rw [hc0, hs0, List.append_nil] at X'
  exact k T' X' e' 
theorem o_newarr (pc' : Nat) (X : Stand p l e R s m args below meth c T locs cells slots) (hx : p.tables.exec = Jvm.exec) (hpc : pc + 2 = pc') (hZ : Z.Warmed39 s.vm) (aty : ArrayType) (ty : FieldType) (hty : newarray.typeOf aty = ty) (w : (Jvm.Cond.arrayClass ty).before a0 Z = true) (eT : T.heap = h) {n : Int32} (hd : decode c.code pc = .ok (.newarray aty, 2)) (hn : ¬ n < 0) (cap : Nat) (hcap : n.toNatClampNeg ≤ cap) (hb : cap * 8 ≤ 536870912) (hc : cells + 1 ≤ R.cells) (hl : slots + cap ≤ R.slots)
    (k : ∀ (T' : State) (h' : Heap) (a : Addr) (cA : ClassId), a = h.size → Stand p l e R s m args below meth c T' locs (cells + 1) (slots + cap) → T'.heap = h' → Ext h h' → Arv Z h' a cA ty n [] (defaultValue ty) → Go p.tables e below E (T'.setTop (mkF m pc' Ls (.ref a :: st)))) : Go p.tables e below E (T.setTop (mkF m pc Ls (.int n :: st))) := by
  subst hpc; subst hty
  obtain ⟨T', h', cA, X', e', E', A', st'⟩ := newP X hx hZ w eT (g := mkF m pc Ls (.int n :: st)) rfl hd rfl hn hcap hb hc hl
  exact Go.via st' (k T' h' h.size cA rfl X' e' E' (Arv.new A' hn))
theorem o_laload (pc' : Nat) (X : Stand p l e R s m args below meth c T locs cells slots) (hx : p.tables.exec = Jvm.exec) (hpc : pc + 1 = pc') (hZ : Z.Warmed39 s.vm) (eT : T.heap = h) {a : Addr} {ka : ClassId} {n j : Int32} {vs : List Value} {dv : Value} (F : Arv Z h a ka .long n vs dv) (hj : ¬ j < 0 ∧ j < n) (v : Value) (hv : vs.getD j.toNatClampNeg dv = v) (hd : decode c.code pc = .ok (.laload, 1)) (k : Go p.tables e below E (T.setTop (mkF m pc' Ls (v :: st)))) : Go p.tables e below E (T.setTop (mkF m pc Ls (.int j :: .ref a :: st))) := by
  subst hpc
  obtain ⟨cl, A, -, S, M, H, -⟩ := F
  have hin := inb_of S hj
  exact Go.via (fun _ q => X.laload hx (j := j) (v := v) (by rw [eT]; exact A.1) (State.isArrayOf_alike hZ.alike A.2.1) A.2.2 hin (H.at hin hv) (g := mkF m pc Ls (.int j :: .ref a :: st)) rfl rfl hd _ q) k
theorem o_baloadB (pc' : Nat) (X : Stand p l e R s m args below meth c T locs cells slots) (hx : p.tables.exec = Jvm.exec) (hpc : pc + 1 = pc') (hZ : Z.Warmed39 s.vm) (eT : T.heap = h) {a : Addr} {ka : ClassId} {n j : Int32} {vs : List Value} {dv : Value} (F : Arv Z h a ka .byte n vs dv) (hj : ¬ j < 0 ∧ j < n) (v : Value) (hv : vs.getD j.toNatClampNeg dv = v) (hd : decode c.code pc = .ok (.baload, 1)) (k : Go p.tables e below E (T.setTop (mkF m pc' Ls (v :: st)))) : Go p.tables e below E (T.setTop (mkF m pc Ls (.int j :: .ref a :: st))) := by
  subst hpc
  obtain ⟨cl, A, -, S, M, H, -⟩ := F
  have hin := inb_of S hj
  exact Go.via (fun _ q => X.baloadBytes hx (j := j) (v := v) (by rw [eT]; exact A.1) (State.isArrayOf_alike hZ.alike A.2.1) A.2.2 hin (H.at hin hv) (g := mkF m pc Ls (.int j :: .ref a :: st)) rfl rfl hd _ q) k
theorem o_lastore (pc' : Nat) (X : Stand p l e R s m args below meth c T locs cells slots) (hx : p.tables.exec = Jvm.exec) (hpc : pc + 1 = pc') (hZ : Z.Warmed39 s.vm) (eT : T.heap = h) {a : Addr} {ka : ClassId} {n j : Int32} {x : Int64} {vs : List Value} {dv : Value} (F : Arv Z h a ka .long n vs dv) (hj : ¬ j < 0 ∧ j < n) (i : Nat) (hi : j.toNatClampNeg = i) (hlt : i < vs.length) (vs' : List Value) (hvs : vs.set i (.long x) = vs') {n0 : Nat} (N : Fr n0 locs) (ga : n0 ≤ a) (hd : decode c.code pc = .ok (.lastore, 1))
    (k : ∀ (T' : State) (h' : Heap) (L' : List Loc), Stand p l e R s m args below meth c T' L' cells slots → Fr n0 L' → T'.heap = h' → Wr h h' a j.toNatClampNeg (.long x) → Arv Z h' a ka .long n vs' dv → Go p.tables e below E (T'.setTop (mkF m pc' Ls st))) : Go p.tables e below E (T.setTop (mkF m pc Ls (.long x :: .int j :: .ref a :: st))) := by
  subst hpc; subst hvs
  obtain ⟨cl, A, q1, S, M, H, G⟩ := F
  have hin := inb_of S hj
  obtain ⟨T', h', X', e', W', st'⟩ := stJ X hx hZ eT A hin (g := mkF m pc Ls (.long x :: .int j :: .ref a :: st)) rfl rfl hd
  exact Go.via st' (k T' h' _ X' (Fr.snoc X' N ga) e' W' (Arv.set A q1 S M H G (rfl) W' i hi hlt))
theorem o_bastoreB (pc' : Nat) (X : Stand p l e R s m args below meth c T locs cells slots) (hx : p.tables.exec = Jvm.exec) (hpc : pc + 1 = pc') (hZ : Z.Warmed39 s.vm) (eT : T.heap = h) {a : Addr} {ka : ClassId} {n j : Int32} {x : Int32} {vs : List Value} {dv : Value} (F : Arv Z h a ka .byte n vs dv) (hj : ¬ j < 0 ∧ j < n) (i : Nat) (hi : j.toNatClampNeg = i) (hlt : i < vs.length) (vs' : List Value) (hvs : vs.set i (.int (nar .byte x)) = vs') {n0 : Nat} (N : Fr n0 locs) (ga : n0 ≤ a) (hd : decode c.code pc = .ok (.bastore, 1))
    (k : ∀ (T' : State) (h' : Heap) (L' : List Loc), Stand p l e R s m args below meth c T' L' cells slots → Fr n0 L' → T'.heap = h' → Wr h h' a j.toNatClampNeg (.int (nar .byte x)) → Arv Z h' a ka .byte n vs' dv → Go p.tables e below E (T'.setTop (mkF m pc' Ls st))) : Go p.tables e below E (T.setTop (mkF m pc Ls (.int x :: .int j :: .ref a :: st))) := by
  subst hpc; subst hvs
  obtain ⟨cl, A, q1, S, M, H, G⟩ := F
  have hin := inb_of S hj
  obtain ⟨T', h', X', e', W', st'⟩ := stB X hx hZ eT A hin (g := mkF m pc Ls (.int x :: .int j :: .ref a :: st)) rfl rfl hd
  exact Go.via st' (k T' h' _ X' (Fr.snoc X' N ga) e' W' (Arv.set A q1 S M H G (fits_nar_byte x) W' i hi hlt))
theorem own_getI (xs : List Int32) (i : Nat) : (xs.map Value.int).getD i (.int 0) = .int (xs.getD i 0) := by
  simp only [List.getD_eq_getElem?_getD, List.getElem?_map]; cases xs[i]? <;> rfl
theorem o_baloadBX (pc' : Nat) (X : Stand p l e R s m args below meth c T locs cells slots) (hx : p.tables.exec = Jvm.exec) (hpc : pc + 1 = pc') (hZ : Z.Warmed39 s.vm) (eT : T.heap = h) {a : Addr} {ka : ClassId} {n j : Int32} {xs : List Int32} (F : Arv Z h a ka .byte n (xs.map Value.int) (.int 0)) (hj : ¬ j < 0 ∧ j < n) (hd : decode c.code pc = .ok (.baload, 1)) (v : Int32) (hv : xs.getD j.toNatClampNeg 0 = v) (k : Go p.tables e below E (T.setTop (mkF m pc' Ls (.int v :: st)))) : Go p.tables e below E (T.setTop (mkF m pc Ls (.int j :: .ref a :: st))) := by
  subst hv; exact o_baloadB pc' X hx hpc hZ eT F hj _ (own_getI xs _) hd k
theorem own_getJ (xs : List Int64) (i : Nat) : (xs.map Value.long).getD i (.long 0) = .long (xs.getD i 0) := by
  simp only [List.getD_eq_getElem?_getD, List.getElem?_map]; cases xs[i]? <;> rfl
theorem o_laloadX (pc' : Nat) (X : Stand p l e R s m args below meth c T locs cells slots) (hx : p.tables.exec = Jvm.exec) (hpc : pc + 1 = pc') (hZ : Z.Warmed39 s.vm) (eT : T.heap = h) {a : Addr} {ka : ClassId} {n j : Int32} {xs : List Int64} (F : Arv Z h a ka .long n (xs.map Value.long) (.long 0)) (hj : ¬ j < 0 ∧ j < n) (hd : decode c.code pc = .ok (.laload, 1)) (v : Int64) (hv : xs.getD j.toNatClampNeg 0 = v) (k : Go p.tables e below E (T.setTop (mkF m pc' Ls (.long v :: st)))) : Go p.tables e below E (T.setTop (mkF m pc Ls (.int j :: .ref a :: st))) := by
  subst hv; exact o_laload pc' X hx hpc hZ eT F hj _ (own_getJ xs _) hd k
theorem o_bastoreBX (pc' : Nat) (X : Stand p l e R s m args below meth c T locs cells slots) (hx : p.tables.exec = Jvm.exec) (hpc : pc + 1 = pc') (hZ : Z.Warmed39 s.vm) (eT : T.heap = h) {a : Addr} {ka : ClassId} {n j : Int32} {x : Int32} {xs : List Int32} (F : Arv Z h a ka .byte n (xs.map Value.int) (.int 0)) (hj : ¬ j < 0 ∧ j < n) (hlt : j.toNatClampNeg < xs.length) (xs' : List Int32) (hxs : xs.set j.toNatClampNeg (nar .byte x) = xs') {n0 : Nat} (N : Fr n0 locs) (ga : n0 ≤ a) (hd : decode c.code pc = .ok (.bastore, 1))
    (k : ∀ (T' : State) (h' : Heap) (L' : List Loc), Stand p l e R s m args below meth c T' L' cells slots → Fr n0 L' → T'.heap = h' → Wr h h' a j.toNatClampNeg (.int (nar .byte x)) → Arv Z h' a ka .byte n (xs'.map Value.int) (.int 0) → Go p.tables e below E (T'.setTop (mkF m pc' Ls st))) : Go p.tables e below E (T.setTop (mkF m pc Ls (.int x :: .int j :: .ref a :: st))) := by
  subst hxs
  exact o_bastoreB pc' X hx hpc hZ eT F hj _ rfl (by rw [List.length_map]; exact hlt) _ (List.map_set.symm) N ga hd k
theorem o_lastoreX (pc' : Nat) (X : Stand p l e R s m args below meth c T locs cells slots) (hx : p.tables.exec = Jvm.exec) (hpc : pc + 1 = pc') (hZ : Z.Warmed39 s.vm) (eT : T.heap = h) {a : Addr} {ka : ClassId} {n j : Int32} {x : Int64} {xs : List Int64} (F : Arv Z h a ka .long n (xs.map Value.long) (.long 0)) (hj : ¬ j < 0 ∧ j < n) (hlt : j.toNatClampNeg < xs.length) (xs' : List Int64) (hxs : xs.set j.toNatClampNeg x = xs') {n0 : Nat} (N : Fr n0 locs) (ga : n0 ≤ a) (hd : decode c.code pc = .ok (.lastore, 1))
    (k : ∀ (T' : State) (h' : Heap) (L' : List Loc), Stand p l e R s m args below meth c T' L' cells slots → Fr n0 L' → T'.heap = h' → Wr h h' a j.toNatClampNeg (.long x) → Arv Z h' a ka .long n (xs'.map Value.long) (.long 0) → Go p.tables e below E (T'.setTop (mkF m pc' Ls st))) : Go p.tables e below E (T.setTop (mkF m pc Ls (.long x :: .int j :: .ref a :: st))) := by
  subst hxs
  exact o_lastore pc' X hx hpc hZ eT F hj _ rfl (by rw [List.length_map]; exact hlt) _ (List.map_set.symm) N ga hd k
theorem o_newarrI (pc' : Nat) (X : Stand p l e R s m args below meth c T locs cells slots) (hx : p.tables.exec = Jvm.exec) (hpc : pc + 2 = pc') (hZ : Z.Warmed39 s.vm) (aty : ArrayType) (ty : FieldType) (hty : newarray.typeOf aty = ty) (hdf : defaultValue ty = .int 0) (w : (Jvm.Cond.arrayClass ty).before a0 Z = true) (eT : T.heap = h) {n : Int32} (hd : decode c.code pc = .ok (.newarray aty, 2)) (hn : ¬ n < 0) (cap : Nat) (hcap : n.toNatClampNeg ≤ cap) (hb : cap * 8 ≤ 536870912) (hc : cells + 1 ≤ R.cells) (hl : slots + cap ≤ R.slots) (xs : List Int32) (hxs : List.replicate n.toNatClampNeg 0 = xs)
    (k : ∀ (T' : State) (h' : Heap) (a : Addr) (cA : ClassId), a = h.size → Stand p l e R s m args below meth c T' locs (cells + 1) (slots + cap) → T'.heap = h' → Ext h h' → Arv Z h' a cA ty n (xs.map Value.int) (.int 0) → Go p.tables e below E (T'.setTop (mkF m pc' Ls (.ref a :: st)))) : Go p.tables e below E (T.setTop (mkF m pc Ls (.int n :: st))) := by
  subst hxs
  refine o_newarr pc' X hx hpc hZ aty ty hty w eT hd hn cap hcap hb hc hl ?_
  intro T' h' a cA g X' e' E' A'
  rw [hdf] at A'
  refine k T' h' a cA g X' e' E' ?_
  rw [List.map_replicate]
  exact A'.pad (pad_rep [] _ _)
theorem o_newarrJ (pc' : Nat) (X : Stand p l e R s m args below meth c T locs cells slots) (hx : p.tables.exec = Jvm.exec) (hpc : pc + 2 = pc') (hZ : Z.Warmed39 s.vm) (aty : ArrayType) (ty : FieldType) (hty : newarray.typeOf aty = ty) (hdf : defaultValue ty = .long 0) (w : (Jvm.Cond.arrayClass ty).before a0 Z = true) (eT : T.heap = h) {n : Int32} (hd : decode c.code pc = .ok (.newarray aty, 2)) (hn : ¬ n < 0) (cap : Nat) (hcap : n.toNatClampNeg ≤ cap) (hb : cap * 8 ≤ 536870912) (hc : cells + 1 ≤ R.cells) (hl : slots + cap ≤ R.slots) (xs : List Int64) (hxs : List.replicate n.toNatClampNeg 0 = xs)
    (k : ∀ (T' : State) (h' : Heap) (a : Addr) (cA : ClassId), a = h.size → Stand p l e R s m args below meth c T' locs (cells + 1) (slots + cap) → T'.heap = h' → Ext h h' → Arv Z h' a cA ty n (xs.map Value.long) (.long 0) → Go p.tables e below E (T'.setTop (mkF m pc' Ls (.ref a :: st)))) : Go p.tables e below E (T.setTop (mkF m pc Ls (.int n :: st))) := by
  subst hxs
  refine o_newarr pc' X hx hpc hZ aty ty hty w eT hd hn cap hcap hb hc hl ?_
  intro T' h' a cA g X' e' E' A'
  rw [hdf] at A'
  refine k T' h' a cA g X' e' E' ?_
  rw [List.map_replicate]
  exact A'.pad (pad_rep [] _ _)
theorem o_callSw (pc' : Nat) (X : Stand p l e R s m args below meth c T locs cells slots) (hx : p.tables.exec = Jvm.exec) (hpc : pc + 3 = pc') (hZ : Z.Warmed39 s.vm) {own : String} {index : Nat} {y : MethodName} {bytes : ByteArray} {maxL : Nat} {ret : Option FieldType} {rm : Room} {as' : Array Value} {Q : Option Value → Heap → List Loc → Prop} (hown : s.vm.findClass own = some m.cls) (w1 : (Jvm.Cond.methodLink own index y).before a0 Z = true) (w2 : (Jvm.Cond.static y).before a0 Z = true) (w3 : (Jvm.Cond.initialized y.cls).before a0 Z = true) (w4 : (Jvm.Cond.code y bytes maxL ret).before a0 Z = true) (hy : y.cls ≠ "java/lang/invoke/MethodHandle" ∧ y.cls ≠ "java/lang/invoke/VarHandle") (eT : T.heap = h) {n0 : Nat} (N : Fr n0 locs)
    (hM : MetP l y bytes maxL ret [] rm Z as' h Q) {ps : List FieldType} {r : Option FieldType} (hdsc : parseMethodDescriptor y.desc = some ⟨ps, r⟩) (argsL rest : List Value) (hlen : argsL.length = ps.length) (has : argsL.toArray = as') (hsize : Ls.size = c.maxLocals) (hst : st = argsL.reverse ++ rest) (hd : decode c.code pc = .ok (.invokestatic index, 3)) (W : Nat) (hW : (rest.map fun v => v.category).sum ≤ W) (hf : rm.frames + 1 ≤ R.frames) (hlo : W + (maxL + 11) + rm.locals ≤ R.locals) (hc : cells + rm.cells ≤ R.cells) (hsl : slots + rm.slots ≤ R.slots)
    (k : ∀ (v : Option Value) (T' : State) (L L' : List Loc), Stand p l e R s m args below meth c T' L' (cells + rm.cells) (slots + rm.slots) → Q v T'.heap L → (Fr n0 L → Fr n0 L') → Go p.tables e below E (T'.setTop (mkF m pc' Ls (v.toList ++ rest)))) : Go p.tables e below E (T.setTop (mkF m pc Ls st)) :=
  o_callS pc' X hx hpc hZ hown w1 w2 w3 w4 hy eT hM hdsc argsL rest hlen has hsize hst hd W hW hf hlo hc hsl (fun v T' L X' hQ => k v T' L _ X' hQ (fun M => Fr.app N M))
end OwnKit
theorem l_tlt {x y : Int64} (h : x < y) : lcmpW x y < 0 := (lw_lt x y).mpr h
theorem l_flt {x y : Int64} (h : ¬ x < y) : ¬ lcmpW x y < 0 := fun q => h ((lw_lt x y).mp q)
theorem l_tgt {x y : Int64} (h : y < x) : 0 < lcmpW x y := (lw_gt x y).mpr h
theorem l_fgt {x y : Int64} (h : ¬ y < x) : ¬ 0 < lcmpW x y := fun q => h ((lw_gt x y).mp q)
theorem l_teq {x y : Int64} (h : x = y) : lcmpW x y = 0 := (lw_eq x y).mpr h
theorem l_feq {x y : Int64} (h : ¬ x = y) : ¬ lcmpW x y = 0 := fun q => h ((lw_eq x y).mp q)
theorem wd_0 {Z : State} {a0 : Array Value} (hw : ∀ d ∈ tables_1, d.before a0 Z = true) : (Jvm.Cond.arrayClass Jvm.ClassFile.FieldType.long).before a0 Z = true := hw _ (List.mem_of_getElem? (i := 0) rfl)
theorem wd_1 {Z : State} {a0 : Array Value} (hw : ∀ d ∈ tables_1, d.before a0 Z = true) : (Jvm.Cond.constantLong "com/example/coarsefine/coarsefine/ccs/BcdWritePinLaw" (7 : Nat) (10 : Int64)).before a0 Z = true := hw _ (List.mem_of_getElem? (i := 1) rfl)
theorem wd_2 {Z : State} {a0 : Array Value} (hw : ∀ d ∈ tables_1, d.before a0 Z = true) : (Jvm.Cond.constantLong "com/example/coarsefine/coarsefine/ccs/BcdWritePinLaw" (17 : Nat) (100 : Int64)).before a0 Z = true := hw _ (List.mem_of_getElem? (i := 2) rfl)
theorem wd_3 {Z : State} {a0 : Array Value} (hw : ∀ d ∈ tables_1, d.before a0 Z = true) : (Jvm.Cond.constantLong "com/example/coarsefine/coarsefine/ccs/BcdWritePinLaw" (19 : Nat) (1000 : Int64)).before a0 Z = true := hw _ (List.mem_of_getElem? (i := 3) rfl)
theorem wd_4 {Z : State} {a0 : Array Value} (hw : ∀ d ∈ tables_1, d.before a0 Z = true) : (Jvm.Cond.constantLong "com/example/coarsefine/coarsefine/ccs/BcdWritePinLaw" (21 : Nat) (10000 : Int64)).before a0 Z = true := hw _ (List.mem_of_getElem? (i := 4) rfl)
theorem wd_5 {Z : State} {a0 : Array Value} (hw : ∀ d ∈ tables_1, d.before a0 Z = true) : (Jvm.Cond.constantLong "com/example/coarsefine/coarsefine/ccs/BcdWritePinLaw" (23 : Nat) (100000 : Int64)).before a0 Z = true := hw _ (List.mem_of_getElem? (i := 5) rfl)
theorem wd_6 {Z : State} {a0 : Array Value} (hw : ∀ d ∈ tables_1, d.before a0 Z = true) : (Jvm.Cond.constantLong "com/example/coarsefine/coarsefine/ccs/BcdWritePinLaw" (25 : Nat) (1000000 : Int64)).before a0 Z = true := hw _ (List.mem_of_getElem? (i := 6) rfl)
theorem wd_7 {Z : State} {a0 : Array Value} (hw : ∀ d ∈ tables_1, d.before a0 Z = true) : (Jvm.Cond.constantLong "com/example/coarsefine/coarsefine/ccs/BcdWritePinLaw" (27 : Nat) (10000000 : Int64)).before a0 Z = true := hw _ (List.mem_of_getElem? (i := 7) rfl)
theorem wd_8 {Z : State} {a0 : Array Value} (hw : ∀ d ∈ tables_1, d.before a0 Z = true) : (Jvm.Cond.constantLong "com/example/coarsefine/coarsefine/ccs/BcdWritePinLaw" (29 : Nat) (100000000 : Int64)).before a0 Z = true := hw _ (List.mem_of_getElem? (i := 8) rfl)
theorem wd_9 {Z : State} {a0 : Array Value} (hw : ∀ d ∈ tables_1, d.before a0 Z = true) : (Jvm.Cond.constantLong "com/example/coarsefine/coarsefine/ccs/BcdWritePinLaw" (31 : Nat) (1000000000 : Int64)).before a0 Z = true := hw _ (List.mem_of_getElem? (i := 9) rfl)
theorem wd_10 {Z : State} {a0 : Array Value} (hw : ∀ d ∈ tables_1, d.before a0 Z = true) : (Jvm.Cond.constantLong "com/example/coarsefine/coarsefine/ccs/BcdWritePinLaw" (33 : Nat) (10000000000 : Int64)).before a0 Z = true := hw _ (List.mem_of_getElem? (i := 10) rfl)
theorem wd_11 {Z : State} {a0 : Array Value} (hw : ∀ d ∈ tables_1, d.before a0 Z = true) : (Jvm.Cond.constantLong "com/example/coarsefine/coarsefine/ccs/BcdWritePinLaw" (35 : Nat) (100000000000 : Int64)).before a0 Z = true := hw _ (List.mem_of_getElem? (i := 11) rfl)
theorem wd_12 {Z : State} {a0 : Array Value} (hw : ∀ d ∈ tables_1, d.before a0 Z = true) : (Jvm.Cond.constantLong "com/example/coarsefine/coarsefine/ccs/BcdWritePinLaw" (37 : Nat) (1000000000000 : Int64)).before a0 Z = true := hw _ (List.mem_of_getElem? (i := 12) rfl)
theorem wd_13 {Z : State} {a0 : Array Value} (hw : ∀ d ∈ tables_1, d.before a0 Z = true) : (Jvm.Cond.constantLong "com/example/coarsefine/coarsefine/ccs/BcdWritePinLaw" (39 : Nat) (10000000000000 : Int64)).before a0 Z = true := hw _ (List.mem_of_getElem? (i := 13) rfl)
theorem wd_14 {Z : State} {a0 : Array Value} (hw : ∀ d ∈ tables_1, d.before a0 Z = true) : (Jvm.Cond.constantLong "com/example/coarsefine/coarsefine/ccs/BcdWritePinLaw" (41 : Nat) (100000000000000 : Int64)).before a0 Z = true := hw _ (List.mem_of_getElem? (i := 14) rfl)
theorem wd_15 {Z : State} {a0 : Array Value} (hw : ∀ d ∈ tables_1, d.before a0 Z = true) : (Jvm.Cond.constantLong "com/example/coarsefine/coarsefine/ccs/BcdWritePinLaw" (43 : Nat) (1000000000000000 : Int64)).before a0 Z = true := hw _ (List.mem_of_getElem? (i := 15) rfl)
theorem wd_16 {Z : State} {a0 : Array Value} (hw : ∀ d ∈ tables_1, d.before a0 Z = true) : (Jvm.Cond.constantLong "com/example/coarsefine/coarsefine/ccs/BcdWritePinLaw" (45 : Nat) (10000000000000000 : Int64)).before a0 Z = true := hw _ (List.mem_of_getElem? (i := 16) rfl)
theorem wd_17 {Z : State} {a0 : Array Value} (hw : ∀ d ∈ tables_1, d.before a0 Z = true) : (Jvm.Cond.constantLong "com/example/coarsefine/coarsefine/ccs/BcdWritePinLaw" (47 : Nat) (100000000000000000 : Int64)).before a0 Z = true := hw _ (List.mem_of_getElem? (i := 17) rfl)
theorem wd_18 {Z : State} {a0 : Array Value} (hw : ∀ d ∈ tables_1, d.before a0 Z = true) : (Jvm.Cond.constantLong "com/example/coarsefine/coarsefine/ccs/BcdWritePinLaw" (49 : Nat) (1000000000000000000 : Int64)).before a0 Z = true := hw _ (List.mem_of_getElem? (i := 18) rfl)
theorem wd_19 {Z : State} {a0 : Array Value} (hw : ∀ d ∈ tables_1, d.before a0 Z = true) : (Jvm.Cond.constant "com/example/coarsefine/coarsefine/ccs/BcdWritePinLaw" (51 : Nat) (2147483647 : Int32)).before a0 Z = true := hw _ (List.mem_of_getElem? (i := 19) rfl)
theorem wd_20 {Z : State} {a0 : Array Value} (hw : ∀ d ∈ tables_1, d.before a0 Z = true) : (Jvm.Cond.constantLong "com/example/coarsefine/coarsefine/ccs/BcdWritePinLaw" (54 : Nat) (9223372036854775807 : Int64)).before a0 Z = true := hw _ (List.mem_of_getElem? (i := 20) rfl)
theorem wd_21 {Z : State} {a0 : Array Value} (hw : ∀ d ∈ tables_1, d.before a0 Z = true) : (Jvm.Cond.arrayClass Jvm.ClassFile.FieldType.byte).before a0 Z = true := hw _ (List.mem_of_getElem? (i := 21) rfl)
theorem wd_22 {Z : State} {a0 : Array Value} (hw : ∀ d ∈ tables_1, d.before a0 Z = true) : (Jvm.Cond.methodLink "com/example/coarsefine/coarsefine/ccs/BcdWritePinLaw" (56 : Nat) ({ cls := "com/example/coarsefine/coarsefine/ccs/Bcd", name := "write", desc := "(J[BII)V" } : Jvm.MethodName)).before a0 Z = true := hw _ (List.mem_of_getElem? (i := 22) rfl)
theorem wd_23 {Z : State} {a0 : Array Value} (hw : ∀ d ∈ tables_1, d.before a0 Z = true) : (Jvm.Cond.static ({ cls := "com/example/coarsefine/coarsefine/ccs/Bcd", name := "write", desc := "(J[BII)V" } : Jvm.MethodName)).before a0 Z = true := hw _ (List.mem_of_getElem? (i := 23) rfl)
theorem wd_24 {Z : State} {a0 : Array Value} (hw : ∀ d ∈ tables_1, d.before a0 Z = true) : (Jvm.Cond.initialized "com/example/coarsefine/coarsefine/ccs/Bcd").before a0 Z = true := hw _ (List.mem_of_getElem? (i := 24) rfl)
theorem wd_25 {Z : State} {a0 : Array Value} (hw : ∀ d ∈ tables_1, d.before a0 Z = true) : (Jvm.Cond.code ({ cls := "com/example/coarsefine/coarsefine/ccs/Bcd", name := "write", desc := "(J[BII)V" } : Jvm.MethodName) prog_20_method_3_code (8 : Nat) (Option.none : Option Jvm.ClassFile.FieldType)).before a0 Z = true := hw _ (List.mem_of_getElem? (i := 25) rfl)
theorem wd_26 {Z : State} {a0 : Array Value} (hw : ∀ d ∈ tables_1, d.before a0 Z = true) : (Jvm.Cond.constantLong "com/example/coarsefine/coarsefine/ccs/Bcd" (31 : Nat) (10 : Int64)).before a0 Z = true := hw _ (List.mem_of_getElem? (i := 26) rfl)
theorem wd_27 {Z : State} {a0 : Array Value} (hw : ∀ d ∈ tables_1, d.before a0 Z = true) : (Jvm.Cond.constantLong "com/example/coarsefine/coarsefine/ccs/Bcd" (29 : Nat) (100 : Int64)).before a0 Z = true := hw _ (List.mem_of_getElem? (i := 27) rfl)
theorem wd_28 {Z : State} {a0 : Array Value} (hw : ∀ d ∈ tables_1, d.before a0 Z = true) : (Jvm.Cond.methodLink "com/example/coarsefine/coarsefine/ccs/BcdWritePinLaw" (62 : Nat) ({ cls := "com/example/coarsefine/coarsefine/ccs/BcdWritePinLaw", name := "check", desc := "([BIIIB[JJ)Z" } : Jvm.MethodName)).before a0 Z = true := hw _ (List.mem_of_getElem? (i := 28) rfl)
theorem wd_29 {Z : State} {a0 : Array Value} (hw : ∀ d ∈ tables_1, d.before a0 Z = true) : (Jvm.Cond.static ({ cls := "com/example/coarsefine/coarsefine/ccs/BcdWritePinLaw", name := "check", desc := "([BIIIB[JJ)Z" } : Jvm.MethodName)).before a0 Z = true := hw _ (List.mem_of_getElem? (i := 29) rfl)
theorem wd_30 {Z : State} {a0 : Array Value} (hw : ∀ d ∈ tables_1, d.before a0 Z = true) : (Jvm.Cond.initialized "com/example/coarsefine/coarsefine/ccs/BcdWritePinLaw").before a0 Z = true := hw _ (List.mem_of_getElem? (i := 30) rfl)
theorem wd_31 {Z : State} {a0 : Array Value} (hw : ∀ d ∈ tables_1, d.before a0 Z = true) : (Jvm.Cond.code ({ cls := "com/example/coarsefine/coarsefine/ccs/BcdWritePinLaw", name := "check", desc := "([BIIIB[JJ)Z" } : Jvm.MethodName) method_3_code (14 : Nat) (Option.some Jvm.ClassFile.FieldType.boolean)).before a0 Z = true := hw _ (List.mem_of_getElem? (i := 31) rfl)
theorem wd_32 {Z : State} {a0 : Array Value} (hw : ∀ d ∈ tables_1, d.before a0 Z = true) : (Jvm.Cond.methodLink "com/example/coarsefine/coarsefine/ccs/BcdWritePinLaw" (9 : Nat) ({ cls := "com/example/coarsefine/coarsefine/ccs/BcdWritePinLaw", name := "digit", desc := "([JJI)J" } : Jvm.MethodName)).before a0 Z = true := hw _ (List.mem_of_getElem? (i := 32) rfl)
theorem wd_33 {Z : State} {a0 : Array Value} (hw : ∀ d ∈ tables_1, d.before a0 Z = true) : (Jvm.Cond.static ({ cls := "com/example/coarsefine/coarsefine/ccs/BcdWritePinLaw", name := "digit", desc := "([JJI)J" } : Jvm.MethodName)).before a0 Z = true := hw _ (List.mem_of_getElem? (i := 33) rfl)
theorem wd_34 {Z : State} {a0 : Array Value} (hw : ∀ d ∈ tables_1, d.before a0 Z = true) : (Jvm.Cond.code ({ cls := "com/example/coarsefine/coarsefine/ccs/BcdWritePinLaw", name := "digit", desc := "([JJI)J" } : Jvm.MethodName) method_2_code (4 : Nat) (Option.some Jvm.ClassFile.FieldType.long)).before a0 Z = true := hw _ (List.mem_of_getElem? (i := 34) rfl)
theorem wd_35 {Z : State} {a0 : Array Value} (hw : ∀ d ∈ tables_1, d.before a0 Z = true) : (Jvm.Cond.constantLong "com/example/coarsefine/coarsefine/ccs/BcdWritePinLaw" (15 : Nat) (16 : Int64)).before a0 Z = true := hw _ (List.mem_of_getElem? (i := 35) rfl)
theorem d1_0 : decode prog_20_method_3_code 0 = .ok (.lload_n 0, 1) := by decide +kernel
theorem d1_1 : decode prog_20_method_3_code 1 = .ok (.lstore 5, 2) := by decide +kernel
theorem d1_11 : decode prog_20_method_3_code 11 = .ok (.iload 7, 2) := by decide +kernel
theorem d1_13 : decode prog_20_method_3_code 13 = .ok (.iload_n 3, 1) := by decide +kernel
theorem d1_14 : decode prog_20_method_3_code 14 = .ok (.if_icmp .lt 42, 3) := by decide +kernel
theorem d1_17 : decode prog_20_method_3_code 17 = .ok (.aload_n 2, 1) := by decide +kernel
theorem d1_18 : decode prog_20_method_3_code 18 = .ok (.iload 7, 2) := by decide +kernel
theorem d1_20 : decode prog_20_method_3_code 20 = .ok (.lload 5, 2) := by decide +kernel
theorem d1_22 : decode prog_20_method_3_code 22 = .ok (.ldc2_w 31, 3) := by decide +kernel
theorem d1_25 : decode prog_20_method_3_code 25 = .ok (.ldiv, 1) := by decide +kernel
theorem d1_26 : decode prog_20_method_3_code 26 = .ok (.ldc2_w 31, 3) := by decide +kernel
theorem d1_29 : decode prog_20_method_3_code 29 = .ok (.lrem, 1) := by decide +kernel
theorem d1_3 : decode prog_20_method_3_code 3 = .ok (.iload_n 3, 1) := by decide +kernel
theorem d1_30 : decode prog_20_method_3_code 30 = .ok (.iconst 4, 1) := by decide +kernel
theorem d1_31 : decode prog_20_method_3_code 31 = .ok (.lshl, 1) := by decide +kernel
theorem d1_32 : decode prog_20_method_3_code 32 = .ok (.lload 5, 2) := by decide +kernel
theorem d1_34 : decode prog_20_method_3_code 34 = .ok (.ldc2_w 31, 3) := by decide +kernel
theorem d1_37 : decode prog_20_method_3_code 37 = .ok (.lrem, 1) := by decide +kernel
theorem d1_38 : decode prog_20_method_3_code 38 = .ok (.lor, 1) := by decide +kernel
theorem d1_39 : decode prog_20_method_3_code 39 = .ok (.l2i, 1) := by decide +kernel
theorem d1_4 : decode prog_20_method_3_code 4 = .ok (.iload 4, 2) := by decide +kernel
theorem d1_40 : decode prog_20_method_3_code 40 = .ok (.i2b, 1) := by decide +kernel
theorem d1_41 : decode prog_20_method_3_code 41 = .ok (.bastore, 1) := by decide +kernel
theorem d1_42 : decode prog_20_method_3_code 42 = .ok (.lload 5, 2) := by decide +kernel
theorem d1_44 : decode prog_20_method_3_code 44 = .ok (.ldc2_w 29, 3) := by decide +kernel
theorem d1_47 : decode prog_20_method_3_code 47 = .ok (.ldiv, 1) := by decide +kernel
theorem d1_48 : decode prog_20_method_3_code 48 = .ok (.lstore 5, 2) := by decide +kernel
theorem d1_50 : decode prog_20_method_3_code 50 = .ok (.iinc 7 (-1), 3) := by decide +kernel
theorem d1_53 : decode prog_20_method_3_code 53 = .ok (.goto (-42), 3) := by decide +kernel
theorem d1_56 : decode prog_20_method_3_code 56 = .ok (.return_, 1) := by decide +kernel
theorem d1_6 : decode prog_20_method_3_code 6 = .ok (.iadd, 1) := by decide +kernel
theorem d1_7 : decode prog_20_method_3_code 7 = .ok (.iconst 1, 1) := by decide +kernel
theorem d1_8 : decode prog_20_method_3_code 8 = .ok (.isub, 1) := by decide +kernel
theorem d1_9 : decode prog_20_method_3_code 9 = .ok (.istore 7, 2) := by decide +kernel
theorem d2_0 : decode method_3_code 0 = .ok (.iload_n 1, 1) := by decide +kernel
theorem d2_1 : decode method_3_code 1 = .ok (.iload_n 2, 1) := by decide +kernel
theorem d2_12 : decode method_3_code 12 = .ok (.aload_n 0, 1) := by decide +kernel
theorem d2_13 : decode method_3_code 13 = .ok (.iload_n 1, 1) := by decide +kernel
theorem d2_14 : decode method_3_code 14 = .ok (.baload, 1) := by decide +kernel
theorem d2_15 : decode method_3_code 15 = .ok (.iload 4, 2) := by decide +kernel
theorem d2_17 : decode method_3_code 17 = .ok (.if_icmp .ne 7, 3) := by decide +kernel
theorem d2_2 : decode method_3_code 2 = .ok (.if_icmp .lt 10, 3) := by decide +kernel
theorem d2_20 : decode method_3_code 20 = .ok (.iconst 1, 1) := by decide +kernel
theorem d2_21 : decode method_3_code 21 = .ok (.goto 4, 3) := by decide +kernel
theorem d2_24 : decode method_3_code 24 = .ok (.iconst 0, 1) := by decide +kernel
theorem d2_25 : decode method_3_code 25 = .ok (.ireturn, 1) := by decide +kernel
theorem d2_26 : decode method_3_code 26 = .ok (.iload_n 2, 1) := by decide +kernel
theorem d2_27 : decode method_3_code 27 = .ok (.iload_n 3, 1) := by decide +kernel
theorem d2_28 : decode method_3_code 28 = .ok (.iadd, 1) := by decide +kernel
theorem d2_29 : decode method_3_code 29 = .ok (.iconst 1, 1) := by decide +kernel
theorem d2_30 : decode method_3_code 30 = .ok (.isub, 1) := by decide +kernel
theorem d2_31 : decode method_3_code 31 = .ok (.iload_n 1, 1) := by decide +kernel
theorem d2_32 : decode method_3_code 32 = .ok (.isub, 1) := by decide +kernel
theorem d2_33 : decode method_3_code 33 = .ok (.istore 8, 2) := by decide +kernel
theorem d2_35 : decode method_3_code 35 = .ok (.aload 5, 2) := by decide +kernel
theorem d2_37 : decode method_3_code 37 = .ok (.lload 6, 2) := by decide +kernel
theorem d2_39 : decode method_3_code 39 = .ok (.iconst 2, 1) := by decide +kernel
theorem d2_40 : decode method_3_code 40 = .ok (.iload 8, 2) := by decide +kernel
theorem d2_42 : decode method_3_code 42 = .ok (.imul, 1) := by decide +kernel
theorem d2_43 : decode method_3_code 43 = .ok (.iconst 1, 1) := by decide +kernel
theorem d2_44 : decode method_3_code 44 = .ok (.iadd, 1) := by decide +kernel
theorem d2_45 : decode method_3_code 45 = .ok (.invokestatic 9, 3) := by decide +kernel
theorem d2_48 : decode method_3_code 48 = .ok (.lstore 9, 2) := by decide +kernel
theorem d2_5 : decode method_3_code 5 = .ok (.iload_n 1, 1) := by decide +kernel
theorem d2_50 : decode method_3_code 50 = .ok (.aload 5, 2) := by decide +kernel
theorem d2_52 : decode method_3_code 52 = .ok (.lload 6, 2) := by decide +kernel
theorem d2_54 : decode method_3_code 54 = .ok (.iconst 2, 1) := by decide +kernel
theorem d2_55 : decode method_3_code 55 = .ok (.iload 8, 2) := by decide +kernel
theorem d2_57 : decode method_3_code 57 = .ok (.imul, 1) := by decide +kernel
theorem d2_58 : decode method_3_code 58 = .ok (.invokestatic 9, 3) := by decide +kernel
theorem d2_6 : decode method_3_code 6 = .ok (.iload_n 2, 1) := by decide +kernel
theorem d2_61 : decode method_3_code 61 = .ok (.lstore 11, 2) := by decide +kernel
theorem d2_63 : decode method_3_code 63 = .ok (.lload 9, 2) := by decide +kernel
theorem d2_65 : decode method_3_code 65 = .ok (.ldc2_w 15, 3) := by decide +kernel
theorem d2_68 : decode method_3_code 68 = .ok (.lmul, 1) := by decide +kernel
theorem d2_69 : decode method_3_code 69 = .ok (.lload 11, 2) := by decide +kernel
theorem d2_7 : decode method_3_code 7 = .ok (.iload_n 3, 1) := by decide +kernel
theorem d2_71 : decode method_3_code 71 = .ok (.ladd, 1) := by decide +kernel
theorem d2_72 : decode method_3_code 72 = .ok (.l2i, 1) := by decide +kernel
theorem d2_73 : decode method_3_code 73 = .ok (.istore 13, 2) := by decide +kernel
theorem d2_75 : decode method_3_code 75 = .ok (.aload_n 0, 1) := by decide +kernel
theorem d2_76 : decode method_3_code 76 = .ok (.iload_n 1, 1) := by decide +kernel
theorem d2_77 : decode method_3_code 77 = .ok (.baload, 1) := by decide +kernel
theorem d2_78 : decode method_3_code 78 = .ok (.iload 13, 2) := by decide +kernel
theorem d2_8 : decode method_3_code 8 = .ok (.iadd, 1) := by decide +kernel
theorem d2_80 : decode method_3_code 80 = .ok (.i2b, 1) := by decide +kernel
theorem d2_81 : decode method_3_code 81 = .ok (.if_icmp .ne 7, 3) := by decide +kernel
theorem d2_84 : decode method_3_code 84 = .ok (.iconst 1, 1) := by decide +kernel
theorem d2_85 : decode method_3_code 85 = .ok (.goto 4, 3) := by decide +kernel
theorem d2_88 : decode method_3_code 88 = .ok (.iconst 0, 1) := by decide +kernel
theorem d2_89 : decode method_3_code 89 = .ok (.ireturn, 1) := by decide +kernel
theorem d2_9 : decode method_3_code 9 = .ok (.if_icmp .lt 17, 3) := by decide +kernel
theorem d3_0 : decode method_2_code 0 = .ok (.lload_n 1, 1) := by decide +kernel
theorem d3_1 : decode method_2_code 1 = .ok (.aload_n 0, 1) := by decide +kernel
theorem d3_2 : decode method_2_code 2 = .ok (.iload_n 3, 1) := by decide +kernel
theorem d3_3 : decode method_2_code 3 = .ok (.laload, 1) := by decide +kernel
theorem d3_4 : decode method_2_code 4 = .ok (.ldiv, 1) := by decide +kernel
theorem d3_5 : decode method_2_code 5 = .ok (.ldc2_w 7, 3) := by decide +kernel
theorem d3_8 : decode method_2_code 8 = .ok (.lrem, 1) := by decide +kernel
theorem d3_9 : decode method_2_code 9 = .ok (.lreturn, 1) := by decide +kernel
theorem pd_lJaBIIrV : parseMethodDescriptor "(J[BII)V" = some ⟨[.long, (.array .byte), .int, .int], none⟩ := by decide +kernel
theorem pd_laBIIIBaJJrZ : parseMethodDescriptor "([BIIIB[JJ)Z" = some ⟨[(.array .byte), .int, .int, .int, .byte, (.array .long), .long], some .boolean⟩ := by decide +kernel
theorem pd_laJJIrJ : parseMethodDescriptor "([JJI)J" = some ⟨[(.array .long), .long, .int], some .long⟩ := by decide +kernel
theorem pn_0 : plainFor x = true := plainFor_of_name (show plainName "com/example/coarsefine/coarsefine/ccs/BcdWritePinLaw" = true by first | (simp [plainName, overriddenIn]; done) | decide +kernel)
theorem pn_1 : plainFor (⟨"com/example/coarsefine/coarsefine/ccs/Bcd", "write", "(J[BII)V"⟩ : MethodName) = true := plainFor_of_name (show plainName "com/example/coarsefine/coarsefine/ccs/Bcd" = true by first | (simp [plainName, overriddenIn]; done) | decide +kernel)
theorem pn_2 : plainFor (⟨"com/example/coarsefine/coarsefine/ccs/BcdWritePinLaw", "check", "([BIIIB[JJ)Z"⟩ : MethodName) = true := plainFor_of_name (show plainName "com/example/coarsefine/coarsefine/ccs/BcdWritePinLaw" = true by first | (simp [plainName, overriddenIn]; done) | decide +kernel)
theorem pn_3 : plainFor (⟨"com/example/coarsefine/coarsefine/ccs/BcdWritePinLaw", "digit", "([JJI)J"⟩ : MethodName) = true := plainFor_of_name (show plainName "com/example/coarsefine/coarsefine/ccs/BcdWritePinLaw" = true by first | (simp [plainName, overriddenIn]; done) | decide +kernel)
theorem own_lt {i n : Nat} (h : i < n) (hn : n < 2147483648) : Int32.ofNat i < Int32.ofNat n := by
  rw [Int32.lt_iff_toInt_lt, Int32.toInt_ofNat_of_lt (by omega), Int32.toInt_ofNat_of_lt (by omega)]
  omega
theorem own_nn {n : Nat} (hn : n < 2147483648) : ¬ Int32.ofNat n < 0 := by
  rw [Int32.lt_iff_toInt_lt, Int32.toInt_ofNat_of_lt (by omega), show (0 : Int32).toInt = 0 from rfl]
  omega
theorem own_n32 {n : Nat} (hn : n < 2147483648) : (Int32.ofNat n).toNatClampNeg = n := by
  rw [Int32.toNatClampNeg, Int32.toInt_ofNat_of_lt (by omega)]; rfl
theorem own_one (i : Nat) : Int32.ofNat i + (1 : Int32) = Int32.ofNat (i + 1) := (Int32.ofNat_add i 1).symm
theorem own_hd {xs ys : List Int32} {y : Int32} {i : Nat} (h : xs.drop i = y :: ys) : xs.getD i 0 = y := by
  have q : xs[i]? = some y := by have := congrArg (fun l => l[0]?) h; simpa [List.getElem?_drop] using this
  rw [List.getD_eq_getElem?_getD, q]; rfl
theorem own_tl {xs ys : List Int32} {y : Int32} {i : Nat} (h : xs.drop i = y :: ys) : xs.drop (i + 1) = ys := by
  have := congrArg (List.drop 1) h; simpa [List.drop_drop] using this
def own_ps : List Int64 := [(1 : Int64), (10 : Int64), (100 : Int64), (1000 : Int64), (10000 : Int64), (100000 : Int64), (1000000 : Int64), (10000000 : Int64), (100000000 : Int64), (1000000000 : Int64), (10000000000 : Int64), (100000000000 : Int64), (1000000000000 : Int64), (10000000000000 : Int64), (100000000000000 : Int64), (1000000000000000 : Int64), (10000000000000000 : Int64), (100000000000000000 : Int64), (1000000000000000000 : Int64)]
theorem own_psF : ∀ i : Fin 19, own_ps.getD i.1 0 ≠ 0 := by decide +kernel
theorem own_psnz {j : Int32} (h : ¬ j < 0 ∧ j < (19 : Int32)) : own_ps.getD j.toNatClampNeg 0 ≠ 0 := own_psF ⟨j.toNatClampNeg, by
  obtain ⟨h1, h2⟩ := h
  rw [Int32.lt_iff_toInt_lt] at h1 h2
  have e0 : (0 : Int32).toInt = 0 := rfl
  have e1 : (19 : Int32).toInt = 19 := rfl
  simp only [Int32.toNatClampNeg]; omega⟩
theorem own_pred (n : Nat) : Int32.ofNat (n + 1) + (-1 : Int32) = Int32.ofNat n := by
  rw [← own_one, Int32.add_assoc, show (1 : Int32) + (-1) = 0 from rfl, Int32.add_zero]
theorem own_subone (x : Int32) : x - (1 : Int32) = x + (-1 : Int32) := by rw [Int32.sub_eq_add_neg]
theorem own_pl {n : Nat} (h : n < 2147483648) : Int32.ofNat n + (-1 : Int32) < Int32.ofNat n := by
  have e1 := c_iadd (Int32.ofNat n) (-1)
  have e2 : (Int32.ofNat n).toInt = n := Int32.toInt_ofNat_of_lt (by omega)
  have r := rng32 (Int32.ofNat n + (-1 : Int32))
  rw [Int32.lt_iff_toInt_lt]
  rw [show (-1 : Int32).toInt = -1 from rfl] at e1
  omega
theorem own_nle {i n : Nat} (h : n ≤ i) (hn : i < 2147483648) : ¬ Int32.ofNat i < Int32.ofNat n := by
  rw [Int32.lt_iff_toInt_lt, Int32.toInt_ofNat_of_lt (by omega), Int32.toInt_ofNat_of_lt (by omega)]
  omega
theorem ef_1 (m : MethodId) (y0 : Int64) (y1 : Addr) (y2 : Int32) (y3 : Int32) : entryFrame m #[(.long y0), (.ref y1), (.int y2), (.int y3)] 8 = mkF m 0 #[.val (.long y0), .second, .val (.ref y1), .val (.int y2), .val (.int y3), .unset, .unset, .unset] [] := by first | (simp [entryFrame, mkF, argsToLocals, Value.category]; done) | rfl
def own_wr (O : Nat) : Nat → Int64 → List Int32 → List Int32
  | 0, _, ys => ys
  | k + 1, q, ys => own_wr O k (q / (100 : Int64)) (ys.set (O + k) (nar .byte ((((((q / (10 : Int64)) % (10 : Int64)) <<< ((4 : Int32) &&& 0x3f).toInt64) ||| (q % (10 : Int64))).toInt32).toInt8.toInt32)))
def Qw1 (Z : State) (n0 : Nat) (h0 : Heap) (r1 : Addr) (ka : ClassId) (N : Nat) (zs : List Int32) (v : Option Value) (h : Heap) (L : List Loc) : Prop := v = none ∧ Fr n0 L ∧ Keep h0 h [r1] ∧ Arv Z h r1 ka .byte (Int32.ofNat N) (zs.map Value.int) (.int 0)
set_option maxRecDepth 65536 in
set_option maxHeartbeats 40000000 in
theorem rm1 (l : Launch) (Z : State) (a0 : Array Value) (hw : ∀ d ∈ tables_1, d.before a0 Z = true) (q0 : Int64) (r1 : Addr) (O Ln N : Nat) (ka : ClassId) (xs : List Int32) (h0 : Heap) (n0 : Nat) (Z0 : n0 ≤ h0.size) (ga : n0 ≤ r1) (hN : N < 2147483648) (hOL : O + Ln ≤ N) (hlen : xs.length = N) (A0 : Arv Z h0 r1 ka .byte (Int32.ofNat N) (xs.map Value.int) (.int 0)) : MetP l (⟨"com/example/coarsefine/coarsefine/ccs/Bcd", "write", "(J[BII)V"⟩ : MethodName) prog_20_method_3_code 8 none [] ({ frames := 0, cells := 0, slots := 0, locals := 0 } : Room) Z #[(.long q0), (.ref r1), (.int (Int32.ofNat O)), (.int (Int32.ofNat Ln))] h0 (Qw1 Z n0 h0 r1 ka N (own_wr O Ln q0 xs)) := by
  refine met_go pn_1 ?_
  intro p e s m below meth c s₁ hx hby hml hown hnm hret hlk hZ e0 X0
  have N0 := Fr.nil n0
  have K0 : Keep h0 h0 [r1] := Keep.refl _ _
  rw [ef_1 m q0 r1 (Int32.ofNat O) (Int32.ofNat Ln)]
  refine o_lloadN 1 X0 hx rfl (hb hby d1_0) rfl ?_
  refine o_lstore 3 X0 hx rfl (hb hby d1_1) #[.val (.long q0), .second, .val (.ref r1), .val (.int (Int32.ofNat O)), .val (.int (Int32.ofNat Ln)), .val (.long q0), .second, .unset] rfl ?_
  refine o_iloadN 4 X0 hx rfl (hb hby d1_3) rfl ?_
  refine o_iload 6 X0 hx rfl (hb hby d1_4) rfl ?_
  refine o_iadd 7 X0 hx rfl (hb hby d1_6) ?_
  refine o_iconst 8 X0 hx rfl (hb hby d1_7) (1 : Int32) rfl ?_
  refine o_isub 9 X0 hx rfl (hb hby d1_8) ?_
  rw [← Int32.ofNat_add, own_subone]
  refine o_istore 11 X0 hx rfl (hb hby d1_9) #[.val (.long q0), .second, .val (.ref r1), .val (.int (Int32.ofNat O)), .val (.int (Int32.ofNat Ln)), .val (.long q0), .second, .val (.int ((Int32.ofNat (O + Ln)) + (-1 : Int32)))] rfl ?_
  suffices loop : ∀ (k : Nat) (ys : List Int32) (q : Int64) (T : State) (h : Heap) (Lc : List Loc), Stand p l e ({ frames := 0, cells := 0, slots := 0, locals := 0 } : Room) s m #[(.long q0), (.ref r1), (.int (Int32.ofNat O)), (.int (Int32.ofNat Ln))] below meth c T Lc 0 0 → Fr n0 Lc → T.heap = h → Keep h0 h [r1] → n0 ≤ h.size → ys.length = N → Arv Z h r1 ka .byte (Int32.ofNat N) (ys.map Value.int) (.int 0) → k ≤ Ln → own_wr O k q ys = own_wr O Ln q0 xs → Go p.tables e below (EndE s ({ frames := 0, cells := 0, slots := 0, locals := 0 } : Room) (Qw1 Z n0 h0 r1 ka N (own_wr O Ln q0 xs))) (T.setTop (mkF m 11 #[.val (.long q0), .second, .val (.ref r1), .val (.int (Int32.ofNat O)), .val (.int (Int32.ofNat Ln)), .val (.long q), .second, .val (.int ((Int32.ofNat (O + k)) + (-1 : Int32)))] [])) by
    exact loop Ln xs q0 s₁ h0 [] X0 N0 e0 K0 Z0 hlen A0 (Nat.le_refl _) rfl
  intro k
  induction k with
  | zero =>
    intro ys q T h Lc X Nf eh K sz hyl Ay hk hval
    refine o_iload 13 X hx rfl (hb hby d1_11) rfl ?_
    refine o_iloadN 14 X hx rfl (hb hby d1_13) rfl ?_
    refine o_icmpYes 56 X hx (hb hby d1_14) (tlt (own_pl (by omega))).1 (by decide) (by decide) ?_
    refine o_retV X hx hret hlk (hb hby d1_56) (by decide) (by decide) ?_
    rw [eh]
    exact ⟨rfl, Nf, K, by rw [← hval]; exact Ay⟩
  | succ k ih =>
    intro ys q T h Lc X Nf eh K sz hyl Ay hk hval
    rw [show O + (k + 1) = (O + k) + 1 from rfl, own_pred]
    have hO : O + k < N := by omega
    have hO2 : O + k < 2147483648 := by omega
    refine o_iload 13 X hx rfl (hb hby d1_11) rfl ?_
    refine o_iloadN 14 X hx rfl (hb hby d1_13) rfl ?_
    refine o_icmpNo 17 X hx rfl (hb hby d1_14) (flt (own_nle (by omega) hO2)).1 ?_
    refine o_aloadN 18 X hx rfl (hb hby d1_17) rfl rfl ?_
    refine o_iload 20 X hx rfl (hb hby d1_18) rfl ?_
    refine o_lload 22 X hx rfl (hb hby d1_20) rfl ?_
    refine o_ldc2Long 25 X hx rfl hZ hown (wd_26 hw) (hb hby d1_22) ?_
    refine o_ldiv 26 X hx rfl (hb hby d1_25) (by decide) ?_
    refine o_ldc2Long 29 X hx rfl hZ hown (wd_26 hw) (hb hby d1_26) ?_
    refine o_lrem 30 X hx rfl (hb hby d1_29) (by decide) ?_
    refine o_iconst 31 X hx rfl (hb hby d1_30) (4 : Int32) rfl ?_
    refine o_lshl 32 X hx rfl (hb hby d1_31) ?_
    refine o_lload 34 X hx rfl (hb hby d1_32) rfl ?_
    refine o_ldc2Long 37 X hx rfl hZ hown (wd_26 hw) (hb hby d1_34) ?_
    refine o_lrem 38 X hx rfl (hb hby d1_37) (by decide) ?_
    refine o_lor 39 X hx rfl (hb hby d1_38) ?_
    refine o_l2i 40 X hx rfl (hb hby d1_39) ?_
    refine o_i2b 41 X hx rfl (hb hby d1_40) ?_
    refine o_bastoreBX 42 X hx rfl hZ eh Ay ⟨own_nn hO2, own_lt hO hN⟩ (by rw [own_n32 hO2]; omega) ((ys.set (O + k) (nar .byte ((((((q / (10 : Int64)) % (10 : Int64)) <<< ((4 : Int32) &&& 0x3f).toInt64) ||| (q % (10 : Int64))).toInt32).toInt8.toInt32)))) (by rw [own_n32 hO2]) Nf ga (hb hby d1_41) fun T1 h1 L1 X1 N1 e1 W1 A1 => ?_
    have sz2 : n0 ≤ h1.size := Nat.le_trans sz (Keep.of_wr W1).1
    have K3 : Keep h0 h1 [r1] := K.wr W1 (Or.inl (by simp))
    refine o_lload 44 X1 hx rfl (hb hby d1_42) rfl ?_
    refine o_ldc2Long 47 X1 hx rfl hZ hown (wd_27 hw) (hb hby d1_44) ?_
    refine o_ldiv 48 X1 hx rfl (hb hby d1_47) (by decide) ?_
    refine o_lstore 50 X1 hx rfl (hb hby d1_48) #[.val (.long q0), .second, .val (.ref r1), .val (.int (Int32.ofNat O)), .val (.int (Int32.ofNat Ln)), .val (.long (q / (100 : Int64))), .second, .val (.int (Int32.ofNat (O + k)))] rfl ?_
    refine o_iinc 53 X1 hx rfl (hb hby d1_50) (-1 : Int32) rfl rfl #[.val (.long q0), .second, .val (.ref r1), .val (.int (Int32.ofNat O)), .val (.int (Int32.ofNat Ln)), .val (.long (q / (100 : Int64))), .second, .val (.int ((Int32.ofNat (O + k)) + (-1 : Int32)))] rfl ?_
    refine o_goto 11 X1 hx (hb hby d1_53) (by decide) (by decide) ?_
    exact ih _ _ _ _ _ X1 N1 e1 K3 sz2 (by rw [List.length_set]; exact hyl) A1 (by omega) (by rw [← hval]; rfl)
theorem ef_3 (m : MethodId) (y0 : Addr) (y1 : Int64) (y2 : Int32) : entryFrame m #[(.ref y0), (.long y1), (.int y2)] 4 = mkF m 0 #[.val (.ref y0), .val (.long y1), .second, .val (.int y2)] [] := by first | (simp [entryFrame, mkF, argsToLocals, Value.category]; done) | rfl
def fn3 (q1 : Int64) (i2 : Int32) : Int64 := ((q1 / (own_ps.getD i2.toNatClampNeg 0)) % (10 : Int64))
set_option maxRecDepth 65536 in
set_option maxHeartbeats 40000000 in
theorem rm3 (l : Launch) (Z : State) (a0 : Array Value) (hw : ∀ d ∈ tables_1, d.before a0 Z = true) (r0 : Addr) (q1 : Int64) (i2 : Int32) (kown_ps : ClassId) (h0 : Heap) (Aown_ps : Arv Z h0 r0 kown_ps .long (19 : Int32) (own_ps.map Value.long) (.long 0)) (hi : ¬ i2 < 0 ∧ i2 < (19 : Int32)) : MetP l (⟨"com/example/coarsefine/coarsefine/ccs/BcdWritePinLaw", "digit", "([JJI)J"⟩ : MethodName) method_2_code 4 (some .long) [] ({ frames := 0, cells := 0, slots := 0, locals := 0 } : Room) Z #[(.ref r0), (.long q1), (.int i2)] h0 (Pure (.long (fn3 q1 i2)) h0) := by
  refine met_go pn_3 ?_
  intro p e s m below meth c s₁ hx hby hml hown hnm hret hlk hZ e0 X0
  rw [ef_3 m r0 q1 i2]
  refine o_lloadN 1 X0 hx rfl (hb hby d3_0) rfl ?_
  refine o_aloadN 2 X0 hx rfl (hb hby d3_1) rfl rfl ?_
  refine o_iloadN 3 X0 hx rfl (hb hby d3_2) rfl ?_
  refine o_laloadX 4 X0 hx rfl hZ e0 Aown_ps hi (hb hby d3_3) (own_ps.getD i2.toNatClampNeg 0) rfl ?_
  refine o_ldiv 5 X0 hx rfl (hb hby d3_4) (own_psnz hi) ?_
  refine o_ldc2Long 8 X0 hx rfl hZ hown (wd_1 hw) (hb hby d3_5) ?_
  refine o_lrem 9 X0 hx rfl (hb hby d3_8) (by decide) ?_
  refine o_retJ X0 hx hret hlk (hb hby d3_9) (by decide) (by decide) ?_
  exact ⟨show some (Value.long ((q1 / (own_ps.getD i2.toNatClampNeg 0)) % (10 : Int64))) = some (Value.long (fn3 q1 i2)) from by rw [show (fn3 q1 i2) = ((q1 / (own_ps.getD i2.toNatClampNeg 0)) % (10 : Int64)) from by rfl], rfl, e0⟩
theorem ef_2 (m : MethodId) (y0 : Addr) (y1 : Int32) (y2 : Int32) (y3 : Int32) (y4 : Int32) (y5 : Addr) (y6 : Int64) : entryFrame m #[(.ref y0), (.int y1), (.int y2), (.int y3), (.int y4), (.ref y5), (.long y6)] 14 = mkF m 0 #[.val (.ref y0), .val (.int y1), .val (.int y2), .val (.int y3), .val (.int y4), .val (.ref y5), .val (.long y6), .second, .unset, .unset, .unset, .unset, .unset, .unset] [] := by first | (simp [entryFrame, mkF, argsToLocals, Value.category]; done) | rfl
def f2_25_s0 (i1 : Int32) (i4 : Int32) (xs : List Int32) : Int32 := (if (xs.getD i1.toNatClampNeg 0) = i4 then (1 : Int32) else (0 : Int32))
def f2_89_s0 (i1 : Int32) (i2 : Int32) (i3 : Int32) (q6 : Int64) (xs : List Int32) : Int32 := (if (xs.getD i1.toNatClampNeg 0) = (((((fn3 q6 (((2 : Int32) * (((i2 + i3) - (1 : Int32)) - i1)) + (1 : Int32))) * (16 : Int64)) + (fn3 q6 ((2 : Int32) * (((i2 + i3) - (1 : Int32)) - i1)))).toInt32).toInt8.toInt32) then (1 : Int32) else (0 : Int32))
def f2_25_s0' (i1 : Int32) (i4 : Int32) (xs : List Int32) : Int32 := (if (xs.getD i1.toNatClampNeg 0) = i4 then (1 : Int32) else (0 : Int32))
def fn2 (i1 : Int32) (i2 : Int32) (i3 : Int32) (i4 : Int32) (q6 : Int64) (xs : List Int32) : Int32 := (if i1 < i2 then (nar .boolean (f2_25_s0 i1 i4 xs)) else (if i1 < (i2 + i3) then (nar .boolean (f2_89_s0 i1 i2 i3 q6 xs)) else (nar .boolean (f2_25_s0' i1 i4 xs))))
set_option maxRecDepth 65536 in
set_option maxHeartbeats 40000000 in
theorem rm2 (l : Launch) (Z : State) (a0 : Array Value) (hw : ∀ d ∈ tables_1, d.before a0 Z = true) (r0 : Addr) (i1 : Int32) (i2 : Int32) (i3 : Int32) (i4 : Int32) (r5 : Addr) (q6 : Int64) (kxs : ClassId) (xs : List Int32) (kown_ps : ClassId) (h0 : Heap) (Axs : Arv Z h0 r0 kxs .byte (12 : Int32) (xs.map Value.int) (.int 0)) (Aown_ps : Arv Z h0 r5 kown_ps .long (19 : Int32) (own_ps.map Value.long) (.long 0)) (hi : ¬ i1 < 0 ∧ i1 < (12 : Int32)) (hk : ¬ i1 < i2 → i1 < (i2 + i3) → (¬ (((2 : Int32) * (((i2 + i3) - (1 : Int32)) - i1)) + (1 : Int32)) < 0 ∧ (((2 : Int32) * (((i2 + i3) - (1 : Int32)) - i1)) + (1 : Int32)) < (19 : Int32)) ∧ (¬ ((2 : Int32) * (((i2 + i3) - (1 : Int32)) - i1)) < 0 ∧ ((2 : Int32) * (((i2 + i3) - (1 : Int32)) - i1)) < (19 : Int32))) : MetP l (⟨"com/example/coarsefine/coarsefine/ccs/BcdWritePinLaw", "check", "([BIIIB[JJ)Z"⟩ : MethodName) method_3_code 14 (some .boolean) [] ({ frames := 1, cells := 0, slots := 0, locals := 15 } : Room) Z #[(.ref r0), (.int i1), (.int i2), (.int i3), (.int i4), (.ref r5), (.long q6)] h0 (Pure (.int (fn2 i1 i2 i3 i4 q6 xs)) h0) := by
  refine met_go pn_2 ?_
  intro p e s m below meth c s₁ hx hby hml hown hnm hret hlk hZ e0 X0
  rw [ef_2 m r0 i1 i2 i3 i4 r5 q6]
  refine o_iloadN 1 X0 hx rfl (hb hby d2_0) rfl ?_
  refine o_iloadN 2 X0 hx rfl (hb hby d2_1) rfl ?_
  by_cases hc2_1 : i1 < i2
  · refine o_icmpYes 12 X0 hx (hb hby d2_2) (tlt hc2_1).1 (by decide) (by decide) ?_
    refine o_aloadN 13 X0 hx rfl (hb hby d2_12) rfl rfl ?_
    refine o_iloadN 14 X0 hx rfl (hb hby d2_13) rfl ?_
    refine o_baloadBX 15 X0 hx rfl hZ e0 Axs hi (hb hby d2_14) (xs.getD i1.toNatClampNeg 0) rfl ?_
    refine o_iload 17 X0 hx rfl (hb hby d2_15) rfl ?_
    suffices j25_2 : Go p.tables e below (EndE s ({ frames := 1, cells := 0, slots := 0, locals := 15 } : Room) (Pure (.int (fn2 i1 i2 i3 i4 q6 xs)) h0)) (s₁.setTop (mkF m 25 #[.val (.ref r0), .val (.int i1), .val (.int i2), .val (.int i3), .val (.int i4), .val (.ref r5), .val (.long q6), .second, .unset, .unset, .unset, .unset, .unset, .unset] [(.int (f2_25_s0 i1 i4 xs))])) by
      by_cases hc17_3 : (xs.getD i1.toNatClampNeg 0) = i4
      · refine o_icmpNo 20 X0 hx rfl (hb hby d2_17) (teq hc17_3).2 ?_
        refine o_iconst 21 X0 hx rfl (hb hby d2_20) (1 : Int32) rfl ?_
        refine o_goto 25 X0 hx (hb hby d2_21) (by decide) (by decide) ?_
        rw [show (f2_25_s0 i1 i4 xs) = (1 : Int32) from by unfold f2_25_s0; simp only [if_pos hc17_3]] at j25_2
        exact j25_2
      · refine o_icmpYes 24 X0 hx (hb hby d2_17) (feq hc17_3).2 (by decide) (by decide) ?_
        refine o_iconst 25 X0 hx rfl (hb hby d2_24) (0 : Int32) rfl ?_
        rw [show (f2_25_s0 i1 i4 xs) = (0 : Int32) from by unfold f2_25_s0; simp only [if_neg hc17_3]] at j25_2
        exact j25_2
    refine o_retN X0 hx .boolean (by simp) hret hlk (hb hby d2_25) (by decide) (by decide) ?_
    exact ⟨show some (Value.int (nar .boolean (f2_25_s0 i1 i4 xs))) = some (Value.int (fn2 i1 i2 i3 i4 q6 xs)) from by rw [show (fn2 i1 i2 i3 i4 q6 xs) = (nar .boolean (f2_25_s0 i1 i4 xs)) from by unfold fn2; simp only [if_pos hc2_1]], rfl, e0⟩
  · refine o_icmpNo 5 X0 hx rfl (hb hby d2_2) (flt hc2_1).1 ?_
    refine o_iloadN 6 X0 hx rfl (hb hby d2_5) rfl ?_
    refine o_iloadN 7 X0 hx rfl (hb hby d2_6) rfl ?_
    refine o_iloadN 8 X0 hx rfl (hb hby d2_7) rfl ?_
    refine o_iadd 9 X0 hx rfl (hb hby d2_8) ?_
    by_cases hc9_4 : i1 < (i2 + i3)
    · refine o_icmpYes 26 X0 hx (hb hby d2_9) (tlt hc9_4).1 (by decide) (by decide) ?_
      refine o_iloadN 27 X0 hx rfl (hb hby d2_26) rfl ?_
      refine o_iloadN 28 X0 hx rfl (hb hby d2_27) rfl ?_
      refine o_iadd 29 X0 hx rfl (hb hby d2_28) ?_
      refine o_iconst 30 X0 hx rfl (hb hby d2_29) (1 : Int32) rfl ?_
      refine o_isub 31 X0 hx rfl (hb hby d2_30) ?_
      refine o_iloadN 32 X0 hx rfl (hb hby d2_31) rfl ?_
      refine o_isub 33 X0 hx rfl (hb hby d2_32) ?_
      refine o_istore 35 X0 hx rfl (hb hby d2_33) #[.val (.ref r0), .val (.int i1), .val (.int i2), .val (.int i3), .val (.int i4), .val (.ref r5), .val (.long q6), .second, .val (.int (((i2 + i3) - (1 : Int32)) - i1)), .unset, .unset, .unset, .unset, .unset] rfl ?_
      refine o_aload 37 X0 hx rfl (hb hby d2_35) rfl rfl ?_
      refine o_lload 39 X0 hx rfl (hb hby d2_37) rfl ?_
      refine o_iconst 40 X0 hx rfl (hb hby d2_39) (2 : Int32) rfl ?_
      refine o_iload 42 X0 hx rfl (hb hby d2_40) rfl ?_
      refine o_imul 43 X0 hx rfl (hb hby d2_42) ?_
      refine o_iconst 44 X0 hx rfl (hb hby d2_43) (1 : Int32) rfl ?_
      refine o_iadd 45 X0 hx rfl (hb hby d2_44) ?_
      refine o_callP (rv := (.long (fn3 q6 (((2 : Int32) * (((i2 + i3) - (1 : Int32)) - i1)) + (1 : Int32))))) 48 X0 hx rfl hZ hown (wd_32 hw) (wd_33 hw) (wd_30 hw) (wd_34 hw) (by decide) e0 (rm3 l Z a0 hw r5 q6 (((2 : Int32) * (((i2 + i3) - (1 : Int32)) - i1)) + (1 : Int32)) kown_ps h0 Aown_ps (hk hc2_1 hc9_4).1) pd_laJJIrJ [(.ref r5), (.long q6), (.int (((2 : Int32) * (((i2 + i3) - (1 : Int32)) - i1)) + (1 : Int32)))] [] rfl rfl (by rw [hml]; rfl) rfl (hb hby d2_45) 0 (Nat.le_of_eq rfl) (by decide) (by decide) (by decide) (by decide) rfl rfl fun T5 X5 e5 => ?_
      refine o_lstore 50 X5 hx rfl (hb hby d2_48) #[.val (.ref r0), .val (.int i1), .val (.int i2), .val (.int i3), .val (.int i4), .val (.ref r5), .val (.long q6), .second, .val (.int (((i2 + i3) - (1 : Int32)) - i1)), .val (.long (fn3 q6 (((2 : Int32) * (((i2 + i3) - (1 : Int32)) - i1)) + (1 : Int32)))), .second, .unset, .unset, .unset] rfl ?_
      refine o_aload 52 X5 hx rfl (hb hby d2_50) rfl rfl ?_
      refine o_lload 54 X5 hx rfl (hb hby d2_52) rfl ?_
      refine o_iconst 55 X5 hx rfl (hb hby d2_54) (2 : Int32) rfl ?_
      refine o_iload 57 X5 hx rfl (hb hby d2_55) rfl ?_
      refine o_imul 58 X5 hx rfl (hb hby d2_57) ?_
      refine o_callP (rv := (.long (fn3 q6 ((2 : Int32) * (((i2 + i3) - (1 : Int32)) - i1))))) 61 X5 hx rfl hZ hown (wd_32 hw) (wd_33 hw) (wd_30 hw) (wd_34 hw) (by decide) e5 (rm3 l Z a0 hw r5 q6 ((2 : Int32) * (((i2 + i3) - (1 : Int32)) - i1)) kown_ps h0 Aown_ps (hk hc2_1 hc9_4).2) pd_laJJIrJ [(.ref r5), (.long q6), (.int ((2 : Int32) * (((i2 + i3) - (1 : Int32)) - i1)))] [] rfl rfl (by rw [hml]; rfl) rfl (hb hby d2_58) 0 (Nat.le_of_eq rfl) (by decide) (by decide) (by decide) (by decide) rfl rfl fun T6 X6 e6 => ?_
      refine o_lstore 63 X6 hx rfl (hb hby d2_61) #[.val (.ref r0), .val (.int i1), .val (.int i2), .val (.int i3), .val (.int i4), .val (.ref r5), .val (.long q6), .second, .val (.int (((i2 + i3) - (1 : Int32)) - i1)), .val (.long (fn3 q6 (((2 : Int32) * (((i2 + i3) - (1 : Int32)) - i1)) + (1 : Int32)))), .second, .val (.long (fn3 q6 ((2 : Int32) * (((i2 + i3) - (1 : Int32)) - i1)))), .second, .unset] rfl ?_
      refine o_lload 65 X6 hx rfl (hb hby d2_63) rfl ?_
      refine o_ldc2Long 68 X6 hx rfl hZ hown (wd_35 hw) (hb hby d2_65) ?_
      refine o_lmul 69 X6 hx rfl (hb hby d2_68) ?_
      refine o_lload 71 X6 hx rfl (hb hby d2_69) rfl ?_
      refine o_ladd 72 X6 hx rfl (hb hby d2_71) ?_
      refine o_l2i 73 X6 hx rfl (hb hby d2_72) ?_
      refine o_istore 75 X6 hx rfl (hb hby d2_73) #[.val (.ref r0), .val (.int i1), .val (.int i2), .val (.int i3), .val (.int i4), .val (.ref r5), .val (.long q6), .second, .val (.int (((i2 + i3) - (1 : Int32)) - i1)), .val (.long (fn3 q6 (((2 : Int32) * (((i2 + i3) - (1 : Int32)) - i1)) + (1 : Int32)))), .second, .val (.long (fn3 q6 ((2 : Int32) * (((i2 + i3) - (1 : Int32)) - i1)))), .second, .val (.int ((((fn3 q6 (((2 : Int32) * (((i2 + i3) - (1 : Int32)) - i1)) + (1 : Int32))) * (16 : Int64)) + (fn3 q6 ((2 : Int32) * (((i2 + i3) - (1 : Int32)) - i1)))).toInt32))] rfl ?_
      refine o_aloadN 76 X6 hx rfl (hb hby d2_75) rfl rfl ?_
      refine o_iloadN 77 X6 hx rfl (hb hby d2_76) rfl ?_
      refine o_baloadBX 78 X6 hx rfl hZ e6 Axs hi (hb hby d2_77) (xs.getD i1.toNatClampNeg 0) rfl ?_
      refine o_iload 80 X6 hx rfl (hb hby d2_78) rfl ?_
      refine o_i2b 81 X6 hx rfl (hb hby d2_80) ?_
      suffices j89_7 : Go p.tables e below (EndE s ({ frames := 1, cells := 0, slots := 0, locals := 15 } : Room) (Pure (.int (fn2 i1 i2 i3 i4 q6 xs)) h0)) (T6.setTop (mkF m 89 #[.val (.ref r0), .val (.int i1), .val (.int i2), .val (.int i3), .val (.int i4), .val (.ref r5), .val (.long q6), .second, .val (.int (((i2 + i3) - (1 : Int32)) - i1)), .val (.long (fn3 q6 (((2 : Int32) * (((i2 + i3) - (1 : Int32)) - i1)) + (1 : Int32)))), .second, .val (.long (fn3 q6 ((2 : Int32) * (((i2 + i3) - (1 : Int32)) - i1)))), .second, .val (.int ((((fn3 q6 (((2 : Int32) * (((i2 + i3) - (1 : Int32)) - i1)) + (1 : Int32))) * (16 : Int64)) + (fn3 q6 ((2 : Int32) * (((i2 + i3) - (1 : Int32)) - i1)))).toInt32))] [(.int (f2_89_s0 i1 i2 i3 q6 xs))])) by
        by_cases hc81_8 : (xs.getD i1.toNatClampNeg 0) = (((((fn3 q6 (((2 : Int32) * (((i2 + i3) - (1 : Int32)) - i1)) + (1 : Int32))) * (16 : Int64)) + (fn3 q6 ((2 : Int32) * (((i2 + i3) - (1 : Int32)) - i1)))).toInt32).toInt8.toInt32)
        · refine o_icmpNo 84 X6 hx rfl (hb hby d2_81) (teq hc81_8).2 ?_
          refine o_iconst 85 X6 hx rfl (hb hby d2_84) (1 : Int32) rfl ?_
          refine o_goto 89 X6 hx (hb hby d2_85) (by decide) (by decide) ?_
          rw [show (f2_89_s0 i1 i2 i3 q6 xs) = (1 : Int32) from by unfold f2_89_s0; simp only [if_pos hc81_8]] at j89_7
          exact j89_7
        · refine o_icmpYes 88 X6 hx (hb hby d2_81) (feq hc81_8).2 (by decide) (by decide) ?_
          refine o_iconst 89 X6 hx rfl (hb hby d2_88) (0 : Int32) rfl ?_
          rw [show (f2_89_s0 i1 i2 i3 q6 xs) = (0 : Int32) from by unfold f2_89_s0; simp only [if_neg hc81_8]] at j89_7
          exact j89_7
      refine o_retN X6 hx .boolean (by simp) hret hlk (hb hby d2_89) (by decide) (by decide) ?_
      exact ⟨show some (Value.int (nar .boolean (f2_89_s0 i1 i2 i3 q6 xs))) = some (Value.int (fn2 i1 i2 i3 i4 q6 xs)) from by rw [show (fn2 i1 i2 i3 i4 q6 xs) = (nar .boolean (f2_89_s0 i1 i2 i3 q6 xs)) from by unfold fn2; simp only [if_neg hc2_1, if_pos hc9_4]], rfl, e6⟩
    · refine o_icmpNo 12 X0 hx rfl (hb hby d2_9) (flt hc9_4).1 ?_
      refine o_aloadN 13 X0 hx rfl (hb hby d2_12) rfl rfl ?_
      refine o_iloadN 14 X0 hx rfl (hb hby d2_13) rfl ?_
      refine o_baloadBX 15 X0 hx rfl hZ e0 Axs hi (hb hby d2_14) (xs.getD i1.toNatClampNeg 0) rfl ?_
      refine o_iload 17 X0 hx rfl (hb hby d2_15) rfl ?_
      suffices j25_9 : Go p.tables e below (EndE s ({ frames := 1, cells := 0, slots := 0, locals := 15 } : Room) (Pure (.int (fn2 i1 i2 i3 i4 q6 xs)) h0)) (s₁.setTop (mkF m 25 #[.val (.ref r0), .val (.int i1), .val (.int i2), .val (.int i3), .val (.int i4), .val (.ref r5), .val (.long q6), .second, .unset, .unset, .unset, .unset, .unset, .unset] [(.int (f2_25_s0' i1 i4 xs))])) by
        by_cases hc17_10 : (xs.getD i1.toNatClampNeg 0) = i4
        · refine o_icmpNo 20 X0 hx rfl (hb hby d2_17) (teq hc17_10).2 ?_
          refine o_iconst 21 X0 hx rfl (hb hby d2_20) (1 : Int32) rfl ?_
          refine o_goto 25 X0 hx (hb hby d2_21) (by decide) (by decide) ?_
          rw [show (f2_25_s0' i1 i4 xs) = (1 : Int32) from by unfold f2_25_s0'; simp only [if_pos hc17_10]] at j25_9
          exact j25_9
        · refine o_icmpYes 24 X0 hx (hb hby d2_17) (feq hc17_10).2 (by decide) (by decide) ?_
          refine o_iconst 25 X0 hx rfl (hb hby d2_24) (0 : Int32) rfl ?_
          rw [show (f2_25_s0' i1 i4 xs) = (0 : Int32) from by unfold f2_25_s0'; simp only [if_neg hc17_10]] at j25_9
          exact j25_9
      refine o_retN X0 hx .boolean (by simp) hret hlk (hb hby d2_25) (by decide) (by decide) ?_
      exact ⟨show some (Value.int (nar .boolean (f2_25_s0' i1 i4 xs))) = some (Value.int (fn2 i1 i2 i3 i4 q6 xs)) from by rw [show (fn2 i1 i2 i3 i4 q6 xs) = (nar .boolean (f2_25_s0' i1 i4 xs)) from by unfold fn2; simp only [if_neg hc2_1, if_neg hc9_4]], rfl, e0⟩
theorem ef_0 (m : MethodId) (y0 : Int64) (y1 : Int32) (y2 : Int32) (y3 : Int32) : entryFrame m #[(.long y0), (.int y1), (.int y2), (.int y3)] maxLocals = mkF m 0 #[.val (.long y0), .second, .val (.int y1), .val (.int y2), .val (.int y3), .unset, .unset, .unset, .unset, .unset, .unset, .unset, .unset] [] := by first | (simp [entryFrame, mkF, argsToLocals, Value.category, maxLocals]; done) | rfl
def f0_137 (i1 : Int32) : Int32 := ((i1 &&& (2147483647 : Int32)) % (3 : Int32))
def f0_146 (i2 : Int32) : Int32 := ((i2 &&& (2147483647 : Int32)) % (10 : Int32))
def f0_161 (Ln : Nat) (q0 : Int64) : Int64 := ((q0 &&& (9223372036854775807 : Int64)) % (own_ps.getD ((2 : Int32) * (Int32.ofNat Ln)).toNatClampNeg 0))
theorem own_mr (x y : Int32) (D : Int) (hy : y.toInt = D) (hD : 0 < D) : ∃ J : Nat, (J : Int) < D ∧ ((x &&& (2147483647 : Int32)) % y) = Int32.ofNat J := by
  have e1 : (x &&& (2147483647 : Int32)).toInt = x.toInt % (2 ^ 31 : Nat) := c_mask x 2147483647 31 (by decide) (by decide)
  have e2 := (c_irem (x &&& (2147483647 : Int32)) y D hy).1 (by rw [e1]; omega)
  have r2 := Int.emod_nonneg (x &&& (2147483647 : Int32)).toInt (b := D) (by omega)
  have r3 := Int.emod_lt_of_pos (x &&& (2147483647 : Int32)).toInt hD
  have r := rng32 ((x &&& (2147483647 : Int32)) % y)
  rw [← e2] at r2 r3
  refine ⟨((x &&& (2147483647 : Int32)) % y).toInt.toNat, by omega, ?_⟩
  apply Int32.toInt_inj.mp; rw [Int32.toInt_ofNat_of_lt (by omega)]; omega
theorem own_gs (xs : List Int32) (i j : Nat) (v : Int32) (h : i < xs.length) : (xs.set i v).getD j 0 = if i = j then v else xs.getD j 0 := by
  rw [List.getD_eq_getElem?_getD, List.getD_eq_getElem?_getD, List.getElem?_set]
  by_cases e : i = j
  · rw [if_pos e, if_pos e, if_pos h]; rfl
  · rw [if_neg e, if_neg e]
theorem own_bb (x : Int32) : nar .byte (x.toInt8.toInt32) = x.toInt8.toInt32 := by
  have e1 := c_i2b x
  have e2 := c_i2b (x.toInt8.toInt32)
  have e3 : (nar .byte (x.toInt8.toInt32)).toInt = (x.toInt8.toInt32).toInt8.toInt32.toInt := rfl
  apply Int32.toInt_inj.mp
  omega
theorem own_O (i1 : Int32) : ∃ O : Nat, O ≤ 2 ∧ f0_137 i1 = Int32.ofNat O := by
  obtain ⟨J, h1, h2⟩ := own_mr i1 3 3 rfl (by decide)
  exact ⟨J, by omega, h2⟩
theorem own_L (i2 : Int32) : ∃ Ln : Nat, Ln ≤ 9 ∧ f0_146 i2 = Int32.ofNat Ln := by
  obtain ⟨J, h1, h2⟩ := own_mr i2 10 10 rfl (by decide)
  exact ⟨J, by omega, h2⟩
theorem own_ix2 {Ln : Nat} (h : Ln ≤ 9) : ¬ ((2 : Int32) * (Int32.ofNat Ln)) < 0 ∧ ((2 : Int32) * (Int32.ofNat Ln)) < (19 : Int32) := by
  have e : (2 : Int32) * (Int32.ofNat Ln) = Int32.ofNat (2 * Ln) := (Int32.ofNat_mul 2 Ln).symm
  rw [e]; exact ⟨own_nn (by omega), own_lt (n := 19) (by omega) (by decide)⟩
theorem own_lm (x y : Int64) (d : Int) (hy : y.toInt = d) (h : 0 ≤ x.toInt) : (x % y).toInt = x.toInt % d := by rw [Int64.toInt_mod, hy]; exact (tr _ _).1 h
theorem own_psp : ∀ i : Fin 19, 0 < (own_ps.getD i.1 0).toInt := by decide +kernel
theorem own_q0 (Ln : Nat) (q0 : Int64) (h : Ln ≤ 9) : 0 ≤ (f0_161 Ln q0).toInt := by
  have e : (2 : Int32) * (Int32.ofNat Ln) = Int32.ofNat (2 * Ln) := (Int32.ofNat_mul 2 Ln).symm
  have e1 : (q0 &&& (9223372036854775807 : Int64)).toInt = q0.toInt % (2 ^ 63 : Nat) := c_maskL q0 9223372036854775807 63 (by decide) (by decide)
  have hp := own_psp ⟨2 * Ln, by omega⟩
  unfold f0_161
  rw [e, own_n32 (by omega), own_lm _ _ _ rfl (by rw [e1]; omega)]
  exact Int.emod_nonneg _ (Int.ne_of_gt hp)
def own_d (q : Int64) : Int64 := q / (100 : Int64)
def own_dv : Int64 → Nat → Int64
  | q, 0 => q
  | q, n + 1 => own_dv (own_d q) n
def own_b (q : Int64) : Int64 := ((((q / (10 : Int64)) % (10 : Int64)) <<< ((4 : Int32) &&& 0x3f).toInt64) ||| (q % (10 : Int64)))
theorem own_wrg (O : Nat) : ∀ (k : Nat) (q : Int64) (ys : List Int32) (i : Nat), O + k ≤ ys.length → (own_wr O k q ys).getD i 0 = if O ≤ i ∧ i < O + k then nar .byte ((own_b (own_dv q (O + k - 1 - i))).toInt32.toInt8.toInt32) else ys.getD i 0
  | 0, q, ys, i, h => by rw [own_wr, if_neg (by omega)]
  | k + 1, q, ys, i, h => by
    rw [own_wr, own_wrg O k _ _ i (by rw [List.length_set]; omega)]
    by_cases h1 : O ≤ i ∧ i < O + k
    · rw [if_pos h1, if_pos (by omega), show O + (k + 1) - 1 - i = (O + k - 1 - i) + 1 by omega]; rfl
    · rw [if_neg h1, own_gs _ _ _ _ (by omega)]
      by_cases h2 : O + k = i
      · rw [if_pos h2, if_pos (by omega), show O + (k + 1) - 1 - i = 0 by omega]; rfl
      · rw [if_neg h2, if_neg (by omega)]
theorem own_dI (q : Int64) (h : 0 ≤ q.toInt) : (own_d q).toInt = q.toInt / 100 := (c_ldiv q 100 100 rfl (by decide)).1 h
theorem own_eq64 (X W : Int) (e : (X - W) % 18446744073709551616 = 0) (r : -9223372036854775808 ≤ X ∧ X < 9223372036854775808) (w : -1000000 ≤ W ∧ W < 1000000) : X = W := by omega
theorem own_sd (b d : Int64) (b0 : 0 ≤ b.toInt) (b1 : b.toInt < 10) (d0 : 0 ≤ d.toInt) (d1 : d.toInt < 10) : ((b <<< ((4 : Int32) &&& 0x3f).toInt64) ||| d).toInt = b.toInt * 16 + d.toInt := by
  have e4 := c_lshl b 4 4 (by decide)
  have e5 : (b <<< ((4 : Int32) &&& 0x3f).toInt64).toInt = b.toInt * 16 := own_eq64 _ _ e4 (rng64 _) ⟨by clear e4; omega, by clear e4; omega⟩
  have e6 := c_orL (b <<< ((4 : Int32) &&& 0x3f).toInt64) d 4 (by decide) 16 (by decide) (by rw [e5]; clear e4 e5; omega) d0 (by clear e4 e5; omega)
  rw [e5] at e6
  exact own_eq64 _ _ e6 (rng64 _) ⟨by clear e4 e5 e6; omega, by clear e4 e5 e6; omega⟩
theorem own_md (b d : Int64) (b0 : 0 ≤ b.toInt) (b1 : b.toInt < 10) (d0 : 0 ≤ d.toInt) (d1 : d.toInt < 10) : ((b * (16 : Int64)) + d).toInt = b.toInt * 16 + d.toInt := by
  have e4 := c_lmul b 16
  rw [show (16 : Int64).toInt = 16 from rfl] at e4
  have e5 : (b * (16 : Int64)).toInt = b.toInt * 16 := own_eq64 _ _ e4 (rng64 _) ⟨by clear e4; omega, by clear e4; omega⟩
  have e6 := c_ladd (b * (16 : Int64)) d
  rw [e5] at e6
  exact own_eq64 _ _ e6 (rng64 _) ⟨by clear e4 e5 e6; omega, by clear e4 e5 e6; omega⟩
theorem own_bI (q : Int64) (h : 0 ≤ q.toInt) : (own_b q).toInt = (q.toInt / 10 % 10) * 16 + q.toInt % 10 := by
  have e1 := (c_ldiv q 10 10 rfl (by decide)).1 h
  have e2 := own_lm (q / (10 : Int64)) 10 10 rfl (by rw [e1]; exact Int.ediv_nonneg h (by decide))
  have e3 := own_lm q 10 10 rfl h
  rw [e1] at e2
  have b0 := Int.emod_nonneg (q.toInt / 10) (b := 10) (by decide)
  have b1 := Int.emod_lt_of_pos (q.toInt / 10) (b := 10) (by decide)
  have d0 := Int.emod_nonneg q.toInt (b := 10) (by decide)
  have d1 := Int.emod_lt_of_pos q.toInt (b := 10) (by decide)
  rw [← e2] at b0 b1
  rw [← e3] at d0 d1
  unfold own_b
  rw [own_sd _ _ b0 b1 d0 d1, e2, e3]
theorem own_rI (x y : Int64) (hx : 0 ≤ x.toInt) (hy : 0 ≤ y.toInt) : (((x % (10 : Int64)) * (16 : Int64)) + (y % (10 : Int64))).toInt = (x.toInt % 10) * 16 + y.toInt % 10 := by
  have e1 := own_lm x 10 10 rfl hx
  have e2 := own_lm y 10 10 rfl hy
  have b0 := Int.emod_nonneg x.toInt (b := 10) (by decide)
  have b1 := Int.emod_lt_of_pos x.toInt (b := 10) (by decide)
  have d0 := Int.emod_nonneg y.toInt (b := 10) (by decide)
  have d1 := Int.emod_lt_of_pos y.toInt (b := 10) (by decide)
  rw [← e1] at b0 b1
  rw [← e2] at d0 d1
  rw [own_md _ _ b0 b1 d0 d1, e1, e2]
theorem own_dvI : ∀ (n : Nat) (q : Int64), 0 ≤ q.toInt → (own_dv q n).toInt = q.toInt / ((100 ^ n : Nat) : Int)
  | 0, q, h => (Int.ediv_one q.toInt).symm
  | n + 1, q, h => by
    have f := own_dI q h
    have g : 0 ≤ (own_d q).toInt := by rw [f]; exact Int.ediv_nonneg h (by decide)
    rw [own_dv, own_dvI n (own_d q) g, f, Int.ediv_ediv_of_nonneg (by decide), Nat.pow_succ, Int.natCast_mul, Int.mul_comm] <;> rfl
theorem own_bc0 (q : Int64) (h : 0 ≤ q.toInt) : own_b (own_dv q 0) = (((q / (own_ps.getD (2 * 0 + 1) 0)) % (10 : Int64)) * (16 : Int64)) + ((q / (own_ps.getD (2 * 0) 0)) % (10 : Int64)) := by
  have f : (own_dv q 0).toInt = q.toInt / 1 := own_dvI 0 q h
  have g : 0 ≤ (own_dv q 0).toInt := by rw [f]; exact Int.ediv_nonneg h (by decide)
  have e1 := own_bI (own_dv q 0) g
  have e2 := (c_ldiv q (own_ps.getD (2 * 0 + 1) 0) 10 (by decide +kernel) (by decide +kernel)).1 h
  have e3 := (c_ldiv q (own_ps.getD (2 * 0) 0) 1 (by decide +kernel) (by decide +kernel)).1 h
  have e4 := own_rI (q / (own_ps.getD (2 * 0 + 1) 0)) (q / (own_ps.getD (2 * 0) 0)) (by rw [e2]; exact Int.ediv_nonneg h (by decide)) (by rw [e3]; exact Int.ediv_nonneg h (by decide))
  have dd : q.toInt / 1 / 10 = q.toInt / 10 := by clear f g e1 e2 e3 e4; omega
  apply Int64.toInt_inj.mp
  rw [e4, e2, e3, e1, f, dd]
theorem own_bc1 (q : Int64) (h : 0 ≤ q.toInt) : own_b (own_dv q 1) = (((q / (own_ps.getD (2 * 1 + 1) 0)) % (10 : Int64)) * (16 : Int64)) + ((q / (own_ps.getD (2 * 1) 0)) % (10 : Int64)) := by
  have f : (own_dv q 1).toInt = q.toInt / 100 := own_dvI 1 q h
  have g : 0 ≤ (own_dv q 1).toInt := by rw [f]; exact Int.ediv_nonneg h (by decide)
  have e1 := own_bI (own_dv q 1) g
  have e2 := (c_ldiv q (own_ps.getD (2 * 1 + 1) 0) 1000 (by decide +kernel) (by decide +kernel)).1 h
  have e3 := (c_ldiv q (own_ps.getD (2 * 1) 0) 100 (by decide +kernel) (by decide +kernel)).1 h
  have e4 := own_rI (q / (own_ps.getD (2 * 1 + 1) 0)) (q / (own_ps.getD (2 * 1) 0)) (by rw [e2]; exact Int.ediv_nonneg h (by decide)) (by rw [e3]; exact Int.ediv_nonneg h (by decide))
  have dd : q.toInt / 100 / 10 = q.toInt / 1000 := by clear f g e1 e2 e3 e4; omega
  apply Int64.toInt_inj.mp
  rw [e4, e2, e3, e1, f, dd]
theorem own_bc2 (q : Int64) (h : 0 ≤ q.toInt) : own_b (own_dv q 2) = (((q / (own_ps.getD (2 * 2 + 1) 0)) % (10 : Int64)) * (16 : Int64)) + ((q / (own_ps.getD (2 * 2) 0)) % (10 : Int64)) := by
  have f : (own_dv q 2).toInt = q.toInt / 10000 := own_dvI 2 q h
  have g : 0 ≤ (own_dv q 2).toInt := by rw [f]; exact Int.ediv_nonneg h (by decide)
  have e1 := own_bI (own_dv q 2) g
  have e2 := (c_ldiv q (own_ps.getD (2 * 2 + 1) 0) 100000 (by decide +kernel) (by decide +kernel)).1 h
  have e3 := (c_ldiv q (own_ps.getD (2 * 2) 0) 10000 (by decide +kernel) (by decide +kernel)).1 h
  have e4 := own_rI (q / (own_ps.getD (2 * 2 + 1) 0)) (q / (own_ps.getD (2 * 2) 0)) (by rw [e2]; exact Int.ediv_nonneg h (by decide)) (by rw [e3]; exact Int.ediv_nonneg h (by decide))
  have dd : q.toInt / 10000 / 10 = q.toInt / 100000 := by clear f g e1 e2 e3 e4; omega
  apply Int64.toInt_inj.mp
  rw [e4, e2, e3, e1, f, dd]
theorem own_bc3 (q : Int64) (h : 0 ≤ q.toInt) : own_b (own_dv q 3) = (((q / (own_ps.getD (2 * 3 + 1) 0)) % (10 : Int64)) * (16 : Int64)) + ((q / (own_ps.getD (2 * 3) 0)) % (10 : Int64)) := by
  have f : (own_dv q 3).toInt = q.toInt / 1000000 := own_dvI 3 q h
  have g : 0 ≤ (own_dv q 3).toInt := by rw [f]; exact Int.ediv_nonneg h (by decide)
  have e1 := own_bI (own_dv q 3) g
  have e2 := (c_ldiv q (own_ps.getD (2 * 3 + 1) 0) 10000000 (by decide +kernel) (by decide +kernel)).1 h
  have e3 := (c_ldiv q (own_ps.getD (2 * 3) 0) 1000000 (by decide +kernel) (by decide +kernel)).1 h
  have e4 := own_rI (q / (own_ps.getD (2 * 3 + 1) 0)) (q / (own_ps.getD (2 * 3) 0)) (by rw [e2]; exact Int.ediv_nonneg h (by decide)) (by rw [e3]; exact Int.ediv_nonneg h (by decide))
  have dd : q.toInt / 1000000 / 10 = q.toInt / 10000000 := by clear f g e1 e2 e3 e4; omega
  apply Int64.toInt_inj.mp
  rw [e4, e2, e3, e1, f, dd]
theorem own_bc4 (q : Int64) (h : 0 ≤ q.toInt) : own_b (own_dv q 4) = (((q / (own_ps.getD (2 * 4 + 1) 0)) % (10 : Int64)) * (16 : Int64)) + ((q / (own_ps.getD (2 * 4) 0)) % (10 : Int64)) := by
  have f : (own_dv q 4).toInt = q.toInt / 100000000 := own_dvI 4 q h
  have g : 0 ≤ (own_dv q 4).toInt := by rw [f]; exact Int.ediv_nonneg h (by decide)
  have e1 := own_bI (own_dv q 4) g
  have e2 := (c_ldiv q (own_ps.getD (2 * 4 + 1) 0) 1000000000 (by decide +kernel) (by decide +kernel)).1 h
  have e3 := (c_ldiv q (own_ps.getD (2 * 4) 0) 100000000 (by decide +kernel) (by decide +kernel)).1 h
  have e4 := own_rI (q / (own_ps.getD (2 * 4 + 1) 0)) (q / (own_ps.getD (2 * 4) 0)) (by rw [e2]; exact Int.ediv_nonneg h (by decide)) (by rw [e3]; exact Int.ediv_nonneg h (by decide))
  have dd : q.toInt / 100000000 / 10 = q.toInt / 1000000000 := by clear f g e1 e2 e3 e4; omega
  apply Int64.toInt_inj.mp
  rw [e4, e2, e3, e1, f, dd]
theorem own_bc5 (q : Int64) (h : 0 ≤ q.toInt) : own_b (own_dv q 5) = (((q / (own_ps.getD (2 * 5 + 1) 0)) % (10 : Int64)) * (16 : Int64)) + ((q / (own_ps.getD (2 * 5) 0)) % (10 : Int64)) := by
  have f : (own_dv q 5).toInt = q.toInt / 10000000000 := own_dvI 5 q h
  have g : 0 ≤ (own_dv q 5).toInt := by rw [f]; exact Int.ediv_nonneg h (by decide)
  have e1 := own_bI (own_dv q 5) g
  have e2 := (c_ldiv q (own_ps.getD (2 * 5 + 1) 0) 100000000000 (by decide +kernel) (by decide +kernel)).1 h
  have e3 := (c_ldiv q (own_ps.getD (2 * 5) 0) 10000000000 (by decide +kernel) (by decide +kernel)).1 h
  have e4 := own_rI (q / (own_ps.getD (2 * 5 + 1) 0)) (q / (own_ps.getD (2 * 5) 0)) (by rw [e2]; exact Int.ediv_nonneg h (by decide)) (by rw [e3]; exact Int.ediv_nonneg h (by decide))
  have dd : q.toInt / 10000000000 / 10 = q.toInt / 100000000000 := by clear f g e1 e2 e3 e4; omega
  apply Int64.toInt_inj.mp
  rw [e4, e2, e3, e1, f, dd]
theorem own_bc6 (q : Int64) (h : 0 ≤ q.toInt) : own_b (own_dv q 6) = (((q / (own_ps.getD (2 * 6 + 1) 0)) % (10 : Int64)) * (16 : Int64)) + ((q / (own_ps.getD (2 * 6) 0)) % (10 : Int64)) := by
  have f : (own_dv q 6).toInt = q.toInt / 1000000000000 := own_dvI 6 q h
  have g : 0 ≤ (own_dv q 6).toInt := by rw [f]; exact Int.ediv_nonneg h (by decide)
  have e1 := own_bI (own_dv q 6) g
  have e2 := (c_ldiv q (own_ps.getD (2 * 6 + 1) 0) 10000000000000 (by decide +kernel) (by decide +kernel)).1 h
  have e3 := (c_ldiv q (own_ps.getD (2 * 6) 0) 1000000000000 (by decide +kernel) (by decide +kernel)).1 h
  have e4 := own_rI (q / (own_ps.getD (2 * 6 + 1) 0)) (q / (own_ps.getD (2 * 6) 0)) (by rw [e2]; exact Int.ediv_nonneg h (by decide)) (by rw [e3]; exact Int.ediv_nonneg h (by decide))
  have dd : q.toInt / 1000000000000 / 10 = q.toInt / 10000000000000 := by clear f g e1 e2 e3 e4; omega
  apply Int64.toInt_inj.mp
  rw [e4, e2, e3, e1, f, dd]
theorem own_bc7 (q : Int64) (h : 0 ≤ q.toInt) : own_b (own_dv q 7) = (((q / (own_ps.getD (2 * 7 + 1) 0)) % (10 : Int64)) * (16 : Int64)) + ((q / (own_ps.getD (2 * 7) 0)) % (10 : Int64)) := by
  have f : (own_dv q 7).toInt = q.toInt / 100000000000000 := own_dvI 7 q h
  have g : 0 ≤ (own_dv q 7).toInt := by rw [f]; exact Int.ediv_nonneg h (by decide)
  have e1 := own_bI (own_dv q 7) g
  have e2 := (c_ldiv q (own_ps.getD (2 * 7 + 1) 0) 1000000000000000 (by decide +kernel) (by decide +kernel)).1 h
  have e3 := (c_ldiv q (own_ps.getD (2 * 7) 0) 100000000000000 (by decide +kernel) (by decide +kernel)).1 h
  have e4 := own_rI (q / (own_ps.getD (2 * 7 + 1) 0)) (q / (own_ps.getD (2 * 7) 0)) (by rw [e2]; exact Int.ediv_nonneg h (by decide)) (by rw [e3]; exact Int.ediv_nonneg h (by decide))
  have dd : q.toInt / 100000000000000 / 10 = q.toInt / 1000000000000000 := by clear f g e1 e2 e3 e4; omega
  apply Int64.toInt_inj.mp
  rw [e4, e2, e3, e1, f, dd]
theorem own_bc8 (q : Int64) (h : 0 ≤ q.toInt) : own_b (own_dv q 8) = (((q / (own_ps.getD (2 * 8 + 1) 0)) % (10 : Int64)) * (16 : Int64)) + ((q / (own_ps.getD (2 * 8) 0)) % (10 : Int64)) := by
  have f : (own_dv q 8).toInt = q.toInt / 10000000000000000 := own_dvI 8 q h
  have g : 0 ≤ (own_dv q 8).toInt := by rw [f]; exact Int.ediv_nonneg h (by decide)
  have e1 := own_bI (own_dv q 8) g
  have e2 := (c_ldiv q (own_ps.getD (2 * 8 + 1) 0) 100000000000000000 (by decide +kernel) (by decide +kernel)).1 h
  have e3 := (c_ldiv q (own_ps.getD (2 * 8) 0) 10000000000000000 (by decide +kernel) (by decide +kernel)).1 h
  have e4 := own_rI (q / (own_ps.getD (2 * 8 + 1) 0)) (q / (own_ps.getD (2 * 8) 0)) (by rw [e2]; exact Int.ediv_nonneg h (by decide)) (by rw [e3]; exact Int.ediv_nonneg h (by decide))
  have dd : q.toInt / 10000000000000000 / 10 = q.toInt / 100000000000000000 := by clear f g e1 e2 e3 e4; omega
  apply Int64.toInt_inj.mp
  rw [e4, e2, e3, e1, f, dd]
theorem own_bcx (q : Int64) (h : 0 ≤ q.toInt) (n : Nat) (hn : n ≤ 8) : own_b (own_dv q n) = (((q / (own_ps.getD (2 * n + 1) 0)) % (10 : Int64)) * (16 : Int64)) + ((q / (own_ps.getD (2 * n) 0)) % (10 : Int64)) := by
  match n, hn with
  | 0, _ => exact own_bc0 q h
  | 1, _ => exact own_bc1 q h
  | 2, _ => exact own_bc2 q h
  | 3, _ => exact own_bc3 q h
  | 4, _ => exact own_bc4 q h
  | 5, _ => exact own_bc5 q h
  | 6, _ => exact own_bc6 q h
  | 7, _ => exact own_bc7 q h
  | 8, _ => exact own_bc8 q h
theorem own_cnt {O Ln i : Nat} (hO : O + Ln ≤ 11) (hi : i < O + Ln) : ((2 : Int32) * (((Int32.ofNat O + Int32.ofNat Ln) - (1 : Int32)) - Int32.ofNat i)) = Int32.ofNat (2 * (O + Ln - 1 - i)) := by
  have e1 := c_isub (Int32.ofNat O + Int32.ofNat Ln) 1
  have e2 := c_isub ((Int32.ofNat O + Int32.ofNat Ln) - (1 : Int32)) (Int32.ofNat i)
  have e3 := c_imul 2 (((Int32.ofNat O + Int32.ofNat Ln) - (1 : Int32)) - Int32.ofNat i)
  have r1 := rng32 ((Int32.ofNat O + Int32.ofNat Ln) - (1 : Int32))
  have r2 := rng32 (((Int32.ofNat O + Int32.ofNat Ln) - (1 : Int32)) - Int32.ofNat i)
  have r3 := rng32 ((2 : Int32) * (((Int32.ofNat O + Int32.ofNat Ln) - (1 : Int32)) - Int32.ofNat i))
  have e0 : (Int32.ofNat O + Int32.ofNat Ln).toInt = ((O + Ln : Nat) : Int) := by rw [← Int32.ofNat_add]; exact Int32.toInt_ofNat_of_lt (by omega)
  have ei : (Int32.ofNat i).toInt = (i : Int) := Int32.toInt_ofNat_of_lt (by omega)
  rw [show (1 : Int32).toInt = 1 from rfl] at e1
  rw [show (2 : Int32).toInt = 2 from rfl] at e3
  apply Int32.toInt_inj.mp
  rw [Int32.toInt_ofNat_of_lt (by omega)]
  omega
theorem own_hk {i1 : Int32} {O Ln : Nat} (h : ¬ i1 < 0 ∧ i1 < (12 : Int32)) (hO : O ≤ 2) (hLn : Ln ≤ 9) : ¬ i1 < (Int32.ofNat O) → i1 < ((Int32.ofNat O) + (Int32.ofNat Ln)) → (¬ (((2 : Int32) * ((((Int32.ofNat O) + (Int32.ofNat Ln)) - (1 : Int32)) - i1)) + (1 : Int32)) < 0 ∧ (((2 : Int32) * ((((Int32.ofNat O) + (Int32.ofNat Ln)) - (1 : Int32)) - i1)) + (1 : Int32)) < (19 : Int32)) ∧ (¬ ((2 : Int32) * ((((Int32.ofNat O) + (Int32.ofNat Ln)) - (1 : Int32)) - i1)) < 0 ∧ ((2 : Int32) * ((((Int32.ofNat O) + (Int32.ofNat Ln)) - (1 : Int32)) - i1)) < (19 : Int32)) := by
  intro h1 h2
  obtain ⟨n, hn⟩ : ∃ n : Nat, i1 = Int32.ofNat n ∧ n < 12 := by
    obtain ⟨a, b⟩ := h
    rw [Int32.lt_iff_toInt_lt] at a b
    have e0 : (0 : Int32).toInt = 0 := rfl
    have e1 : (12 : Int32).toInt = 12 := rfl
    exact ⟨i1.toInt.toNat, Int32.toInt_inj.mp (by rw [Int32.toInt_ofNat_of_lt (by omega)]; omega), by omega⟩
  obtain ⟨hn, hl⟩ := hn
  subst hn
  rw [Int32.lt_iff_toInt_lt, Int32.toInt_ofNat_of_lt (by omega), Int32.toInt_ofNat_of_lt (by omega)] at h1
  rw [← Int32.ofNat_add, Int32.lt_iff_toInt_lt, Int32.toInt_ofNat_of_lt (by omega), Int32.toInt_ofNat_of_lt (by omega)] at h2
  rw [own_cnt (by omega) (by omega), own_one]
  exact ⟨⟨own_nn (by omega), own_lt (n := 19) (by omega) (by decide)⟩, own_nn (by omega), own_lt (n := 19) (by omega) (by decide)⟩
theorem own_ckg (q : Int64) (sn : Int32) (O Ln i : Nat) (hi : i < 12) (hO : O ≤ 2) (hLn : Ln ≤ 9) (hq : 0 ≤ q.toInt) (hsn : nar .byte sn = sn) (xs : List Int32) (hx : xs.length = 12) (hg : xs.getD i 0 = nar .byte sn) : fn2 (Int32.ofNat i) (Int32.ofNat O) (Int32.ofNat Ln) sn q (own_wr O Ln q xs) = 1 := by
  have hh := own_wrg O Ln q xs i (by omega)
  unfold fn2
  by_cases h1 : i < O
  · have hx' : (own_wr O Ln q xs).getD i 0 = sn := by rw [hh, if_neg (by omega), hg, hsn]
    rw [if_pos (own_lt h1 (by omega))]
    unfold f2_25_s0
    rw [own_n32 (n := i) (by omega), if_pos hx']; rfl
  · rw [if_neg (own_nle (Nat.le_of_not_lt h1) (by omega))]
    by_cases h2 : i < O + Ln
    · have hx' : (own_wr O Ln q xs).getD i 0 = ((((q / (own_ps.getD (2 * (O + Ln - 1 - i) + 1) 0)) % (10 : Int64)) * (16 : Int64)) + ((q / (own_ps.getD (2 * (O + Ln - 1 - i)) 0)) % (10 : Int64))).toInt32.toInt8.toInt32 := by rw [hh, if_pos ⟨by omega, h2⟩, own_bb, own_bcx q hq _ (by omega)]
      rw [if_pos (show Int32.ofNat i < Int32.ofNat O + Int32.ofNat Ln by rw [← Int32.ofNat_add]; exact own_lt h2 (by omega))]
      unfold f2_89_s0 fn3
      rw [own_cnt (by omega) h2, own_one, own_n32 (n := 2 * (O + Ln - 1 - i) + 1) (by omega), own_n32 (n := 2 * (O + Ln - 1 - i)) (by omega), own_n32 (n := i) (by omega), if_pos hx']; rfl
    · have hx' : (own_wr O Ln q xs).getD i 0 = sn := by rw [hh, if_neg (by omega), hg, hsn]
      rw [if_neg (show ¬ Int32.ofNat i < Int32.ofNat O + Int32.ofNat Ln by rw [← Int32.ofNat_add]; exact own_nle (by omega) (by omega))]
      unfold f2_25_s0'
      rw [own_n32 (n := i) (by omega), if_pos hx']; rfl
theorem own_ck0 (q : Int64) (sn : Int32) (O Ln : Nat) (hO : O ≤ 2) (hLn : Ln ≤ 9) (hq : 0 ≤ q.toInt) (hsn : nar .byte sn = sn) : (fn2 (0 : Int32) (Int32.ofNat O) (Int32.ofNat Ln) sn q (own_wr O Ln q [(nar .byte sn), (nar .byte sn), (nar .byte sn), (nar .byte sn), (nar .byte sn), (nar .byte sn), (nar .byte sn), (nar .byte sn), (nar .byte sn), (nar .byte sn), (nar .byte sn), (nar .byte sn)])) = (1 : Int32) := own_ckg q sn O Ln 0 (by decide) hO hLn hq hsn [(nar .byte sn), (nar .byte sn), (nar .byte sn), (nar .byte sn), (nar .byte sn), (nar .byte sn), (nar .byte sn), (nar .byte sn), (nar .byte sn), (nar .byte sn), (nar .byte sn), (nar .byte sn)] rfl rfl
theorem own_ck1 (q : Int64) (sn : Int32) (O Ln : Nat) (hO : O ≤ 2) (hLn : Ln ≤ 9) (hq : 0 ≤ q.toInt) (hsn : nar .byte sn = sn) : (fn2 (1 : Int32) (Int32.ofNat O) (Int32.ofNat Ln) sn q (own_wr O Ln q [(nar .byte sn), (nar .byte sn), (nar .byte sn), (nar .byte sn), (nar .byte sn), (nar .byte sn), (nar .byte sn), (nar .byte sn), (nar .byte sn), (nar .byte sn), (nar .byte sn), (nar .byte sn)])) = (1 : Int32) := own_ckg q sn O Ln 1 (by decide) hO hLn hq hsn [(nar .byte sn), (nar .byte sn), (nar .byte sn), (nar .byte sn), (nar .byte sn), (nar .byte sn), (nar .byte sn), (nar .byte sn), (nar .byte sn), (nar .byte sn), (nar .byte sn), (nar .byte sn)] rfl rfl
theorem own_ck2 (q : Int64) (sn : Int32) (O Ln : Nat) (hO : O ≤ 2) (hLn : Ln ≤ 9) (hq : 0 ≤ q.toInt) (hsn : nar .byte sn = sn) : (fn2 (2 : Int32) (Int32.ofNat O) (Int32.ofNat Ln) sn q (own_wr O Ln q [(nar .byte sn), (nar .byte sn), (nar .byte sn), (nar .byte sn), (nar .byte sn), (nar .byte sn), (nar .byte sn), (nar .byte sn), (nar .byte sn), (nar .byte sn), (nar .byte sn), (nar .byte sn)])) = (1 : Int32) := own_ckg q sn O Ln 2 (by decide) hO hLn hq hsn [(nar .byte sn), (nar .byte sn), (nar .byte sn), (nar .byte sn), (nar .byte sn), (nar .byte sn), (nar .byte sn), (nar .byte sn), (nar .byte sn), (nar .byte sn), (nar .byte sn), (nar .byte sn)] rfl rfl
theorem own_ck3 (q : Int64) (sn : Int32) (O Ln : Nat) (hO : O ≤ 2) (hLn : Ln ≤ 9) (hq : 0 ≤ q.toInt) (hsn : nar .byte sn = sn) : (fn2 (3 : Int32) (Int32.ofNat O) (Int32.ofNat Ln) sn q (own_wr O Ln q [(nar .byte sn), (nar .byte sn), (nar .byte sn), (nar .byte sn), (nar .byte sn), (nar .byte sn), (nar .byte sn), (nar .byte sn), (nar .byte sn), (nar .byte sn), (nar .byte sn), (nar .byte sn)])) = (1 : Int32) := own_ckg q sn O Ln 3 (by decide) hO hLn hq hsn [(nar .byte sn), (nar .byte sn), (nar .byte sn), (nar .byte sn), (nar .byte sn), (nar .byte sn), (nar .byte sn), (nar .byte sn), (nar .byte sn), (nar .byte sn), (nar .byte sn), (nar .byte sn)] rfl rfl
theorem own_ck4 (q : Int64) (sn : Int32) (O Ln : Nat) (hO : O ≤ 2) (hLn : Ln ≤ 9) (hq : 0 ≤ q.toInt) (hsn : nar .byte sn = sn) : (fn2 (4 : Int32) (Int32.ofNat O) (Int32.ofNat Ln) sn q (own_wr O Ln q [(nar .byte sn), (nar .byte sn), (nar .byte sn), (nar .byte sn), (nar .byte sn), (nar .byte sn), (nar .byte sn), (nar .byte sn), (nar .byte sn), (nar .byte sn), (nar .byte sn), (nar .byte sn)])) = (1 : Int32) := own_ckg q sn O Ln 4 (by decide) hO hLn hq hsn [(nar .byte sn), (nar .byte sn), (nar .byte sn), (nar .byte sn), (nar .byte sn), (nar .byte sn), (nar .byte sn), (nar .byte sn), (nar .byte sn), (nar .byte sn), (nar .byte sn), (nar .byte sn)] rfl rfl
theorem own_ck5 (q : Int64) (sn : Int32) (O Ln : Nat) (hO : O ≤ 2) (hLn : Ln ≤ 9) (hq : 0 ≤ q.toInt) (hsn : nar .byte sn = sn) : (fn2 (5 : Int32) (Int32.ofNat O) (Int32.ofNat Ln) sn q (own_wr O Ln q [(nar .byte sn), (nar .byte sn), (nar .byte sn), (nar .byte sn), (nar .byte sn), (nar .byte sn), (nar .byte sn), (nar .byte sn), (nar .byte sn), (nar .byte sn), (nar .byte sn), (nar .byte sn)])) = (1 : Int32) := own_ckg q sn O Ln 5 (by decide) hO hLn hq hsn [(nar .byte sn), (nar .byte sn), (nar .byte sn), (nar .byte sn), (nar .byte sn), (nar .byte sn), (nar .byte sn), (nar .byte sn), (nar .byte sn), (nar .byte sn), (nar .byte sn), (nar .byte sn)] rfl rfl
theorem own_ck6 (q : Int64) (sn : Int32) (O Ln : Nat) (hO : O ≤ 2) (hLn : Ln ≤ 9) (hq : 0 ≤ q.toInt) (hsn : nar .byte sn = sn) : (fn2 (6 : Int32) (Int32.ofNat O) (Int32.ofNat Ln) sn q (own_wr O Ln q [(nar .byte sn), (nar .byte sn), (nar .byte sn), (nar .byte sn), (nar .byte sn), (nar .byte sn), (nar .byte sn), (nar .byte sn), (nar .byte sn), (nar .byte sn), (nar .byte sn), (nar .byte sn)])) = (1 : Int32) := own_ckg q sn O Ln 6 (by decide) hO hLn hq hsn [(nar .byte sn), (nar .byte sn), (nar .byte sn), (nar .byte sn), (nar .byte sn), (nar .byte sn), (nar .byte sn), (nar .byte sn), (nar .byte sn), (nar .byte sn), (nar .byte sn), (nar .byte sn)] rfl rfl
theorem own_ck7 (q : Int64) (sn : Int32) (O Ln : Nat) (hO : O ≤ 2) (hLn : Ln ≤ 9) (hq : 0 ≤ q.toInt) (hsn : nar .byte sn = sn) : (fn2 (7 : Int32) (Int32.ofNat O) (Int32.ofNat Ln) sn q (own_wr O Ln q [(nar .byte sn), (nar .byte sn), (nar .byte sn), (nar .byte sn), (nar .byte sn), (nar .byte sn), (nar .byte sn), (nar .byte sn), (nar .byte sn), (nar .byte sn), (nar .byte sn), (nar .byte sn)])) = (1 : Int32) := own_ckg q sn O Ln 7 (by decide) hO hLn hq hsn [(nar .byte sn), (nar .byte sn), (nar .byte sn), (nar .byte sn), (nar .byte sn), (nar .byte sn), (nar .byte sn), (nar .byte sn), (nar .byte sn), (nar .byte sn), (nar .byte sn), (nar .byte sn)] rfl rfl
theorem own_ck8 (q : Int64) (sn : Int32) (O Ln : Nat) (hO : O ≤ 2) (hLn : Ln ≤ 9) (hq : 0 ≤ q.toInt) (hsn : nar .byte sn = sn) : (fn2 (8 : Int32) (Int32.ofNat O) (Int32.ofNat Ln) sn q (own_wr O Ln q [(nar .byte sn), (nar .byte sn), (nar .byte sn), (nar .byte sn), (nar .byte sn), (nar .byte sn), (nar .byte sn), (nar .byte sn), (nar .byte sn), (nar .byte sn), (nar .byte sn), (nar .byte sn)])) = (1 : Int32) := own_ckg q sn O Ln 8 (by decide) hO hLn hq hsn [(nar .byte sn), (nar .byte sn), (nar .byte sn), (nar .byte sn), (nar .byte sn), (nar .byte sn), (nar .byte sn), (nar .byte sn), (nar .byte sn), (nar .byte sn), (nar .byte sn), (nar .byte sn)] rfl rfl
theorem own_ck9 (q : Int64) (sn : Int32) (O Ln : Nat) (hO : O ≤ 2) (hLn : Ln ≤ 9) (hq : 0 ≤ q.toInt) (hsn : nar .byte sn = sn) : (fn2 (9 : Int32) (Int32.ofNat O) (Int32.ofNat Ln) sn q (own_wr O Ln q [(nar .byte sn), (nar .byte sn), (nar .byte sn), (nar .byte sn), (nar .byte sn), (nar .byte sn), (nar .byte sn), (nar .byte sn), (nar .byte sn), (nar .byte sn), (nar .byte sn), (nar .byte sn)])) = (1 : Int32) := own_ckg q sn O Ln 9 (by decide) hO hLn hq hsn [(nar .byte sn), (nar .byte sn), (nar .byte sn), (nar .byte sn), (nar .byte sn), (nar .byte sn), (nar .byte sn), (nar .byte sn), (nar .byte sn), (nar .byte sn), (nar .byte sn), (nar .byte sn)] rfl rfl
theorem own_ck10 (q : Int64) (sn : Int32) (O Ln : Nat) (hO : O ≤ 2) (hLn : Ln ≤ 9) (hq : 0 ≤ q.toInt) (hsn : nar .byte sn = sn) : (fn2 (10 : Int32) (Int32.ofNat O) (Int32.ofNat Ln) sn q (own_wr O Ln q [(nar .byte sn), (nar .byte sn), (nar .byte sn), (nar .byte sn), (nar .byte sn), (nar .byte sn), (nar .byte sn), (nar .byte sn), (nar .byte sn), (nar .byte sn), (nar .byte sn), (nar .byte sn)])) = (1 : Int32) := own_ckg q sn O Ln 10 (by decide) hO hLn hq hsn [(nar .byte sn), (nar .byte sn), (nar .byte sn), (nar .byte sn), (nar .byte sn), (nar .byte sn), (nar .byte sn), (nar .byte sn), (nar .byte sn), (nar .byte sn), (nar .byte sn), (nar .byte sn)] rfl rfl
theorem own_ck11 (q : Int64) (sn : Int32) (O Ln : Nat) (hO : O ≤ 2) (hLn : Ln ≤ 9) (hq : 0 ≤ q.toInt) (hsn : nar .byte sn = sn) : (fn2 (11 : Int32) (Int32.ofNat O) (Int32.ofNat Ln) sn q (own_wr O Ln q [(nar .byte sn), (nar .byte sn), (nar .byte sn), (nar .byte sn), (nar .byte sn), (nar .byte sn), (nar .byte sn), (nar .byte sn), (nar .byte sn), (nar .byte sn), (nar .byte sn), (nar .byte sn)])) = (1 : Int32) := own_ckg q sn O Ln 11 (by decide) hO hLn hq hsn [(nar .byte sn), (nar .byte sn), (nar .byte sn), (nar .byte sn), (nar .byte sn), (nar .byte sn), (nar .byte sn), (nar .byte sn), (nar .byte sn), (nar .byte sn), (nar .byte sn), (nar .byte sn)] rfl rfl
set_option maxRecDepth 65536 in
set_option maxHeartbeats 40000000 in
theorem rm0 (l : Launch) (Z : State) (a0 : Array Value) (hw : ∀ d ∈ tables_1, d.before a0 Z = true) (ws : List Jvm.Cond) (q0 : Int64) (i1 : Int32) (i2 : Int32) (i3 : Int32) (h0 : Heap) (n0 : Nat) (Z0 : n0 ≤ h0.size) : MetP l x code maxLocals ret ws room_1 Z #[(.long q0), (.int i1), (.int i2), (.int i3)] h0 (fun v h L => v = some (.int (1 : Int32)) ∧ Fr n0 L) := by
  refine met_go pn_0 ?_
  intro p e s m below meth c s₁ hx hby hml hown hnm hret hlk hZ e0 X0
  have N0 := Fr.nil n0
  rw [ef_0 m q0 i1 i2 i3]
  refine o_bipush 2 X0 hx rfl (hb hby at_0) (19 : Int32) rfl ?_
  refine o_newarrJ 4 X0 hx rfl hZ .long .long rfl rfl (wd_0 hw) e0 (hb hby at_2) (by decide) 19 (by decide) (by decide) (by decide) (by decide) [(0 : Int64), (0 : Int64), (0 : Int64), (0 : Int64), (0 : Int64), (0 : Int64), (0 : Int64), (0 : Int64), (0 : Int64), (0 : Int64), (0 : Int64), (0 : Int64), (0 : Int64), (0 : Int64), (0 : Int64), (0 : Int64), (0 : Int64), (0 : Int64), (0 : Int64)] rfl fun T1 h1 a1 k1 g1 X1 e1 E1 A1 => ?_
  have ge2 : n0 ≤ a1 := Nat.le_trans Z0 (Nat.le_of_eq g1.symm)
  have sz3 : n0 ≤ h1.size := Nat.le_trans Z0 E1.1
  refine o_dup 5 X1 hx rfl (hb hby at_4) rfl ?_
  refine o_iconst 6 X1 hx rfl (hb hby at_5) (0 : Int32) rfl ?_
  refine o_lconst 7 X1 hx rfl (hb hby at_6) (1 : Int64) rfl ?_
  refine o_lastoreX 8 X1 hx rfl hZ e1 A1 (by decide) (Nat.le_of_ble_eq_true rfl) [(1 : Int64), (0 : Int64), (0 : Int64), (0 : Int64), (0 : Int64), (0 : Int64), (0 : Int64), (0 : Int64), (0 : Int64), (0 : Int64), (0 : Int64), (0 : Int64), (0 : Int64), (0 : Int64), (0 : Int64), (0 : Int64), (0 : Int64), (0 : Int64), (0 : Int64)] rfl N0 ge2 (hb hby at_7) fun T4 h4 L4 X4 N4 e4 W4 A4 => ?_
  have sz5 : n0 ≤ h4.size := Nat.le_trans sz3 (Keep.of_wr W4).1
  refine o_dup 9 X4 hx rfl (hb hby at_8) rfl ?_
  refine o_iconst 10 X4 hx rfl (hb hby at_9) (1 : Int32) rfl ?_
  refine o_ldc2Long 13 X4 hx rfl hZ hown (wd_1 hw) (hb hby at_10) ?_
  refine o_lastoreX 14 X4 hx rfl hZ e4 A4 (by decide) (Nat.le_of_ble_eq_true rfl) [(1 : Int64), (10 : Int64), (0 : Int64), (0 : Int64), (0 : Int64), (0 : Int64), (0 : Int64), (0 : Int64), (0 : Int64), (0 : Int64), (0 : Int64), (0 : Int64), (0 : Int64), (0 : Int64), (0 : Int64), (0 : Int64), (0 : Int64), (0 : Int64), (0 : Int64)] rfl N4 ge2 (hb hby at_13) fun T6 h6 L6 X6 N6 e6 W6 A6 => ?_
  have sz7 : n0 ≤ h6.size := Nat.le_trans sz5 (Keep.of_wr W6).1
  refine o_dup 15 X6 hx rfl (hb hby at_14) rfl ?_
  refine o_iconst 16 X6 hx rfl (hb hby at_15) (2 : Int32) rfl ?_
  refine o_ldc2Long 19 X6 hx rfl hZ hown (wd_2 hw) (hb hby at_16) ?_
  refine o_lastoreX 20 X6 hx rfl hZ e6 A6 (by decide) (Nat.le_of_ble_eq_true rfl) [(1 : Int64), (10 : Int64), (100 : Int64), (0 : Int64), (0 : Int64), (0 : Int64), (0 : Int64), (0 : Int64), (0 : Int64), (0 : Int64), (0 : Int64), (0 : Int64), (0 : Int64), (0 : Int64), (0 : Int64), (0 : Int64), (0 : Int64), (0 : Int64), (0 : Int64)] rfl N6 ge2 (hb hby at_19) fun T8 h8 L8 X8 N8 e8 W8 A8 => ?_
  have sz9 : n0 ≤ h8.size := Nat.le_trans sz7 (Keep.of_wr W8).1
  refine o_dup 21 X8 hx rfl (hb hby at_20) rfl ?_
  refine o_iconst 22 X8 hx rfl (hb hby at_21) (3 : Int32) rfl ?_
  refine o_ldc2Long 25 X8 hx rfl hZ hown (wd_3 hw) (hb hby at_22) ?_
  refine o_lastoreX 26 X8 hx rfl hZ e8 A8 (by decide) (Nat.le_of_ble_eq_true rfl) [(1 : Int64), (10 : Int64), (100 : Int64), (1000 : Int64), (0 : Int64), (0 : Int64), (0 : Int64), (0 : Int64), (0 : Int64), (0 : Int64), (0 : Int64), (0 : Int64), (0 : Int64), (0 : Int64), (0 : Int64), (0 : Int64), (0 : Int64), (0 : Int64), (0 : Int64)] rfl N8 ge2 (hb hby at_25) fun T10 h10 L10 X10 N10 e10 W10 A10 => ?_
  have sz11 : n0 ≤ h10.size := Nat.le_trans sz9 (Keep.of_wr W10).1
  refine o_dup 27 X10 hx rfl (hb hby at_26) rfl ?_
  refine o_iconst 28 X10 hx rfl (hb hby at_27) (4 : Int32) rfl ?_
  refine o_ldc2Long 31 X10 hx rfl hZ hown (wd_4 hw) (hb hby at_28) ?_
  refine o_lastoreX 32 X10 hx rfl hZ e10 A10 (by decide) (Nat.le_of_ble_eq_true rfl) [(1 : Int64), (10 : Int64), (100 : Int64), (1000 : Int64), (10000 : Int64), (0 : Int64), (0 : Int64), (0 : Int64), (0 : Int64), (0 : Int64), (0 : Int64), (0 : Int64), (0 : Int64), (0 : Int64), (0 : Int64), (0 : Int64), (0 : Int64), (0 : Int64), (0 : Int64)] rfl N10 ge2 (hb hby at_31) fun T12 h12 L12 X12 N12 e12 W12 A12 => ?_
  have sz13 : n0 ≤ h12.size := Nat.le_trans sz11 (Keep.of_wr W12).1
  refine o_dup 33 X12 hx rfl (hb hby at_32) rfl ?_
  refine o_iconst 34 X12 hx rfl (hb hby at_33) (5 : Int32) rfl ?_
  refine o_ldc2Long 37 X12 hx rfl hZ hown (wd_5 hw) (hb hby at_34) ?_
  refine o_lastoreX 38 X12 hx rfl hZ e12 A12 (by decide) (Nat.le_of_ble_eq_true rfl) [(1 : Int64), (10 : Int64), (100 : Int64), (1000 : Int64), (10000 : Int64), (100000 : Int64), (0 : Int64), (0 : Int64), (0 : Int64), (0 : Int64), (0 : Int64), (0 : Int64), (0 : Int64), (0 : Int64), (0 : Int64), (0 : Int64), (0 : Int64), (0 : Int64), (0 : Int64)] rfl N12 ge2 (hb hby at_37) fun T14 h14 L14 X14 N14 e14 W14 A14 => ?_
  have sz15 : n0 ≤ h14.size := Nat.le_trans sz13 (Keep.of_wr W14).1
  refine o_dup 39 X14 hx rfl (hb hby at_38) rfl ?_
  refine o_bipush 41 X14 hx rfl (hb hby at_39) (6 : Int32) rfl ?_
  refine o_ldc2Long 44 X14 hx rfl hZ hown (wd_6 hw) (hb hby at_41) ?_
  refine o_lastoreX 45 X14 hx rfl hZ e14 A14 (by decide) (Nat.le_of_ble_eq_true rfl) [(1 : Int64), (10 : Int64), (100 : Int64), (1000 : Int64), (10000 : Int64), (100000 : Int64), (1000000 : Int64), (0 : Int64), (0 : Int64), (0 : Int64), (0 : Int64), (0 : Int64), (0 : Int64), (0 : Int64), (0 : Int64), (0 : Int64), (0 : Int64), (0 : Int64), (0 : Int64)] rfl N14 ge2 (hb hby at_44) fun T16 h16 L16 X16 N16 e16 W16 A16 => ?_
  have sz17 : n0 ≤ h16.size := Nat.le_trans sz15 (Keep.of_wr W16).1
  refine o_dup 46 X16 hx rfl (hb hby at_45) rfl ?_
  refine o_bipush 48 X16 hx rfl (hb hby at_46) (7 : Int32) rfl ?_
  refine o_ldc2Long 51 X16 hx rfl hZ hown (wd_7 hw) (hb hby at_48) ?_
  refine o_lastoreX 52 X16 hx rfl hZ e16 A16 (by decide) (Nat.le_of_ble_eq_true rfl) [(1 : Int64), (10 : Int64), (100 : Int64), (1000 : Int64), (10000 : Int64), (100000 : Int64), (1000000 : Int64), (10000000 : Int64), (0 : Int64), (0 : Int64), (0 : Int64), (0 : Int64), (0 : Int64), (0 : Int64), (0 : Int64), (0 : Int64), (0 : Int64), (0 : Int64), (0 : Int64)] rfl N16 ge2 (hb hby at_51) fun T18 h18 L18 X18 N18 e18 W18 A18 => ?_
  have sz19 : n0 ≤ h18.size := Nat.le_trans sz17 (Keep.of_wr W18).1
  refine o_dup 53 X18 hx rfl (hb hby at_52) rfl ?_
  refine o_bipush 55 X18 hx rfl (hb hby at_53) (8 : Int32) rfl ?_
  refine o_ldc2Long 58 X18 hx rfl hZ hown (wd_8 hw) (hb hby at_55) ?_
  refine o_lastoreX 59 X18 hx rfl hZ e18 A18 (by decide) (Nat.le_of_ble_eq_true rfl) [(1 : Int64), (10 : Int64), (100 : Int64), (1000 : Int64), (10000 : Int64), (100000 : Int64), (1000000 : Int64), (10000000 : Int64), (100000000 : Int64), (0 : Int64), (0 : Int64), (0 : Int64), (0 : Int64), (0 : Int64), (0 : Int64), (0 : Int64), (0 : Int64), (0 : Int64), (0 : Int64)] rfl N18 ge2 (hb hby at_58) fun T20 h20 L20 X20 N20 e20 W20 A20 => ?_
  have sz21 : n0 ≤ h20.size := Nat.le_trans sz19 (Keep.of_wr W20).1
  refine o_dup 60 X20 hx rfl (hb hby at_59) rfl ?_
  refine o_bipush 62 X20 hx rfl (hb hby at_60) (9 : Int32) rfl ?_
  refine o_ldc2Long 65 X20 hx rfl hZ hown (wd_9 hw) (hb hby at_62) ?_
  refine o_lastoreX 66 X20 hx rfl hZ e20 A20 (by decide) (Nat.le_of_ble_eq_true rfl) [(1 : Int64), (10 : Int64), (100 : Int64), (1000 : Int64), (10000 : Int64), (100000 : Int64), (1000000 : Int64), (10000000 : Int64), (100000000 : Int64), (1000000000 : Int64), (0 : Int64), (0 : Int64), (0 : Int64), (0 : Int64), (0 : Int64), (0 : Int64), (0 : Int64), (0 : Int64), (0 : Int64)] rfl N20 ge2 (hb hby at_65) fun T22 h22 L22 X22 N22 e22 W22 A22 => ?_
  have sz23 : n0 ≤ h22.size := Nat.le_trans sz21 (Keep.of_wr W22).1
  refine o_dup 67 X22 hx rfl (hb hby at_66) rfl ?_
  refine o_bipush 69 X22 hx rfl (hb hby at_67) (10 : Int32) rfl ?_
  refine o_ldc2Long 72 X22 hx rfl hZ hown (wd_10 hw) (hb hby at_69) ?_
  refine o_lastoreX 73 X22 hx rfl hZ e22 A22 (by decide) (Nat.le_of_ble_eq_true rfl) [(1 : Int64), (10 : Int64), (100 : Int64), (1000 : Int64), (10000 : Int64), (100000 : Int64), (1000000 : Int64), (10000000 : Int64), (100000000 : Int64), (1000000000 : Int64), (10000000000 : Int64), (0 : Int64), (0 : Int64), (0 : Int64), (0 : Int64), (0 : Int64), (0 : Int64), (0 : Int64), (0 : Int64)] rfl N22 ge2 (hb hby at_72) fun T24 h24 L24 X24 N24 e24 W24 A24 => ?_
  have sz25 : n0 ≤ h24.size := Nat.le_trans sz23 (Keep.of_wr W24).1
  refine o_dup 74 X24 hx rfl (hb hby at_73) rfl ?_
  refine o_bipush 76 X24 hx rfl (hb hby at_74) (11 : Int32) rfl ?_
  refine o_ldc2Long 79 X24 hx rfl hZ hown (wd_11 hw) (hb hby at_76) ?_
  refine o_lastoreX 80 X24 hx rfl hZ e24 A24 (by decide) (Nat.le_of_ble_eq_true rfl) [(1 : Int64), (10 : Int64), (100 : Int64), (1000 : Int64), (10000 : Int64), (100000 : Int64), (1000000 : Int64), (10000000 : Int64), (100000000 : Int64), (1000000000 : Int64), (10000000000 : Int64), (100000000000 : Int64), (0 : Int64), (0 : Int64), (0 : Int64), (0 : Int64), (0 : Int64), (0 : Int64), (0 : Int64)] rfl N24 ge2 (hb hby at_79) fun T26 h26 L26 X26 N26 e26 W26 A26 => ?_
  have sz27 : n0 ≤ h26.size := Nat.le_trans sz25 (Keep.of_wr W26).1
  refine o_dup 81 X26 hx rfl (hb hby at_80) rfl ?_
  refine o_bipush 83 X26 hx rfl (hb hby at_81) (12 : Int32) rfl ?_
  refine o_ldc2Long 86 X26 hx rfl hZ hown (wd_12 hw) (hb hby at_83) ?_
  refine o_lastoreX 87 X26 hx rfl hZ e26 A26 (by decide) (Nat.le_of_ble_eq_true rfl) [(1 : Int64), (10 : Int64), (100 : Int64), (1000 : Int64), (10000 : Int64), (100000 : Int64), (1000000 : Int64), (10000000 : Int64), (100000000 : Int64), (1000000000 : Int64), (10000000000 : Int64), (100000000000 : Int64), (1000000000000 : Int64), (0 : Int64), (0 : Int64), (0 : Int64), (0 : Int64), (0 : Int64), (0 : Int64)] rfl N26 ge2 (hb hby at_86) fun T28 h28 L28 X28 N28 e28 W28 A28 => ?_
  have sz29 : n0 ≤ h28.size := Nat.le_trans sz27 (Keep.of_wr W28).1
  refine o_dup 88 X28 hx rfl (hb hby at_87) rfl ?_
  refine o_bipush 90 X28 hx rfl (hb hby at_88) (13 : Int32) rfl ?_
  refine o_ldc2Long 93 X28 hx rfl hZ hown (wd_13 hw) (hb hby at_90) ?_
  refine o_lastoreX 94 X28 hx rfl hZ e28 A28 (by decide) (Nat.le_of_ble_eq_true rfl) [(1 : Int64), (10 : Int64), (100 : Int64), (1000 : Int64), (10000 : Int64), (100000 : Int64), (1000000 : Int64), (10000000 : Int64), (100000000 : Int64), (1000000000 : Int64), (10000000000 : Int64), (100000000000 : Int64), (1000000000000 : Int64), (10000000000000 : Int64), (0 : Int64), (0 : Int64), (0 : Int64), (0 : Int64), (0 : Int64)] rfl N28 ge2 (hb hby at_93) fun T30 h30 L30 X30 N30 e30 W30 A30 => ?_
  have sz31 : n0 ≤ h30.size := Nat.le_trans sz29 (Keep.of_wr W30).1
  refine o_dup 95 X30 hx rfl (hb hby at_94) rfl ?_
  refine o_bipush 97 X30 hx rfl (hb hby at_95) (14 : Int32) rfl ?_
  refine o_ldc2Long 100 X30 hx rfl hZ hown (wd_14 hw) (hb hby at_97) ?_
  refine o_lastoreX 101 X30 hx rfl hZ e30 A30 (by decide) (Nat.le_of_ble_eq_true rfl) [(1 : Int64), (10 : Int64), (100 : Int64), (1000 : Int64), (10000 : Int64), (100000 : Int64), (1000000 : Int64), (10000000 : Int64), (100000000 : Int64), (1000000000 : Int64), (10000000000 : Int64), (100000000000 : Int64), (1000000000000 : Int64), (10000000000000 : Int64), (100000000000000 : Int64), (0 : Int64), (0 : Int64), (0 : Int64), (0 : Int64)] rfl N30 ge2 (hb hby at_100) fun T32 h32 L32 X32 N32 e32 W32 A32 => ?_
  have sz33 : n0 ≤ h32.size := Nat.le_trans sz31 (Keep.of_wr W32).1
  refine o_dup 102 X32 hx rfl (hb hby at_101) rfl ?_
  refine o_bipush 104 X32 hx rfl (hb hby at_102) (15 : Int32) rfl ?_
  refine o_ldc2Long 107 X32 hx rfl hZ hown (wd_15 hw) (hb hby at_104) ?_
  refine o_lastoreX 108 X32 hx rfl hZ e32 A32 (by decide) (Nat.le_of_ble_eq_true rfl) [(1 : Int64), (10 : Int64), (100 : Int64), (1000 : Int64), (10000 : Int64), (100000 : Int64), (1000000 : Int64), (10000000 : Int64), (100000000 : Int64), (1000000000 : Int64), (10000000000 : Int64), (100000000000 : Int64), (1000000000000 : Int64), (10000000000000 : Int64), (100000000000000 : Int64), (1000000000000000 : Int64), (0 : Int64), (0 : Int64), (0 : Int64)] rfl N32 ge2 (hb hby at_107) fun T34 h34 L34 X34 N34 e34 W34 A34 => ?_
  have sz35 : n0 ≤ h34.size := Nat.le_trans sz33 (Keep.of_wr W34).1
  refine o_dup 109 X34 hx rfl (hb hby at_108) rfl ?_
  refine o_bipush 111 X34 hx rfl (hb hby at_109) (16 : Int32) rfl ?_
  refine o_ldc2Long 114 X34 hx rfl hZ hown (wd_16 hw) (hb hby at_111) ?_
  refine o_lastoreX 115 X34 hx rfl hZ e34 A34 (by decide) (Nat.le_of_ble_eq_true rfl) [(1 : Int64), (10 : Int64), (100 : Int64), (1000 : Int64), (10000 : Int64), (100000 : Int64), (1000000 : Int64), (10000000 : Int64), (100000000 : Int64), (1000000000 : Int64), (10000000000 : Int64), (100000000000 : Int64), (1000000000000 : Int64), (10000000000000 : Int64), (100000000000000 : Int64), (1000000000000000 : Int64), (10000000000000000 : Int64), (0 : Int64), (0 : Int64)] rfl N34 ge2 (hb hby at_114) fun T36 h36 L36 X36 N36 e36 W36 A36 => ?_
  have sz37 : n0 ≤ h36.size := Nat.le_trans sz35 (Keep.of_wr W36).1
  refine o_dup 116 X36 hx rfl (hb hby at_115) rfl ?_
  refine o_bipush 118 X36 hx rfl (hb hby at_116) (17 : Int32) rfl ?_
  refine o_ldc2Long 121 X36 hx rfl hZ hown (wd_17 hw) (hb hby at_118) ?_
  refine o_lastoreX 122 X36 hx rfl hZ e36 A36 (by decide) (Nat.le_of_ble_eq_true rfl) [(1 : Int64), (10 : Int64), (100 : Int64), (1000 : Int64), (10000 : Int64), (100000 : Int64), (1000000 : Int64), (10000000 : Int64), (100000000 : Int64), (1000000000 : Int64), (10000000000 : Int64), (100000000000 : Int64), (1000000000000 : Int64), (10000000000000 : Int64), (100000000000000 : Int64), (1000000000000000 : Int64), (10000000000000000 : Int64), (100000000000000000 : Int64), (0 : Int64)] rfl N36 ge2 (hb hby at_121) fun T38 h38 L38 X38 N38 e38 W38 A38 => ?_
  have sz39 : n0 ≤ h38.size := Nat.le_trans sz37 (Keep.of_wr W38).1
  refine o_dup 123 X38 hx rfl (hb hby at_122) rfl ?_
  refine o_bipush 125 X38 hx rfl (hb hby at_123) (18 : Int32) rfl ?_
  refine o_ldc2Long 128 X38 hx rfl hZ hown (wd_18 hw) (hb hby at_125) ?_
  refine o_lastoreX 129 X38 hx rfl hZ e38 A38 (by decide) (Nat.le_of_ble_eq_true rfl) [(1 : Int64), (10 : Int64), (100 : Int64), (1000 : Int64), (10000 : Int64), (100000 : Int64), (1000000 : Int64), (10000000 : Int64), (100000000 : Int64), (1000000000 : Int64), (10000000000 : Int64), (100000000000 : Int64), (1000000000000 : Int64), (10000000000000 : Int64), (100000000000000 : Int64), (1000000000000000 : Int64), (10000000000000000 : Int64), (100000000000000000 : Int64), (1000000000000000000 : Int64)] rfl N38 ge2 (hb hby at_128) fun T40 h40 L40 X40 N40 e40 W40 A40 => ?_
  have sz41 : n0 ≤ h40.size := Nat.le_trans sz39 (Keep.of_wr W40).1
  refine o_astore 131 X40 hx rfl (hb hby at_129) rfl #[.val (.long q0), .second, .val (.int i1), .val (.int i2), .val (.int i3), .val (.ref a1), .unset, .unset, .unset, .unset, .unset, .unset, .unset] rfl ?_
  have F42 : Arv Z h40 a1 k1 .long (19 : Int32) (own_ps.map Value.long) (.long 0) := A40
  refine o_iloadN 132 X40 hx rfl (hb hby at_131) rfl ?_
  refine o_ldcInt 134 X40 hx rfl hZ hown (wd_19 hw) (hb hby at_132) ?_
  refine o_iand 135 X40 hx rfl (hb hby at_134) ?_
  refine o_iconst 136 X40 hx rfl (hb hby at_135) (3 : Int32) rfl ?_
  refine o_irem 137 X40 hx rfl (hb hby at_136) (by decide) ?_
  refine o_istore 139 X40 hx rfl (hb hby at_137) #[.val (.long q0), .second, .val (.int i1), .val (.int i2), .val (.int i3), .val (.ref a1), .val (.int (f0_137 i1)), .unset, .unset, .unset, .unset, .unset, .unset] rfl ?_
  obtain ⟨O, hO, ho⟩ := own_O i1
  rw [ho]
  refine o_iloadN 140 X40 hx rfl (hb hby at_139) rfl ?_
  refine o_ldcInt 142 X40 hx rfl hZ hown (wd_19 hw) (hb hby at_140) ?_
  refine o_iand 143 X40 hx rfl (hb hby at_142) ?_
  refine o_bipush 145 X40 hx rfl (hb hby at_143) (10 : Int32) rfl ?_
  refine o_irem 146 X40 hx rfl (hb hby at_145) (by decide) ?_
  refine o_istore 148 X40 hx rfl (hb hby at_146) #[.val (.long q0), .second, .val (.int i1), .val (.int i2), .val (.int i3), .val (.ref a1), .val (.int (Int32.ofNat O)), .val (.int (f0_146 i2)), .unset, .unset, .unset, .unset, .unset] rfl ?_
  obtain ⟨Ln, hLn, hl⟩ := own_L i2
  rw [hl]
  refine o_lloadN 149 X40 hx rfl (hb hby at_148) rfl ?_
  refine o_ldc2Long 152 X40 hx rfl hZ hown (wd_20 hw) (hb hby at_149) ?_
  refine o_land 153 X40 hx rfl (hb hby at_152) ?_
  refine o_aload 155 X40 hx rfl (hb hby at_153) rfl rfl ?_
  refine o_iconst 156 X40 hx rfl (hb hby at_155) (2 : Int32) rfl ?_
  refine o_iload 158 X40 hx rfl (hb hby at_156) rfl ?_
  refine o_imul 159 X40 hx rfl (hb hby at_158) ?_
  refine o_laloadX 160 X40 hx rfl hZ e40 F42 (own_ix2 hLn) (hb hby at_159) (own_ps.getD ((2 : Int32) * (Int32.ofNat Ln)).toNatClampNeg 0) rfl ?_
  refine o_lrem 161 X40 hx rfl (hb hby at_160) (own_psnz (own_ix2 hLn)) ?_
  refine o_lstore 163 X40 hx rfl (hb hby at_161) #[.val (.long q0), .second, .val (.int i1), .val (.int i2), .val (.int i3), .val (.ref a1), .val (.int (Int32.ofNat O)), .val (.int (Int32.ofNat Ln)), .val (.long (f0_161 Ln q0)), .second, .unset, .unset, .unset] rfl ?_
  obtain ⟨q, hq⟩ : ∃ q, (f0_161 Ln q0) = q := ⟨_, rfl⟩
  rw [hq]
  refine o_iload 165 X40 hx rfl (hb hby at_163) rfl ?_
  refine o_i2b 166 X40 hx rfl (hb hby at_165) ?_
  refine o_istore 168 X40 hx rfl (hb hby at_166) #[.val (.long q0), .second, .val (.int i1), .val (.int i2), .val (.int i3), .val (.ref a1), .val (.int (Int32.ofNat O)), .val (.int (Int32.ofNat Ln)), .val (.long q), .second, .val (.int (i3.toInt8.toInt32)), .unset, .unset] rfl ?_
  have hq0 : 0 ≤ q.toInt := by rw [← hq]; exact own_q0 Ln q0 hLn
  have hsn := own_bb i3
  generalize (i3.toInt8.toInt32) = sn at hsn ⊢
  refine o_bipush 170 X40 hx rfl (hb hby at_168) (12 : Int32) rfl ?_
  refine o_newarrI 172 X40 hx rfl hZ .byte .byte rfl rfl (wd_21 hw) e40 (hb hby at_170) (by decide) 12 (by decide) (by decide) (by decide) (by decide) [(0 : Int32), (0 : Int32), (0 : Int32), (0 : Int32), (0 : Int32), (0 : Int32), (0 : Int32), (0 : Int32), (0 : Int32), (0 : Int32), (0 : Int32), (0 : Int32)] rfl fun T43 h43 a43 k43 g43 X43 e43 E43 A43 => ?_
  have ne44 : a1 ≠ a43 := Nat.ne_of_lt (Nat.lt_of_lt_of_eq F42.lt g43.symm)
  have ge45 : n0 ≤ a43 := Nat.le_trans sz41 (Nat.le_of_eq g43.symm)
  have F46 : Arv Z h43 a1 k1 .long (19 : Int32) (own_ps.map Value.long) (.long 0) := F42.ext E43
  have sz47 : n0 ≤ h43.size := Nat.le_trans sz41 E43.1
  refine o_astore 174 X43 hx rfl (hb hby at_172) rfl #[.val (.long q0), .second, .val (.int i1), .val (.int i2), .val (.int i3), .val (.ref a1), .val (.int (Int32.ofNat O)), .val (.int (Int32.ofNat Ln)), .val (.long q), .second, .val (.int sn), .val (.ref a43), .unset] rfl ?_
  refine o_aload 176 X43 hx rfl (hb hby at_174) rfl rfl ?_
  refine o_iconst 177 X43 hx rfl (hb hby at_176) (0 : Int32) rfl ?_
  refine o_iload 179 X43 hx rfl (hb hby at_177) rfl ?_
  refine o_bastoreBX 180 X43 hx rfl hZ e43 A43 (by decide) (Nat.le_of_ble_eq_true rfl) [(nar .byte sn), (0 : Int32), (0 : Int32), (0 : Int32), (0 : Int32), (0 : Int32), (0 : Int32), (0 : Int32), (0 : Int32), (0 : Int32), (0 : Int32), (0 : Int32)] rfl N40 ge45 (hb hby at_179) fun T48 h48 L48 X48 N48 e48 W48 A48 => ?_
  have F49 : Arv Z h48 a1 k1 .long (19 : Int32) (own_ps.map Value.long) (.long 0) := F46.other W48 ne44
  have sz50 : n0 ≤ h48.size := Nat.le_trans sz47 (Keep.of_wr W48).1
  refine o_aload 182 X48 hx rfl (hb hby at_180) rfl rfl ?_
  refine o_iconst 183 X48 hx rfl (hb hby at_182) (1 : Int32) rfl ?_
  refine o_iload 185 X48 hx rfl (hb hby at_183) rfl ?_
  refine o_bastoreBX 186 X48 hx rfl hZ e48 A48 (by decide) (Nat.le_of_ble_eq_true rfl) [(nar .byte sn), (nar .byte sn), (0 : Int32), (0 : Int32), (0 : Int32), (0 : Int32), (0 : Int32), (0 : Int32), (0 : Int32), (0 : Int32), (0 : Int32), (0 : Int32)] rfl N48 ge45 (hb hby at_185) fun T51 h51 L51 X51 N51 e51 W51 A51 => ?_
  have F52 : Arv Z h51 a1 k1 .long (19 : Int32) (own_ps.map Value.long) (.long 0) := F49.other W51 ne44
  have sz53 : n0 ≤ h51.size := Nat.le_trans sz50 (Keep.of_wr W51).1
  refine o_aload 188 X51 hx rfl (hb hby at_186) rfl rfl ?_
  refine o_iconst 189 X51 hx rfl (hb hby at_188) (2 : Int32) rfl ?_
  refine o_iload 191 X51 hx rfl (hb hby at_189) rfl ?_
  refine o_bastoreBX 192 X51 hx rfl hZ e51 A51 (by decide) (Nat.le_of_ble_eq_true rfl) [(nar .byte sn), (nar .byte sn), (nar .byte sn), (0 : Int32), (0 : Int32), (0 : Int32), (0 : Int32), (0 : Int32), (0 : Int32), (0 : Int32), (0 : Int32), (0 : Int32)] rfl N51 ge45 (hb hby at_191) fun T54 h54 L54 X54 N54 e54 W54 A54 => ?_
  have F55 : Arv Z h54 a1 k1 .long (19 : Int32) (own_ps.map Value.long) (.long 0) := F52.other W54 ne44
  have sz56 : n0 ≤ h54.size := Nat.le_trans sz53 (Keep.of_wr W54).1
  refine o_aload 194 X54 hx rfl (hb hby at_192) rfl rfl ?_
  refine o_iconst 195 X54 hx rfl (hb hby at_194) (3 : Int32) rfl ?_
  refine o_iload 197 X54 hx rfl (hb hby at_195) rfl ?_
  refine o_bastoreBX 198 X54 hx rfl hZ e54 A54 (by decide) (Nat.le_of_ble_eq_true rfl) [(nar .byte sn), (nar .byte sn), (nar .byte sn), (nar .byte sn), (0 : Int32), (0 : Int32), (0 : Int32), (0 : Int32), (0 : Int32), (0 : Int32), (0 : Int32), (0 : Int32)] rfl N54 ge45 (hb hby at_197) fun T57 h57 L57 X57 N57 e57 W57 A57 => ?_
  have F58 : Arv Z h57 a1 k1 .long (19 : Int32) (own_ps.map Value.long) (.long 0) := F55.other W57 ne44
  have sz59 : n0 ≤ h57.size := Nat.le_trans sz56 (Keep.of_wr W57).1
  refine o_aload 200 X57 hx rfl (hb hby at_198) rfl rfl ?_
  refine o_iconst 201 X57 hx rfl (hb hby at_200) (4 : Int32) rfl ?_
  refine o_iload 203 X57 hx rfl (hb hby at_201) rfl ?_
  refine o_bastoreBX 204 X57 hx rfl hZ e57 A57 (by decide) (Nat.le_of_ble_eq_true rfl) [(nar .byte sn), (nar .byte sn), (nar .byte sn), (nar .byte sn), (nar .byte sn), (0 : Int32), (0 : Int32), (0 : Int32), (0 : Int32), (0 : Int32), (0 : Int32), (0 : Int32)] rfl N57 ge45 (hb hby at_203) fun T60 h60 L60 X60 N60 e60 W60 A60 => ?_
  have F61 : Arv Z h60 a1 k1 .long (19 : Int32) (own_ps.map Value.long) (.long 0) := F58.other W60 ne44
  have sz62 : n0 ≤ h60.size := Nat.le_trans sz59 (Keep.of_wr W60).1
  refine o_aload 206 X60 hx rfl (hb hby at_204) rfl rfl ?_
  refine o_iconst 207 X60 hx rfl (hb hby at_206) (5 : Int32) rfl ?_
  refine o_iload 209 X60 hx rfl (hb hby at_207) rfl ?_
  refine o_bastoreBX 210 X60 hx rfl hZ e60 A60 (by decide) (Nat.le_of_ble_eq_true rfl) [(nar .byte sn), (nar .byte sn), (nar .byte sn), (nar .byte sn), (nar .byte sn), (nar .byte sn), (0 : Int32), (0 : Int32), (0 : Int32), (0 : Int32), (0 : Int32), (0 : Int32)] rfl N60 ge45 (hb hby at_209) fun T63 h63 L63 X63 N63 e63 W63 A63 => ?_
  have F64 : Arv Z h63 a1 k1 .long (19 : Int32) (own_ps.map Value.long) (.long 0) := F61.other W63 ne44
  have sz65 : n0 ≤ h63.size := Nat.le_trans sz62 (Keep.of_wr W63).1
  refine o_aload 212 X63 hx rfl (hb hby at_210) rfl rfl ?_
  refine o_bipush 214 X63 hx rfl (hb hby at_212) (6 : Int32) rfl ?_
  refine o_iload 216 X63 hx rfl (hb hby at_214) rfl ?_
  refine o_bastoreBX 217 X63 hx rfl hZ e63 A63 (by decide) (Nat.le_of_ble_eq_true rfl) [(nar .byte sn), (nar .byte sn), (nar .byte sn), (nar .byte sn), (nar .byte sn), (nar .byte sn), (nar .byte sn), (0 : Int32), (0 : Int32), (0 : Int32), (0 : Int32), (0 : Int32)] rfl N63 ge45 (hb hby at_216) fun T66 h66 L66 X66 N66 e66 W66 A66 => ?_
  have F67 : Arv Z h66 a1 k1 .long (19 : Int32) (own_ps.map Value.long) (.long 0) := F64.other W66 ne44
  have sz68 : n0 ≤ h66.size := Nat.le_trans sz65 (Keep.of_wr W66).1
  refine o_aload 219 X66 hx rfl (hb hby at_217) rfl rfl ?_
  refine o_bipush 221 X66 hx rfl (hb hby at_219) (7 : Int32) rfl ?_
  refine o_iload 223 X66 hx rfl (hb hby at_221) rfl ?_
  refine o_bastoreBX 224 X66 hx rfl hZ e66 A66 (by decide) (Nat.le_of_ble_eq_true rfl) [(nar .byte sn), (nar .byte sn), (nar .byte sn), (nar .byte sn), (nar .byte sn), (nar .byte sn), (nar .byte sn), (nar .byte sn), (0 : Int32), (0 : Int32), (0 : Int32), (0 : Int32)] rfl N66 ge45 (hb hby at_223) fun T69 h69 L69 X69 N69 e69 W69 A69 => ?_
  have F70 : Arv Z h69 a1 k1 .long (19 : Int32) (own_ps.map Value.long) (.long 0) := F67.other W69 ne44
  have sz71 : n0 ≤ h69.size := Nat.le_trans sz68 (Keep.of_wr W69).1
  refine o_aload 226 X69 hx rfl (hb hby at_224) rfl rfl ?_
  refine o_bipush 228 X69 hx rfl (hb hby at_226) (8 : Int32) rfl ?_
  refine o_iload 230 X69 hx rfl (hb hby at_228) rfl ?_
  refine o_bastoreBX 231 X69 hx rfl hZ e69 A69 (by decide) (Nat.le_of_ble_eq_true rfl) [(nar .byte sn), (nar .byte sn), (nar .byte sn), (nar .byte sn), (nar .byte sn), (nar .byte sn), (nar .byte sn), (nar .byte sn), (nar .byte sn), (0 : Int32), (0 : Int32), (0 : Int32)] rfl N69 ge45 (hb hby at_230) fun T72 h72 L72 X72 N72 e72 W72 A72 => ?_
  have F73 : Arv Z h72 a1 k1 .long (19 : Int32) (own_ps.map Value.long) (.long 0) := F70.other W72 ne44
  have sz74 : n0 ≤ h72.size := Nat.le_trans sz71 (Keep.of_wr W72).1
  refine o_aload 233 X72 hx rfl (hb hby at_231) rfl rfl ?_
  refine o_bipush 235 X72 hx rfl (hb hby at_233) (9 : Int32) rfl ?_
  refine o_iload 237 X72 hx rfl (hb hby at_235) rfl ?_
  refine o_bastoreBX 238 X72 hx rfl hZ e72 A72 (by decide) (Nat.le_of_ble_eq_true rfl) [(nar .byte sn), (nar .byte sn), (nar .byte sn), (nar .byte sn), (nar .byte sn), (nar .byte sn), (nar .byte sn), (nar .byte sn), (nar .byte sn), (nar .byte sn), (0 : Int32), (0 : Int32)] rfl N72 ge45 (hb hby at_237) fun T75 h75 L75 X75 N75 e75 W75 A75 => ?_
  have F76 : Arv Z h75 a1 k1 .long (19 : Int32) (own_ps.map Value.long) (.long 0) := F73.other W75 ne44
  have sz77 : n0 ≤ h75.size := Nat.le_trans sz74 (Keep.of_wr W75).1
  refine o_aload 240 X75 hx rfl (hb hby at_238) rfl rfl ?_
  refine o_bipush 242 X75 hx rfl (hb hby at_240) (10 : Int32) rfl ?_
  refine o_iload 244 X75 hx rfl (hb hby at_242) rfl ?_
  refine o_bastoreBX 245 X75 hx rfl hZ e75 A75 (by decide) (Nat.le_of_ble_eq_true rfl) [(nar .byte sn), (nar .byte sn), (nar .byte sn), (nar .byte sn), (nar .byte sn), (nar .byte sn), (nar .byte sn), (nar .byte sn), (nar .byte sn), (nar .byte sn), (nar .byte sn), (0 : Int32)] rfl N75 ge45 (hb hby at_244) fun T78 h78 L78 X78 N78 e78 W78 A78 => ?_
  have F79 : Arv Z h78 a1 k1 .long (19 : Int32) (own_ps.map Value.long) (.long 0) := F76.other W78 ne44
  have sz80 : n0 ≤ h78.size := Nat.le_trans sz77 (Keep.of_wr W78).1
  refine o_aload 247 X78 hx rfl (hb hby at_245) rfl rfl ?_
  refine o_bipush 249 X78 hx rfl (hb hby at_247) (11 : Int32) rfl ?_
  refine o_iload 251 X78 hx rfl (hb hby at_249) rfl ?_
  refine o_bastoreBX 252 X78 hx rfl hZ e78 A78 (by decide) (Nat.le_of_ble_eq_true rfl) [(nar .byte sn), (nar .byte sn), (nar .byte sn), (nar .byte sn), (nar .byte sn), (nar .byte sn), (nar .byte sn), (nar .byte sn), (nar .byte sn), (nar .byte sn), (nar .byte sn), (nar .byte sn)] rfl N78 ge45 (hb hby at_251) fun T81 h81 L81 X81 N81 e81 W81 A81 => ?_
  have F82 : Arv Z h81 a1 k1 .long (19 : Int32) (own_ps.map Value.long) (.long 0) := F79.other W81 ne44
  have sz83 : n0 ≤ h81.size := Nat.le_trans sz80 (Keep.of_wr W81).1
  refine o_lload 254 X81 hx rfl (hb hby at_252) rfl ?_
  refine o_aload 256 X81 hx rfl (hb hby at_254) rfl rfl ?_
  refine o_iload 258 X81 hx rfl (hb hby at_256) rfl ?_
  refine o_iload 260 X81 hx rfl (hb hby at_258) rfl ?_
  refine o_callSw 263 X81 hx rfl hZ hown (wd_22 hw) (wd_23 hw) (wd_24 hw) (wd_25 hw) (by decide) e81 N81 (rm1 l Z a0 hw q a43 O Ln 12 k43 [(nar .byte sn), (nar .byte sn), (nar .byte sn), (nar .byte sn), (nar .byte sn), (nar .byte sn), (nar .byte sn), (nar .byte sn), (nar .byte sn), (nar .byte sn), (nar .byte sn), (nar .byte sn)] h81 n0 sz83 ge45 (by decide) (by omega) rfl A81) pd_lJaBIIrV [(.long q), (.ref a43), (.int (Int32.ofNat O)), (.int (Int32.ofNat Ln))] [] rfl rfl (by rw [hml]; rfl) rfl (hb hby at_260) 0 (Nat.le_of_eq rfl) (by decide) (by decide) (by decide) (by decide) fun v84 T84 L84 LL84 X84 Q84 NF84 => ?_
  obtain ⟨rfl, M84, K84, A84⟩ := Q84
  have NN84 := NF84 M84
  have F85 : Arv Z T84.heap a1 k1 .long (19 : Int32) (own_ps.map Value.long) (.long 0) := F82.keep K84 (ninS ne44 nin0)
  have sz86 : n0 ≤ T84.heap.size := Nat.le_trans sz83 K84.1
  show Go p.tables e below (EndE s room_1 (fun v h L => v = some (.int (1 : Int32)) ∧ Fr n0 L)) (T84.setTop (mkF m 263 #[.val (.long q0), .second, .val (.int i1), .val (.int i2), .val (.int i3), .val (.ref a1), .val (.int (Int32.ofNat O)), .val (.int (Int32.ofNat Ln)), .val (.long q), .second, .val (.int sn), .val (.ref a43), .unset] []))
  refine o_iconst 264 X84 hx rfl (hb hby at_263) (1 : Int32) rfl ?_
  refine o_istore 266 X84 hx rfl (hb hby at_264) #[.val (.long q0), .second, .val (.int i1), .val (.int i2), .val (.int i3), .val (.ref a1), .val (.int (Int32.ofNat O)), .val (.int (Int32.ofNat Ln)), .val (.long q), .second, .val (.int sn), .val (.ref a43), .val (.int (1 : Int32))] rfl ?_
  refine o_iload 268 X84 hx rfl (hb hby at_266) rfl ?_
  refine o_aload 270 X84 hx rfl (hb hby at_268) rfl rfl ?_
  refine o_iconst 271 X84 hx rfl (hb hby at_270) (0 : Int32) rfl ?_
  refine o_iload 273 X84 hx rfl (hb hby at_271) rfl ?_
  refine o_iload 275 X84 hx rfl (hb hby at_273) rfl ?_
  refine o_iload 277 X84 hx rfl (hb hby at_275) rfl ?_
  refine o_aload 279 X84 hx rfl (hb hby at_277) rfl rfl ?_
  refine o_lload 281 X84 hx rfl (hb hby at_279) rfl ?_
  refine o_callP (rv := (.int (fn2 (0 : Int32) (Int32.ofNat O) (Int32.ofNat Ln) sn q (own_wr O Ln q [(nar .byte sn), (nar .byte sn), (nar .byte sn), (nar .byte sn), (nar .byte sn), (nar .byte sn), (nar .byte sn), (nar .byte sn), (nar .byte sn), (nar .byte sn), (nar .byte sn), (nar .byte sn)])))) 284 X84 hx rfl hZ hown (wd_28 hw) (wd_29 hw) (wd_30 hw) (wd_31 hw) (by decide) rfl (rm2 l Z a0 hw a43 (0 : Int32) (Int32.ofNat O) (Int32.ofNat Ln) sn a1 q k43 (own_wr O Ln q [(nar .byte sn), (nar .byte sn), (nar .byte sn), (nar .byte sn), (nar .byte sn), (nar .byte sn), (nar .byte sn), (nar .byte sn), (nar .byte sn), (nar .byte sn), (nar .byte sn), (nar .byte sn)]) k1 T84.heap A84 F85 (by decide) (own_hk (by decide) hO hLn)) pd_laBIIIBaJJrZ [(.ref a43), (.int (0 : Int32)), (.int (Int32.ofNat O)), (.int (Int32.ofNat Ln)), (.int sn), (.ref a1), (.long q)] [(.int (1 : Int32))] rfl rfl (by rw [hml]; rfl) rfl (hb hby at_281) 1 (Nat.le_of_eq rfl) (by decide) (by decide) (by decide) (by decide) rfl rfl fun T87 X87 e87 => ?_
  rw [own_ck0 q sn O Ln hO hLn hq0 hsn]
  refine o_iand 285 X87 hx rfl (hb hby at_284) ?_
  refine o_istore 287 X87 hx rfl (hb hby at_285) #[.val (.long q0), .second, .val (.int i1), .val (.int i2), .val (.int i3), .val (.ref a1), .val (.int (Int32.ofNat O)), .val (.int (Int32.ofNat Ln)), .val (.long q), .second, .val (.int sn), .val (.ref a43), .val (.int (1 : Int32))] rfl ?_
  refine o_iload 289 X87 hx rfl (hb hby at_287) rfl ?_
  refine o_aload 291 X87 hx rfl (hb hby at_289) rfl rfl ?_
  refine o_iconst 292 X87 hx rfl (hb hby at_291) (1 : Int32) rfl ?_
  refine o_iload 294 X87 hx rfl (hb hby at_292) rfl ?_
  refine o_iload 296 X87 hx rfl (hb hby at_294) rfl ?_
  refine o_iload 298 X87 hx rfl (hb hby at_296) rfl ?_
  refine o_aload 300 X87 hx rfl (hb hby at_298) rfl rfl ?_
  refine o_lload 302 X87 hx rfl (hb hby at_300) rfl ?_
  refine o_callP (rv := (.int (fn2 (1 : Int32) (Int32.ofNat O) (Int32.ofNat Ln) sn q (own_wr O Ln q [(nar .byte sn), (nar .byte sn), (nar .byte sn), (nar .byte sn), (nar .byte sn), (nar .byte sn), (nar .byte sn), (nar .byte sn), (nar .byte sn), (nar .byte sn), (nar .byte sn), (nar .byte sn)])))) 305 X87 hx rfl hZ hown (wd_28 hw) (wd_29 hw) (wd_30 hw) (wd_31 hw) (by decide) e87 (rm2 l Z a0 hw a43 (1 : Int32) (Int32.ofNat O) (Int32.ofNat Ln) sn a1 q k43 (own_wr O Ln q [(nar .byte sn), (nar .byte sn), (nar .byte sn), (nar .byte sn), (nar .byte sn), (nar .byte sn), (nar .byte sn), (nar .byte sn), (nar .byte sn), (nar .byte sn), (nar .byte sn), (nar .byte sn)]) k1 T84.heap A84 F85 (by decide) (own_hk (by decide) hO hLn)) pd_laBIIIBaJJrZ [(.ref a43), (.int (1 : Int32)), (.int (Int32.ofNat O)), (.int (Int32.ofNat Ln)), (.int sn), (.ref a1), (.long q)] [(.int (1 : Int32))] rfl rfl (by rw [hml]; rfl) rfl (hb hby at_302) 1 (Nat.le_of_eq rfl) (by decide) (by decide) (by decide) (by decide) rfl rfl fun T88 X88 e88 => ?_
  rw [own_ck1 q sn O Ln hO hLn hq0 hsn]
  refine o_iand 306 X88 hx rfl (hb hby at_305) ?_
  refine o_istore 308 X88 hx rfl (hb hby at_306) #[.val (.long q0), .second, .val (.int i1), .val (.int i2), .val (.int i3), .val (.ref a1), .val (.int (Int32.ofNat O)), .val (.int (Int32.ofNat Ln)), .val (.long q), .second, .val (.int sn), .val (.ref a43), .val (.int (1 : Int32))] rfl ?_
  refine o_iload 310 X88 hx rfl (hb hby at_308) rfl ?_
  refine o_aload 312 X88 hx rfl (hb hby at_310) rfl rfl ?_
  refine o_iconst 313 X88 hx rfl (hb hby at_312) (2 : Int32) rfl ?_
  refine o_iload 315 X88 hx rfl (hb hby at_313) rfl ?_
  refine o_iload 317 X88 hx rfl (hb hby at_315) rfl ?_
  refine o_iload 319 X88 hx rfl (hb hby at_317) rfl ?_
  refine o_aload 321 X88 hx rfl (hb hby at_319) rfl rfl ?_
  refine o_lload 323 X88 hx rfl (hb hby at_321) rfl ?_
  refine o_callP (rv := (.int (fn2 (2 : Int32) (Int32.ofNat O) (Int32.ofNat Ln) sn q (own_wr O Ln q [(nar .byte sn), (nar .byte sn), (nar .byte sn), (nar .byte sn), (nar .byte sn), (nar .byte sn), (nar .byte sn), (nar .byte sn), (nar .byte sn), (nar .byte sn), (nar .byte sn), (nar .byte sn)])))) 326 X88 hx rfl hZ hown (wd_28 hw) (wd_29 hw) (wd_30 hw) (wd_31 hw) (by decide) e88 (rm2 l Z a0 hw a43 (2 : Int32) (Int32.ofNat O) (Int32.ofNat Ln) sn a1 q k43 (own_wr O Ln q [(nar .byte sn), (nar .byte sn), (nar .byte sn), (nar .byte sn), (nar .byte sn), (nar .byte sn), (nar .byte sn), (nar .byte sn), (nar .byte sn), (nar .byte sn), (nar .byte sn), (nar .byte sn)]) k1 T84.heap A84 F85 (by decide) (own_hk (by decide) hO hLn)) pd_laBIIIBaJJrZ [(.ref a43), (.int (2 : Int32)), (.int (Int32.ofNat O)), (.int (Int32.ofNat Ln)), (.int sn), (.ref a1), (.long q)] [(.int (1 : Int32))] rfl rfl (by rw [hml]; rfl) rfl (hb hby at_323) 1 (Nat.le_of_eq rfl) (by decide) (by decide) (by decide) (by decide) rfl rfl fun T89 X89 e89 => ?_
  rw [own_ck2 q sn O Ln hO hLn hq0 hsn]
  refine o_iand 327 X89 hx rfl (hb hby at_326) ?_
  refine o_istore 329 X89 hx rfl (hb hby at_327) #[.val (.long q0), .second, .val (.int i1), .val (.int i2), .val (.int i3), .val (.ref a1), .val (.int (Int32.ofNat O)), .val (.int (Int32.ofNat Ln)), .val (.long q), .second, .val (.int sn), .val (.ref a43), .val (.int (1 : Int32))] rfl ?_
  refine o_iload 331 X89 hx rfl (hb hby at_329) rfl ?_
  refine o_aload 333 X89 hx rfl (hb hby at_331) rfl rfl ?_
  refine o_iconst 334 X89 hx rfl (hb hby at_333) (3 : Int32) rfl ?_
  refine o_iload 336 X89 hx rfl (hb hby at_334) rfl ?_
  refine o_iload 338 X89 hx rfl (hb hby at_336) rfl ?_
  refine o_iload 340 X89 hx rfl (hb hby at_338) rfl ?_
  refine o_aload 342 X89 hx rfl (hb hby at_340) rfl rfl ?_
  refine o_lload 344 X89 hx rfl (hb hby at_342) rfl ?_
  refine o_callP (rv := (.int (fn2 (3 : Int32) (Int32.ofNat O) (Int32.ofNat Ln) sn q (own_wr O Ln q [(nar .byte sn), (nar .byte sn), (nar .byte sn), (nar .byte sn), (nar .byte sn), (nar .byte sn), (nar .byte sn), (nar .byte sn), (nar .byte sn), (nar .byte sn), (nar .byte sn), (nar .byte sn)])))) 347 X89 hx rfl hZ hown (wd_28 hw) (wd_29 hw) (wd_30 hw) (wd_31 hw) (by decide) e89 (rm2 l Z a0 hw a43 (3 : Int32) (Int32.ofNat O) (Int32.ofNat Ln) sn a1 q k43 (own_wr O Ln q [(nar .byte sn), (nar .byte sn), (nar .byte sn), (nar .byte sn), (nar .byte sn), (nar .byte sn), (nar .byte sn), (nar .byte sn), (nar .byte sn), (nar .byte sn), (nar .byte sn), (nar .byte sn)]) k1 T84.heap A84 F85 (by decide) (own_hk (by decide) hO hLn)) pd_laBIIIBaJJrZ [(.ref a43), (.int (3 : Int32)), (.int (Int32.ofNat O)), (.int (Int32.ofNat Ln)), (.int sn), (.ref a1), (.long q)] [(.int (1 : Int32))] rfl rfl (by rw [hml]; rfl) rfl (hb hby at_344) 1 (Nat.le_of_eq rfl) (by decide) (by decide) (by decide) (by decide) rfl rfl fun T90 X90 e90 => ?_
  rw [own_ck3 q sn O Ln hO hLn hq0 hsn]
  refine o_iand 348 X90 hx rfl (hb hby at_347) ?_
  refine o_istore 350 X90 hx rfl (hb hby at_348) #[.val (.long q0), .second, .val (.int i1), .val (.int i2), .val (.int i3), .val (.ref a1), .val (.int (Int32.ofNat O)), .val (.int (Int32.ofNat Ln)), .val (.long q), .second, .val (.int sn), .val (.ref a43), .val (.int (1 : Int32))] rfl ?_
  refine o_iload 352 X90 hx rfl (hb hby at_350) rfl ?_
  refine o_aload 354 X90 hx rfl (hb hby at_352) rfl rfl ?_
  refine o_iconst 355 X90 hx rfl (hb hby at_354) (4 : Int32) rfl ?_
  refine o_iload 357 X90 hx rfl (hb hby at_355) rfl ?_
  refine o_iload 359 X90 hx rfl (hb hby at_357) rfl ?_
  refine o_iload 361 X90 hx rfl (hb hby at_359) rfl ?_
  refine o_aload 363 X90 hx rfl (hb hby at_361) rfl rfl ?_
  refine o_lload 365 X90 hx rfl (hb hby at_363) rfl ?_
  refine o_callP (rv := (.int (fn2 (4 : Int32) (Int32.ofNat O) (Int32.ofNat Ln) sn q (own_wr O Ln q [(nar .byte sn), (nar .byte sn), (nar .byte sn), (nar .byte sn), (nar .byte sn), (nar .byte sn), (nar .byte sn), (nar .byte sn), (nar .byte sn), (nar .byte sn), (nar .byte sn), (nar .byte sn)])))) 368 X90 hx rfl hZ hown (wd_28 hw) (wd_29 hw) (wd_30 hw) (wd_31 hw) (by decide) e90 (rm2 l Z a0 hw a43 (4 : Int32) (Int32.ofNat O) (Int32.ofNat Ln) sn a1 q k43 (own_wr O Ln q [(nar .byte sn), (nar .byte sn), (nar .byte sn), (nar .byte sn), (nar .byte sn), (nar .byte sn), (nar .byte sn), (nar .byte sn), (nar .byte sn), (nar .byte sn), (nar .byte sn), (nar .byte sn)]) k1 T84.heap A84 F85 (by decide) (own_hk (by decide) hO hLn)) pd_laBIIIBaJJrZ [(.ref a43), (.int (4 : Int32)), (.int (Int32.ofNat O)), (.int (Int32.ofNat Ln)), (.int sn), (.ref a1), (.long q)] [(.int (1 : Int32))] rfl rfl (by rw [hml]; rfl) rfl (hb hby at_365) 1 (Nat.le_of_eq rfl) (by decide) (by decide) (by decide) (by decide) rfl rfl fun T91 X91 e91 => ?_
  rw [own_ck4 q sn O Ln hO hLn hq0 hsn]
  refine o_iand 369 X91 hx rfl (hb hby at_368) ?_
  refine o_istore 371 X91 hx rfl (hb hby at_369) #[.val (.long q0), .second, .val (.int i1), .val (.int i2), .val (.int i3), .val (.ref a1), .val (.int (Int32.ofNat O)), .val (.int (Int32.ofNat Ln)), .val (.long q), .second, .val (.int sn), .val (.ref a43), .val (.int (1 : Int32))] rfl ?_
  refine o_iload 373 X91 hx rfl (hb hby at_371) rfl ?_
  refine o_aload 375 X91 hx rfl (hb hby at_373) rfl rfl ?_
  refine o_iconst 376 X91 hx rfl (hb hby at_375) (5 : Int32) rfl ?_
  refine o_iload 378 X91 hx rfl (hb hby at_376) rfl ?_
  refine o_iload 380 X91 hx rfl (hb hby at_378) rfl ?_
  refine o_iload 382 X91 hx rfl (hb hby at_380) rfl ?_
  refine o_aload 384 X91 hx rfl (hb hby at_382) rfl rfl ?_
  refine o_lload 386 X91 hx rfl (hb hby at_384) rfl ?_
  refine o_callP (rv := (.int (fn2 (5 : Int32) (Int32.ofNat O) (Int32.ofNat Ln) sn q (own_wr O Ln q [(nar .byte sn), (nar .byte sn), (nar .byte sn), (nar .byte sn), (nar .byte sn), (nar .byte sn), (nar .byte sn), (nar .byte sn), (nar .byte sn), (nar .byte sn), (nar .byte sn), (nar .byte sn)])))) 389 X91 hx rfl hZ hown (wd_28 hw) (wd_29 hw) (wd_30 hw) (wd_31 hw) (by decide) e91 (rm2 l Z a0 hw a43 (5 : Int32) (Int32.ofNat O) (Int32.ofNat Ln) sn a1 q k43 (own_wr O Ln q [(nar .byte sn), (nar .byte sn), (nar .byte sn), (nar .byte sn), (nar .byte sn), (nar .byte sn), (nar .byte sn), (nar .byte sn), (nar .byte sn), (nar .byte sn), (nar .byte sn), (nar .byte sn)]) k1 T84.heap A84 F85 (by decide) (own_hk (by decide) hO hLn)) pd_laBIIIBaJJrZ [(.ref a43), (.int (5 : Int32)), (.int (Int32.ofNat O)), (.int (Int32.ofNat Ln)), (.int sn), (.ref a1), (.long q)] [(.int (1 : Int32))] rfl rfl (by rw [hml]; rfl) rfl (hb hby at_386) 1 (Nat.le_of_eq rfl) (by decide) (by decide) (by decide) (by decide) rfl rfl fun T92 X92 e92 => ?_
  rw [own_ck5 q sn O Ln hO hLn hq0 hsn]
  refine o_iand 390 X92 hx rfl (hb hby at_389) ?_
  refine o_istore 392 X92 hx rfl (hb hby at_390) #[.val (.long q0), .second, .val (.int i1), .val (.int i2), .val (.int i3), .val (.ref a1), .val (.int (Int32.ofNat O)), .val (.int (Int32.ofNat Ln)), .val (.long q), .second, .val (.int sn), .val (.ref a43), .val (.int (1 : Int32))] rfl ?_
  refine o_iload 394 X92 hx rfl (hb hby at_392) rfl ?_
  refine o_aload 396 X92 hx rfl (hb hby at_394) rfl rfl ?_
  refine o_bipush 398 X92 hx rfl (hb hby at_396) (6 : Int32) rfl ?_
  refine o_iload 400 X92 hx rfl (hb hby at_398) rfl ?_
  refine o_iload 402 X92 hx rfl (hb hby at_400) rfl ?_
  refine o_iload 404 X92 hx rfl (hb hby at_402) rfl ?_
  refine o_aload 406 X92 hx rfl (hb hby at_404) rfl rfl ?_
  refine o_lload 408 X92 hx rfl (hb hby at_406) rfl ?_
  refine o_callP (rv := (.int (fn2 (6 : Int32) (Int32.ofNat O) (Int32.ofNat Ln) sn q (own_wr O Ln q [(nar .byte sn), (nar .byte sn), (nar .byte sn), (nar .byte sn), (nar .byte sn), (nar .byte sn), (nar .byte sn), (nar .byte sn), (nar .byte sn), (nar .byte sn), (nar .byte sn), (nar .byte sn)])))) 411 X92 hx rfl hZ hown (wd_28 hw) (wd_29 hw) (wd_30 hw) (wd_31 hw) (by decide) e92 (rm2 l Z a0 hw a43 (6 : Int32) (Int32.ofNat O) (Int32.ofNat Ln) sn a1 q k43 (own_wr O Ln q [(nar .byte sn), (nar .byte sn), (nar .byte sn), (nar .byte sn), (nar .byte sn), (nar .byte sn), (nar .byte sn), (nar .byte sn), (nar .byte sn), (nar .byte sn), (nar .byte sn), (nar .byte sn)]) k1 T84.heap A84 F85 (by decide) (own_hk (by decide) hO hLn)) pd_laBIIIBaJJrZ [(.ref a43), (.int (6 : Int32)), (.int (Int32.ofNat O)), (.int (Int32.ofNat Ln)), (.int sn), (.ref a1), (.long q)] [(.int (1 : Int32))] rfl rfl (by rw [hml]; rfl) rfl (hb hby at_408) 1 (Nat.le_of_eq rfl) (by decide) (by decide) (by decide) (by decide) rfl rfl fun T93 X93 e93 => ?_
  rw [own_ck6 q sn O Ln hO hLn hq0 hsn]
  refine o_iand 412 X93 hx rfl (hb hby at_411) ?_
  refine o_istore 414 X93 hx rfl (hb hby at_412) #[.val (.long q0), .second, .val (.int i1), .val (.int i2), .val (.int i3), .val (.ref a1), .val (.int (Int32.ofNat O)), .val (.int (Int32.ofNat Ln)), .val (.long q), .second, .val (.int sn), .val (.ref a43), .val (.int (1 : Int32))] rfl ?_
  refine o_iload 416 X93 hx rfl (hb hby at_414) rfl ?_
  refine o_aload 418 X93 hx rfl (hb hby at_416) rfl rfl ?_
  refine o_bipush 420 X93 hx rfl (hb hby at_418) (7 : Int32) rfl ?_
  refine o_iload 422 X93 hx rfl (hb hby at_420) rfl ?_
  refine o_iload 424 X93 hx rfl (hb hby at_422) rfl ?_
  refine o_iload 426 X93 hx rfl (hb hby at_424) rfl ?_
  refine o_aload 428 X93 hx rfl (hb hby at_426) rfl rfl ?_
  refine o_lload 430 X93 hx rfl (hb hby at_428) rfl ?_
  refine o_callP (rv := (.int (fn2 (7 : Int32) (Int32.ofNat O) (Int32.ofNat Ln) sn q (own_wr O Ln q [(nar .byte sn), (nar .byte sn), (nar .byte sn), (nar .byte sn), (nar .byte sn), (nar .byte sn), (nar .byte sn), (nar .byte sn), (nar .byte sn), (nar .byte sn), (nar .byte sn), (nar .byte sn)])))) 433 X93 hx rfl hZ hown (wd_28 hw) (wd_29 hw) (wd_30 hw) (wd_31 hw) (by decide) e93 (rm2 l Z a0 hw a43 (7 : Int32) (Int32.ofNat O) (Int32.ofNat Ln) sn a1 q k43 (own_wr O Ln q [(nar .byte sn), (nar .byte sn), (nar .byte sn), (nar .byte sn), (nar .byte sn), (nar .byte sn), (nar .byte sn), (nar .byte sn), (nar .byte sn), (nar .byte sn), (nar .byte sn), (nar .byte sn)]) k1 T84.heap A84 F85 (by decide) (own_hk (by decide) hO hLn)) pd_laBIIIBaJJrZ [(.ref a43), (.int (7 : Int32)), (.int (Int32.ofNat O)), (.int (Int32.ofNat Ln)), (.int sn), (.ref a1), (.long q)] [(.int (1 : Int32))] rfl rfl (by rw [hml]; rfl) rfl (hb hby at_430) 1 (Nat.le_of_eq rfl) (by decide) (by decide) (by decide) (by decide) rfl rfl fun T94 X94 e94 => ?_
  rw [own_ck7 q sn O Ln hO hLn hq0 hsn]
  refine o_iand 434 X94 hx rfl (hb hby at_433) ?_
  refine o_istore 436 X94 hx rfl (hb hby at_434) #[.val (.long q0), .second, .val (.int i1), .val (.int i2), .val (.int i3), .val (.ref a1), .val (.int (Int32.ofNat O)), .val (.int (Int32.ofNat Ln)), .val (.long q), .second, .val (.int sn), .val (.ref a43), .val (.int (1 : Int32))] rfl ?_
  refine o_iload 438 X94 hx rfl (hb hby at_436) rfl ?_
  refine o_aload 440 X94 hx rfl (hb hby at_438) rfl rfl ?_
  refine o_bipush 442 X94 hx rfl (hb hby at_440) (8 : Int32) rfl ?_
  refine o_iload 444 X94 hx rfl (hb hby at_442) rfl ?_
  refine o_iload 446 X94 hx rfl (hb hby at_444) rfl ?_
  refine o_iload 448 X94 hx rfl (hb hby at_446) rfl ?_
  refine o_aload 450 X94 hx rfl (hb hby at_448) rfl rfl ?_
  refine o_lload 452 X94 hx rfl (hb hby at_450) rfl ?_
  refine o_callP (rv := (.int (fn2 (8 : Int32) (Int32.ofNat O) (Int32.ofNat Ln) sn q (own_wr O Ln q [(nar .byte sn), (nar .byte sn), (nar .byte sn), (nar .byte sn), (nar .byte sn), (nar .byte sn), (nar .byte sn), (nar .byte sn), (nar .byte sn), (nar .byte sn), (nar .byte sn), (nar .byte sn)])))) 455 X94 hx rfl hZ hown (wd_28 hw) (wd_29 hw) (wd_30 hw) (wd_31 hw) (by decide) e94 (rm2 l Z a0 hw a43 (8 : Int32) (Int32.ofNat O) (Int32.ofNat Ln) sn a1 q k43 (own_wr O Ln q [(nar .byte sn), (nar .byte sn), (nar .byte sn), (nar .byte sn), (nar .byte sn), (nar .byte sn), (nar .byte sn), (nar .byte sn), (nar .byte sn), (nar .byte sn), (nar .byte sn), (nar .byte sn)]) k1 T84.heap A84 F85 (by decide) (own_hk (by decide) hO hLn)) pd_laBIIIBaJJrZ [(.ref a43), (.int (8 : Int32)), (.int (Int32.ofNat O)), (.int (Int32.ofNat Ln)), (.int sn), (.ref a1), (.long q)] [(.int (1 : Int32))] rfl rfl (by rw [hml]; rfl) rfl (hb hby at_452) 1 (Nat.le_of_eq rfl) (by decide) (by decide) (by decide) (by decide) rfl rfl fun T95 X95 e95 => ?_
  rw [own_ck8 q sn O Ln hO hLn hq0 hsn]
  refine o_iand 456 X95 hx rfl (hb hby at_455) ?_
  refine o_istore 458 X95 hx rfl (hb hby at_456) #[.val (.long q0), .second, .val (.int i1), .val (.int i2), .val (.int i3), .val (.ref a1), .val (.int (Int32.ofNat O)), .val (.int (Int32.ofNat Ln)), .val (.long q), .second, .val (.int sn), .val (.ref a43), .val (.int (1 : Int32))] rfl ?_
  refine o_iload 460 X95 hx rfl (hb hby at_458) rfl ?_
  refine o_aload 462 X95 hx rfl (hb hby at_460) rfl rfl ?_
  refine o_bipush 464 X95 hx rfl (hb hby at_462) (9 : Int32) rfl ?_
  refine o_iload 466 X95 hx rfl (hb hby at_464) rfl ?_
  refine o_iload 468 X95 hx rfl (hb hby at_466) rfl ?_
  refine o_iload 470 X95 hx rfl (hb hby at_468) rfl ?_
  refine o_aload 472 X95 hx rfl (hb hby at_470) rfl rfl ?_
  refine o_lload 474 X95 hx rfl (hb hby at_472) rfl ?_
  refine o_callP (rv := (.int (fn2 (9 : Int32) (Int32.ofNat O) (Int32.ofNat Ln) sn q (own_wr O Ln q [(nar .byte sn), (nar .byte sn), (nar .byte sn), (nar .byte sn), (nar .byte sn), (nar .byte sn), (nar .byte sn), (nar .byte sn), (nar .byte sn), (nar .byte sn), (nar .byte sn), (nar .byte sn)])))) 477 X95 hx rfl hZ hown (wd_28 hw) (wd_29 hw) (wd_30 hw) (wd_31 hw) (by decide) e95 (rm2 l Z a0 hw a43 (9 : Int32) (Int32.ofNat O) (Int32.ofNat Ln) sn a1 q k43 (own_wr O Ln q [(nar .byte sn), (nar .byte sn), (nar .byte sn), (nar .byte sn), (nar .byte sn), (nar .byte sn), (nar .byte sn), (nar .byte sn), (nar .byte sn), (nar .byte sn), (nar .byte sn), (nar .byte sn)]) k1 T84.heap A84 F85 (by decide) (own_hk (by decide) hO hLn)) pd_laBIIIBaJJrZ [(.ref a43), (.int (9 : Int32)), (.int (Int32.ofNat O)), (.int (Int32.ofNat Ln)), (.int sn), (.ref a1), (.long q)] [(.int (1 : Int32))] rfl rfl (by rw [hml]; rfl) rfl (hb hby at_474) 1 (Nat.le_of_eq rfl) (by decide) (by decide) (by decide) (by decide) rfl rfl fun T96 X96 e96 => ?_
  rw [own_ck9 q sn O Ln hO hLn hq0 hsn]
  refine o_iand 478 X96 hx rfl (hb hby at_477) ?_
  refine o_istore 480 X96 hx rfl (hb hby at_478) #[.val (.long q0), .second, .val (.int i1), .val (.int i2), .val (.int i3), .val (.ref a1), .val (.int (Int32.ofNat O)), .val (.int (Int32.ofNat Ln)), .val (.long q), .second, .val (.int sn), .val (.ref a43), .val (.int (1 : Int32))] rfl ?_
  refine o_iload 482 X96 hx rfl (hb hby at_480) rfl ?_
  refine o_aload 484 X96 hx rfl (hb hby at_482) rfl rfl ?_
  refine o_bipush 486 X96 hx rfl (hb hby at_484) (10 : Int32) rfl ?_
  refine o_iload 488 X96 hx rfl (hb hby at_486) rfl ?_
  refine o_iload 490 X96 hx rfl (hb hby at_488) rfl ?_
  refine o_iload 492 X96 hx rfl (hb hby at_490) rfl ?_
  refine o_aload 494 X96 hx rfl (hb hby at_492) rfl rfl ?_
  refine o_lload 496 X96 hx rfl (hb hby at_494) rfl ?_
  refine o_callP (rv := (.int (fn2 (10 : Int32) (Int32.ofNat O) (Int32.ofNat Ln) sn q (own_wr O Ln q [(nar .byte sn), (nar .byte sn), (nar .byte sn), (nar .byte sn), (nar .byte sn), (nar .byte sn), (nar .byte sn), (nar .byte sn), (nar .byte sn), (nar .byte sn), (nar .byte sn), (nar .byte sn)])))) 499 X96 hx rfl hZ hown (wd_28 hw) (wd_29 hw) (wd_30 hw) (wd_31 hw) (by decide) e96 (rm2 l Z a0 hw a43 (10 : Int32) (Int32.ofNat O) (Int32.ofNat Ln) sn a1 q k43 (own_wr O Ln q [(nar .byte sn), (nar .byte sn), (nar .byte sn), (nar .byte sn), (nar .byte sn), (nar .byte sn), (nar .byte sn), (nar .byte sn), (nar .byte sn), (nar .byte sn), (nar .byte sn), (nar .byte sn)]) k1 T84.heap A84 F85 (by decide) (own_hk (by decide) hO hLn)) pd_laBIIIBaJJrZ [(.ref a43), (.int (10 : Int32)), (.int (Int32.ofNat O)), (.int (Int32.ofNat Ln)), (.int sn), (.ref a1), (.long q)] [(.int (1 : Int32))] rfl rfl (by rw [hml]; rfl) rfl (hb hby at_496) 1 (Nat.le_of_eq rfl) (by decide) (by decide) (by decide) (by decide) rfl rfl fun T97 X97 e97 => ?_
  rw [own_ck10 q sn O Ln hO hLn hq0 hsn]
  refine o_iand 500 X97 hx rfl (hb hby at_499) ?_
  refine o_istore 502 X97 hx rfl (hb hby at_500) #[.val (.long q0), .second, .val (.int i1), .val (.int i2), .val (.int i3), .val (.ref a1), .val (.int (Int32.ofNat O)), .val (.int (Int32.ofNat Ln)), .val (.long q), .second, .val (.int sn), .val (.ref a43), .val (.int (1 : Int32))] rfl ?_
  refine o_iload 504 X97 hx rfl (hb hby at_502) rfl ?_
  refine o_aload 506 X97 hx rfl (hb hby at_504) rfl rfl ?_
  refine o_bipush 508 X97 hx rfl (hb hby at_506) (11 : Int32) rfl ?_
  refine o_iload 510 X97 hx rfl (hb hby at_508) rfl ?_
  refine o_iload 512 X97 hx rfl (hb hby at_510) rfl ?_
  refine o_iload 514 X97 hx rfl (hb hby at_512) rfl ?_
  refine o_aload 516 X97 hx rfl (hb hby at_514) rfl rfl ?_
  refine o_lload 518 X97 hx rfl (hb hby at_516) rfl ?_
  refine o_callP (rv := (.int (fn2 (11 : Int32) (Int32.ofNat O) (Int32.ofNat Ln) sn q (own_wr O Ln q [(nar .byte sn), (nar .byte sn), (nar .byte sn), (nar .byte sn), (nar .byte sn), (nar .byte sn), (nar .byte sn), (nar .byte sn), (nar .byte sn), (nar .byte sn), (nar .byte sn), (nar .byte sn)])))) 521 X97 hx rfl hZ hown (wd_28 hw) (wd_29 hw) (wd_30 hw) (wd_31 hw) (by decide) e97 (rm2 l Z a0 hw a43 (11 : Int32) (Int32.ofNat O) (Int32.ofNat Ln) sn a1 q k43 (own_wr O Ln q [(nar .byte sn), (nar .byte sn), (nar .byte sn), (nar .byte sn), (nar .byte sn), (nar .byte sn), (nar .byte sn), (nar .byte sn), (nar .byte sn), (nar .byte sn), (nar .byte sn), (nar .byte sn)]) k1 T84.heap A84 F85 (by decide) (own_hk (by decide) hO hLn)) pd_laBIIIBaJJrZ [(.ref a43), (.int (11 : Int32)), (.int (Int32.ofNat O)), (.int (Int32.ofNat Ln)), (.int sn), (.ref a1), (.long q)] [(.int (1 : Int32))] rfl rfl (by rw [hml]; rfl) rfl (hb hby at_518) 1 (Nat.le_of_eq rfl) (by decide) (by decide) (by decide) (by decide) rfl rfl fun T98 X98 e98 => ?_
  rw [own_ck11 q sn O Ln hO hLn hq0 hsn]
  refine o_iand 522 X98 hx rfl (hb hby at_521) ?_
  refine o_istore 524 X98 hx rfl (hb hby at_522) #[.val (.long q0), .second, .val (.int i1), .val (.int i2), .val (.int i3), .val (.ref a1), .val (.int (Int32.ofNat O)), .val (.int (Int32.ofNat Ln)), .val (.long q), .second, .val (.int sn), .val (.ref a43), .val (.int (1 : Int32))] rfl ?_
  refine o_iload 526 X98 hx rfl (hb hby at_524) rfl ?_
  refine o_retN X98 hx .boolean (by simp) hret hlk (hb hby at_526) (by decide) (by decide) ?_
  exact ⟨rfl, NN84⟩
set_option maxRecDepth 65536 in
set_option maxHeartbeats 40000000 in
theorem comes_1 {Post : Tables → Env → Array Value → State → Outcome → State → Prop} (hpost : ∀ tb e args s v u, (limb_1_1.after args s (.returned v) u = true ∧ limb_1_2.after args s (.returned v) u = true ∧ True) → FrameEnd s (.returned v) u (Jvm.fieldLocs frame_1_writes args s ++ Jvm.arrayLocs frame_1_arrays args s ++ Jvm.staticLocs frame_1_statics s) 16 128 → Post tb e args s (.returned v) u) :
    ArmFor flags0 classFile x code maxLocals ret World_1 tables_1 room_1 Calls_1 rest_1 Pre_1 Post := by
  intro l hfl _ _ p e ha hc hk s m args below hf hA hF happ hP
  obtain ⟨hcalls, hrest, hpre⟩ := hP
  obtain ⟨-, -, -, hnamed, -, -, -, hat⟩ := (Spec.applies_iff hf).mp happ
  obtain ⟨hg, hn⟩ := and_e (Cond.before_iff.mp (show (Jvm.Cond.and given_1 narrow_1).before args s = true from hpre))
  obtain ⟨gc, g0⟩ := and_e hg
  obtain ⟨ga0, g1⟩ := and_e g0
  obtain ⟨ga1, g2⟩ := and_e g1
  obtain ⟨ga2, g3⟩ := and_e g2
  obtain ⟨w0, w1, w2, w3, rfl⟩ : ∃ w0 w1 w2 w3 : Value, args = #[w0, w1, w2, w3] := by
    have hs : args.size = 4 := by simpa [Cond.value, given_1] using gc
    obtain ⟨L⟩ := args
    match L, hs with
    | [w0, w1, w2, w3], _ => exact ⟨w0, w1, w2, w3, rfl⟩
  have hw := fun d (hd : d ∈ tables_1) => atoms_spec (ws := Jvm.Cond.code x code maxLocals ret :: tables_1) hat d (List.mem_cons_of_mem _ hd)
  obtain ⟨i0, ei0⟩ := isL_v ga0
  obtain rfl : w0 = (.long i0) := Option.some.inj ei0
  obtain ⟨i1, ei1⟩ := is_v ga1
  obtain rfl : w1 = (.int i1) := Option.some.inj ei1
  obtain ⟨i2, ei2⟩ := is_v ga2
  obtain rfl : w2 = (.int i2) := Option.some.inj ei2
  obtain ⟨i3, ei3⟩ := is_v g3
  obtain rfl : w3 = (.int i3) := Option.some.inj ei3
  obtain ⟨n, o, h1, h2, h3, _, L, rfl, ⟨rfl, N⟩, hq⟩ := rm0 l s _ hw tables_1 i0 i1 i2 i3 s.heap s.heap.size (Nat.le_refl _) p e ha hc hk s m _ below hf ((Spec.applies_iff_loose hf).mp happ).1 ⟨rfl, State.Warmed39.refl s, rfl⟩ trivial
  refine ⟨n, _, h1, h2, h3, hpost _ _ _ _ _ _ ⟨Cond.after_iff.mpr rfl, Cond.after_iff.mpr (eq_i res_at (Term.int_eval (1)) rfl), trivial⟩ ⟨hq.1, hq.2.1, (hq.2.2.sift fun y hy => Or.inr (N y hy)).mono (by decide) (by decide)⟩⟩
theorem main_1_1 : Claimed_1_1 := comes_1 fun _ _ _ _ _ _ h hF => ⟨h.1, hF⟩
theorem main_1_2 : Claimed_1_2 := comes_1 fun _ _ _ _ _ _ h hF => ⟨h.2.1, hF⟩
end Jvm.Pilot.@@N@@
namespace Jvm.Pilot.@@N@@
open Jvm Jvm.ClassFile Sem Op Lib Jvm.Free Jvm.Stand Jvm.Pilot.@@N@@.Jvm.D
/-! MADE BY PROGRAM (witnessworld.py) out of the Statement's table words and the real class files: 11 classes; the members and pool entries that the words name. The judged class is class 1, her method 3. -/
namespace start1
open Jvm.ClassFile
def u (s : String) : CpInfo := .utf8 (stringToUtf16 s)
/-- a pool by its gaps: so many unusable entries, then the entry; so many at the end -/
def gap : Nat → List CpInfo → List CpInfo
  | 0, r => r
  | n + 1, r => .unusable :: gap n r
def poolList (es : List (Nat × CpInfo)) (last : Nat) : List CpInfo := es.foldr (fun e r => gap e.1 (e.2 :: r)) (gap last [])
def pool (es : List (Nat × CpInfo)) (last : Nat) : Array CpInfo := ⟨poolList es last⟩
def fileOf (pool : Array CpInfo) (this : Nat) (attrs : Array Attribute := #[]) (ms : Array MethodInfo := #[]) (fl : Nat := 33) (sup : Nat := 0) (ifs : Array Nat := #[]) (fds : Array FieldInfo := #[]) : ClassFile where
  minorVersion := 0
  majorVersion := 65
  constantPool := pool
  accessFlags := fl
  thisClass := this
  superClass := sup
  interfaces := ifs
  fields := fds
  methods := ms
  attributes := attrs
def plain (name : String) (sup : Option ClassId) : Class where
  name := name
  kind := .ordinary
  loader := none
  accessFlags := 33
  super := sup
  interfaces := #[]
  cf := none
  fields := #[]
  methods := #[]
  instanceTypes := #[]
  staticTypes := #[]
  resolved := #[]
  callSites := []
  init := .initialized
  statics := none
  mirror := none

def pool0 : Array CpInfo := pool [(5, u "<init>"), (0, u "()V"), (1, .class_ 10), (1, u "java/lang/Object")] 113

def k0m0 : Method := { name := "<init>", desc := "()V", sig := { parameters := [], returnType := none }, accessFlags := 1, code := none }
/-- java/lang/Object -/
def k0 : Class := { plain "java/lang/Object" none with
  accessFlags := 33
  interfaces := #[]
  cf := some (fileOf pool0 8 #[] #[{ accessFlags := 1, nameIndex := 5, descriptorIndex := 6, attributes := #[] }] 33 0 #[] #[])
  fields := #[]
  methods := #[k0m0]
  instanceTypes := #[]
  staticTypes := #[]
  resolved := Array.replicate 124 none
  statics := none }

def pool1 : Array CpInfo := pool [(2, .class_ 4), (1, u "java/lang/Object"), (0, u "<init>"), (0, u "()V"), (0, .long 10), (1, .methodref 10 11), (0, .class_ 12), (0, .nameAndType 13 14), (0, u "com/example/coarsefine/coarsefine/ccs/BcdWritePinLaw"), (0, u "digit"), (0, u "([JJI)J"), (0, .long 16), (1, .long 100), (1, .long 1000), (1, .long 10000), (1, .long 100000), (1, .long 1000000), (1, .long 10000000), (1, .long 100000000), (1, .long 1000000000), (1, .long 10000000000), (1, .long 100000000000), (1, .long 1000000000000), (1, .long 10000000000000), (1, .long 100000000000000), (1, .long 1000000000000000), (1, .long 10000000000000000), (1, .long 100000000000000000), (1, .long 1000000000000000000), (1, .integer 2147483647), (2, .long 9223372036854775807), (1, .methodref 57 58), (0, .class_ 59), (0, .nameAndType 60 61), (0, u "com/example/coarsefine/coarsefine/ccs/Bcd"), (0, u "write"), (0, u "(J[BII)V"), (0, .methodref 10 63), (0, .nameAndType 64 65), (0, u "check"), (0, u "([BIIIB[JJ)Z"), (7, u "law"), (0, u "(JIII)Z")] 2

def k1m0 : Method := { name := "<init>", desc := "()V", sig := { parameters := [], returnType := none }, accessFlags := 2, code := none }
def k1c1 : Code := { maxStack := 4, maxLocals := 4, code := method_2_code, exceptionTable := #[], attributes := #[] }
def k1m1 : Method := { name := "digit", desc := "([JJI)J", sig := { parameters := [(.array .long), .long, .int], returnType := some .long }, accessFlags := 10, code := some k1c1 }
def k1c2 : Code := { maxStack := 5, maxLocals := 14, code := method_3_code, exceptionTable := #[], attributes := #[] }
def k1m2 : Method := { name := "check", desc := "([BIIIB[JJ)Z", sig := { parameters := [(.array .byte), .int, .int, .int, .byte, (.array .long), .long], returnType := some .boolean }, accessFlags := 10, code := some k1c2 }
def k1c3 : Code := { maxStack := 9, maxLocals := 13, code := code, exceptionTable := #[], attributes := #[] }
def k1m3 : Method := { name := "law", desc := "(JIII)Z", sig := { parameters := [.long, .int, .int, .int], returnType := some .boolean }, accessFlags := 9, code := some k1c3 }
/-- com/example/coarsefine/coarsefine/ccs/BcdWritePinLaw -/
def k1 : Class := { plain "com/example/coarsefine/coarsefine/ccs/BcdWritePinLaw" (some 0) with
  accessFlags := 49
  interfaces := #[]
  cf := some (fileOf pool1 10 #[] #[{ accessFlags := 2, nameIndex := 5, descriptorIndex := 6, attributes := #[] }, { accessFlags := 10, nameIndex := 13, descriptorIndex := 14, attributes := #[] }, { accessFlags := 10, nameIndex := 64, descriptorIndex := 65, attributes := #[] }, { accessFlags := 9, nameIndex := 73, descriptorIndex := 74, attributes := #[] }] 49 2 #[] #[])
  fields := #[]
  methods := #[k1m0, k1m1, k1m2, k1m3]
  instanceTypes := #[]
  staticTypes := #[]
  resolved := Array.replicate 77 none
  statics := none }

def pool2 : Array CpInfo := pool [(2, .class_ 4), (1, u "java/lang/Object"), (0, u "<init>"), (0, u "()V"), (22, .long 100), (1, .long 10), (1, .class_ 34), (0, u "com/example/coarsefine/coarsefine/ccs/Bcd"), (5, u "write"), (0, u "(J[BII)V")] 17

def k2m0 : Method := { name := "<init>", desc := "()V", sig := { parameters := [], returnType := none }, accessFlags := 2, code := none }
def k2c1 : Code := { maxStack := 8, maxLocals := 8, code := prog_20_method_3_code, exceptionTable := #[], attributes := #[] }
def k2m1 : Method := { name := "write", desc := "(J[BII)V", sig := { parameters := [.long, (.array .byte), .int, .int], returnType := none }, accessFlags := 8, code := some k2c1 }
/-- com/example/coarsefine/coarsefine/ccs/Bcd -/
def k2 : Class := { plain "com/example/coarsefine/coarsefine/ccs/Bcd" (some 0) with
  accessFlags := 48
  interfaces := #[]
  cf := some (fileOf pool2 33 #[] #[{ accessFlags := 2, nameIndex := 5, descriptorIndex := 6, attributes := #[] }, { accessFlags := 8, nameIndex := 40, descriptorIndex := 41, attributes := #[] }] 48 2 #[] #[])
  fields := #[]
  methods := #[k2m0, k2m1]
  instanceTypes := #[]
  staticTypes := #[]
  resolved := Array.replicate 59 none
  statics := none }

def pool3 : Array CpInfo := pool [(1, u "java/lang/Cloneable"), (0, .class_ 1), (0, u "java/lang/Object"), (0, .class_ 3)] 3

/-- java/lang/Cloneable -/
def k3 : Class := { plain "java/lang/Cloneable" (some 0) with
  accessFlags := 1537
  interfaces := #[]
  cf := some (fileOf pool3 2 #[] #[] 1537 4 #[] #[])
  fields := #[]
  methods := #[]
  instanceTypes := #[]
  staticTypes := #[]
  resolved := Array.replicate 8 none
  statics := none }

def pool4 : Array CpInfo := pool [(1, u "java/io/Serializable"), (0, .class_ 1), (0, u "java/lang/Object"), (0, .class_ 3)] 3

/-- java/io/Serializable -/
def k4 : Class := { plain "java/io/Serializable" (some 0) with
  accessFlags := 1537
  interfaces := #[]
  cf := some (fileOf pool4 2 #[] #[] 1537 4 #[] #[])
  fields := #[]
  methods := #[]
  instanceTypes := #[]
  staticTypes := #[]
  resolved := Array.replicate 8 none
  statics := none }

/-- the primitive byte -/
def k5 : Class := { plain "byte" none with kind := .primitive 'B', accessFlags := 0x411 }
/-- [B -/
def k6 : Class := { plain "[B" (some 0) with kind := .array 5 .byte, interfaces := #[3, 4], accessFlags := 1041 }

/-- the primitive int -/
def k7 : Class := { plain "int" none with kind := .primitive 'I', accessFlags := 0x411 }
/-- [I -/
def k8 : Class := { plain "[I" (some 0) with kind := .array 7 .int, interfaces := #[3, 4], accessFlags := 1041 }

/-- the primitive long -/
def k9 : Class := { plain "long" none with kind := .primitive 'J', accessFlags := 0x411 }
/-- [J -/
def k10 : Class := { plain "[J" (some 0) with kind := .array 9 .long, interfaces := #[3, 4], accessFlags := 1041 }

def heap : Heap := #[]
def classes : Array Class := #[k0, k1, k2, k3, k4, k5, k6, k7, k8, k9, k10]
def interned : List (Array UInt16 × Addr) := []
def slotsUsed : Nat := 0
def theMethod : MethodId := ⟨1, 3⟩
def args0 : Array Value := #[.long 5, .int 5, .int 5, .int 5]
def aboutOver (below : List Frame) : State where
  vm := { classes := classes, interned := interned.toArray }
  heap := heap
  slotsUsed := slotsUsed
  threads := #[{ frames := .invoking theMethod args0 :: below }]
def below0 : List Frame := [.native { method := ⟨0, 0⟩, args := #[] }]
def about1 : State := aboutOver below0
def p0 : Program := .bare "" "" ""
def e0 : Env := launch0.env 0 0 0
theorem w_frames : about1.frames = Frame.invoking theMethod args0 :: below0 := rfl
set_option maxRecDepth 65536 in
theorem w_args : argsFit about1.vm theMethod args0 = true := by decide +kernel
set_option maxRecDepth 65536 in
theorem w_heap : heapFits about1 = true := by decide +kernel
set_option maxRecDepth 65536 in
theorem w_runnable : about1.curStatus? = some .runnable := by decide +kernel
set_option maxRecDepth 65536 in
theorem w_alone : about1.alone = true := by decide +kernel
set_option maxRecDepth 65536 in
theorem w_named : about1.methodNamed? x = some theMethod := by decide +kernel
set_option maxRecDepth 65536 in
theorem w_hears : about1.hears theMethod below0 = true := by decide +kernel
set_option maxRecDepth 65536 in
theorem w_ripe : about1.ripe theMethod args0 below0 = true := by decide +kernel
theorem w_running : about1.status = .running := rfl
set_option maxRecDepth 65536 in
theorem w_room : about1.hasRoom e0.platform room_1 = true :=
  launch0.hasRoom_least _ room_1 (by decide +kernel) (by decide +kernel) (by decide +kernel) (by decide +kernel) (by decide +kernel) (by decide +kernel)
theorem allAtoms_all (ts : List Jvm.Cond) (a : Array Jvm.Value) (st : Jvm.State) : (allAtoms ts).before a st = ts.all (fun c => c.before a st) := by
  induction ts with
  | nil => rfl
  | cons c t ih =>
    show (Jvm.Cond.and c (allAtoms t)).before a st = _
    rw [Jvm.Cond.before_and, ih, List.all_cons]
def words1 : List Jvm.Cond := Jvm.Cond.code x code maxLocals ret :: tables_1
/-- a 'code' word, met by the world's own term for the bytes: nothing is compared byte by byte -/
theorem code_word {y : MethodName} {bytes : ByteArray} {mx : Nat} {rt : Option FieldType} {a : Array Value} {s : State} {m : MethodId} {meth : Method} {c : Code} (h1 : s.methodNamed? y = some m) (h2 : s.vm.method? m = some meth) (h3 : meth.code = some c) (h4 : c.code = bytes)
    (h5 : (c.maxLocals == mx && c.exceptionTable.isEmpty && decide (c.maxStack ≤ mostOperands) && decide (meth.sig.returnType = rt) && !meth.locks && decide (parseMethodDescriptor y.desc = some meth.sig)) = true) : (Jvm.Cond.code y bytes mx rt).before a s = true := by
  simp only [Bool.and_eq_true, beq_iff_eq, Bool.not_eq_true', decide_eq_true_eq] at h5
  obtain ⟨⟨⟨⟨⟨g1, g2⟩, g3⟩, g4⟩, g5⟩, g6⟩ := h5
  simp [Cond.before, Cond.holds, Cond.value, h1, h2, h3, h4, g1, g2, g3, g4, g5, g6]
def isCode : Jvm.Cond → Bool
  | .code _ _ _ _ => true
  | _ => false
theorem all_split {L : List Jvm.Cond} {P : Jvm.Cond → Bool} (h1 : L.all (fun c => isCode c || P c) = true) (h2 : ∀ c ∈ L.filter isCode, P c = true) : L.all P = true := by
  refine List.all_eq_true.mpr fun c hc => ?_
  have h := List.all_eq_true.mp h1 c hc
  rcases Bool.eq_false_or_eq_true (isCode c) with hi | hi
  · exact h2 c (List.mem_filter.mpr ⟨hc, hi⟩)
  · simpa [hi] using h
set_option maxRecDepth 65536 in
theorem w_c0 : (Jvm.Cond.code x code maxLocals ret).before args0 about1 = true := code_word (m := ⟨1, 3⟩) (meth := k1m3) (c := k1c3) (by decide +kernel) rfl rfl rfl (by decide +kernel)
set_option maxRecDepth 65536 in
theorem w_c1 : (Jvm.Cond.code ({ cls := "com/example/coarsefine/coarsefine/ccs/Bcd", name := "write", desc := "(J[BII)V" } : Jvm.MethodName) prog_20_method_3_code (8 : Nat) (Option.none : Option Jvm.ClassFile.FieldType)).before args0 about1 = true := code_word (m := ⟨2, 1⟩) (meth := k2m1) (c := k2c1) (by decide +kernel) rfl rfl rfl (by decide +kernel)
set_option maxRecDepth 65536 in
theorem w_c2 : (Jvm.Cond.code ({ cls := "com/example/coarsefine/coarsefine/ccs/BcdWritePinLaw", name := "check", desc := "([BIIIB[JJ)Z" } : Jvm.MethodName) method_3_code (14 : Nat) (Option.some Jvm.ClassFile.FieldType.boolean)).before args0 about1 = true := code_word (m := ⟨1, 2⟩) (meth := k1m2) (c := k1c2) (by decide +kernel) rfl rfl rfl (by decide +kernel)
set_option maxRecDepth 65536 in
theorem w_c3 : (Jvm.Cond.code ({ cls := "com/example/coarsefine/coarsefine/ccs/BcdWritePinLaw", name := "digit", desc := "([JJI)J" } : Jvm.MethodName) method_2_code (4 : Nat) (Option.some Jvm.ClassFile.FieldType.long)).before args0 about1 = true := code_word (m := ⟨1, 1⟩) (meth := k1m1) (c := k1c1) (by decide +kernel) rfl rfl rfl (by decide +kernel)
def codes1 : List Jvm.Cond := [Jvm.Cond.code x code maxLocals ret, Jvm.Cond.code ({ cls := "com/example/coarsefine/coarsefine/ccs/Bcd", name := "write", desc := "(J[BII)V" } : Jvm.MethodName) prog_20_method_3_code (8 : Nat) (Option.none : Option Jvm.ClassFile.FieldType), Jvm.Cond.code ({ cls := "com/example/coarsefine/coarsefine/ccs/BcdWritePinLaw", name := "check", desc := "([BIIIB[JJ)Z" } : Jvm.MethodName) method_3_code (14 : Nat) (Option.some Jvm.ClassFile.FieldType.boolean), Jvm.Cond.code ({ cls := "com/example/coarsefine/coarsefine/ccs/BcdWritePinLaw", name := "digit", desc := "([JJI)J" } : Jvm.MethodName) method_2_code (4 : Nat) (Option.some Jvm.ClassFile.FieldType.long)]
set_option maxRecDepth 65536 in
theorem codes_eq : words1.filter isCode = codes1 := rfl
theorem w_codes : ∀ c ∈ words1.filter isCode, c.before args0 about1 = true := by
  rw [codes_eq]
  intro c hc
  simp only [codes1, List.mem_cons, List.not_mem_nil, or_false] at hc
  rcases hc with rfl | rfl | rfl | rfl
  · exact w_c0
  · exact w_c1
  · exact w_c2
  · exact w_c3
set_option maxRecDepth 65536 in
theorem w_t1 : (words1.take 24).all (fun c => isCode c || c.before args0 about1) = true := by decide +kernel
set_option maxRecDepth 65536 in
theorem w_t2 : (words1.drop 24).all (fun c => isCode c || c.before args0 about1) = true := by decide +kernel
theorem w_tables : (allAtoms (Jvm.Cond.code x code maxLocals ret :: tables_1)).before args0 about1 = true := by
  rw [allAtoms_all]
  show words1.all (fun c => c.before args0 about1) = true
  refine all_split ?_ w_codes
  rw [← List.take_append_drop 24 words1, List.all_append, w_t1, w_t2]
  rfl
set_option maxRecDepth 65536 in
theorem w_case : (Jvm.Cond.and given_1 narrow_1).before args0 about1 = true := by decide +kernel
theorem w_applies : (headSpec (Jvm.Cond.code x code maxLocals ret :: tables_1) room_1).applies x e0.platform about1 = true :=
  (Spec.applies_iff w_frames).mpr ⟨w_running, w_runnable, w_alone, w_named, w_hears, w_ripe, w_room, w_tables⟩
theorem atStart : AtStart classFile x code maxLocals ret World_1 tables_1 room_1 Calls_1 rest_1 Pre_1 launch0 p0 e0 about1 theMethod args0 below0 :=
  ⟨lists_1, trivial, launch0.admits_env _ _ _, launch0.least_env, fairChoices_fair.cas, fairChoices_fair.clock, w_frames, w_args, w_heap, w_applies, trivial, trivial, w_case⟩
end start1
theorem witness_1 : WitnessClaimed_1 := ⟨start1.p0, start1.e0, start1.about1, start1.theMethod, start1.args0, start1.below0, start1.atStart⟩
end Jvm.Pilot.@@N@@
