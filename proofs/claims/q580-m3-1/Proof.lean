import JvmDerived
import JvmDerived.Pilot.@@N@@Statement
import JvmDerived.Pilot.@@N@@Code
set_option linter.unusedVariables false
set_option linter.unusedSimpArgs false
namespace Jvm.Pilot.@@N@@
open Jvm Jvm.ClassFile Sem Op Lib Jvm.Free Jvm.Stand Jvm.LawKit Jvm.RoadKit Bundle Jvm.Pilot.@@N@@.Jvm.D
/-- from S the run goes on below 'below', ends, and E holds of the end -/
def Go (tb : Tables) (e : Env) (below : List Frame) (E : State → Outcome → Prop) (S : State) : Prop := ∃ s₂ o, Steps tb e below S s₂ ∧ s₂.status = .running ∧ Ended s₂ below o ∧ E s₂ o
theorem Go.via {tb : Tables} {e : Env} {below : List Frame} {E : State → Outcome → Prop} {S S' : State} (k : ∀ t, Steps tb e below S' t → Steps tb e below S t) (h : Go tb e below E S') : Go tb e below E S := by
  obtain ⟨a, b, c, d⟩ := h; exact ⟨a, b, k _ c, d⟩
/-- a body's contract, short -/
abbrev MetP (l : Launch) (y : MethodName) (bytes : ByteArray) (maxL : Nat) (ret : Option FieldType) (ws : List Jvm.Cond) (rm : Room) (Z : State) (as' : Array Value) (h0 : Heap) (Q : Option Value → Heap → List Loc → Prop) : Prop :=
  MetFree l y (head1 (Jvm.Cond.code y bytes maxL ret :: ws) rm) (fun a U => a = as' ∧ Z.Warmed39 U.vm ∧ U.heap = h0) (fun _ _ _ _ _ => True) (fun _ U o U' => ∃ v L, o = .returned v ∧ Q v U'.heap L ∧ FrameEnd U o U' L rm.cells rm.slots)
/-- it returned r and wrote and made nothing -/
def Pure (r : Value) (h0 : Heap) (v : Option Value) (h : Heap) (L : List Loc) : Prop := v = some r ∧ L = [] ∧ h = h0
abbrev EndE (s : State) (rm : Room) (Q : Option Value → Heap → List Loc → Prop) : State → Outcome → Prop := fun s₂ o => ∃ v L, o = .returned v ∧ Q v s₂.heap L ∧ FrameEnd s o s₂ L rm.cells rm.slots
theorem met_go {l : Launch} {y : MethodName} {bytes : ByteArray} {maxL : Nat} {ret : Option FieldType} {ws : List Jvm.Cond} {rm : Room} {Z : State} {as' : Array Value} {h0 : Heap} {Q : Option Value → Heap → List Loc → Prop} (hpl : plainFor y = true)
    (body : ∀ (p : Program) (e : Env) (s : State) (m : MethodId) (below : List Frame) (meth : Method) (c : Code) (s₁ : State), p.tables.exec = Jvm.exec → c.code = bytes → c.maxLocals = maxL → s.vm.findClass y.cls = some m.cls → meth.name = y.name → meth.sig.returnType = ret → meth.locks = false → Z.Warmed39 s.vm → s₁.heap = h0 →
      Stand p l e rm s m as' below meth c s₁ [] 0 0 → Go p.tables e below (EndE s rm Q) (s₁.setTop (entryFrame m as' maxL))) : MetP l y bytes maxL ret ws rm Z as' h0 Q := by
  refine MetFree.of_bodySF hpl hisR ?_
  intro p e s m args below meth c s₁ Bd hml hP hK
  obtain ⟨rfl, hZ, hh⟩ := hP
  exact body p e s m below meth c s₁ Bd.exec Bd.bytes hml (findClass_of_methodNamed Bd.named) (name_of_methodNamed Bd.named Bd.method).1 Bd.returns Bd.notSynchronized hZ (by rw [← hh, Bd.state]; rfl) (Stand.of_body Bd)
abbrev EndW (s : State) (rm : Room) (Q : Option Value → Heap → List Loc → Prop) : State → Outcome → Prop := fun s₂ o => ∃ v L, o = .returned v ∧ Q v s₂.heap L ∧ ReturnedEndW s o s₂ L rm.cells rm.slots
theorem met_goW {l : Launch} {y : MethodName} {bytes : ByteArray} {maxL : Nat} {ret : Option FieldType} {ws : List Jvm.Cond} {rm : Room} {Z : State} {as' : Array Value} {h0 : Heap} {Q : Option Value → Heap → List Loc → Prop} (hpl : plainFor y = true)
    (body : ∀ (p : Program) (e : Env) (s : State) (m : MethodId) (below : List Frame) (meth : Method) (c : Code) (s₁ : State), p.tables.exec = Jvm.exec → c.code = bytes → c.maxLocals = maxL → s.vm.findClass y.cls = some m.cls → meth.name = y.name → meth.sig.returnType = ret → meth.locks = false → Z.Warmed39 s.vm → s₁.heap = h0 →
      Stand p l e rm s m as' below meth c s₁ [] 0 0 → Go p.tables e below (EndW s rm Q) (s₁.setTop (entryFrame m as' maxL))) : MetFree l y (head1 (Jvm.Cond.code y bytes maxL ret :: ws) rm) (fun a U => a = as' ∧ Z.Warmed39 U.vm ∧ U.heap = h0) (fun _ _ _ _ _ => True) (fun _ U o U' => ∃ v L, o = .returned v ∧ Q v U'.heap L ∧ ReturnedEndW U o U' L rm.cells rm.slots) := by
  refine MetFree.of_bodySF hpl hisR ?_
  intro p e s m args below meth c s₁ Bd hml hP hK
  obtain ⟨rfl, hZ, hh⟩ := hP
  exact body p e s m below meth c s₁ Bd.exec Bd.bytes hml (findClass_of_methodNamed Bd.named) (name_of_methodNamed Bd.named Bd.method).1 Bd.returns Bd.notSynchronized hZ (by rw [← hh, Bd.state]; rfl) (Stand.of_body Bd)
theorem met_goZ {l : Launch} {y : MethodName} {bytes : ByteArray} {maxL : Nat} {ret : Option FieldType} {ws : List Jvm.Cond} {rm : Room} {Z : State} {as' : Array Value} {Q : Option Value → Heap → List Loc → Prop} (hpl : plainFor y = true)
    (body : ∀ (p : Program) (e : Env) (s : State) (m : MethodId) (below : List Frame) (meth : Method) (c : Code) (s₁ : State), p.tables.exec = Jvm.exec → c.code = bytes → c.maxLocals = maxL → s.vm.findClass y.cls = some m.cls → meth.name = y.name → meth.sig.returnType = ret → meth.locks = false → s = Z → s₁.heap = Z.heap →
      Stand p l e rm s m as' below meth c s₁ [] 0 0 → Go p.tables e below (EndW s rm Q) (s₁.setTop (entryFrame m as' maxL))) : MetFree l y (head1 (Jvm.Cond.code y bytes maxL ret :: ws) rm) (fun a U => a = as' ∧ U = Z) (fun _ _ _ _ _ => True) (fun _ U o U' => ∃ v L, o = .returned v ∧ Q v U'.heap L ∧ ReturnedEndW U o U' L rm.cells rm.slots) := by
  refine MetFree.of_bodySF hpl hisR ?_
  intro p e s m args below meth c s₁ Bd hml hP hK
  obtain ⟨rfl, hZ⟩ := hP
  exact body p e s m below meth c s₁ Bd.exec Bd.bytes hml (findClass_of_methodNamed Bd.named) (name_of_methodNamed Bd.named Bd.method).1 Bd.returns Bd.notSynchronized hZ (by rw [← hZ, Bd.state]; rfl) (Stand.of_body Bd)
section OwnKit
variable {p : Program} {l : Launch} {e : Env} {R : Room} {s : State} {m : MethodId} {args : Array Value} {below : List Frame} {meth : Method} {c : Code} {T : State} {locs : List Loc} {cells slots : Nat} {E : State → Outcome → Prop} {Z : State} {a0 : Array Value} {h : Heap} {pc : Nat} {Ls Ls' : Array Slot} {st : List Value}
theorem o_iload (pc' : Nat) (X : Stand p l e R s m args below meth c T locs cells slots) (hx : p.tables.exec = Jvm.exec) (hpc : pc + 2 = pc') {k : Nat} {v : Int32} (hd : decode c.code pc = .ok (.iload k, 2)) (hl : Ls[k]? = some (.val (.int v))) (h : Go p.tables e below E (T.setTop (mkF m pc' Ls ((.int v) :: st)))) : Go p.tables e below E (T.setTop (mkF m pc Ls st)) := by
  subst hpc; exact Go.via (fun _ k => XS.iload X.here hx rfl hd hl k) h
theorem o_iloadN (pc' : Nat) (X : Stand p l e R s m args below meth c T locs cells slots) (hx : p.tables.exec = Jvm.exec) (hpc : pc + 1 = pc') {k : Fin 4} {v : Int32} (hd : decode c.code pc = .ok (.iload_n k, 1)) (hl : Ls[k.val]? = some (.val (.int v))) (h : Go p.tables e below E (T.setTop (mkF m pc' Ls ((.int v) :: st)))) : Go p.tables e below E (T.setTop (mkF m pc Ls st)) := by
  subst hpc; exact Go.via (fun _ k => XS.iloadN X.here hx rfl hd hl k) h
theorem o_lloadN (pc' : Nat) (X : Stand p l e R s m args below meth c T locs cells slots) (hx : p.tables.exec = Jvm.exec) (hpc : pc + 1 = pc') {k : Fin 4} {v : Int64} (hd : decode c.code pc = .ok (.lload_n k, 1)) (hl : Ls[k.val]? = some (.val (.long v))) (h : Go p.tables e below E (T.setTop (mkF m pc' Ls ((.long v) :: st)))) : Go p.tables e below E (T.setTop (mkF m pc Ls st)) := by
  subst hpc; exact Go.via (fun _ k => XS.lloadN X.here hx rfl hd hl k) h
theorem o_aload (pc' : Nat) (X : Stand p l e R s m args below meth c T locs cells slots) (hx : p.tables.exec = Jvm.exec) (hpc : pc + 2 = pc') {k : Nat} {v : Value} (hd : decode c.code pc = .ok (.aload k, 2)) (hl : Ls[k]? = some (.val v)) (hv : v.isRef = true) (h : Go p.tables e below E (T.setTop (mkF m pc' Ls (v :: st)))) : Go p.tables e below E (T.setTop (mkF m pc Ls st)) := by
  subst hpc; exact Go.via (fun _ k => XS.aload X.here hx rfl hd hl hv k) h
theorem o_aloadN (pc' : Nat) (X : Stand p l e R s m args below meth c T locs cells slots) (hx : p.tables.exec = Jvm.exec) (hpc : pc + 1 = pc') {k : Fin 4} {v : Value} (hd : decode c.code pc = .ok (.aload_n k, 1)) (hl : Ls[k.val]? = some (.val v)) (hv : v.isRef = true) (h : Go p.tables e below E (T.setTop (mkF m pc' Ls (v :: st)))) : Go p.tables e below E (T.setTop (mkF m pc Ls st)) := by
  subst hpc; exact Go.via (fun _ k => XS.aloadN X.here hx rfl hd hl hv k) h
theorem o_istore (pc' : Nat) (X : Stand p l e R s m args below meth c T locs cells slots) (hx : p.tables.exec = Jvm.exec) (hpc : pc + 2 = pc') {k : Nat} {v : Int32} (hd : decode c.code pc = .ok (.istore k, 2)) (Ls' : Array Slot) (hl : storeLocals Ls k (.int v) = some Ls') (h : Go p.tables e below E (T.setTop (mkF m pc' Ls' st))) : Go p.tables e below E (T.setTop (mkF m pc Ls ((.int v) :: st))) := by
  subst hpc; exact Go.via (fun _ k => XS.istore X.here hx rfl hd rfl hl k) h
theorem o_lstoreN (pc' : Nat) (X : Stand p l e R s m args below meth c T locs cells slots) (hx : p.tables.exec = Jvm.exec) (hpc : pc + 1 = pc') {k : Fin 4} {v : Int64} (hd : decode c.code pc = .ok (.lstore_n k, 1)) (Ls' : Array Slot) (hl : storeLocals Ls k.val (.long v) = some Ls') (h : Go p.tables e below E (T.setTop (mkF m pc' Ls' st))) : Go p.tables e below E (T.setTop (mkF m pc Ls ((.long v) :: st))) := by
  subst hpc; exact Go.via (fun _ k => XS.lstoreN X.here hx rfl hd rfl hl k) h
theorem o_astore (pc' : Nat) (X : Stand p l e R s m args below meth c T locs cells slots) (hx : p.tables.exec = Jvm.exec) (hpc : pc + 2 = pc') {k : Nat} {v : Value} (hd : decode c.code pc = .ok (.astore k, 2)) (hv : v.isRef = true) (Ls' : Array Slot) (hl : storeLocals Ls k v = some Ls') (h : Go p.tables e below E (T.setTop (mkF m pc' Ls' st))) : Go p.tables e below E (T.setTop (mkF m pc Ls (v :: st))) := by
  subst hpc; exact Go.via (fun _ k => XS.astore X.here hx rfl hd rfl hv hl k) h
theorem o_iinc (pc' : Nat) (X : Stand p l e R s m args below meth c T locs cells slots) (hx : p.tables.exec = Jvm.exec) (hpc : pc + 3 = pc') {k : Nat} {cst : Int} {v : Int32} (hd : decode c.code pc = .ok (.iinc k cst, 3)) (w : Int32) (hw : Int32.ofInt cst = w) (hl : Ls[k]? = some (.val (.int v))) (Ls' : Array Slot) (hl' : storeLocals Ls k (.int (v + w)) = some Ls') (h : Go p.tables e below E (T.setTop (mkF m pc' Ls' st))) : Go p.tables e below E (T.setTop (mkF m pc Ls st)) := by
  subst hpc; exact Go.via (fun _ k => XS.iinc X.here hx rfl hd hl (by rw [hw]; exact hl') k) h
theorem o_iconst (pc' : Nat) (X : Stand p l e R s m args below meth c T locs cells slots) (hx : p.tables.exec = Jvm.exec) (hpc : pc + 1 = pc') {i : Int} (hd : decode c.code pc = .ok (.iconst i, 1)) (v : Int32) (hv : Int32.ofInt i = v) (h : Go p.tables e below E (T.setTop (mkF m pc' Ls (.int v :: st)))) : Go p.tables e below E (T.setTop (mkF m pc Ls st)) := by
  subst hpc; exact Go.via (fun _ k => XS.iconst X.here hx rfl hd (by rw [hv]; exact k)) h
theorem o_bipush (pc' : Nat) (X : Stand p l e R s m args below meth c T locs cells slots) (hx : p.tables.exec = Jvm.exec) (hpc : pc + 2 = pc') {i : Int} (hd : decode c.code pc = .ok (.bipush i, 2)) (v : Int32) (hv : (Int8.ofInt i).toInt32 = v) (h : Go p.tables e below E (T.setTop (mkF m pc' Ls (.int v :: st)))) : Go p.tables e below E (T.setTop (mkF m pc Ls st)) := by
  subst hpc; exact Go.via (fun _ k => XS.bipush X.here hx rfl hd (by rw [hv]; exact k)) h
theorem o_lconst (pc' : Nat) (X : Stand p l e R s m args below meth c T locs cells slots) (hx : p.tables.exec = Jvm.exec) (hpc : pc + 1 = pc') {i : Fin 2} (hd : decode c.code pc = .ok (.lconst i, 1)) (v : Int64) (hv : Int64.ofNat i = v) (h : Go p.tables e below E (T.setTop (mkF m pc' Ls (.long v :: st)))) : Go p.tables e below E (T.setTop (mkF m pc Ls st)) := by
  subst hpc; exact Go.via (fun _ k => XS.lconst X.here hx rfl hd (by rw [hv]; exact k)) h
theorem o_ldcInt (pc' : Nat) (X : Stand p l e R s m args below meth c T locs cells slots) (hx : p.tables.exec = Jvm.exec) (hpc : pc + 2 = pc') (hZ : Z.Warmed39 s.vm) {own : String} {index : Nat} (hown : s.vm.findClass own = some m.cls) {v : Int32} (w : (Jvm.Cond.constant own index v).before a0 Z = true) (hd : decode c.code pc = .ok (.ldc index, 2)) (h : Go p.tables e below E (T.setTop (mkF m pc' Ls (.int v :: st)))) : Go p.tables e below E (T.setTop (mkF m pc Ls st)) := by
  subst hpc; exact Go.via (fun _ k => X.ldcInt hx hown (mvT hZ w) (g := mkF m pc Ls st) rfl hd _ k) h
theorem o_ldc2Long (pc' : Nat) (X : Stand p l e R s m args below meth c T locs cells slots) (hx : p.tables.exec = Jvm.exec) (hpc : pc + 3 = pc') (hZ : Z.Warmed39 s.vm) {own : String} {index : Nat} (hown : s.vm.findClass own = some m.cls) {v : Int64} (w : (Jvm.Cond.constantLong own index v).before a0 Z = true) (hd : decode c.code pc = .ok (.ldc2_w index, 3)) (h : Go p.tables e below E (T.setTop (mkF m pc' Ls (.long v :: st)))) : Go p.tables e below E (T.setTop (mkF m pc Ls st)) := by
  subst hpc; exact Go.via (fun _ k => X.ldc2Long hx hown (mvT hZ w) (g := mkF m pc Ls st) rfl hd _ k) h
theorem o_iadd (pc' : Nat) (X : Stand p l e R s m args below meth c T locs cells slots) (hx : p.tables.exec = Jvm.exec) (hpc : pc + 1 = pc') {x : Int32} {y : Int32} (hd : decode c.code pc = .ok (.iadd, 1)) (h : Go p.tables e below E (T.setTop (mkF m pc' Ls (.int (x + y) :: st)))) : Go p.tables e below E (T.setTop (mkF m pc Ls (.int y :: .int x :: st))) := by
  subst hpc; exact Go.via (fun _ k => XS.iadd X.here hx rfl hd rfl k) h
theorem o_isub (pc' : Nat) (X : Stand p l e R s m args below meth c T locs cells slots) (hx : p.tables.exec = Jvm.exec) (hpc : pc + 1 = pc') {x : Int32} {y : Int32} (hd : decode c.code pc = .ok (.isub, 1)) (h : Go p.tables e below E (T.setTop (mkF m pc' Ls (.int (x - y) :: st)))) : Go p.tables e below E (T.setTop (mkF m pc Ls (.int y :: .int x :: st))) := by
  subst hpc; exact Go.via (fun _ k => XS.isub X.here hx rfl hd rfl k) h
theorem o_iand (pc' : Nat) (X : Stand p l e R s m args below meth c T locs cells slots) (hx : p.tables.exec = Jvm.exec) (hpc : pc + 1 = pc') {x : Int32} {y : Int32} (hd : decode c.code pc = .ok (.iand, 1)) (h : Go p.tables e below E (T.setTop (mkF m pc' Ls (.int (x &&& y) :: st)))) : Go p.tables e below E (T.setTop (mkF m pc Ls (.int y :: .int x :: st))) := by
  subst hpc; exact Go.via (fun _ k => XS.iand X.here hx rfl hd rfl k) h
theorem o_iushr (pc' : Nat) (X : Stand p l e R s m args below meth c T locs cells slots) (hx : p.tables.exec = Jvm.exec) (hpc : pc + 1 = pc') {x : Int32} {y : Int32} (hd : decode c.code pc = .ok (.iushr, 1)) (h : Go p.tables e below E (T.setTop (mkF m pc' Ls (.int ((x.toUInt32 >>> (y &&& 31).toUInt32).toInt32) :: st)))) : Go p.tables e below E (T.setTop (mkF m pc Ls (.int y :: .int x :: st))) := by
  subst hpc; exact Go.via (fun _ k => XS.iushr X.here hx rfl hd rfl k) h
theorem o_ladd (pc' : Nat) (X : Stand p l e R s m args below meth c T locs cells slots) (hx : p.tables.exec = Jvm.exec) (hpc : pc + 1 = pc') {x : Int64} {y : Int64} (hd : decode c.code pc = .ok (.ladd, 1)) (h : Go p.tables e below E (T.setTop (mkF m pc' Ls (.long (x + y) :: st)))) : Go p.tables e below E (T.setTop (mkF m pc Ls (.long y :: .long x :: st))) := by
  subst hpc; exact Go.via (fun _ k => XS.ladd X.here hx rfl hd rfl k) h
theorem o_lmul (pc' : Nat) (X : Stand p l e R s m args below meth c T locs cells slots) (hx : p.tables.exec = Jvm.exec) (hpc : pc + 1 = pc') {x : Int64} {y : Int64} (hd : decode c.code pc = .ok (.lmul, 1)) (h : Go p.tables e below E (T.setTop (mkF m pc' Ls (.long (x * y) :: st)))) : Go p.tables e below E (T.setTop (mkF m pc Ls (.long y :: .long x :: st))) := by
  subst hpc; exact Go.via (fun _ k => XS.lmul X.here hx rfl hd rfl k) h
theorem o_irem (pc' : Nat) (X : Stand p l e R s m args below meth c T locs cells slots) (hx : p.tables.exec = Jvm.exec) (hpc : pc + 1 = pc') {x y : Int32} (hd : decode c.code pc = .ok (.irem, 1)) (hy : y ≠ 0) (h : Go p.tables e below E (T.setTop (mkF m pc' Ls (.int (x % y) :: st)))) : Go p.tables e below E (T.setTop (mkF m pc Ls (.int y :: .int x :: st))) := by
  subst hpc; exact Go.via (fun _ k => iremM (g := mkF m pc Ls (.int y :: .int x :: st)) X hx rfl hd rfl hy k) h
theorem o_i2l (pc' : Nat) (X : Stand p l e R s m args below meth c T locs cells slots) (hx : p.tables.exec = Jvm.exec) (hpc : pc + 1 = pc') {x : Int32} (hd : decode c.code pc = .ok (.i2l, 1)) (h : Go p.tables e below E (T.setTop (mkF m pc' Ls (.long (x.toInt64) :: st)))) : Go p.tables e below E (T.setTop (mkF m pc Ls (.int x :: st))) := by
  subst hpc; exact Go.via (fun _ k => XS.i2l X.here hx rfl hd rfl k) h
theorem o_i2c (pc' : Nat) (X : Stand p l e R s m args below meth c T locs cells slots) (hx : p.tables.exec = Jvm.exec) (hpc : pc + 1 = pc') {x : Int32} (hd : decode c.code pc = .ok (.i2c, 1)) (h : Go p.tables e below E (T.setTop (mkF m pc' Ls (.int (x.toUInt32.toUInt16.toUInt32.toInt32) :: st)))) : Go p.tables e below E (T.setTop (mkF m pc Ls (.int x :: st))) := by
  subst hpc; exact Go.via (fun _ k => XS.i2c X.here hx rfl hd rfl k) h
theorem o_lcmp (pc' : Nat) (X : Stand p l e R s m args below meth c T locs cells slots) (hx : p.tables.exec = Jvm.exec) (hpc : pc + 1 = pc') {x y : Int64} (hd : decode c.code pc = .ok (.lcmp, 1)) (h : Go p.tables e below E (T.setTop (mkF m pc' Ls (.int (lcmpW x y) :: st)))) : Go p.tables e below E (T.setTop (mkF m pc Ls (.long y :: .long x :: st))) := by
  subst hpc; exact Go.via (fun _ k => XS.lcmp X.here hx rfl hd rfl k) h
theorem o_goto (pc' : Nat) (X : Stand p l e R s m args below meth c T locs cells slots) (hx : p.tables.exec = Jvm.exec) {o : Int} (hd : decode c.code pc = .ok (.goto o, 3)) (ho : 0 ≤ (pc : Int) + o) (hp : ((pc : Int) + o).toNat = pc') (h : Go p.tables e below E (T.setTop (mkF m pc' Ls st))) : Go p.tables e below E (T.setTop (mkF m pc Ls st)) := by
  exact Go.via (fun _ k => XS.goto X.here hx rfl (pc0 := pc) (pc' := pc') rfl hd ho hp k) h
theorem o_ifYes (pc' : Nat) (X : Stand p l e R s m args below meth c T locs cells slots) (hx : p.tables.exec = Jvm.exec) {cd : ClassFile.Cond} {x : Int32} {o : Int} (hd : decode c.code pc = .ok (.ifCond cd o, 3)) (hc : if_icmp.holds cd x 0 = true) (ho : 0 ≤ (pc : Int) + o) (hp : ((pc : Int) + o).toNat = pc') (h : Go p.tables e below E (T.setTop (mkF m pc' Ls st))) : Go p.tables e below E (T.setTop (mkF m pc Ls (.int x :: st))) := by
  exact Go.via (fun _ k => XS.ifYes X.here hx rfl (pc0 := pc) (pc' := pc') rfl hd rfl ((if0 _ _).trans hc) ho hp k) h
theorem o_ifNo (pc' : Nat) (X : Stand p l e R s m args below meth c T locs cells slots) (hx : p.tables.exec = Jvm.exec) (hpc : pc + 3 = pc') {cd : ClassFile.Cond} {x : Int32} {o : Int} (hd : decode c.code pc = .ok (.ifCond cd o, 3)) (hc : if_icmp.holds cd x 0 = false) (h : Go p.tables e below E (T.setTop (mkF m pc' Ls st))) : Go p.tables e below E (T.setTop (mkF m pc Ls (.int x :: st))) := by
  subst hpc; exact Go.via (fun _ k => XS.ifNo X.here hx rfl hd rfl ((if0 _ _).trans hc) k) h
theorem o_icmpYes (pc' : Nat) (X : Stand p l e R s m args below meth c T locs cells slots) (hx : p.tables.exec = Jvm.exec) {cd : ClassFile.Cond} {x y : Int32} {o : Int} (hd : decode c.code pc = .ok (.if_icmp cd o, 3)) (hc : if_icmp.holds cd x y = true) (ho : 0 ≤ (pc : Int) + o) (hp : ((pc : Int) + o).toNat = pc') (h : Go p.tables e below E (T.setTop (mkF m pc' Ls st))) : Go p.tables e below E (T.setTop (mkF m pc Ls (.int y :: .int x :: st))) := by
  exact Go.via (fun _ k => XS.icmpYes X.here hx rfl (pc0 := pc) (pc' := pc') rfl hd rfl hc ho hp k) h
theorem o_icmpNo (pc' : Nat) (X : Stand p l e R s m args below meth c T locs cells slots) (hx : p.tables.exec = Jvm.exec) (hpc : pc + 3 = pc') {cd : ClassFile.Cond} {x y : Int32} {o : Int} (hd : decode c.code pc = .ok (.if_icmp cd o, 3)) (hc : if_icmp.holds cd x y = false) (h : Go p.tables e below E (T.setTop (mkF m pc' Ls st))) : Go p.tables e below E (T.setTop (mkF m pc Ls (.int y :: .int x :: st))) := by
  subst hpc; exact Go.via (fun _ k => XS.icmpNo X.here hx rfl hd rfl hc k) h
theorem o_out (X : Stand p l e R s m args below meth c T locs cells slots) (hx : p.tables.exec = Jvm.exec) {rm : Room} {Q : Option Value → Heap → List Loc → Prop} {v : Option Value} (hv : meth.sig.returnType = none → v = none) (hlk : meth.locks = false) {g : JFrame}
    (hst : ∀ fs, (∀ (f : JFrame) (acts : List Action), f.method = m → f.locked = none → f.entered = [] → (doReturn e (T.setTop f) acts v).1 = T.setFrames fs) → Steps p.tables e below (T.setTop g) (T.setFrames fs)) (hq : Q v T.heap locs) (hk : cells ≤ rm.cells) (hn : slots ≤ rm.slots) : Go p.tables e below (EndE s rm Q) (T.setTop g) := by
  obtain ⟨fs, hr, hrun, hended, hW, hsame⟩ := X.leave (v := v) hv hlk
  exact ⟨_, _, hst fs hr, hrun, hended, _, _, rfl, hq, ⟨_, rfl⟩, hW, hsame.mono hk hn⟩
theorem o_retJ (X : Stand p l e R s m args below meth c T locs cells slots) (hx : p.tables.exec = Jvm.exec) {z : Int64} {rm : Room} {Q : Option Value → Heap → List Loc → Prop} (hret : meth.sig.returnType = some .long) (hlk : meth.locks = false) (hd : decode c.code pc = .ok (.lreturn, 1)) (hk : cells ≤ rm.cells) (hn : slots ≤ rm.slots) (hq : Q (some (.long z)) T.heap locs) : Go p.tables e below (EndE s rm Q) (T.setTop (mkF m pc Ls (.long z :: st))) :=
  o_out X hx (fun q => by rw [hret] at q; cases q) hlk (fun fs hr => retOut X hx hret rfl (Or.inr (Or.inl ⟨rfl, rfl, z, rfl⟩)) hd hr) hq hk hn
theorem o_retN (X : Stand p l e R s m args below meth c T locs cells slots) (hx : p.tables.exec = Jvm.exec) {z : Int32} (t : FieldType) (ht : t = .boolean ∨ t = .byte ∨ t = .char ∨ t = .short) {rm : Room} {Q : Option Value → Heap → List Loc → Prop} (hret : meth.sig.returnType = some t) (hlk : meth.locks = false) (hd : decode c.code pc = .ok (.ireturn, 1)) (hk : cells ≤ rm.cells) (hn : slots ≤ rm.slots) (hq : Q (some (.int (nar t z))) T.heap locs) : Go p.tables e below (EndE s rm Q) (T.setTop (mkF m pc Ls (.int z :: st))) :=
  o_out X hx (fun q => by rw [hret] at q; cases q) hlk (fun fs hr => retN X hx hret ht hd hr) hq hk hn
theorem o_callS (pc' : Nat) (X : Stand p l e R s m args below meth c T locs cells slots) (hx : p.tables.exec = Jvm.exec) (hpc : pc + 3 = pc') (hZ : Z.Warmed39 s.vm) {own : String} {index : Nat} {y : MethodName} {bytes : ByteArray} {maxL : Nat} {ret : Option FieldType} {rm : Room} {as' : Array Value} {Q : Option Value → Heap → List Loc → Prop} (hown : s.vm.findClass own = some m.cls) (w1 : (Jvm.Cond.methodLink own index y).before a0 Z = true) (w2 : (Jvm.Cond.static y).before a0 Z = true) (w3 : (Jvm.Cond.initialized y.cls).before a0 Z = true) (w4 : (Jvm.Cond.code y bytes maxL ret).before a0 Z = true) (hy : y.cls ≠ "java/lang/invoke/MethodHandle" ∧ y.cls ≠ "java/lang/invoke/VarHandle") (eT : T.heap = h)
    (hM : MetP l y bytes maxL ret [] rm Z as' h Q) {ps : List FieldType} {r : Option FieldType} (hdsc : parseMethodDescriptor y.desc = some ⟨ps, r⟩) (argsL rest : List Value) (hlen : argsL.length = ps.length) (has : argsL.toArray = as') (hsize : Ls.size = c.maxLocals) (hst : st = argsL.reverse ++ rest) (hd : decode c.code pc = .ok (.invokestatic index, 3)) (W : Nat) (hW : (rest.map fun v => v.category).sum ≤ W) (hf : rm.frames + 1 ≤ R.frames) (hlo : W + (maxL + 11) + rm.locals ≤ R.locals) (hc : cells + rm.cells ≤ R.cells) (hsl : slots + rm.slots ≤ R.slots)
    (k : ∀ (v : Option Value) (T' : State) (L : List Loc), Stand p l e R s m args below meth c T' (locs ++ L) (cells + rm.cells) (slots + rm.slots) → Q v T'.heap L → Go p.tables e below E (T'.setTop (mkF m pc' Ls (v.toList ++ rest)))) : Go p.tables e below E (T.setTop (mkF m pc Ls st)) := by
  subst hpc
  obtain ⟨v, _, ⟨T', L', c', s'⟩, -, X', ⟨L, hQ, h1, h2, h3⟩, st'⟩ := Jvm.LawKit.callS X hx (y := y) hown (mvT hZ w1) (mvT hZ w2) (mvT hZ w3) (mvT hZ w4) hy (backOf (W := W) hM hZ w4 w3 hf hlo) (g := mkF m pc Ls st) rfl hsize (argsL := argsL) (rest := rest) (lenOf hdsc hlen) hst (by show 2 * 0 + _ ≤ _; rw [Nat.mul_zero, Nat.zero_add]; exact hW) hd (fun _ _ => ⟨has, eT, hc, hsl⟩)
  dsimp only [Pt.U, Pt.locs, Pt.cells, Pt.slots] at X' h1 h2 h3 st' hQ
  subst h1 h2 h3
  exact Go.via st' (k v T' L X' hQ)
theorem o_callP (pc' : Nat) (X : Stand p l e R s m args below meth c T locs cells slots) (hx : p.tables.exec = Jvm.exec) (hpc : pc + 3 = pc') (hZ : Z.Warmed39 s.vm) {own : String} {index : Nat} {y : MethodName} {bytes : ByteArray} {maxL : Nat} {ret : Option FieldType} {rm : Room} {as' : Array Value} {rv : Value} (hown : s.vm.findClass own = some m.cls) (w1 : (Jvm.Cond.methodLink own index y).before a0 Z = true) (w2 : (Jvm.Cond.static y).before a0 Z = true) (w3 : (Jvm.Cond.initialized y.cls).before a0 Z = true) (w4 : (Jvm.Cond.code y bytes maxL ret).before a0 Z = true) (hy : y.cls ≠ "java/lang/invoke/MethodHandle" ∧ y.cls ≠ "java/lang/invoke/VarHandle") (eT : T.heap = h)
    (hM : MetP l y bytes maxL ret [] rm Z as' h (Pure rv h)) {ps : List FieldType} {r : Option FieldType} (hdsc : parseMethodDescriptor y.desc = some ⟨ps, r⟩) (argsL rest : List Value) (hlen : argsL.length = ps.length) (has : argsL.toArray = as') (hsize : Ls.size = c.maxLocals) (hst : st = argsL.reverse ++ rest) (hd : decode c.code pc = .ok (.invokestatic index, 3)) (W : Nat) (hW : (rest.map fun v => v.category).sum ≤ W) (hf : rm.frames + 1 ≤ R.frames) (hlo : W + (maxL + 11) + rm.locals ≤ R.locals) (hc : cells + rm.cells ≤ R.cells) (hsl : slots + rm.slots ≤ R.slots) (hc0 : rm.cells = 0) (hs0 : rm.slots = 0)
    (k : ∀ (T' : State), Stand p l e R s m args below meth c T' locs cells slots → T'.heap = h → Go p.tables e below E (T'.setTop (mkF m pc' Ls (rv :: rest)))) : Go p.tables e below E (T.setTop (mkF m pc Ls st)) := by
  refine o_callS pc' X hx hpc hZ hown w1 w2 w3 w4 hy eT hM hdsc argsL rest hlen has hsize hst hd W hW hf hlo hc hsl ?_
  intro v T' L X' hQ
  obtain ⟨rfl, rfl, e'⟩ := hQ
  rw [hc0, hs0, List.append_nil] at X'
  exact k T' X' e' 
theorem o_newarr (pc' : Nat) (X : Stand p l e R s m args below meth c T locs cells slots) (hx : p.tables.exec = Jvm.exec) (hpc : pc + 2 = pc') (hZ : Z.Warmed39 s.vm) (aty : ArrayType) (ty : FieldType) (hty : newarray.typeOf aty = ty) (w : (Jvm.Cond.arrayClass ty).before a0 Z = true) (eT : T.heap = h) {n : Int32} (hd : decode c.code pc = .ok (.newarray aty, 2)) (hn : ¬ n < 0) (cap : Nat) (hcap : n.toNatClampNeg ≤ cap) (hb : cap * 8 ≤ 536870912) (hc : cells + 1 ≤ R.cells) (hl : slots + cap ≤ R.slots)
    (k : ∀ (T' : State) (h' : Heap) (a : Addr) (cA : ClassId), a = h.size → Stand p l e R s m args below meth c T' locs (cells + 1) (slots + cap) → T'.heap = h' → Ext h h' → Arv Z h' a cA ty n [] (defaultValue ty) → Go p.tables e below E (T'.setTop (mkF m pc' Ls (.ref a :: st)))) : Go p.tables e below E (T.setTop (mkF m pc Ls (.int n :: st))) := by
  subst hpc; subst hty
  obtain ⟨T', h', cA, X', e', E', A', st'⟩ := newP X hx hZ w eT (g := mkF m pc Ls (.int n :: st)) rfl hd rfl hn hcap hb hc hl
  exact Go.via st' (k T' h' h.size cA rfl X' e' E' (Arv.new A' hn))
theorem o_caload (pc' : Nat) (X : Stand p l e R s m args below meth c T locs cells slots) (hx : p.tables.exec = Jvm.exec) (hpc : pc + 1 = pc') (hZ : Z.Warmed39 s.vm) (eT : T.heap = h) {a : Addr} {ka : ClassId} {n j : Int32} {vs : List Value} {dv : Value} (F : Arv Z h a ka .char n vs dv) (hj : ¬ j < 0 ∧ j < n) (v : Value) (hv : vs.getD j.toNatClampNeg dv = v) (hd : decode c.code pc = .ok (.caload, 1)) (k : Go p.tables e below E (T.setTop (mkF m pc' Ls (v :: st)))) : Go p.tables e below E (T.setTop (mkF m pc Ls (.int j :: .ref a :: st))) := by
  subst hpc
  obtain ⟨cl, A, -, S, M, H, -⟩ := F
  have hin := inb_of S hj
  exact Go.via (fun _ q => X.caload hx (j := j) (v := v) (by rw [eT]; exact A.1) (State.isArrayOf_alike hZ.alike A.2.1) A.2.2 hin (H.at hin hv) (g := mkF m pc Ls (.int j :: .ref a :: st)) rfl rfl hd _ q) k
theorem o_castore (pc' : Nat) (X : Stand p l e R s m args below meth c T locs cells slots) (hx : p.tables.exec = Jvm.exec) (hpc : pc + 1 = pc') (hZ : Z.Warmed39 s.vm) (eT : T.heap = h) {a : Addr} {ka : ClassId} {n j : Int32} {x : Int32} {vs : List Value} {dv : Value} (F : Arv Z h a ka .char n vs dv) (hj : ¬ j < 0 ∧ j < n) (i : Nat) (hi : j.toNatClampNeg = i) (hlt : i < vs.length) (vs' : List Value) (hvs : vs.set i (.int (nar .char x)) = vs') {n0 : Nat} (N : Fr n0 locs) (ga : n0 ≤ a) (hd : decode c.code pc = .ok (.castore, 1))
    (k : ∀ (T' : State) (h' : Heap) (L' : List Loc), Stand p l e R s m args below meth c T' L' cells slots → Fr n0 L' → T'.heap = h' → Wr h h' a j.toNatClampNeg (.int (nar .char x)) → Arv Z h' a ka .char n vs' dv → Go p.tables e below E (T'.setTop (mkF m pc' Ls st))) : Go p.tables e below E (T.setTop (mkF m pc Ls (.int x :: .int j :: .ref a :: st))) := by
  subst hpc; subst hvs
  obtain ⟨cl, A, q1, S, M, H, G⟩ := F
  have hin := inb_of S hj
  obtain ⟨T', h', X', e', W', st'⟩ := stC X hx hZ eT A hin (g := mkF m pc Ls (.int x :: .int j :: .ref a :: st)) rfl rfl hd
  exact Go.via st' (k T' h' _ X' (Fr.snoc X' N ga) e' W' (Arv.set A q1 S M H G (fits_nar_char x) W' i hi hlt))
theorem own_getI (xs : List Int32) (i : Nat) : (xs.map Value.int).getD i (.int 0) = .int (xs.getD i 0) := by
  simp only [List.getD_eq_getElem?_getD, List.getElem?_map]; cases xs[i]? <;> rfl
theorem o_caloadX (pc' : Nat) (X : Stand p l e R s m args below meth c T locs cells slots) (hx : p.tables.exec = Jvm.exec) (hpc : pc + 1 = pc') (hZ : Z.Warmed39 s.vm) (eT : T.heap = h) {a : Addr} {ka : ClassId} {n j : Int32} {xs : List Int32} (F : Arv Z h a ka .char n (xs.map Value.int) (.int 0)) (hj : ¬ j < 0 ∧ j < n) (hd : decode c.code pc = .ok (.caload, 1)) (v : Int32) (hv : xs.getD j.toNatClampNeg 0 = v) (k : Go p.tables e below E (T.setTop (mkF m pc' Ls (.int v :: st)))) : Go p.tables e below E (T.setTop (mkF m pc Ls (.int j :: .ref a :: st))) := by
  subst hv; exact o_caload pc' X hx hpc hZ eT F hj _ (own_getI xs _) hd k
theorem o_castoreX (pc' : Nat) (X : Stand p l e R s m args below meth c T locs cells slots) (hx : p.tables.exec = Jvm.exec) (hpc : pc + 1 = pc') (hZ : Z.Warmed39 s.vm) (eT : T.heap = h) {a : Addr} {ka : ClassId} {n j : Int32} {x : Int32} {xs : List Int32} (F : Arv Z h a ka .char n (xs.map Value.int) (.int 0)) (hj : ¬ j < 0 ∧ j < n) (hlt : j.toNatClampNeg < xs.length) (xs' : List Int32) (hxs : xs.set j.toNatClampNeg (nar .char x) = xs') {n0 : Nat} (N : Fr n0 locs) (ga : n0 ≤ a) (hd : decode c.code pc = .ok (.castore, 1))
    (k : ∀ (T' : State) (h' : Heap) (L' : List Loc), Stand p l e R s m args below meth c T' L' cells slots → Fr n0 L' → T'.heap = h' → Wr h h' a j.toNatClampNeg (.int (nar .char x)) → Arv Z h' a ka .char n (xs'.map Value.int) (.int 0) → Go p.tables e below E (T'.setTop (mkF m pc' Ls st))) : Go p.tables e below E (T.setTop (mkF m pc Ls (.int x :: .int j :: .ref a :: st))) := by
  subst hxs
  exact o_castore pc' X hx hpc hZ eT F hj _ rfl (by rw [List.length_map]; exact hlt) _ (List.map_set.symm) N ga hd k
theorem o_newarrI (pc' : Nat) (X : Stand p l e R s m args below meth c T locs cells slots) (hx : p.tables.exec = Jvm.exec) (hpc : pc + 2 = pc') (hZ : Z.Warmed39 s.vm) (aty : ArrayType) (ty : FieldType) (hty : newarray.typeOf aty = ty) (hdf : defaultValue ty = .int 0) (w : (Jvm.Cond.arrayClass ty).before a0 Z = true) (eT : T.heap = h) {n : Int32} (hd : decode c.code pc = .ok (.newarray aty, 2)) (hn : ¬ n < 0) (cap : Nat) (hcap : n.toNatClampNeg ≤ cap) (hb : cap * 8 ≤ 536870912) (hc : cells + 1 ≤ R.cells) (hl : slots + cap ≤ R.slots) (xs : List Int32) (hxs : List.replicate n.toNatClampNeg 0 = xs)
    (k : ∀ (T' : State) (h' : Heap) (a : Addr) (cA : ClassId), a = h.size → Stand p l e R s m args below meth c T' locs (cells + 1) (slots + cap) → T'.heap = h' → Ext h h' → Arv Z h' a cA ty n (xs.map Value.int) (.int 0) → Go p.tables e below E (T'.setTop (mkF m pc' Ls (.ref a :: st)))) : Go p.tables e below E (T.setTop (mkF m pc Ls (.int n :: st))) := by
  subst hxs
  refine o_newarr pc' X hx hpc hZ aty ty hty w eT hd hn cap hcap hb hc hl ?_
  intro T' h' a cA g X' e' E' A'
  rw [hdf] at A'
  refine k T' h' a cA g X' e' E' ?_
  rw [List.map_replicate]
  exact A'.pad (pad_rep [] _ _)
end OwnKit
theorem l_tlt {x y : Int64} (h : x < y) : lcmpW x y < 0 := (lw_lt x y).mpr h
theorem l_flt {x y : Int64} (h : ¬ x < y) : ¬ lcmpW x y < 0 := fun q => h ((lw_lt x y).mp q)
theorem l_tgt {x y : Int64} (h : y < x) : 0 < lcmpW x y := (lw_gt x y).mpr h
theorem l_fgt {x y : Int64} (h : ¬ y < x) : ¬ 0 < lcmpW x y := fun q => h ((lw_gt x y).mp q)
theorem l_teq {x y : Int64} (h : x = y) : lcmpW x y = 0 := (lw_eq x y).mpr h
theorem l_feq {x y : Int64} (h : ¬ x = y) : ¬ lcmpW x y = 0 := fun q => h ((lw_eq x y).mp q)
theorem wd_0 {Z : State} {a0 : Array Value} (hw : ∀ d ∈ tables_1, d.before a0 Z = true) : (Jvm.Cond.constant "com/example/planbook/planbook/files/YearsIsYearPinLaw" (7 : Nat) (2147483647 : Int32)).before a0 Z = true := hw _ (List.mem_of_getElem? (i := 0) rfl)
theorem wd_1 {Z : State} {a0 : Array Value} (hw : ∀ d ∈ tables_1, d.before a0 Z = true) : (Jvm.Cond.methodLink "com/example/planbook/planbook/files/YearsIsYearPinLaw" (8 : Nat) ({ cls := "com/example/planbook/planbook/files/YearsIsYearPinLaw", name := "draw", desc := "(I)C" } : Jvm.MethodName)).before a0 Z = true := hw _ (List.mem_of_getElem? (i := 1) rfl)
theorem wd_2 {Z : State} {a0 : Array Value} (hw : ∀ d ∈ tables_1, d.before a0 Z = true) : (Jvm.Cond.static ({ cls := "com/example/planbook/planbook/files/YearsIsYearPinLaw", name := "draw", desc := "(I)C" } : Jvm.MethodName)).before a0 Z = true := hw _ (List.mem_of_getElem? (i := 2) rfl)
theorem wd_3 {Z : State} {a0 : Array Value} (hw : ∀ d ∈ tables_1, d.before a0 Z = true) : (Jvm.Cond.initialized "com/example/planbook/planbook/files/YearsIsYearPinLaw").before a0 Z = true := hw _ (List.mem_of_getElem? (i := 3) rfl)
theorem wd_4 {Z : State} {a0 : Array Value} (hw : ∀ d ∈ tables_1, d.before a0 Z = true) : (Jvm.Cond.code ({ cls := "com/example/planbook/planbook/files/YearsIsYearPinLaw", name := "draw", desc := "(I)C" } : Jvm.MethodName) method_4_code (1 : Nat) (Option.some Jvm.ClassFile.FieldType.char)).before a0 Z = true := hw _ (List.mem_of_getElem? (i := 4) rfl)
theorem wd_5 {Z : State} {a0 : Array Value} (hw : ∀ d ∈ tables_1, d.before a0 Z = true) : (Jvm.Cond.arrayClass Jvm.ClassFile.FieldType.char).before a0 Z = true := hw _ (List.mem_of_getElem? (i := 5) rfl)
theorem wd_6 {Z : State} {a0 : Array Value} (hw : ∀ d ∈ tables_1, d.before a0 Z = true) : (Jvm.Cond.methodLink "com/example/planbook/planbook/files/YearsIsYearPinLaw" (18 : Nat) ({ cls := "com/example/planbook/planbook/files/Years", name := "isYear", desc := "([CI)Z" } : Jvm.MethodName)).before a0 Z = true := hw _ (List.mem_of_getElem? (i := 6) rfl)
theorem wd_7 {Z : State} {a0 : Array Value} (hw : ∀ d ∈ tables_1, d.before a0 Z = true) : (Jvm.Cond.static ({ cls := "com/example/planbook/planbook/files/Years", name := "isYear", desc := "([CI)Z" } : Jvm.MethodName)).before a0 Z = true := hw _ (List.mem_of_getElem? (i := 7) rfl)
theorem wd_8 {Z : State} {a0 : Array Value} (hw : ∀ d ∈ tables_1, d.before a0 Z = true) : (Jvm.Cond.initialized "com/example/planbook/planbook/files/Years").before a0 Z = true := hw _ (List.mem_of_getElem? (i := 8) rfl)
theorem wd_9 {Z : State} {a0 : Array Value} (hw : ∀ d ∈ tables_1, d.before a0 Z = true) : (Jvm.Cond.code ({ cls := "com/example/planbook/planbook/files/Years", name := "isYear", desc := "([CI)Z" } : Jvm.MethodName) prog_109_method_3_code (2 : Nat) (Option.some Jvm.ClassFile.FieldType.boolean)).before a0 Z = true := hw _ (List.mem_of_getElem? (i := 9) rfl)
theorem wd_10 {Z : State} {a0 : Array Value} (hw : ∀ d ∈ tables_1, d.before a0 Z = true) : (Jvm.Cond.methodLink "com/example/planbook/planbook/files/YearsIsYearPinLaw" (14 : Nat) ({ cls := "com/example/planbook/planbook/files/YearsIsYearPinLaw", name := "isDigit", desc := "(C)Z" } : Jvm.MethodName)).before a0 Z = true := hw _ (List.mem_of_getElem? (i := 10) rfl)
theorem wd_11 {Z : State} {a0 : Array Value} (hw : ∀ d ∈ tables_1, d.before a0 Z = true) : (Jvm.Cond.static ({ cls := "com/example/planbook/planbook/files/YearsIsYearPinLaw", name := "isDigit", desc := "(C)Z" } : Jvm.MethodName)).before a0 Z = true := hw _ (List.mem_of_getElem? (i := 11) rfl)
theorem wd_12 {Z : State} {a0 : Array Value} (hw : ∀ d ∈ tables_1, d.before a0 Z = true) : (Jvm.Cond.code ({ cls := "com/example/planbook/planbook/files/YearsIsYearPinLaw", name := "isDigit", desc := "(C)Z" } : Jvm.MethodName) method_3_code (1 : Nat) (Option.some Jvm.ClassFile.FieldType.boolean)).before a0 Z = true := hw _ (List.mem_of_getElem? (i := 12) rfl)
theorem wd_13 {Z : State} {a0 : Array Value} (hw : ∀ d ∈ tables_1, d.before a0 Z = true) : (Jvm.Cond.methodLink "com/example/planbook/planbook/files/Years" (39 : Nat) ({ cls := "com/example/planbook/planbook/files/Decimals", name := "digits", desc := "([CII)J" } : Jvm.MethodName)).before a0 Z = true := hw _ (List.mem_of_getElem? (i := 13) rfl)
theorem wd_14 {Z : State} {a0 : Array Value} (hw : ∀ d ∈ tables_1, d.before a0 Z = true) : (Jvm.Cond.static ({ cls := "com/example/planbook/planbook/files/Decimals", name := "digits", desc := "([CII)J" } : Jvm.MethodName)).before a0 Z = true := hw _ (List.mem_of_getElem? (i := 14) rfl)
theorem wd_15 {Z : State} {a0 : Array Value} (hw : ∀ d ∈ tables_1, d.before a0 Z = true) : (Jvm.Cond.initialized "com/example/planbook/planbook/files/Decimals").before a0 Z = true := hw _ (List.mem_of_getElem? (i := 15) rfl)
theorem wd_16 {Z : State} {a0 : Array Value} (hw : ∀ d ∈ tables_1, d.before a0 Z = true) : (Jvm.Cond.code ({ cls := "com/example/planbook/planbook/files/Decimals", name := "digits", desc := "([CII)J" } : Jvm.MethodName) prog_94_method_4_code (7 : Nat) (Option.some Jvm.ClassFile.FieldType.long)).before a0 Z = true := hw _ (List.mem_of_getElem? (i := 16) rfl)
theorem wd_17 {Z : State} {a0 : Array Value} (hw : ∀ d ∈ tables_1, d.before a0 Z = true) : (Jvm.Cond.constantLong "com/example/planbook/planbook/files/Decimals" (33 : Nat) (10 : Int64)).before a0 Z = true := hw _ (List.mem_of_getElem? (i := 17) rfl)
theorem wd_18 {Z : State} {a0 : Array Value} (hw : ∀ d ∈ tables_1, d.before a0 Z = true) : (Jvm.Cond.constantLong "com/example/planbook/planbook/files/Decimals" (48 : Nat) (-1 : Int64)).before a0 Z = true := hw _ (List.mem_of_getElem? (i := 18) rfl)
theorem d1_0 : decode method_4_code 0 = .ok (.iload_n 0, 1) := by decide +kernel
theorem d1_1 : decode method_4_code 1 = .ok (.iconst 1, 1) := by decide +kernel
theorem d1_10 : decode method_4_code 10 = .ok (.iushr, 1) := by decide +kernel
theorem d1_11 : decode method_4_code 11 = .ok (.bipush 10, 2) := by decide +kernel
theorem d1_13 : decode method_4_code 13 = .ok (.irem, 1) := by decide +kernel
theorem d1_14 : decode method_4_code 14 = .ok (.iadd, 1) := by decide +kernel
theorem d1_15 : decode method_4_code 15 = .ok (.i2c, 1) := by decide +kernel
theorem d1_16 : decode method_4_code 16 = .ok (.ireturn, 1) := by decide +kernel
theorem d1_17 : decode method_4_code 17 = .ok (.iload_n 0, 1) := by decide +kernel
theorem d1_18 : decode method_4_code 18 = .ok (.bipush 16, 2) := by decide +kernel
theorem d1_2 : decode method_4_code 2 = .ok (.iand, 1) := by decide +kernel
theorem d1_20 : decode method_4_code 20 = .ok (.iushr, 1) := by decide +kernel
theorem d1_21 : decode method_4_code 21 = .ok (.i2c, 1) := by decide +kernel
theorem d1_22 : decode method_4_code 22 = .ok (.ireturn, 1) := by decide +kernel
theorem d1_3 : decode method_4_code 3 = .ok (.ifCond .ne 14, 3) := by decide +kernel
theorem d1_6 : decode method_4_code 6 = .ok (.bipush 48, 2) := by decide +kernel
theorem d1_8 : decode method_4_code 8 = .ok (.iload_n 0, 1) := by decide +kernel
theorem d1_9 : decode method_4_code 9 = .ok (.iconst 1, 1) := by decide +kernel
theorem d2_0 : decode prog_109_method_3_code 0 = .ok (.aload_n 0, 1) := by decide +kernel
theorem d2_1 : decode prog_109_method_3_code 1 = .ok (.iload_n 1, 1) := by decide +kernel
theorem d2_10 : decode prog_109_method_3_code 10 = .ok (.iconst 4, 1) := by decide +kernel
theorem d2_11 : decode prog_109_method_3_code 11 = .ok (.invokestatic 39, 3) := by decide +kernel
theorem d2_14 : decode prog_109_method_3_code 14 = .ok (.lconst 0, 1) := by decide +kernel
theorem d2_15 : decode prog_109_method_3_code 15 = .ok (.lcmp, 1) := by decide +kernel
theorem d2_16 : decode prog_109_method_3_code 16 = .ok (.ifCond .lt 7, 3) := by decide +kernel
theorem d2_19 : decode prog_109_method_3_code 19 = .ok (.iconst 1, 1) := by decide +kernel
theorem d2_2 : decode prog_109_method_3_code 2 = .ok (.caload, 1) := by decide +kernel
theorem d2_20 : decode prog_109_method_3_code 20 = .ok (.goto 4, 3) := by decide +kernel
theorem d2_23 : decode prog_109_method_3_code 23 = .ok (.iconst 0, 1) := by decide +kernel
theorem d2_24 : decode prog_109_method_3_code 24 = .ok (.ireturn, 1) := by decide +kernel
theorem d2_3 : decode prog_109_method_3_code 3 = .ok (.bipush 48, 2) := by decide +kernel
theorem d2_5 : decode prog_109_method_3_code 5 = .ok (.if_icmp .eq 18, 3) := by decide +kernel
theorem d2_8 : decode prog_109_method_3_code 8 = .ok (.aload_n 0, 1) := by decide +kernel
theorem d2_9 : decode prog_109_method_3_code 9 = .ok (.iload_n 1, 1) := by decide +kernel
theorem d3_0 : decode method_3_code 0 = .ok (.iload_n 0, 1) := by decide +kernel
theorem d3_1 : decode method_3_code 1 = .ok (.bipush 48, 2) := by decide +kernel
theorem d3_12 : decode method_3_code 12 = .ok (.iconst 1, 1) := by decide +kernel
theorem d3_13 : decode method_3_code 13 = .ok (.goto 4, 3) := by decide +kernel
theorem d3_16 : decode method_3_code 16 = .ok (.iconst 0, 1) := by decide +kernel
theorem d3_17 : decode method_3_code 17 = .ok (.ireturn, 1) := by decide +kernel
theorem d3_3 : decode method_3_code 3 = .ok (.if_icmp .lt 13, 3) := by decide +kernel
theorem d3_6 : decode method_3_code 6 = .ok (.iload_n 0, 1) := by decide +kernel
theorem d3_7 : decode method_3_code 7 = .ok (.bipush 57, 2) := by decide +kernel
theorem d3_9 : decode method_3_code 9 = .ok (.if_icmp .gt 7, 3) := by decide +kernel
theorem d4_0 : decode prog_94_method_4_code 0 = .ok (.lconst 0, 1) := by decide +kernel
theorem d4_1 : decode prog_94_method_4_code 1 = .ok (.lstore_n 3, 1) := by decide +kernel
theorem d4_10 : decode prog_94_method_4_code 10 = .ok (.if_icmp .ge 46, 3) := by decide +kernel
theorem d4_13 : decode prog_94_method_4_code 13 = .ok (.aload_n 0, 1) := by decide +kernel
theorem d4_14 : decode prog_94_method_4_code 14 = .ok (.iload 5, 2) := by decide +kernel
theorem d4_16 : decode prog_94_method_4_code 16 = .ok (.caload, 1) := by decide +kernel
theorem d4_17 : decode prog_94_method_4_code 17 = .ok (.istore 6, 2) := by decide +kernel
theorem d4_19 : decode prog_94_method_4_code 19 = .ok (.iload 6, 2) := by decide +kernel
theorem d4_2 : decode prog_94_method_4_code 2 = .ok (.iload_n 1, 1) := by decide +kernel
theorem d4_21 : decode prog_94_method_4_code 21 = .ok (.bipush 48, 2) := by decide +kernel
theorem d4_23 : decode prog_94_method_4_code 23 = .ok (.if_icmp .lt 10, 3) := by decide +kernel
theorem d4_26 : decode prog_94_method_4_code 26 = .ok (.iload 6, 2) := by decide +kernel
theorem d4_28 : decode prog_94_method_4_code 28 = .ok (.bipush 57, 2) := by decide +kernel
theorem d4_3 : decode prog_94_method_4_code 3 = .ok (.istore 5, 2) := by decide +kernel
theorem d4_30 : decode prog_94_method_4_code 30 = .ok (.if_icmp .le 7, 3) := by decide +kernel
theorem d4_33 : decode prog_94_method_4_code 33 = .ok (.ldc2_w 48, 3) := by decide +kernel
theorem d4_36 : decode prog_94_method_4_code 36 = .ok (.lreturn, 1) := by decide +kernel
theorem d4_37 : decode prog_94_method_4_code 37 = .ok (.lload_n 3, 1) := by decide +kernel
theorem d4_38 : decode prog_94_method_4_code 38 = .ok (.ldc2_w 33, 3) := by decide +kernel
theorem d4_41 : decode prog_94_method_4_code 41 = .ok (.lmul, 1) := by decide +kernel
theorem d4_42 : decode prog_94_method_4_code 42 = .ok (.iload 6, 2) := by decide +kernel
theorem d4_44 : decode prog_94_method_4_code 44 = .ok (.bipush 48, 2) := by decide +kernel
theorem d4_46 : decode prog_94_method_4_code 46 = .ok (.isub, 1) := by decide +kernel
theorem d4_47 : decode prog_94_method_4_code 47 = .ok (.i2l, 1) := by decide +kernel
theorem d4_48 : decode prog_94_method_4_code 48 = .ok (.ladd, 1) := by decide +kernel
theorem d4_49 : decode prog_94_method_4_code 49 = .ok (.lstore_n 3, 1) := by decide +kernel
theorem d4_5 : decode prog_94_method_4_code 5 = .ok (.iload 5, 2) := by decide +kernel
theorem d4_50 : decode prog_94_method_4_code 50 = .ok (.iinc 5 1, 3) := by decide +kernel
theorem d4_53 : decode prog_94_method_4_code 53 = .ok (.goto (-48), 3) := by decide +kernel
theorem d4_56 : decode prog_94_method_4_code 56 = .ok (.lload_n 3, 1) := by decide +kernel
theorem d4_57 : decode prog_94_method_4_code 57 = .ok (.lreturn, 1) := by decide +kernel
theorem d4_7 : decode prog_94_method_4_code 7 = .ok (.iload_n 1, 1) := by decide +kernel
theorem d4_8 : decode prog_94_method_4_code 8 = .ok (.iload_n 2, 1) := by decide +kernel
theorem d4_9 : decode prog_94_method_4_code 9 = .ok (.iadd, 1) := by decide +kernel
theorem pd_lCrZ : parseMethodDescriptor "(C)Z" = some ⟨[.char], some .boolean⟩ := by decide +kernel
theorem pd_lIrC : parseMethodDescriptor "(I)C" = some ⟨[.int], some .char⟩ := by decide +kernel
theorem pd_laCIrZ : parseMethodDescriptor "([CI)Z" = some ⟨[(.array .char), .int], some .boolean⟩ := by decide +kernel
theorem pd_laCIIrJ : parseMethodDescriptor "([CII)J" = some ⟨[(.array .char), .int, .int], some .long⟩ := by decide +kernel
theorem pn_0 : plainFor x = true := plainFor_of_name (show plainName "com/example/planbook/planbook/files/YearsIsYearPinLaw" = true by first | (simp [plainName, overriddenIn]; done) | decide +kernel)
theorem pn_1 : plainFor (⟨"com/example/planbook/planbook/files/YearsIsYearPinLaw", "draw", "(I)C"⟩ : MethodName) = true := plainFor_of_name (show plainName "com/example/planbook/planbook/files/YearsIsYearPinLaw" = true by first | (simp [plainName, overriddenIn]; done) | decide +kernel)
theorem pn_2 : plainFor (⟨"com/example/planbook/planbook/files/Years", "isYear", "([CI)Z"⟩ : MethodName) = true := plainFor_of_name (show plainName "com/example/planbook/planbook/files/Years" = true by first | (simp [plainName, overriddenIn]; done) | decide +kernel)
theorem pn_3 : plainFor (⟨"com/example/planbook/planbook/files/YearsIsYearPinLaw", "isDigit", "(C)Z"⟩ : MethodName) = true := plainFor_of_name (show plainName "com/example/planbook/planbook/files/YearsIsYearPinLaw" = true by first | (simp [plainName, overriddenIn]; done) | decide +kernel)
theorem pn_4 : plainFor (⟨"com/example/planbook/planbook/files/Decimals", "digits", "([CII)J"⟩ : MethodName) = true := plainFor_of_name (show plainName "com/example/planbook/planbook/files/Decimals" = true by first | (simp [plainName, overriddenIn]; done) | decide +kernel)
theorem own_lt {i n : Nat} (h : i < n) (hn : n < 2147483648) : Int32.ofNat i < Int32.ofNat n := by
  rw [Int32.lt_iff_toInt_lt, Int32.toInt_ofNat_of_lt (by omega), Int32.toInt_ofNat_of_lt (by omega)]
  omega
theorem own_nn {n : Nat} (hn : n < 2147483648) : ¬ Int32.ofNat n < 0 := by
  rw [Int32.lt_iff_toInt_lt, Int32.toInt_ofNat_of_lt (by omega), show (0 : Int32).toInt = 0 from rfl]
  omega
theorem own_n32 {n : Nat} (hn : n < 2147483648) : (Int32.ofNat n).toNatClampNeg = n := by
  rw [Int32.toNatClampNeg, Int32.toInt_ofNat_of_lt (by omega)]; rfl
theorem own_one (i : Nat) : Int32.ofNat i + (1 : Int32) = Int32.ofNat (i + 1) := (Int32.ofNat_add i 1).symm
theorem own_hd {xs ys : List Int32} {y : Int32} {i : Nat} (h : xs.drop i = y :: ys) : xs.getD i 0 = y := by
  have q : xs[i]? = some y := by have := congrArg (fun l => l[0]?) h; simpa [List.getElem?_drop] using this
  rw [List.getD_eq_getElem?_getD, q]; rfl
theorem own_tl {xs ys : List Int32} {y : Int32} {i : Nat} (h : xs.drop i = y :: ys) : xs.drop (i + 1) = ys := by
  have := congrArg (List.drop 1) h; simpa [List.drop_drop] using this
theorem ef_1 (m : MethodId) (y0 : Int32) : entryFrame m #[(.int y0)] 1 = mkF m 0 #[.val (.int y0)] [] := by first | (simp [entryFrame, mkF, argsToLocals, Value.category]; done) | rfl
def fn1 (i0 : Int32) : Int32 := (if (i0 &&& (1 : Int32)) = (0 : Int32) then (nar .char (((48 : Int32) + (((i0.toUInt32 >>> ((1 : Int32) &&& 31).toUInt32).toInt32) % (10 : Int32))).toUInt32.toUInt16.toUInt32.toInt32)) else (nar .char (((i0.toUInt32 >>> ((16 : Int32) &&& 31).toUInt32).toInt32).toUInt32.toUInt16.toUInt32.toInt32)))
set_option maxRecDepth 65536 in
set_option maxHeartbeats 40000000 in
theorem rm1 (l : Launch) (Z : State) (a0 : Array Value) (hw : ∀ d ∈ tables_1, d.before a0 Z = true) (i0 : Int32) (h0 : Heap) : MetP l (⟨"com/example/planbook/planbook/files/YearsIsYearPinLaw", "draw", "(I)C"⟩ : MethodName) method_4_code 1 (some .char) [] ({ frames := 0, cells := 0, slots := 0, locals := 0 } : Room) Z #[(.int i0)] h0 (Pure (.int (fn1 i0)) h0) := by
  refine met_go pn_1 ?_
  intro p e s m below meth c s₁ hx hby hml hown hnm hret hlk hZ e0 X0
  rw [ef_1 m i0]
  refine o_iloadN 1 X0 hx rfl (hb hby d1_0) rfl ?_
  refine o_iconst 2 X0 hx rfl (hb hby d1_1) (1 : Int32) rfl ?_
  refine o_iand 3 X0 hx rfl (hb hby d1_2) ?_
  by_cases hc3_1 : (i0 &&& (1 : Int32)) = (0 : Int32)
  · refine o_ifNo 6 X0 hx rfl (hb hby d1_3) (teq hc3_1).2 ?_
    refine o_bipush 8 X0 hx rfl (hb hby d1_6) (48 : Int32) rfl ?_
    refine o_iloadN 9 X0 hx rfl (hb hby d1_8) rfl ?_
    refine o_iconst 10 X0 hx rfl (hb hby d1_9) (1 : Int32) rfl ?_
    refine o_iushr 11 X0 hx rfl (hb hby d1_10) ?_
    refine o_bipush 13 X0 hx rfl (hb hby d1_11) (10 : Int32) rfl ?_
    refine o_irem 14 X0 hx rfl (hb hby d1_13) (by decide) ?_
    refine o_iadd 15 X0 hx rfl (hb hby d1_14) ?_
    refine o_i2c 16 X0 hx rfl (hb hby d1_15) ?_
    refine o_retN X0 hx .char (by simp) hret hlk (hb hby d1_16) (by decide) (by decide) ?_
    exact ⟨show some (Value.int (nar .char (((48 : Int32) + (((i0.toUInt32 >>> ((1 : Int32) &&& 31).toUInt32).toInt32) % (10 : Int32))).toUInt32.toUInt16.toUInt32.toInt32))) = some (Value.int (fn1 i0)) from by rw [show (fn1 i0) = (nar .char (((48 : Int32) + (((i0.toUInt32 >>> ((1 : Int32) &&& 31).toUInt32).toInt32) % (10 : Int32))).toUInt32.toUInt16.toUInt32.toInt32)) from by unfold fn1; simp only [if_pos hc3_1]], rfl, e0⟩
  · refine o_ifYes 17 X0 hx (hb hby d1_3) (feq hc3_1).2 (by decide) (by decide) ?_
    refine o_iloadN 18 X0 hx rfl (hb hby d1_17) rfl ?_
    refine o_bipush 20 X0 hx rfl (hb hby d1_18) (16 : Int32) rfl ?_
    refine o_iushr 21 X0 hx rfl (hb hby d1_20) ?_
    refine o_i2c 22 X0 hx rfl (hb hby d1_21) ?_
    refine o_retN X0 hx .char (by simp) hret hlk (hb hby d1_22) (by decide) (by decide) ?_
    exact ⟨show some (Value.int (nar .char (((i0.toUInt32 >>> ((16 : Int32) &&& 31).toUInt32).toInt32).toUInt32.toUInt16.toUInt32.toInt32))) = some (Value.int (fn1 i0)) from by rw [show (fn1 i0) = (nar .char (((i0.toUInt32 >>> ((16 : Int32) &&& 31).toUInt32).toInt32).toUInt32.toUInt16.toUInt32.toInt32)) from by unfold fn1; simp only [if_neg hc3_1]], rfl, e0⟩
theorem ef_3 (m : MethodId) (y0 : Int32) : entryFrame m #[(.int y0)] 1 = mkF m 0 #[.val (.int y0)] [] := by first | (simp [entryFrame, mkF, argsToLocals, Value.category]; done) | rfl
def f3_17_s0 (i0 : Int32) : Int32 := (if i0 < (48 : Int32) then (0 : Int32) else (if (57 : Int32) < i0 then (0 : Int32) else (1 : Int32)))
def fn3 (i0 : Int32) : Int32 := (nar .boolean (f3_17_s0 i0))
set_option maxRecDepth 65536 in
set_option maxHeartbeats 40000000 in
theorem rm3 (l : Launch) (Z : State) (a0 : Array Value) (hw : ∀ d ∈ tables_1, d.before a0 Z = true) (i0 : Int32) (h0 : Heap) : MetP l (⟨"com/example/planbook/planbook/files/YearsIsYearPinLaw", "isDigit", "(C)Z"⟩ : MethodName) method_3_code 1 (some .boolean) [] ({ frames := 0, cells := 0, slots := 0, locals := 0 } : Room) Z #[(.int i0)] h0 (Pure (.int (fn3 i0)) h0) := by
  refine met_go pn_3 ?_
  intro p e s m below meth c s₁ hx hby hml hown hnm hret hlk hZ e0 X0
  rw [ef_3 m i0]
  refine o_iloadN 1 X0 hx rfl (hb hby d3_0) rfl ?_
  refine o_bipush 3 X0 hx rfl (hb hby d3_1) (48 : Int32) rfl ?_
  suffices j17_1 : Go p.tables e below (EndE s ({ frames := 0, cells := 0, slots := 0, locals := 0 } : Room) (Pure (.int (fn3 i0)) h0)) (s₁.setTop (mkF m 17 #[.val (.int i0)] [(.int (f3_17_s0 i0))])) by
    by_cases hc3_2 : i0 < (48 : Int32)
    · refine o_icmpYes 16 X0 hx (hb hby d3_3) (tlt hc3_2).1 (by decide) (by decide) ?_
      refine o_iconst 17 X0 hx rfl (hb hby d3_16) (0 : Int32) rfl ?_
      rw [show (f3_17_s0 i0) = (0 : Int32) from by unfold f3_17_s0; simp only [if_pos hc3_2]] at j17_1
      exact j17_1
    · refine o_icmpNo 6 X0 hx rfl (hb hby d3_3) (flt hc3_2).1 ?_
      refine o_iloadN 7 X0 hx rfl (hb hby d3_6) rfl ?_
      refine o_bipush 9 X0 hx rfl (hb hby d3_7) (57 : Int32) rfl ?_
      by_cases hc9_3 : (57 : Int32) < i0
      · refine o_icmpYes 16 X0 hx (hb hby d3_9) (tlt hc9_3).2.2.1 (by decide) (by decide) ?_
        refine o_iconst 17 X0 hx rfl (hb hby d3_16) (0 : Int32) rfl ?_
        rw [show (f3_17_s0 i0) = (0 : Int32) from by unfold f3_17_s0; simp only [if_neg hc3_2, if_pos hc9_3]] at j17_1
        exact j17_1
      · refine o_icmpNo 12 X0 hx rfl (hb hby d3_9) (flt hc9_3).2.2.1 ?_
        refine o_iconst 13 X0 hx rfl (hb hby d3_12) (1 : Int32) rfl ?_
        refine o_goto 17 X0 hx (hb hby d3_13) (by decide) (by decide) ?_
        rw [show (f3_17_s0 i0) = (1 : Int32) from by unfold f3_17_s0; simp only [if_neg hc3_2, if_neg hc9_3]] at j17_1
        exact j17_1
  refine o_retN X0 hx .boolean (by simp) hret hlk (hb hby d3_17) (by decide) (by decide) ?_
  exact ⟨show some (Value.int (nar .boolean (f3_17_s0 i0))) = some (Value.int (fn3 i0)) from by rw [show (fn3 i0) = (nar .boolean (f3_17_s0 i0)) from by rfl], rfl, e0⟩
def own_dg (xs : List Int32) : Nat → Nat → Int64 → Int64
  | _, 0, v => v
  | i, k + 1, v => if xs.getD i 0 < (48 : Int32) then -1 else if (57 : Int32) < xs.getD i 0 then -1 else own_dg xs (i + 1) k (v * (10 : Int64) + (xs.getD i 0 - (48 : Int32)).toInt64)
theorem ef_4 (m : MethodId) (y0 : Addr) (y1 : Int32) (y2 : Int32) : entryFrame m #[(.ref y0), (.int y1), (.int y2)] 7 = mkF m 0 #[.val (.ref y0), .val (.int y1), .val (.int y2), .unset, .unset, .unset, .unset] [] := by first | (simp [entryFrame, mkF, argsToLocals, Value.category]; done) | rfl
set_option maxRecDepth 65536 in
set_option maxHeartbeats 40000000 in
theorem rm4 (l : Launch) (Z : State) (a0 : Array Value) (hw : ∀ d ∈ tables_1, d.before a0 Z = true) (r0 : Addr) (ka : ClassId) (A C N : Nat) (xs : List Int32) (h0 : Heap) (hN : N < 2147483648) (hAC : A + C ≤ N) (A0 : Arv Z h0 r0 ka .char (Int32.ofNat N) (xs.map Value.int) (.int 0)) : MetP l (⟨"com/example/planbook/planbook/files/Decimals", "digits", "([CII)J"⟩ : MethodName) prog_94_method_4_code 7 (some .long) [] ({ frames := 0, cells := 0, slots := 0, locals := 0 } : Room) Z #[(.ref r0), (.int (Int32.ofNat A)), (.int (Int32.ofNat C))] h0 (Pure (.long (own_dg xs A C 0)) h0) := by
  refine met_go pn_4 ?_
  intro p e s m below meth c s₁ hx hby hml hown hnm hret hlk hZ e0 X0
  rw [ef_4 m r0 (Int32.ofNat A) (Int32.ofNat C)]
  refine o_lconst 1 X0 hx rfl (hb hby d4_0) (0 : Int64) rfl ?_
  refine o_lstoreN 2 X0 hx rfl (hb hby d4_1) #[.val (.ref r0), .val (.int (Int32.ofNat A)), .val (.int (Int32.ofNat C)), .val (.long (0 : Int64)), .second, .unset, .unset] rfl ?_
  refine o_iloadN 3 X0 hx rfl (hb hby d4_2) rfl ?_
  refine o_istore 5 X0 hx rfl (hb hby d4_3) #[.val (.ref r0), .val (.int (Int32.ofNat A)), .val (.int (Int32.ofNat C)), .val (.long (0 : Int64)), .second, .val (.int (Int32.ofNat A)), .unset] rfl ?_
  suffices loop : ∀ (k i : Nat) (v : Int64) (s6 : Slot), One s6 → i + k = A + C → own_dg xs i k v = own_dg xs A C 0 → Go p.tables e below (EndE s ({ frames := 0, cells := 0, slots := 0, locals := 0 } : Room) (Pure (.long (own_dg xs A C 0)) h0)) (s₁.setTop (mkF m 5 #[.val (.ref r0), .val (.int (Int32.ofNat A)), .val (.int (Int32.ofNat C)), .val (.long v), .second, .val (.int (Int32.ofNat i)), s6] [])) by
    exact loop C A 0 .unset One.u rfl rfl
  intro k
  induction k with
  | zero =>
    intro i v s6 hs6 hi hval
    have hi' : i = A + C := by omega
    subst hi'
    refine o_iload 7 X0 hx rfl (hb hby d4_5) rfl ?_
    refine o_iloadN 8 X0 hx rfl (hb hby d4_7) rfl ?_
    refine o_iloadN 9 X0 hx rfl (hb hby d4_8) rfl ?_
    refine o_iadd 10 X0 hx rfl (hb hby d4_9) ?_
    refine o_icmpYes 56 X0 hx (hb hby d4_10) (flt (by rw [← Int32.ofNat_add]; exact Int32.lt_irrefl)).2.1 (by decide) (by decide) ?_
    refine o_lloadN 57 X0 hx rfl (hb hby d4_56) rfl ?_
    refine o_retJ X0 hx hret hlk (hb hby d4_57) (by decide) (by decide) ?_
    exact ⟨by rw [← hval]; rfl, rfl, e0⟩
  | succ k ih =>
    intro i v s6 hs6 hi hval
    have hiN : i < N := by omega
    have hi2 : i < 2147483648 := by omega
    refine o_iload 7 X0 hx rfl (hb hby d4_5) rfl ?_
    refine o_iloadN 8 X0 hx rfl (hb hby d4_7) rfl ?_
    refine o_iloadN 9 X0 hx rfl (hb hby d4_8) rfl ?_
    refine o_iadd 10 X0 hx rfl (hb hby d4_9) ?_
    refine o_icmpNo 13 X0 hx rfl (hb hby d4_10) (tlt (by rw [← Int32.ofNat_add]; exact own_lt (by omega) (by omega))).2.1 ?_
    obtain ⟨y, hy⟩ : ∃ y, xs.getD i 0 = y := ⟨_, rfl⟩
    refine o_aloadN 14 X0 hx rfl (hb hby d4_13) rfl rfl ?_
    refine o_iload 16 X0 hx rfl (hb hby d4_14) rfl ?_
    refine o_caloadX 17 X0 hx rfl hZ e0 A0 ⟨own_nn hi2, own_lt hiN hN⟩ (hb hby d4_16) y (by rw [own_n32 hi2]; exact hy) ?_
    refine o_istore 19 X0 hx rfl (hb hby d4_17) #[.val (.ref r0), .val (.int (Int32.ofNat A)), .val (.int (Int32.ofNat C)), .val (.long v), .second, .val (.int (Int32.ofNat i)), .val (.int y)] (XS.store1 rfl hs6 rfl) ?_
    refine o_iload 21 X0 hx rfl (hb hby d4_19) rfl ?_
    refine o_bipush 23 X0 hx rfl (hb hby d4_21) (48 : Int32) rfl ?_
    by_cases h1 : y < (48 : Int32)
    · refine o_icmpYes 33 X0 hx (hb hby d4_23) (tlt h1).1 (by decide) (by decide) ?_
      refine o_ldc2Long 36 X0 hx rfl hZ hown (wd_18 hw) (hb hby d4_33) ?_
      refine o_retJ X0 hx hret hlk (hb hby d4_36) (by decide) (by decide) ?_
      exact ⟨by rw [← hval, own_dg, hy, if_pos h1], rfl, e0⟩
    · refine o_icmpNo 26 X0 hx rfl (hb hby d4_23) (flt h1).1 ?_
      refine o_iload 28 X0 hx rfl (hb hby d4_26) rfl ?_
      refine o_bipush 30 X0 hx rfl (hb hby d4_28) (57 : Int32) rfl ?_
      by_cases h2 : (57 : Int32) < y
      · refine o_icmpNo 33 X0 hx rfl (hb hby d4_30) (tlt h2).2.2.2 ?_
        refine o_ldc2Long 36 X0 hx rfl hZ hown (wd_18 hw) (hb hby d4_33) ?_
        refine o_retJ X0 hx hret hlk (hb hby d4_36) (by decide) (by decide) ?_
        exact ⟨by rw [← hval, own_dg, hy, if_neg h1, if_pos h2], rfl, e0⟩
      · refine o_icmpYes 37 X0 hx (hb hby d4_30) (flt h2).2.2.2 (by decide) (by decide) ?_
        refine o_lloadN 38 X0 hx rfl (hb hby d4_37) rfl ?_
        refine o_ldc2Long 41 X0 hx rfl hZ hown (wd_17 hw) (hb hby d4_38) ?_
        refine o_lmul 42 X0 hx rfl (hb hby d4_41) ?_
        refine o_iload 44 X0 hx rfl (hb hby d4_42) rfl ?_
        refine o_bipush 46 X0 hx rfl (hb hby d4_44) (48 : Int32) rfl ?_
        refine o_isub 47 X0 hx rfl (hb hby d4_46) ?_
        refine o_i2l 48 X0 hx rfl (hb hby d4_47) ?_
        refine o_ladd 49 X0 hx rfl (hb hby d4_48) ?_
        refine o_lstoreN 50 X0 hx rfl (hb hby d4_49) #[.val (.ref r0), .val (.int (Int32.ofNat A)), .val (.int (Int32.ofNat C)), .val (.long ((v * (10 : Int64)) + ((y - (48 : Int32)).toInt64))), .second, .val (.int (Int32.ofNat i)), .val (.int y)] rfl ?_
        refine o_iinc 53 X0 hx rfl (hb hby d4_50) (1 : Int32) rfl rfl #[.val (.ref r0), .val (.int (Int32.ofNat A)), .val (.int (Int32.ofNat C)), .val (.long ((v * (10 : Int64)) + ((y - (48 : Int32)).toInt64))), .second, .val (.int ((Int32.ofNat i) + (1 : Int32))), .val (.int y)] rfl ?_
        refine o_goto 5 X0 hx (hb hby d4_53) (by decide) (by decide) ?_
        rw [own_one]
        exact ih (i + 1) _ _ (One.val rfl) (by omega) (by rw [← hval, own_dg, hy, if_neg h1, if_neg h2])
theorem ef_2 (m : MethodId) (y0 : Addr) (y1 : Int32) : entryFrame m #[(.ref y0), (.int y1)] 2 = mkF m 0 #[.val (.ref y0), .val (.int y1)] [] := by first | (simp [entryFrame, mkF, argsToLocals, Value.category]; done) | rfl
def f2_24_s0 (A : Nat) (xs : List Int32) : Int32 := (if (xs.getD A 0) = (48 : Int32) then (0 : Int32) else (if (own_dg xs A 4 0) < (0 : Int64) then (0 : Int32) else (1 : Int32)))
def own_v2 (A : Nat) (xs : List Int32) : Int32 := nar .boolean (f2_24_s0 A xs)
set_option maxRecDepth 65536 in
set_option maxHeartbeats 40000000 in
theorem rm2 (l : Launch) (Z : State) (a0 : Array Value) (hw : ∀ d ∈ tables_1, d.before a0 Z = true) (r0 : Addr) (ka : ClassId) (A N : Nat) (xs : List Int32) (h0 : Heap) (hN : N < 2147483648) (hA : A + 4 ≤ N) (A0 : Arv Z h0 r0 ka .char (Int32.ofNat N) (xs.map Value.int) (.int 0)) : MetP l (⟨"com/example/planbook/planbook/files/Years", "isYear", "([CI)Z"⟩ : MethodName) prog_109_method_3_code 2 (some .boolean) [] ({ frames := 1, cells := 0, slots := 0, locals := 18 } : Room) Z #[(.ref r0), (.int (Int32.ofNat A))] h0 (Pure (.int (own_v2 A xs)) h0) := by
  refine met_go pn_2 ?_
  intro p e s m below meth c s₁ hx hby hml hown hnm hret hlk hZ e0 X0
  rw [ef_2 m r0 (Int32.ofNat A)]
  refine o_aloadN 1 X0 hx rfl (hb hby d2_0) rfl rfl ?_
  refine o_iloadN 2 X0 hx rfl (hb hby d2_1) rfl ?_
  refine o_caloadX 3 X0 hx rfl hZ e0 A0 ⟨own_nn (by omega), own_lt (by omega) hN⟩ (hb hby d2_2) (xs.getD A 0) (by rw [own_n32 (by omega)]) ?_
  refine o_bipush 5 X0 hx rfl (hb hby d2_3) (48 : Int32) rfl ?_
  suffices j24_1 : ∀ (T' : State), Stand p l e ({ frames := 1, cells := 0, slots := 0, locals := 18 } : Room) s m #[(.ref r0), (.int (Int32.ofNat A))] below meth c T' [] 0 0 → T'.heap = h0 → Go p.tables e below (EndE s ({ frames := 1, cells := 0, slots := 0, locals := 18 } : Room) (Pure (.int (own_v2 A xs)) h0)) (T'.setTop (mkF m 24 #[.val (.ref r0), .val (.int (Int32.ofNat A))] [(.int (f2_24_s0 A xs))])) by
    by_cases hc5_2 : (xs.getD A 0) = (48 : Int32)
    · refine o_icmpYes 23 X0 hx (hb hby d2_5) (teq hc5_2).1 (by decide) (by decide) ?_
      refine o_iconst 24 X0 hx rfl (hb hby d2_23) (0 : Int32) rfl ?_
      rw [show (f2_24_s0 A xs) = (0 : Int32) from by unfold f2_24_s0; simp only [if_pos hc5_2]] at j24_1
      exact j24_1 s₁ X0 e0
    · refine o_icmpNo 8 X0 hx rfl (hb hby d2_5) (feq hc5_2).1 ?_
      refine o_aloadN 9 X0 hx rfl (hb hby d2_8) rfl rfl ?_
      refine o_iloadN 10 X0 hx rfl (hb hby d2_9) rfl ?_
      refine o_iconst 11 X0 hx rfl (hb hby d2_10) (4 : Int32) rfl ?_
      refine o_callP (rv := (.long (own_dg xs A 4 0))) 14 X0 hx rfl hZ hown (wd_13 hw) (wd_14 hw) (wd_15 hw) (wd_16 hw) (by decide) e0 (rm4 l Z a0 hw r0 ka A 4 N xs h0 hN hA A0) pd_laCIIrJ [(.ref r0), (.int (Int32.ofNat A)), (.int (4 : Int32))] [] rfl rfl (by rw [hml]; rfl) rfl (hb hby d2_11) 0 (Nat.le_of_eq rfl) (by decide) (by decide) (by decide) (by decide) rfl rfl fun T3 X3 e3 => ?_
      refine o_lconst 15 X3 hx rfl (hb hby d2_14) (0 : Int64) rfl ?_
      refine o_lcmp 16 X3 hx rfl (hb hby d2_15) ?_
      by_cases hc16_4 : (own_dg xs A 4 0) < (0 : Int64)
      · refine o_ifYes 23 X3 hx (hb hby d2_16) (tlt (l_tlt hc16_4)).1 (by decide) (by decide) ?_
        refine o_iconst 24 X3 hx rfl (hb hby d2_23) (0 : Int32) rfl ?_
        rw [show (f2_24_s0 A xs) = (0 : Int32) from by unfold f2_24_s0; simp only [if_neg hc5_2, if_pos hc16_4]] at j24_1
        exact j24_1 T3 X3 e3
      · refine o_ifNo 19 X3 hx rfl (hb hby d2_16) (flt (l_flt hc16_4)).1 ?_
        refine o_iconst 20 X3 hx rfl (hb hby d2_19) (1 : Int32) rfl ?_
        refine o_goto 24 X3 hx (hb hby d2_20) (by decide) (by decide) ?_
        rw [show (f2_24_s0 A xs) = (1 : Int32) from by unfold f2_24_s0; simp only [if_neg hc5_2, if_neg hc16_4]] at j24_1
        exact j24_1 T3 X3 e3
  intro T5 X5 e5
  refine o_retN X5 hx .boolean (by simp) hret hlk (hb hby d2_24) (by decide) (by decide) ?_
  exact ⟨rfl, rfl, e5⟩
theorem ef_0 (m : MethodId) (y0 : Int32) (y1 : Int32) (y2 : Int32) (y3 : Int32) (y4 : Int32) (y5 : Int32) : entryFrame m #[(.int y0), (.int y1), (.int y2), (.int y3), (.int y4), (.int y5)] maxLocals = mkF m 0 #[.val (.int y0), .val (.int y1), .val (.int y2), .val (.int y3), .val (.int y4), .val (.int y5), .unset, .unset, .unset, .unset, .unset, .unset, .unset, .unset] [] := by first | (simp [entryFrame, mkF, argsToLocals, Value.category, maxLocals]; done) | rfl
def f0_7 (i4 : Int32) : Int32 := ((i4 &&& (2147483647 : Int32)) % (3 : Int32))
def f0_159_s0 (i0 : Int32) (i1 : Int32) (i2 : Int32) (i3 : Int32) : Int32 := (if (fn1 i0) < (49 : Int32) then (0 : Int32) else (if (57 : Int32) < (fn1 i0) then (0 : Int32) else (if (fn3 (fn1 i1)) = (0 : Int32) then (0 : Int32) else (if (fn3 (fn1 i2)) = (0 : Int32) then (0 : Int32) else (if (fn3 (fn1 i3)) = (0 : Int32) then (0 : Int32) else (1 : Int32))))))
def f0_159_s0' (i0 : Int32) (i1 : Int32) (i2 : Int32) (i3 : Int32) : Int32 := (if (fn1 i0) < (49 : Int32) then (0 : Int32) else (if (57 : Int32) < (fn1 i0) then (0 : Int32) else (if (fn3 (fn1 i1)) = (0 : Int32) then (0 : Int32) else (if (fn3 (fn1 i2)) = (0 : Int32) then (0 : Int32) else (if (fn3 (fn1 i3)) = (0 : Int32) then (0 : Int32) else (1 : Int32))))))
def f0_159_s0'' (i0 : Int32) (i1 : Int32) (i2 : Int32) (i3 : Int32) : Int32 := (if (fn1 i0) < (49 : Int32) then (0 : Int32) else (if (57 : Int32) < (fn1 i0) then (0 : Int32) else (if (fn3 (fn1 i1)) = (0 : Int32) then (0 : Int32) else (if (fn3 (fn1 i2)) = (0 : Int32) then (0 : Int32) else (if (fn3 (fn1 i3)) = (0 : Int32) then (0 : Int32) else (1 : Int32))))))
theorem own_cases (i4 : Int32) : f0_7 i4 = 0 ∨ f0_7 i4 = 1 ∨ f0_7 i4 = 2 := by
  have e1 : (i4 &&& (2147483647 : Int32)).toInt = i4.toInt % (2 ^ 31 : Nat) := c_mask i4 2147483647 31 (by decide) (by decide)
  have e2 := (c_irem (i4 &&& (2147483647 : Int32)) 3 3 rfl).1 (by rw [e1]; omega)
  simp only [f0_7, ← Int32.toInt_inj, e2, Int32.reduceToInt]
  omega
theorem own_f3 (y : Int32) : fn3 y = 0 ↔ (y < (48 : Int32) ∨ (57 : Int32) < y) := by
  unfold fn3 f3_17_s0
  by_cases h1 : y < (48 : Int32)
  · rw [if_pos h1]; exact ⟨fun _ => Or.inl h1, fun _ => rfl⟩
  · rw [if_neg h1]
    by_cases h2 : (57 : Int32) < y
    · rw [if_pos h2]; exact ⟨fun _ => Or.inr h2, fun _ => rfl⟩
    · rw [if_neg h2]; exact ⟨fun z => absurd z (by decide), fun z => z.elim (fun q => absurd q h1) (fun q => absurd q h2)⟩
theorem own_bad (xs : List Int32) (i k : Nat) (v : Int64) (y : Int32) (hy : xs.getD i 0 = y) (h : fn3 y = 0) : own_dg xs i (k + 1) v = -1 := by
  rw [own_dg, hy]
  rcases (own_f3 y).mp h with q | q
  · rw [if_pos q]
  · rw [if_pos q, ite_self]
theorem own_good (xs : List Int32) (i k : Nat) (v : Int64) (y : Int32) (hy : xs.getD i 0 = y) (h : ¬ fn3 y = 0) : own_dg xs i (k + 1) v = own_dg xs (i + 1) k (v * (10 : Int64) + (y - (48 : Int32)).toInt64) := by
  rw [own_dg, hy, if_neg (fun q => h ((own_f3 y).mpr (Or.inl q))), if_neg (fun q => h ((own_f3 y).mpr (Or.inr q)))]
theorem own_st (v : Int64) (y : Int32) (M : Int) (hv : 0 ≤ v.toInt ∧ v.toInt ≤ M) (hM : M ≤ 1000000) (h : ¬ fn3 y = 0) : 0 ≤ (v * (10 : Int64) + (y - (48 : Int32)).toInt64).toInt ∧ (v * (10 : Int64) + (y - (48 : Int32)).toInt64).toInt ≤ 10 * M + 9 := by
  have h1 : ¬ y < (48 : Int32) := fun q => h ((own_f3 y).mpr (Or.inl q))
  have h2 : ¬ (57 : Int32) < y := fun q => h ((own_f3 y).mpr (Or.inr q))
  rw [Int32.lt_iff_toInt_lt] at h1 h2
  have e1 := c_isub y 48
  have ry := rng32 y
  have r1 := rng32 (y - (48 : Int32))
  have e2 := c_i2l (y - (48 : Int32))
  have e3 := c_lmul v 10
  have r3 := rng64 (v * (10 : Int64))
  have e4 := c_ladd (v * (10 : Int64)) (y - (48 : Int32)).toInt64
  have r4 := rng64 (v * (10 : Int64) + (y - (48 : Int32)).toInt64)
  rw [show (48 : Int32).toInt = 48 from rfl] at h1 e1
  rw [show (57 : Int32).toInt = 57 from rfl] at h2
  rw [show (10 : Int64).toInt = 10 from rfl] at e3
  have a1 : (y - (48 : Int32)).toInt = y.toInt - 48 := by clear e3 e4 r3 r4; omega
  have a2 : (v * (10 : Int64)).toInt = v.toInt * 10 := by clear e1 e4 r1 r4; omega
  rw [e2, a1, a2] at e4
  have b1 : 0 ≤ v.toInt * 10 + (y.toInt - 48) ∧ v.toInt * 10 + (y.toInt - 48) ≤ 10 * M + 9 := by clear e1 e2 e3 e4 r1 r3 r4 a1 a2; omega
  have b2 : v.toInt * 10 + (y.toInt - 48) ≤ 10000009 := by clear e1 e2 e3 e4 r1 r3 r4 a1 a2; omega
  have b3 := b1.1
  have b4 : (v * (10 : Int64) + (y - (48 : Int32)).toInt64).toInt = v.toInt * 10 + (y.toInt - 48) := by
    clear b1 e1 e3 r1 r3 e2 a1 a2 h1 h2 hv hM h ry
    generalize v.toInt * 10 + (y.toInt - 48) = W at *
    omega
  rw [b4]; exact b1
theorem own_yr (xs : List Int32) (A : Nat) (a b c d : Int32) (ha : xs.getD A 0 = a) (hb : xs.getD (A + 1) 0 = b) (hc : xs.getD (A + 2) 0 = c) (hd : xs.getD (A + 3) 0 = d) : (own_v2 A xs) = (if a < (49 : Int32) then (0 : Int32) else (if (57 : Int32) < a then (0 : Int32) else (if (fn3 b) = (0 : Int32) then (0 : Int32) else (if (fn3 c) = (0 : Int32) then (0 : Int32) else (if (fn3 d) = (0 : Int32) then (0 : Int32) else (1 : Int32)))))) := by
  unfold own_v2 f2_24_s0
  rw [ha]
  have neg : (-1 : Int64) < 0 := by decide
  by_cases h0 : a = (48 : Int32)
  · rw [if_pos h0, if_pos (show a < (49 : Int32) by rw [h0]; decide)]; rfl
  rw [if_neg h0]
  by_cases a1 : a < (49 : Int32)
  · have q : a < (48 : Int32) := by
      rw [Int32.lt_iff_toInt_lt] at a1 ⊢
      have : a.toInt ≠ 48 := fun z => h0 (Int32.toInt_inj.mp z)
      rw [show (49 : Int32).toInt = 49 from rfl] at a1
      rw [show (48 : Int32).toInt = 48 from rfl]
      omega
    have e : own_dg xs A 4 0 = -1 := own_bad xs A 3 0 a ha ((own_f3 a).mpr (Or.inl q))
    rw [if_pos a1, e, if_pos neg]; rfl
  rw [if_neg a1]
  by_cases a2 : (57 : Int32) < a
  · have e : own_dg xs A 4 0 = -1 := own_bad xs A 3 0 a ha ((own_f3 a).mpr (Or.inr a2))
    rw [if_pos a2, e, if_pos neg]; rfl
  rw [if_neg a2]
  have ga : ¬ fn3 a = 0 := fun z => by
    rcases (own_f3 a).mp z with q | q
    · exact a1 (Int32.lt_trans q (by decide))
    · exact a2 q
  have ea : own_dg xs A 4 0 = _ := own_good xs A 3 0 a ha ga
  rw [ea]
  by_cases b0 : fn3 b = 0
  · rw [if_pos b0, own_bad xs (A + 1) 2 _ b hb b0, if_pos neg]; rfl
  rw [if_neg b0, own_good xs (A + 1) 2 _ b hb b0]
  by_cases c0 : fn3 c = 0
  · rw [if_pos c0, own_bad xs (A + 1 + 1) 1 _ c hc c0, if_pos neg]; rfl
  rw [if_neg c0, own_good xs (A + 1 + 1) 1 _ c hc c0]
  by_cases d0 : fn3 d = 0
  · rw [if_pos d0, own_bad xs (A + 1 + 1 + 1) 0 _ d hd d0, if_pos neg]; rfl
  rw [if_neg d0, own_good xs (A + 1 + 1 + 1) 0 _ d hd d0, own_dg]
  have s1 := own_st 0 a 0 (by decide) (by decide) ga
  have s2 := own_st _ b _ s1 (by decide) b0
  have s3 := own_st _ c _ s2 (by decide) c0
  have s4 := own_st _ d _ s3 (by decide) d0
  rw [if_neg (by rw [Int64.lt_iff_toInt_lt]; exact Int.not_lt.mpr s4.1)]; rfl
theorem own_nf (i : Int32) : nar .char (fn1 i) = fn1 i := by
  have q : ∀ x : Int32, nar .char (nar .char x) = nar .char x := fun x => by
    apply Int32.toInt_inj.mp
    have e1 := c_i2c x
    have e2 := c_i2c (nar .char x)
    have d1 : (nar .char x).toInt = x.toUInt32.toUInt16.toUInt32.toInt32.toInt := rfl
    have d2 : (nar .char (nar .char x)).toInt = (nar .char x).toUInt32.toUInt16.toUInt32.toInt32.toInt := rfl
    omega
  unfold fn1; split <;> exact q _
theorem own_fin0 (i0 i1 i2 i3 i5 : Int32) : (own_v2 0 [(nar .char (fn1 i0)), (nar .char (fn1 i1)), (nar .char (fn1 i2)), (nar .char (fn1 i3)), (nar .char (fn1 i5)), (nar .char (fn1 i5))]) = (f0_159_s0 i0 i1 i2 i3) := by
  rw [own_yr _ 0 (nar .char (fn1 i0)) (nar .char (fn1 i1)) (nar .char (fn1 i2)) (nar .char (fn1 i3)) rfl rfl rfl rfl, own_nf i0, own_nf i1, own_nf i2, own_nf i3]; rfl
theorem own_fin1 (i0 i1 i2 i3 i5 : Int32) : (own_v2 1 [(nar .char (fn1 i5)), (nar .char (fn1 i0)), (nar .char (fn1 i1)), (nar .char (fn1 i2)), (nar .char (fn1 i3)), (nar .char (fn1 i5))]) = (f0_159_s0' i0 i1 i2 i3) := by
  rw [own_yr _ 1 (nar .char (fn1 i0)) (nar .char (fn1 i1)) (nar .char (fn1 i2)) (nar .char (fn1 i3)) rfl rfl rfl rfl, own_nf i0, own_nf i1, own_nf i2, own_nf i3]; rfl
theorem own_fin2 (i0 i1 i2 i3 i5 : Int32) : (own_v2 2 [(nar .char (fn1 i5)), (nar .char (fn1 i5)), (nar .char (fn1 i0)), (nar .char (fn1 i1)), (nar .char (fn1 i2)), (nar .char (fn1 i3))]) = (f0_159_s0'' i0 i1 i2 i3) := by
  rw [own_yr _ 2 (nar .char (fn1 i0)) (nar .char (fn1 i1)) (nar .char (fn1 i2)) (nar .char (fn1 i3)) rfl rfl rfl rfl, own_nf i0, own_nf i1, own_nf i2, own_nf i3]; rfl
set_option maxRecDepth 65536 in
set_option maxHeartbeats 40000000 in
theorem rm0 (l : Launch) (Z : State) (a0 : Array Value) (hw : ∀ d ∈ tables_1, d.before a0 Z = true) (ws : List Jvm.Cond) (i0 : Int32) (i1 : Int32) (i2 : Int32) (i3 : Int32) (i4 : Int32) (i5 : Int32) (h0 : Heap) (n0 : Nat) (Z0 : n0 ≤ h0.size) : MetP l x code maxLocals ret ws room_1 Z #[(.int i0), (.int i1), (.int i2), (.int i3), (.int i4), (.int i5)] h0 (fun v h L => v = some (.int (1 : Int32)) ∧ Fr n0 L) := by
  refine met_go pn_0 ?_
  intro p e s m below meth c s₁ hx hby hml hown hnm hret hlk hZ e0 X0
  have N0 := Fr.nil n0
  rw [ef_0 m i0 i1 i2 i3 i4 i5]
  refine o_iload 2 X0 hx rfl (hb hby at_0) rfl ?_
  refine o_ldcInt 4 X0 hx rfl hZ hown (wd_0 hw) (hb hby at_2) ?_
  refine o_iand 5 X0 hx rfl (hb hby at_4) ?_
  refine o_iconst 6 X0 hx rfl (hb hby at_5) (3 : Int32) rfl ?_
  refine o_irem 7 X0 hx rfl (hb hby at_6) (by decide) ?_
  refine o_istore 9 X0 hx rfl (hb hby at_7) #[.val (.int i0), .val (.int i1), .val (.int i2), .val (.int i3), .val (.int i4), .val (.int i5), .val (.int (f0_7 i4)), .unset, .unset, .unset, .unset, .unset, .unset, .unset] rfl ?_
  refine o_iload 11 X0 hx rfl (hb hby at_9) rfl ?_
  refine o_callP (rv := (.int (fn1 i5))) 14 X0 hx rfl hZ hown (wd_1 hw) (wd_2 hw) (wd_3 hw) (wd_4 hw) (by decide) e0 (rm1 l Z a0 hw i5 h0) pd_lIrC [(.int i5)] [] rfl rfl (by rw [hml]; rfl) rfl (hb hby at_11) 0 (Nat.le_of_eq rfl) (by decide) (by decide) (by decide) (by decide) rfl rfl fun T1 X1 e1 => ?_
  refine o_istore 16 X1 hx rfl (hb hby at_14) #[.val (.int i0), .val (.int i1), .val (.int i2), .val (.int i3), .val (.int i4), .val (.int i5), .val (.int (f0_7 i4)), .val (.int (fn1 i5)), .unset, .unset, .unset, .unset, .unset, .unset] rfl ?_
  refine o_iloadN 17 X1 hx rfl (hb hby at_16) rfl ?_
  refine o_callP (rv := (.int (fn1 i0))) 20 X1 hx rfl hZ hown (wd_1 hw) (wd_2 hw) (wd_3 hw) (wd_4 hw) (by decide) e1 (rm1 l Z a0 hw i0 h0) pd_lIrC [(.int i0)] [] rfl rfl (by rw [hml]; rfl) rfl (hb hby at_17) 0 (Nat.le_of_eq rfl) (by decide) (by decide) (by decide) (by decide) rfl rfl fun T2 X2 e2 => ?_
  refine o_istore 22 X2 hx rfl (hb hby at_20) #[.val (.int i0), .val (.int i1), .val (.int i2), .val (.int i3), .val (.int i4), .val (.int i5), .val (.int (f0_7 i4)), .val (.int (fn1 i5)), .val (.int (fn1 i0)), .unset, .unset, .unset, .unset, .unset] rfl ?_
  refine o_iloadN 23 X2 hx rfl (hb hby at_22) rfl ?_
  refine o_callP (rv := (.int (fn1 i1))) 26 X2 hx rfl hZ hown (wd_1 hw) (wd_2 hw) (wd_3 hw) (wd_4 hw) (by decide) e2 (rm1 l Z a0 hw i1 h0) pd_lIrC [(.int i1)] [] rfl rfl (by rw [hml]; rfl) rfl (hb hby at_23) 0 (Nat.le_of_eq rfl) (by decide) (by decide) (by decide) (by decide) rfl rfl fun T3 X3 e3 => ?_
  refine o_istore 28 X3 hx rfl (hb hby at_26) #[.val (.int i0), .val (.int i1), .val (.int i2), .val (.int i3), .val (.int i4), .val (.int i5), .val (.int (f0_7 i4)), .val (.int (fn1 i5)), .val (.int (fn1 i0)), .val (.int (fn1 i1)), .unset, .unset, .unset, .unset] rfl ?_
  refine o_iloadN 29 X3 hx rfl (hb hby at_28) rfl ?_
  refine o_callP (rv := (.int (fn1 i2))) 32 X3 hx rfl hZ hown (wd_1 hw) (wd_2 hw) (wd_3 hw) (wd_4 hw) (by decide) e3 (rm1 l Z a0 hw i2 h0) pd_lIrC [(.int i2)] [] rfl rfl (by rw [hml]; rfl) rfl (hb hby at_29) 0 (Nat.le_of_eq rfl) (by decide) (by decide) (by decide) (by decide) rfl rfl fun T4 X4 e4 => ?_
  refine o_istore 34 X4 hx rfl (hb hby at_32) #[.val (.int i0), .val (.int i1), .val (.int i2), .val (.int i3), .val (.int i4), .val (.int i5), .val (.int (f0_7 i4)), .val (.int (fn1 i5)), .val (.int (fn1 i0)), .val (.int (fn1 i1)), .val (.int (fn1 i2)), .unset, .unset, .unset] rfl ?_
  refine o_iloadN 35 X4 hx rfl (hb hby at_34) rfl ?_
  refine o_callP (rv := (.int (fn1 i3))) 38 X4 hx rfl hZ hown (wd_1 hw) (wd_2 hw) (wd_3 hw) (wd_4 hw) (by decide) e4 (rm1 l Z a0 hw i3 h0) pd_lIrC [(.int i3)] [] rfl rfl (by rw [hml]; rfl) rfl (hb hby at_35) 0 (Nat.le_of_eq rfl) (by decide) (by decide) (by decide) (by decide) rfl rfl fun T5 X5 e5 => ?_
  refine o_istore 40 X5 hx rfl (hb hby at_38) #[.val (.int i0), .val (.int i1), .val (.int i2), .val (.int i3), .val (.int i4), .val (.int i5), .val (.int (f0_7 i4)), .val (.int (fn1 i5)), .val (.int (fn1 i0)), .val (.int (fn1 i1)), .val (.int (fn1 i2)), .val (.int (fn1 i3)), .unset, .unset] rfl ?_
  refine o_bipush 42 X5 hx rfl (hb hby at_40) (6 : Int32) rfl ?_
  refine o_newarrI 44 X5 hx rfl hZ .char .char rfl rfl (wd_5 hw) e5 (hb hby at_42) (by decide) 6 (by decide) (by decide) (by decide) (by decide) [(0 : Int32), (0 : Int32), (0 : Int32), (0 : Int32), (0 : Int32), (0 : Int32)] rfl fun T6 h6 a6 k6 g6 X6 e6 E6 A6 => ?_
  have ge7 : n0 ≤ a6 := Nat.le_trans Z0 (Nat.le_of_eq g6.symm)
  have sz8 : n0 ≤ h6.size := Nat.le_trans Z0 E6.1
  refine o_astore 46 X6 hx rfl (hb hby at_44) rfl #[.val (.int i0), .val (.int i1), .val (.int i2), .val (.int i3), .val (.int i4), .val (.int i5), .val (.int (f0_7 i4)), .val (.int (fn1 i5)), .val (.int (fn1 i0)), .val (.int (fn1 i1)), .val (.int (fn1 i2)), .val (.int (fn1 i3)), .val (.ref a6), .unset] rfl ?_
  refine o_aload 48 X6 hx rfl (hb hby at_46) rfl rfl ?_
  refine o_iconst 49 X6 hx rfl (hb hby at_48) (0 : Int32) rfl ?_
  refine o_iload 51 X6 hx rfl (hb hby at_49) rfl ?_
  refine o_castoreX 52 X6 hx rfl hZ e6 A6 (by decide) (Nat.le_of_ble_eq_true rfl) [(nar .char (fn1 i5)), (0 : Int32), (0 : Int32), (0 : Int32), (0 : Int32), (0 : Int32)] rfl N0 ge7 (hb hby at_51) fun T9 h9 L9 X9 N9 e9 W9 A9 => ?_
  have sz10 : n0 ≤ h9.size := Nat.le_trans sz8 (Keep.of_wr W9).1
  refine o_aload 54 X9 hx rfl (hb hby at_52) rfl rfl ?_
  refine o_iconst 55 X9 hx rfl (hb hby at_54) (1 : Int32) rfl ?_
  refine o_iload 57 X9 hx rfl (hb hby at_55) rfl ?_
  refine o_castoreX 58 X9 hx rfl hZ e9 A9 (by decide) (Nat.le_of_ble_eq_true rfl) [(nar .char (fn1 i5)), (nar .char (fn1 i5)), (0 : Int32), (0 : Int32), (0 : Int32), (0 : Int32)] rfl N9 ge7 (hb hby at_57) fun T11 h11 L11 X11 N11 e11 W11 A11 => ?_
  have sz12 : n0 ≤ h11.size := Nat.le_trans sz10 (Keep.of_wr W11).1
  refine o_aload 60 X11 hx rfl (hb hby at_58) rfl rfl ?_
  refine o_iconst 61 X11 hx rfl (hb hby at_60) (2 : Int32) rfl ?_
  refine o_iload 63 X11 hx rfl (hb hby at_61) rfl ?_
  refine o_castoreX 64 X11 hx rfl hZ e11 A11 (by decide) (Nat.le_of_ble_eq_true rfl) [(nar .char (fn1 i5)), (nar .char (fn1 i5)), (nar .char (fn1 i5)), (0 : Int32), (0 : Int32), (0 : Int32)] rfl N11 ge7 (hb hby at_63) fun T13 h13 L13 X13 N13 e13 W13 A13 => ?_
  have sz14 : n0 ≤ h13.size := Nat.le_trans sz12 (Keep.of_wr W13).1
  refine o_aload 66 X13 hx rfl (hb hby at_64) rfl rfl ?_
  refine o_iconst 67 X13 hx rfl (hb hby at_66) (3 : Int32) rfl ?_
  refine o_iload 69 X13 hx rfl (hb hby at_67) rfl ?_
  refine o_castoreX 70 X13 hx rfl hZ e13 A13 (by decide) (Nat.le_of_ble_eq_true rfl) [(nar .char (fn1 i5)), (nar .char (fn1 i5)), (nar .char (fn1 i5)), (nar .char (fn1 i5)), (0 : Int32), (0 : Int32)] rfl N13 ge7 (hb hby at_69) fun T15 h15 L15 X15 N15 e15 W15 A15 => ?_
  have sz16 : n0 ≤ h15.size := Nat.le_trans sz14 (Keep.of_wr W15).1
  refine o_aload 72 X15 hx rfl (hb hby at_70) rfl rfl ?_
  refine o_iconst 73 X15 hx rfl (hb hby at_72) (4 : Int32) rfl ?_
  refine o_iload 75 X15 hx rfl (hb hby at_73) rfl ?_
  refine o_castoreX 76 X15 hx rfl hZ e15 A15 (by decide) (Nat.le_of_ble_eq_true rfl) [(nar .char (fn1 i5)), (nar .char (fn1 i5)), (nar .char (fn1 i5)), (nar .char (fn1 i5)), (nar .char (fn1 i5)), (0 : Int32)] rfl N15 ge7 (hb hby at_75) fun T17 h17 L17 X17 N17 e17 W17 A17 => ?_
  have sz18 : n0 ≤ h17.size := Nat.le_trans sz16 (Keep.of_wr W17).1
  refine o_aload 78 X17 hx rfl (hb hby at_76) rfl rfl ?_
  refine o_iconst 79 X17 hx rfl (hb hby at_78) (5 : Int32) rfl ?_
  refine o_iload 81 X17 hx rfl (hb hby at_79) rfl ?_
  refine o_castoreX 82 X17 hx rfl hZ e17 A17 (by decide) (Nat.le_of_ble_eq_true rfl) [(nar .char (fn1 i5)), (nar .char (fn1 i5)), (nar .char (fn1 i5)), (nar .char (fn1 i5)), (nar .char (fn1 i5)), (nar .char (fn1 i5))] rfl N17 ge7 (hb hby at_81) fun T19 h19 L19 X19 N19 e19 W19 A19 => ?_
  have sz20 : n0 ≤ h19.size := Nat.le_trans sz18 (Keep.of_wr W19).1
  have hcase := own_cases i4
  generalize (f0_7 i4) = n at hcase ⊢
  rcases hcase with rfl | rfl | rfl
  · refine o_aload 84 X19 hx rfl (hb hby at_82) rfl rfl ?_
    refine o_iload 86 X19 hx rfl (hb hby at_84) rfl ?_
    refine o_iload 88 X19 hx rfl (hb hby at_86) rfl ?_
    refine o_castoreX 89 X19 hx rfl hZ e19 A19 (by decide) (Nat.le_of_ble_eq_true rfl) [(nar .char (fn1 i0)), (nar .char (fn1 i5)), (nar .char (fn1 i5)), (nar .char (fn1 i5)), (nar .char (fn1 i5)), (nar .char (fn1 i5))] rfl N19 ge7 (hb hby at_88) fun T21 h21 L21 X21 N21 e21 W21 A21 => ?_
    have sz22 : n0 ≤ h21.size := Nat.le_trans sz20 (Keep.of_wr W21).1
    refine o_aload 91 X21 hx rfl (hb hby at_89) rfl rfl ?_
    refine o_iload 93 X21 hx rfl (hb hby at_91) rfl ?_
    refine o_iconst 94 X21 hx rfl (hb hby at_93) (1 : Int32) rfl ?_
    refine o_iadd 95 X21 hx rfl (hb hby at_94) ?_
    refine o_iload 97 X21 hx rfl (hb hby at_95) rfl ?_
    refine o_castoreX 98 X21 hx rfl hZ e21 A21 (by decide) (Nat.le_of_ble_eq_true rfl) [(nar .char (fn1 i0)), (nar .char (fn1 i1)), (nar .char (fn1 i5)), (nar .char (fn1 i5)), (nar .char (fn1 i5)), (nar .char (fn1 i5))] rfl N21 ge7 (hb hby at_97) fun T23 h23 L23 X23 N23 e23 W23 A23 => ?_
    have sz24 : n0 ≤ h23.size := Nat.le_trans sz22 (Keep.of_wr W23).1
    refine o_aload 100 X23 hx rfl (hb hby at_98) rfl rfl ?_
    refine o_iload 102 X23 hx rfl (hb hby at_100) rfl ?_
    refine o_iconst 103 X23 hx rfl (hb hby at_102) (2 : Int32) rfl ?_
    refine o_iadd 104 X23 hx rfl (hb hby at_103) ?_
    refine o_iload 106 X23 hx rfl (hb hby at_104) rfl ?_
    refine o_castoreX 107 X23 hx rfl hZ e23 A23 (by decide) (Nat.le_of_ble_eq_true rfl) [(nar .char (fn1 i0)), (nar .char (fn1 i1)), (nar .char (fn1 i2)), (nar .char (fn1 i5)), (nar .char (fn1 i5)), (nar .char (fn1 i5))] rfl N23 ge7 (hb hby at_106) fun T25 h25 L25 X25 N25 e25 W25 A25 => ?_
    have sz26 : n0 ≤ h25.size := Nat.le_trans sz24 (Keep.of_wr W25).1
    refine o_aload 109 X25 hx rfl (hb hby at_107) rfl rfl ?_
    refine o_iload 111 X25 hx rfl (hb hby at_109) rfl ?_
    refine o_iconst 112 X25 hx rfl (hb hby at_111) (3 : Int32) rfl ?_
    refine o_iadd 113 X25 hx rfl (hb hby at_112) ?_
    refine o_iload 115 X25 hx rfl (hb hby at_113) rfl ?_
    refine o_castoreX 116 X25 hx rfl hZ e25 A25 (by decide) (Nat.le_of_ble_eq_true rfl) [(nar .char (fn1 i0)), (nar .char (fn1 i1)), (nar .char (fn1 i2)), (nar .char (fn1 i3)), (nar .char (fn1 i5)), (nar .char (fn1 i5))] rfl N25 ge7 (hb hby at_115) fun T27 h27 L27 X27 N27 e27 W27 A27 => ?_
    have sz28 : n0 ≤ h27.size := Nat.le_trans sz26 (Keep.of_wr W27).1
    refine o_iload 118 X27 hx rfl (hb hby at_116) rfl ?_
    refine o_bipush 120 X27 hx rfl (hb hby at_118) (49 : Int32) rfl ?_
    suffices j159_29 : ∀ (T' : State), Stand p l e room_1 s m #[(.int i0), (.int i1), (.int i2), (.int i3), (.int i4), (.int i5)] below meth c T' L27 1 6 → T'.heap = h27 → Go p.tables e below (EndE s room_1 (fun v h L => v = some (.int (1 : Int32)) ∧ Fr n0 L)) (T'.setTop (mkF m 159 #[.val (.int i0), .val (.int i1), .val (.int i2), .val (.int i3), .val (.int i4), .val (.int i5), .val (.int (0 : Int32)), .val (.int (fn1 i5)), .val (.int (fn1 i0)), .val (.int (fn1 i1)), .val (.int (fn1 i2)), .val (.int (fn1 i3)), .val (.ref a6), .unset] [(.int (f0_159_s0 i0 i1 i2 i3))])) by
      by_cases hc120_30 : (fn1 i0) < (49 : Int32)
      · refine o_icmpYes 158 X27 hx (hb hby at_120) (tlt hc120_30).1 (by decide) (by decide) ?_
        refine o_iconst 159 X27 hx rfl (hb hby at_158) (0 : Int32) rfl ?_
        rw [show (f0_159_s0 i0 i1 i2 i3) = (0 : Int32) from by unfold f0_159_s0; simp only [if_pos hc120_30]] at j159_29
        exact j159_29 T27 X27 e27
      · refine o_icmpNo 123 X27 hx rfl (hb hby at_120) (flt hc120_30).1 ?_
        refine o_iload 125 X27 hx rfl (hb hby at_123) rfl ?_
        refine o_bipush 127 X27 hx rfl (hb hby at_125) (57 : Int32) rfl ?_
        by_cases hc127_31 : (57 : Int32) < (fn1 i0)
        · refine o_icmpYes 158 X27 hx (hb hby at_127) (tlt hc127_31).2.2.1 (by decide) (by decide) ?_
          refine o_iconst 159 X27 hx rfl (hb hby at_158) (0 : Int32) rfl ?_
          rw [show (f0_159_s0 i0 i1 i2 i3) = (0 : Int32) from by unfold f0_159_s0; simp only [if_neg hc120_30, if_pos hc127_31]] at j159_29
          exact j159_29 T27 X27 e27
        · refine o_icmpNo 130 X27 hx rfl (hb hby at_127) (flt hc127_31).2.2.1 ?_
          refine o_iload 132 X27 hx rfl (hb hby at_130) rfl ?_
          refine o_callP (rv := (.int (fn3 (fn1 i1)))) 135 X27 hx rfl hZ hown (wd_10 hw) (wd_11 hw) (wd_3 hw) (wd_12 hw) (by decide) e27 (rm3 l Z a0 hw (fn1 i1) h27) pd_lCrZ [(.int (fn1 i1))] [] rfl rfl (by rw [hml]; rfl) rfl (hb hby at_132) 0 (Nat.le_of_eq rfl) (by decide) (by decide) (by decide) (by decide) rfl rfl fun T32 X32 e32 => ?_
          by_cases hc135_33 : (fn3 (fn1 i1)) = (0 : Int32)
          · refine o_ifYes 158 X32 hx (hb hby at_135) (teq hc135_33).1 (by decide) (by decide) ?_
            refine o_iconst 159 X32 hx rfl (hb hby at_158) (0 : Int32) rfl ?_
            rw [show (f0_159_s0 i0 i1 i2 i3) = (0 : Int32) from by unfold f0_159_s0; simp only [if_neg hc120_30, if_neg hc127_31, if_pos hc135_33]] at j159_29
            exact j159_29 T32 X32 e32
          · refine o_ifNo 138 X32 hx rfl (hb hby at_135) (feq hc135_33).1 ?_
            refine o_iload 140 X32 hx rfl (hb hby at_138) rfl ?_
            refine o_callP (rv := (.int (fn3 (fn1 i2)))) 143 X32 hx rfl hZ hown (wd_10 hw) (wd_11 hw) (wd_3 hw) (wd_12 hw) (by decide) e32 (rm3 l Z a0 hw (fn1 i2) h27) pd_lCrZ [(.int (fn1 i2))] [] rfl rfl (by rw [hml]; rfl) rfl (hb hby at_140) 0 (Nat.le_of_eq rfl) (by decide) (by decide) (by decide) (by decide) rfl rfl fun T34 X34 e34 => ?_
            by_cases hc143_35 : (fn3 (fn1 i2)) = (0 : Int32)
            · refine o_ifYes 158 X34 hx (hb hby at_143) (teq hc143_35).1 (by decide) (by decide) ?_
              refine o_iconst 159 X34 hx rfl (hb hby at_158) (0 : Int32) rfl ?_
              rw [show (f0_159_s0 i0 i1 i2 i3) = (0 : Int32) from by unfold f0_159_s0; simp only [if_neg hc120_30, if_neg hc127_31, if_neg hc135_33, if_pos hc143_35]] at j159_29
              exact j159_29 T34 X34 e34
            · refine o_ifNo 146 X34 hx rfl (hb hby at_143) (feq hc143_35).1 ?_
              refine o_iload 148 X34 hx rfl (hb hby at_146) rfl ?_
              refine o_callP (rv := (.int (fn3 (fn1 i3)))) 151 X34 hx rfl hZ hown (wd_10 hw) (wd_11 hw) (wd_3 hw) (wd_12 hw) (by decide) e34 (rm3 l Z a0 hw (fn1 i3) h27) pd_lCrZ [(.int (fn1 i3))] [] rfl rfl (by rw [hml]; rfl) rfl (hb hby at_148) 0 (Nat.le_of_eq rfl) (by decide) (by decide) (by decide) (by decide) rfl rfl fun T36 X36 e36 => ?_
              by_cases hc151_37 : (fn3 (fn1 i3)) = (0 : Int32)
              · refine o_ifYes 158 X36 hx (hb hby at_151) (teq hc151_37).1 (by decide) (by decide) ?_
                refine o_iconst 159 X36 hx rfl (hb hby at_158) (0 : Int32) rfl ?_
                rw [show (f0_159_s0 i0 i1 i2 i3) = (0 : Int32) from by unfold f0_159_s0; simp only [if_neg hc120_30, if_neg hc127_31, if_neg hc135_33, if_neg hc143_35, if_pos hc151_37]] at j159_29
                exact j159_29 T36 X36 e36
              · refine o_ifNo 154 X36 hx rfl (hb hby at_151) (feq hc151_37).1 ?_
                refine o_iconst 155 X36 hx rfl (hb hby at_154) (1 : Int32) rfl ?_
                refine o_goto 159 X36 hx (hb hby at_155) (by decide) (by decide) ?_
                rw [show (f0_159_s0 i0 i1 i2 i3) = (1 : Int32) from by unfold f0_159_s0; simp only [if_neg hc120_30, if_neg hc127_31, if_neg hc135_33, if_neg hc143_35, if_neg hc151_37]] at j159_29
                exact j159_29 T36 X36 e36
    intro T38 X38 e38
    refine o_istore 161 X38 hx rfl (hb hby at_159) #[.val (.int i0), .val (.int i1), .val (.int i2), .val (.int i3), .val (.int i4), .val (.int i5), .val (.int (0 : Int32)), .val (.int (fn1 i5)), .val (.int (fn1 i0)), .val (.int (fn1 i1)), .val (.int (fn1 i2)), .val (.int (fn1 i3)), .val (.ref a6), .val (.int (f0_159_s0 i0 i1 i2 i3))] rfl ?_
    refine o_aload 163 X38 hx rfl (hb hby at_161) rfl rfl ?_
    refine o_iload 165 X38 hx rfl (hb hby at_163) rfl ?_
    refine o_callP (rv := (.int (own_v2 0 [(nar .char (fn1 i0)), (nar .char (fn1 i1)), (nar .char (fn1 i2)), (nar .char (fn1 i3)), (nar .char (fn1 i5)), (nar .char (fn1 i5))]))) 168 X38 hx rfl hZ hown (wd_6 hw) (wd_7 hw) (wd_8 hw) (wd_9 hw) (by decide) e38 (rm2 l Z a0 hw a6 k6 0 6 [(nar .char (fn1 i0)), (nar .char (fn1 i1)), (nar .char (fn1 i2)), (nar .char (fn1 i3)), (nar .char (fn1 i5)), (nar .char (fn1 i5))] h27 (by decide) (by decide) A27) pd_laCIrZ [(.ref a6), (.int (0 : Int32))] [] rfl rfl (by rw [hml]; rfl) rfl (hb hby at_165) 0 (Nat.le_of_eq rfl) (by decide) (by decide) (by decide) (by decide) rfl rfl fun T39 X39 e39 => ?_
    refine o_iload 170 X39 hx rfl (hb hby at_168) rfl ?_
    refine o_icmpNo 173 X39 hx rfl (hb hby at_170) (teq (own_fin0 i0 i1 i2 i3 i5)).2 ?_
    refine o_iconst 174 X39 hx rfl (hb hby at_173) (1 : Int32) rfl ?_
    refine o_goto 178 X39 hx (hb hby at_174) (by decide) (by decide) ?_
    refine o_retN X39 hx .boolean (by simp) hret hlk (hb hby at_178) (by decide) (by decide) ?_
    exact ⟨rfl, N27⟩
  · refine o_aload 84 X19 hx rfl (hb hby at_82) rfl rfl ?_
    refine o_iload 86 X19 hx rfl (hb hby at_84) rfl ?_
    refine o_iload 88 X19 hx rfl (hb hby at_86) rfl ?_
    refine o_castoreX 89 X19 hx rfl hZ e19 A19 (by decide) (Nat.le_of_ble_eq_true rfl) [(nar .char (fn1 i5)), (nar .char (fn1 i0)), (nar .char (fn1 i5)), (nar .char (fn1 i5)), (nar .char (fn1 i5)), (nar .char (fn1 i5))] rfl N19 ge7 (hb hby at_88) fun T40 h40 L40 X40 N40 e40 W40 A40 => ?_
    have sz41 : n0 ≤ h40.size := Nat.le_trans sz20 (Keep.of_wr W40).1
    refine o_aload 91 X40 hx rfl (hb hby at_89) rfl rfl ?_
    refine o_iload 93 X40 hx rfl (hb hby at_91) rfl ?_
    refine o_iconst 94 X40 hx rfl (hb hby at_93) (1 : Int32) rfl ?_
    refine o_iadd 95 X40 hx rfl (hb hby at_94) ?_
    refine o_iload 97 X40 hx rfl (hb hby at_95) rfl ?_
    refine o_castoreX 98 X40 hx rfl hZ e40 A40 (by decide) (Nat.le_of_ble_eq_true rfl) [(nar .char (fn1 i5)), (nar .char (fn1 i0)), (nar .char (fn1 i1)), (nar .char (fn1 i5)), (nar .char (fn1 i5)), (nar .char (fn1 i5))] rfl N40 ge7 (hb hby at_97) fun T42 h42 L42 X42 N42 e42 W42 A42 => ?_
    have sz43 : n0 ≤ h42.size := Nat.le_trans sz41 (Keep.of_wr W42).1
    refine o_aload 100 X42 hx rfl (hb hby at_98) rfl rfl ?_
    refine o_iload 102 X42 hx rfl (hb hby at_100) rfl ?_
    refine o_iconst 103 X42 hx rfl (hb hby at_102) (2 : Int32) rfl ?_
    refine o_iadd 104 X42 hx rfl (hb hby at_103) ?_
    refine o_iload 106 X42 hx rfl (hb hby at_104) rfl ?_
    refine o_castoreX 107 X42 hx rfl hZ e42 A42 (by decide) (Nat.le_of_ble_eq_true rfl) [(nar .char (fn1 i5)), (nar .char (fn1 i0)), (nar .char (fn1 i1)), (nar .char (fn1 i2)), (nar .char (fn1 i5)), (nar .char (fn1 i5))] rfl N42 ge7 (hb hby at_106) fun T44 h44 L44 X44 N44 e44 W44 A44 => ?_
    have sz45 : n0 ≤ h44.size := Nat.le_trans sz43 (Keep.of_wr W44).1
    refine o_aload 109 X44 hx rfl (hb hby at_107) rfl rfl ?_
    refine o_iload 111 X44 hx rfl (hb hby at_109) rfl ?_
    refine o_iconst 112 X44 hx rfl (hb hby at_111) (3 : Int32) rfl ?_
    refine o_iadd 113 X44 hx rfl (hb hby at_112) ?_
    refine o_iload 115 X44 hx rfl (hb hby at_113) rfl ?_
    refine o_castoreX 116 X44 hx rfl hZ e44 A44 (by decide) (Nat.le_of_ble_eq_true rfl) [(nar .char (fn1 i5)), (nar .char (fn1 i0)), (nar .char (fn1 i1)), (nar .char (fn1 i2)), (nar .char (fn1 i3)), (nar .char (fn1 i5))] rfl N44 ge7 (hb hby at_115) fun T46 h46 L46 X46 N46 e46 W46 A46 => ?_
    have sz47 : n0 ≤ h46.size := Nat.le_trans sz45 (Keep.of_wr W46).1
    refine o_iload 118 X46 hx rfl (hb hby at_116) rfl ?_
    refine o_bipush 120 X46 hx rfl (hb hby at_118) (49 : Int32) rfl ?_
    suffices j159_48 : ∀ (T' : State), Stand p l e room_1 s m #[(.int i0), (.int i1), (.int i2), (.int i3), (.int i4), (.int i5)] below meth c T' L46 1 6 → T'.heap = h46 → Go p.tables e below (EndE s room_1 (fun v h L => v = some (.int (1 : Int32)) ∧ Fr n0 L)) (T'.setTop (mkF m 159 #[.val (.int i0), .val (.int i1), .val (.int i2), .val (.int i3), .val (.int i4), .val (.int i5), .val (.int (1 : Int32)), .val (.int (fn1 i5)), .val (.int (fn1 i0)), .val (.int (fn1 i1)), .val (.int (fn1 i2)), .val (.int (fn1 i3)), .val (.ref a6), .unset] [(.int (f0_159_s0' i0 i1 i2 i3))])) by
      by_cases hc120_49 : (fn1 i0) < (49 : Int32)
      · refine o_icmpYes 158 X46 hx (hb hby at_120) (tlt hc120_49).1 (by decide) (by decide) ?_
        refine o_iconst 159 X46 hx rfl (hb hby at_158) (0 : Int32) rfl ?_
        rw [show (f0_159_s0' i0 i1 i2 i3) = (0 : Int32) from by unfold f0_159_s0'; simp only [if_pos hc120_49]] at j159_48
        exact j159_48 T46 X46 e46
      · refine o_icmpNo 123 X46 hx rfl (hb hby at_120) (flt hc120_49).1 ?_
        refine o_iload 125 X46 hx rfl (hb hby at_123) rfl ?_
        refine o_bipush 127 X46 hx rfl (hb hby at_125) (57 : Int32) rfl ?_
        by_cases hc127_50 : (57 : Int32) < (fn1 i0)
        · refine o_icmpYes 158 X46 hx (hb hby at_127) (tlt hc127_50).2.2.1 (by decide) (by decide) ?_
          refine o_iconst 159 X46 hx rfl (hb hby at_158) (0 : Int32) rfl ?_
          rw [show (f0_159_s0' i0 i1 i2 i3) = (0 : Int32) from by unfold f0_159_s0'; simp only [if_neg hc120_49, if_pos hc127_50]] at j159_48
          exact j159_48 T46 X46 e46
        · refine o_icmpNo 130 X46 hx rfl (hb hby at_127) (flt hc127_50).2.2.1 ?_
          refine o_iload 132 X46 hx rfl (hb hby at_130) rfl ?_
          refine o_callP (rv := (.int (fn3 (fn1 i1)))) 135 X46 hx rfl hZ hown (wd_10 hw) (wd_11 hw) (wd_3 hw) (wd_12 hw) (by decide) e46 (rm3 l Z a0 hw (fn1 i1) h46) pd_lCrZ [(.int (fn1 i1))] [] rfl rfl (by rw [hml]; rfl) rfl (hb hby at_132) 0 (Nat.le_of_eq rfl) (by decide) (by decide) (by decide) (by decide) rfl rfl fun T51 X51 e51 => ?_
          by_cases hc135_52 : (fn3 (fn1 i1)) = (0 : Int32)
          · refine o_ifYes 158 X51 hx (hb hby at_135) (teq hc135_52).1 (by decide) (by decide) ?_
            refine o_iconst 159 X51 hx rfl (hb hby at_158) (0 : Int32) rfl ?_
            rw [show (f0_159_s0' i0 i1 i2 i3) = (0 : Int32) from by unfold f0_159_s0'; simp only [if_neg hc120_49, if_neg hc127_50, if_pos hc135_52]] at j159_48
            exact j159_48 T51 X51 e51
          · refine o_ifNo 138 X51 hx rfl (hb hby at_135) (feq hc135_52).1 ?_
            refine o_iload 140 X51 hx rfl (hb hby at_138) rfl ?_
            refine o_callP (rv := (.int (fn3 (fn1 i2)))) 143 X51 hx rfl hZ hown (wd_10 hw) (wd_11 hw) (wd_3 hw) (wd_12 hw) (by decide) e51 (rm3 l Z a0 hw (fn1 i2) h46) pd_lCrZ [(.int (fn1 i2))] [] rfl rfl (by rw [hml]; rfl) rfl (hb hby at_140) 0 (Nat.le_of_eq rfl) (by decide) (by decide) (by decide) (by decide) rfl rfl fun T53 X53 e53 => ?_
            by_cases hc143_54 : (fn3 (fn1 i2)) = (0 : Int32)
            · refine o_ifYes 158 X53 hx (hb hby at_143) (teq hc143_54).1 (by decide) (by decide) ?_
              refine o_iconst 159 X53 hx rfl (hb hby at_158) (0 : Int32) rfl ?_
              rw [show (f0_159_s0' i0 i1 i2 i3) = (0 : Int32) from by unfold f0_159_s0'; simp only [if_neg hc120_49, if_neg hc127_50, if_neg hc135_52, if_pos hc143_54]] at j159_48
              exact j159_48 T53 X53 e53
            · refine o_ifNo 146 X53 hx rfl (hb hby at_143) (feq hc143_54).1 ?_
              refine o_iload 148 X53 hx rfl (hb hby at_146) rfl ?_
              refine o_callP (rv := (.int (fn3 (fn1 i3)))) 151 X53 hx rfl hZ hown (wd_10 hw) (wd_11 hw) (wd_3 hw) (wd_12 hw) (by decide) e53 (rm3 l Z a0 hw (fn1 i3) h46) pd_lCrZ [(.int (fn1 i3))] [] rfl rfl (by rw [hml]; rfl) rfl (hb hby at_148) 0 (Nat.le_of_eq rfl) (by decide) (by decide) (by decide) (by decide) rfl rfl fun T55 X55 e55 => ?_
              by_cases hc151_56 : (fn3 (fn1 i3)) = (0 : Int32)
              · refine o_ifYes 158 X55 hx (hb hby at_151) (teq hc151_56).1 (by decide) (by decide) ?_
                refine o_iconst 159 X55 hx rfl (hb hby at_158) (0 : Int32) rfl ?_
                rw [show (f0_159_s0' i0 i1 i2 i3) = (0 : Int32) from by unfold f0_159_s0'; simp only [if_neg hc120_49, if_neg hc127_50, if_neg hc135_52, if_neg hc143_54, if_pos hc151_56]] at j159_48
                exact j159_48 T55 X55 e55
              · refine o_ifNo 154 X55 hx rfl (hb hby at_151) (feq hc151_56).1 ?_
                refine o_iconst 155 X55 hx rfl (hb hby at_154) (1 : Int32) rfl ?_
                refine o_goto 159 X55 hx (hb hby at_155) (by decide) (by decide) ?_
                rw [show (f0_159_s0' i0 i1 i2 i3) = (1 : Int32) from by unfold f0_159_s0'; simp only [if_neg hc120_49, if_neg hc127_50, if_neg hc135_52, if_neg hc143_54, if_neg hc151_56]] at j159_48
                exact j159_48 T55 X55 e55
    intro T57 X57 e57
    refine o_istore 161 X57 hx rfl (hb hby at_159) #[.val (.int i0), .val (.int i1), .val (.int i2), .val (.int i3), .val (.int i4), .val (.int i5), .val (.int (1 : Int32)), .val (.int (fn1 i5)), .val (.int (fn1 i0)), .val (.int (fn1 i1)), .val (.int (fn1 i2)), .val (.int (fn1 i3)), .val (.ref a6), .val (.int (f0_159_s0' i0 i1 i2 i3))] rfl ?_
    refine o_aload 163 X57 hx rfl (hb hby at_161) rfl rfl ?_
    refine o_iload 165 X57 hx rfl (hb hby at_163) rfl ?_
    refine o_callP (rv := (.int (own_v2 1 [(nar .char (fn1 i5)), (nar .char (fn1 i0)), (nar .char (fn1 i1)), (nar .char (fn1 i2)), (nar .char (fn1 i3)), (nar .char (fn1 i5))]))) 168 X57 hx rfl hZ hown (wd_6 hw) (wd_7 hw) (wd_8 hw) (wd_9 hw) (by decide) e57 (rm2 l Z a0 hw a6 k6 1 6 [(nar .char (fn1 i5)), (nar .char (fn1 i0)), (nar .char (fn1 i1)), (nar .char (fn1 i2)), (nar .char (fn1 i3)), (nar .char (fn1 i5))] h46 (by decide) (by decide) A46) pd_laCIrZ [(.ref a6), (.int (1 : Int32))] [] rfl rfl (by rw [hml]; rfl) rfl (hb hby at_165) 0 (Nat.le_of_eq rfl) (by decide) (by decide) (by decide) (by decide) rfl rfl fun T58 X58 e58 => ?_
    refine o_iload 170 X58 hx rfl (hb hby at_168) rfl ?_
    refine o_icmpNo 173 X58 hx rfl (hb hby at_170) (teq (own_fin1 i0 i1 i2 i3 i5)).2 ?_
    refine o_iconst 174 X58 hx rfl (hb hby at_173) (1 : Int32) rfl ?_
    refine o_goto 178 X58 hx (hb hby at_174) (by decide) (by decide) ?_
    refine o_retN X58 hx .boolean (by simp) hret hlk (hb hby at_178) (by decide) (by decide) ?_
    exact ⟨rfl, N46⟩
  · refine o_aload 84 X19 hx rfl (hb hby at_82) rfl rfl ?_
    refine o_iload 86 X19 hx rfl (hb hby at_84) rfl ?_
    refine o_iload 88 X19 hx rfl (hb hby at_86) rfl ?_
    refine o_castoreX 89 X19 hx rfl hZ e19 A19 (by decide) (Nat.le_of_ble_eq_true rfl) [(nar .char (fn1 i5)), (nar .char (fn1 i5)), (nar .char (fn1 i0)), (nar .char (fn1 i5)), (nar .char (fn1 i5)), (nar .char (fn1 i5))] rfl N19 ge7 (hb hby at_88) fun T59 h59 L59 X59 N59 e59 W59 A59 => ?_
    have sz60 : n0 ≤ h59.size := Nat.le_trans sz20 (Keep.of_wr W59).1
    refine o_aload 91 X59 hx rfl (hb hby at_89) rfl rfl ?_
    refine o_iload 93 X59 hx rfl (hb hby at_91) rfl ?_
    refine o_iconst 94 X59 hx rfl (hb hby at_93) (1 : Int32) rfl ?_
    refine o_iadd 95 X59 hx rfl (hb hby at_94) ?_
    refine o_iload 97 X59 hx rfl (hb hby at_95) rfl ?_
    refine o_castoreX 98 X59 hx rfl hZ e59 A59 (by decide) (Nat.le_of_ble_eq_true rfl) [(nar .char (fn1 i5)), (nar .char (fn1 i5)), (nar .char (fn1 i0)), (nar .char (fn1 i1)), (nar .char (fn1 i5)), (nar .char (fn1 i5))] rfl N59 ge7 (hb hby at_97) fun T61 h61 L61 X61 N61 e61 W61 A61 => ?_
    have sz62 : n0 ≤ h61.size := Nat.le_trans sz60 (Keep.of_wr W61).1
    refine o_aload 100 X61 hx rfl (hb hby at_98) rfl rfl ?_
    refine o_iload 102 X61 hx rfl (hb hby at_100) rfl ?_
    refine o_iconst 103 X61 hx rfl (hb hby at_102) (2 : Int32) rfl ?_
    refine o_iadd 104 X61 hx rfl (hb hby at_103) ?_
    refine o_iload 106 X61 hx rfl (hb hby at_104) rfl ?_
    refine o_castoreX 107 X61 hx rfl hZ e61 A61 (by decide) (Nat.le_of_ble_eq_true rfl) [(nar .char (fn1 i5)), (nar .char (fn1 i5)), (nar .char (fn1 i0)), (nar .char (fn1 i1)), (nar .char (fn1 i2)), (nar .char (fn1 i5))] rfl N61 ge7 (hb hby at_106) fun T63 h63 L63 X63 N63 e63 W63 A63 => ?_
    have sz64 : n0 ≤ h63.size := Nat.le_trans sz62 (Keep.of_wr W63).1
    refine o_aload 109 X63 hx rfl (hb hby at_107) rfl rfl ?_
    refine o_iload 111 X63 hx rfl (hb hby at_109) rfl ?_
    refine o_iconst 112 X63 hx rfl (hb hby at_111) (3 : Int32) rfl ?_
    refine o_iadd 113 X63 hx rfl (hb hby at_112) ?_
    refine o_iload 115 X63 hx rfl (hb hby at_113) rfl ?_
    refine o_castoreX 116 X63 hx rfl hZ e63 A63 (by decide) (Nat.le_of_ble_eq_true rfl) [(nar .char (fn1 i5)), (nar .char (fn1 i5)), (nar .char (fn1 i0)), (nar .char (fn1 i1)), (nar .char (fn1 i2)), (nar .char (fn1 i3))] rfl N63 ge7 (hb hby at_115) fun T65 h65 L65 X65 N65 e65 W65 A65 => ?_
    have sz66 : n0 ≤ h65.size := Nat.le_trans sz64 (Keep.of_wr W65).1
    refine o_iload 118 X65 hx rfl (hb hby at_116) rfl ?_
    refine o_bipush 120 X65 hx rfl (hb hby at_118) (49 : Int32) rfl ?_
    suffices j159_67 : ∀ (T' : State), Stand p l e room_1 s m #[(.int i0), (.int i1), (.int i2), (.int i3), (.int i4), (.int i5)] below meth c T' L65 1 6 → T'.heap = h65 → Go p.tables e below (EndE s room_1 (fun v h L => v = some (.int (1 : Int32)) ∧ Fr n0 L)) (T'.setTop (mkF m 159 #[.val (.int i0), .val (.int i1), .val (.int i2), .val (.int i3), .val (.int i4), .val (.int i5), .val (.int (2 : Int32)), .val (.int (fn1 i5)), .val (.int (fn1 i0)), .val (.int (fn1 i1)), .val (.int (fn1 i2)), .val (.int (fn1 i3)), .val (.ref a6), .unset] [(.int (f0_159_s0'' i0 i1 i2 i3))])) by
      by_cases hc120_68 : (fn1 i0) < (49 : Int32)
      · refine o_icmpYes 158 X65 hx (hb hby at_120) (tlt hc120_68).1 (by decide) (by decide) ?_
        refine o_iconst 159 X65 hx rfl (hb hby at_158) (0 : Int32) rfl ?_
        rw [show (f0_159_s0'' i0 i1 i2 i3) = (0 : Int32) from by unfold f0_159_s0''; simp only [if_pos hc120_68]] at j159_67
        exact j159_67 T65 X65 e65
      · refine o_icmpNo 123 X65 hx rfl (hb hby at_120) (flt hc120_68).1 ?_
        refine o_iload 125 X65 hx rfl (hb hby at_123) rfl ?_
        refine o_bipush 127 X65 hx rfl (hb hby at_125) (57 : Int32) rfl ?_
        by_cases hc127_69 : (57 : Int32) < (fn1 i0)
        · refine o_icmpYes 158 X65 hx (hb hby at_127) (tlt hc127_69).2.2.1 (by decide) (by decide) ?_
          refine o_iconst 159 X65 hx rfl (hb hby at_158) (0 : Int32) rfl ?_
          rw [show (f0_159_s0'' i0 i1 i2 i3) = (0 : Int32) from by unfold f0_159_s0''; simp only [if_neg hc120_68, if_pos hc127_69]] at j159_67
          exact j159_67 T65 X65 e65
        · refine o_icmpNo 130 X65 hx rfl (hb hby at_127) (flt hc127_69).2.2.1 ?_
          refine o_iload 132 X65 hx rfl (hb hby at_130) rfl ?_
          refine o_callP (rv := (.int (fn3 (fn1 i1)))) 135 X65 hx rfl hZ hown (wd_10 hw) (wd_11 hw) (wd_3 hw) (wd_12 hw) (by decide) e65 (rm3 l Z a0 hw (fn1 i1) h65) pd_lCrZ [(.int (fn1 i1))] [] rfl rfl (by rw [hml]; rfl) rfl (hb hby at_132) 0 (Nat.le_of_eq rfl) (by decide) (by decide) (by decide) (by decide) rfl rfl fun T70 X70 e70 => ?_
          by_cases hc135_71 : (fn3 (fn1 i1)) = (0 : Int32)
          · refine o_ifYes 158 X70 hx (hb hby at_135) (teq hc135_71).1 (by decide) (by decide) ?_
            refine o_iconst 159 X70 hx rfl (hb hby at_158) (0 : Int32) rfl ?_
            rw [show (f0_159_s0'' i0 i1 i2 i3) = (0 : Int32) from by unfold f0_159_s0''; simp only [if_neg hc120_68, if_neg hc127_69, if_pos hc135_71]] at j159_67
            exact j159_67 T70 X70 e70
          · refine o_ifNo 138 X70 hx rfl (hb hby at_135) (feq hc135_71).1 ?_
            refine o_iload 140 X70 hx rfl (hb hby at_138) rfl ?_
            refine o_callP (rv := (.int (fn3 (fn1 i2)))) 143 X70 hx rfl hZ hown (wd_10 hw) (wd_11 hw) (wd_3 hw) (wd_12 hw) (by decide) e70 (rm3 l Z a0 hw (fn1 i2) h65) pd_lCrZ [(.int (fn1 i2))] [] rfl rfl (by rw [hml]; rfl) rfl (hb hby at_140) 0 (Nat.le_of_eq rfl) (by decide) (by decide) (by decide) (by decide) rfl rfl fun T72 X72 e72 => ?_
            by_cases hc143_73 : (fn3 (fn1 i2)) = (0 : Int32)
            · refine o_ifYes 158 X72 hx (hb hby at_143) (teq hc143_73).1 (by decide) (by decide) ?_
              refine o_iconst 159 X72 hx rfl (hb hby at_158) (0 : Int32) rfl ?_
              rw [show (f0_159_s0'' i0 i1 i2 i3) = (0 : Int32) from by unfold f0_159_s0''; simp only [if_neg hc120_68, if_neg hc127_69, if_neg hc135_71, if_pos hc143_73]] at j159_67
              exact j159_67 T72 X72 e72
            · refine o_ifNo 146 X72 hx rfl (hb hby at_143) (feq hc143_73).1 ?_
              refine o_iload 148 X72 hx rfl (hb hby at_146) rfl ?_
              refine o_callP (rv := (.int (fn3 (fn1 i3)))) 151 X72 hx rfl hZ hown (wd_10 hw) (wd_11 hw) (wd_3 hw) (wd_12 hw) (by decide) e72 (rm3 l Z a0 hw (fn1 i3) h65) pd_lCrZ [(.int (fn1 i3))] [] rfl rfl (by rw [hml]; rfl) rfl (hb hby at_148) 0 (Nat.le_of_eq rfl) (by decide) (by decide) (by decide) (by decide) rfl rfl fun T74 X74 e74 => ?_
              by_cases hc151_75 : (fn3 (fn1 i3)) = (0 : Int32)
              · refine o_ifYes 158 X74 hx (hb hby at_151) (teq hc151_75).1 (by decide) (by decide) ?_
                refine o_iconst 159 X74 hx rfl (hb hby at_158) (0 : Int32) rfl ?_
                rw [show (f0_159_s0'' i0 i1 i2 i3) = (0 : Int32) from by unfold f0_159_s0''; simp only [if_neg hc120_68, if_neg hc127_69, if_neg hc135_71, if_neg hc143_73, if_pos hc151_75]] at j159_67
                exact j159_67 T74 X74 e74
              · refine o_ifNo 154 X74 hx rfl (hb hby at_151) (feq hc151_75).1 ?_
                refine o_iconst 155 X74 hx rfl (hb hby at_154) (1 : Int32) rfl ?_
                refine o_goto 159 X74 hx (hb hby at_155) (by decide) (by decide) ?_
                rw [show (f0_159_s0'' i0 i1 i2 i3) = (1 : Int32) from by unfold f0_159_s0''; simp only [if_neg hc120_68, if_neg hc127_69, if_neg hc135_71, if_neg hc143_73, if_neg hc151_75]] at j159_67
                exact j159_67 T74 X74 e74
    intro T76 X76 e76
    refine o_istore 161 X76 hx rfl (hb hby at_159) #[.val (.int i0), .val (.int i1), .val (.int i2), .val (.int i3), .val (.int i4), .val (.int i5), .val (.int (2 : Int32)), .val (.int (fn1 i5)), .val (.int (fn1 i0)), .val (.int (fn1 i1)), .val (.int (fn1 i2)), .val (.int (fn1 i3)), .val (.ref a6), .val (.int (f0_159_s0'' i0 i1 i2 i3))] rfl ?_
    refine o_aload 163 X76 hx rfl (hb hby at_161) rfl rfl ?_
    refine o_iload 165 X76 hx rfl (hb hby at_163) rfl ?_
    refine o_callP (rv := (.int (own_v2 2 [(nar .char (fn1 i5)), (nar .char (fn1 i5)), (nar .char (fn1 i0)), (nar .char (fn1 i1)), (nar .char (fn1 i2)), (nar .char (fn1 i3))]))) 168 X76 hx rfl hZ hown (wd_6 hw) (wd_7 hw) (wd_8 hw) (wd_9 hw) (by decide) e76 (rm2 l Z a0 hw a6 k6 2 6 [(nar .char (fn1 i5)), (nar .char (fn1 i5)), (nar .char (fn1 i0)), (nar .char (fn1 i1)), (nar .char (fn1 i2)), (nar .char (fn1 i3))] h65 (by decide) (by decide) A65) pd_laCIrZ [(.ref a6), (.int (2 : Int32))] [] rfl rfl (by rw [hml]; rfl) rfl (hb hby at_165) 0 (Nat.le_of_eq rfl) (by decide) (by decide) (by decide) (by decide) rfl rfl fun T77 X77 e77 => ?_
    refine o_iload 170 X77 hx rfl (hb hby at_168) rfl ?_
    refine o_icmpNo 173 X77 hx rfl (hb hby at_170) (teq (own_fin2 i0 i1 i2 i3 i5)).2 ?_
    refine o_iconst 174 X77 hx rfl (hb hby at_173) (1 : Int32) rfl ?_
    refine o_goto 178 X77 hx (hb hby at_174) (by decide) (by decide) ?_
    refine o_retN X77 hx .boolean (by simp) hret hlk (hb hby at_178) (by decide) (by decide) ?_
    exact ⟨rfl, N65⟩
set_option maxRecDepth 65536 in
set_option maxHeartbeats 40000000 in
theorem comes_1 {Post : Tables → Env → Array Value → State → Outcome → State → Prop} (hpost : ∀ tb e args s v u, (limb_1_1.after args s (.returned v) u = true ∧ limb_1_2.after args s (.returned v) u = true ∧ True) → FrameEnd s (.returned v) u (Jvm.fieldLocs frame_1_writes args s ++ Jvm.arrayLocs frame_1_arrays args s ++ Jvm.staticLocs frame_1_statics s) 16 128 → Post tb e args s (.returned v) u) :
    ArmFor flags0 classFile x code maxLocals ret World_1 tables_1 room_1 Calls_1 rest_1 Pre_1 Post := by
  intro l hfl _ _ p e ha hc hk s m args below hf hA hF happ hP
  obtain ⟨hcalls, hrest, hpre⟩ := hP
  obtain ⟨-, -, -, hnamed, -, -, -, hat⟩ := (Spec.applies_iff hf).mp happ
  obtain ⟨hg, hn⟩ := and_e (Cond.before_iff.mp (show (Jvm.Cond.and given_1 narrow_1).before args s = true from hpre))
  obtain ⟨gc, g0⟩ := and_e hg
  obtain ⟨ga0, g1⟩ := and_e g0
  obtain ⟨ga1, g2⟩ := and_e g1
  obtain ⟨ga2, g3⟩ := and_e g2
  obtain ⟨ga3, g4⟩ := and_e g3
  obtain ⟨ga4, g5⟩ := and_e g4
  obtain ⟨w0, w1, w2, w3, w4, w5, rfl⟩ : ∃ w0 w1 w2 w3 w4 w5 : Value, args = #[w0, w1, w2, w3, w4, w5] := by
    have hs : args.size = 6 := by simpa [Cond.value, given_1] using gc
    obtain ⟨L⟩ := args
    match L, hs with
    | [w0, w1, w2, w3, w4, w5], _ => exact ⟨w0, w1, w2, w3, w4, w5, rfl⟩
  have hw := fun d (hd : d ∈ tables_1) => atoms_spec (ws := Jvm.Cond.code x code maxLocals ret :: tables_1) hat d (List.mem_cons_of_mem _ hd)
  obtain ⟨i0, ei0⟩ := is_v ga0
  obtain rfl : w0 = (.int i0) := Option.some.inj ei0
  obtain ⟨i1, ei1⟩ := is_v ga1
  obtain rfl : w1 = (.int i1) := Option.some.inj ei1
  obtain ⟨i2, ei2⟩ := is_v ga2
  obtain rfl : w2 = (.int i2) := Option.some.inj ei2
  obtain ⟨i3, ei3⟩ := is_v ga3
  obtain rfl : w3 = (.int i3) := Option.some.inj ei3
  obtain ⟨i4, ei4⟩ := is_v ga4
  obtain rfl : w4 = (.int i4) := Option.some.inj ei4
  obtain ⟨i5, ei5⟩ := is_v g5
  obtain rfl : w5 = (.int i5) := Option.some.inj ei5
  obtain ⟨n, o, h1, h2, h3, _, L, rfl, ⟨rfl, N⟩, hq⟩ := rm0 l s _ hw tables_1 i0 i1 i2 i3 i4 i5 s.heap s.heap.size (Nat.le_refl _) p e ha hc hk s m _ below hf ((Spec.applies_iff_loose hf).mp happ).1 ⟨rfl, State.Warmed39.refl s, rfl⟩ trivial
  refine ⟨n, _, h1, h2, h3, hpost _ _ _ _ _ _ ⟨Cond.after_iff.mpr rfl, Cond.after_iff.mpr (eq_i res_at (Term.int_eval (1)) rfl), trivial⟩ ⟨hq.1, hq.2.1, (hq.2.2.sift fun y hy => Or.inr (N y hy)).mono (by decide) (by decide)⟩⟩
theorem main_1_1 : Claimed_1_1 := comes_1 fun _ _ _ _ _ _ h hF => ⟨h.1, hF⟩
theorem main_1_2 : Claimed_1_2 := comes_1 fun _ _ _ _ _ _ h hF => ⟨h.2.1, hF⟩
end Jvm.Pilot.@@N@@
namespace Jvm.Pilot.@@N@@
open Jvm Jvm.ClassFile Sem Op Lib Jvm.Free Jvm.Stand Jvm.Pilot.@@N@@.Jvm.D
/-! MADE BY PROGRAM (witnessworld.py) out of the Statement's table words and the real class files: 12 classes; the members and pool entries that the words name. The judged class is class 1, her method 1. -/
namespace start1
open Jvm.ClassFile
def u (s : String) : CpInfo := .utf8 (stringToUtf16 s)
/-- a pool by its gaps: so many unusable entries, then the entry; so many at the end -/
def gap : Nat → List CpInfo → List CpInfo
  | 0, r => r
  | n + 1, r => .unusable :: gap n r
def poolList (es : List (Nat × CpInfo)) (last : Nat) : List CpInfo := es.foldr (fun e r => gap e.1 (e.2 :: r)) (gap last [])
def pool (es : List (Nat × CpInfo)) (last : Nat) : Array CpInfo := ⟨poolList es last⟩
def fileOf (pool : Array CpInfo) (this : Nat) (attrs : Array Attribute := #[]) (ms : Array MethodInfo := #[]) (fl : Nat := 33) (sup : Nat := 0) (ifs : Array Nat := #[]) (fds : Array FieldInfo := #[]) : ClassFile where
  minorVersion := 0
  majorVersion := 65
  constantPool := pool
  accessFlags := fl
  thisClass := this
  superClass := sup
  interfaces := ifs
  fields := fds
  methods := ms
  attributes := attrs
def plain (name : String) (sup : Option ClassId) : Class where
  name := name
  kind := .ordinary
  loader := none
  accessFlags := 33
  super := sup
  interfaces := #[]
  cf := none
  fields := #[]
  methods := #[]
  instanceTypes := #[]
  staticTypes := #[]
  resolved := #[]
  callSites := []
  init := .initialized
  statics := none
  mirror := none

def pool0 : Array CpInfo := pool [(5, u "<init>"), (0, u "()V"), (1, .class_ 10), (1, u "java/lang/Object")] 113

def k0m0 : Method := { name := "<init>", desc := "()V", sig := { parameters := [], returnType := none }, accessFlags := 1, code := none }
/-- java/lang/Object -/
def k0 : Class := { plain "java/lang/Object" none with
  accessFlags := 33
  interfaces := #[]
  cf := some (fileOf pool0 8 #[] #[{ accessFlags := 1, nameIndex := 5, descriptorIndex := 6, attributes := #[] }] 33 0 #[] #[])
  fields := #[]
  methods := #[k0m0]
  instanceTypes := #[]
  staticTypes := #[]
  resolved := Array.replicate 124 none
  statics := none }

def pool1 : Array CpInfo := pool [(2, .class_ 4), (1, u "java/lang/Object"), (0, u "<init>"), (0, u "()V"), (0, .integer 2147483647), (0, .methodref 9 10), (0, .class_ 11), (0, .nameAndType 12 13), (0, u "com/example/planbook/planbook/files/YearsIsYearPinLaw"), (0, u "draw"), (0, u "(I)C"), (0, .methodref 9 15), (0, .nameAndType 16 17), (0, u "isDigit"), (0, u "(C)Z"), (0, .methodref 19 20), (0, .class_ 21), (0, .nameAndType 22 23), (0, u "com/example/planbook/planbook/files/Years"), (0, u "isYear"), (0, u "([CI)Z"), (2, u "law"), (0, u "(IIIIII)Z")] 5

def k1m0 : Method := { name := "<init>", desc := "()V", sig := { parameters := [], returnType := none }, accessFlags := 2, code := none }
def k1c1 : Code := { maxStack := 3, maxLocals := 14, code := code, exceptionTable := #[], attributes := #[] }
def k1m1 : Method := { name := "law", desc := "(IIIIII)Z", sig := { parameters := [.int, .int, .int, .int, .int, .int], returnType := some .boolean }, accessFlags := 9, code := some k1c1 }
def k1c2 : Code := { maxStack := 2, maxLocals := 1, code := method_3_code, exceptionTable := #[], attributes := #[] }
def k1m2 : Method := { name := "isDigit", desc := "(C)Z", sig := { parameters := [.char], returnType := some .boolean }, accessFlags := 10, code := some k1c2 }
def k1c3 : Code := { maxStack := 3, maxLocals := 1, code := method_4_code, exceptionTable := #[], attributes := #[] }
def k1m3 : Method := { name := "draw", desc := "(I)C", sig := { parameters := [.int], returnType := some .char }, accessFlags := 10, code := some k1c3 }
/-- com/example/planbook/planbook/files/YearsIsYearPinLaw -/
def k1 : Class := { plain "com/example/planbook/planbook/files/YearsIsYearPinLaw" (some 0) with
  accessFlags := 49
  interfaces := #[]
  cf := some (fileOf pool1 9 #[] #[{ accessFlags := 2, nameIndex := 5, descriptorIndex := 6, attributes := #[] }, { accessFlags := 9, nameIndex := 26, descriptorIndex := 27, attributes := #[] }, { accessFlags := 10, nameIndex := 16, descriptorIndex := 17, attributes := #[] }, { accessFlags := 10, nameIndex := 12, descriptorIndex := 13, attributes := #[] }] 49 2 #[] #[])
  fields := #[]
  methods := #[k1m0, k1m1, k1m2, k1m3]
  instanceTypes := #[]
  staticTypes := #[]
  resolved := Array.replicate 33 none
  statics := none }

def pool2 : Array CpInfo := pool [(2, .class_ 4), (1, u "java/lang/Object"), (0, u "<init>"), (0, u "()V"), (6, .class_ 14), (0, u "com/example/planbook/planbook/files/Years"), (6, u "isYear"), (0, u "([CI)Z"), (16, .methodref 40 41), (0, .class_ 42), (0, .nameAndType 43 44), (0, u "com/example/planbook/planbook/files/Decimals"), (0, u "digits"), (0, u "([CII)J"), (5, u "FIRST"), (0, u "Ljava/time/Year;"), (2, u "LAST"), (0, u "DIGITS"), (0, u "I")] 11

def k2m0 : Method := { name := "<init>", desc := "()V", sig := { parameters := [], returnType := none }, accessFlags := 2, code := none }
def k2c1 : Code := { maxStack := 4, maxLocals := 2, code := prog_109_method_3_code, exceptionTable := #[], attributes := #[] }
def k2m1 : Method := { name := "isYear", desc := "([CI)Z", sig := { parameters := [(.array .char), .int], returnType := some .boolean }, accessFlags := 8, code := some k2c1 }
/-- com/example/planbook/planbook/files/Years -/
def k2 : Class := { plain "com/example/planbook/planbook/files/Years" (some 0) with
  accessFlags := 49
  interfaces := #[]
  cf := some (fileOf pool2 13 #[] #[{ accessFlags := 2, nameIndex := 5, descriptorIndex := 6, attributes := #[] }, { accessFlags := 8, nameIndex := 21, descriptorIndex := 22, attributes := #[] }] 49 2 #[] #[{ accessFlags := 25, nameIndex := 50, descriptorIndex := 51, attributes := #[] }, { accessFlags := 25, nameIndex := 54, descriptorIndex := 51, attributes := #[] }, { accessFlags := 26, nameIndex := 55, descriptorIndex := 56, attributes := #[] }])
  fields := #[{ name := "FIRST", type := (.object "java/time/Year"), accessFlags := 25, slot := 0, constantValue := 0 }, { name := "LAST", type := (.object "java/time/Year"), accessFlags := 25, slot := 1, constantValue := 0 }, { name := "DIGITS", type := .int, accessFlags := 26, slot := 2, constantValue := 0 }]
  methods := #[k2m0, k2m1]
  instanceTypes := #[]
  staticTypes := #[(.object "java/time/Year"), (.object "java/time/Year"), .int]
  resolved := Array.replicate 68 none
  statics := none }

def pool3 : Array CpInfo := pool [(2, .class_ 4), (1, u "java/lang/Object"), (0, u "<init>"), (0, u "()V"), (11, .class_ 20), (1, u "com/example/planbook/planbook/files/Decimals"), (12, .long 10), (14, .long 18446744073709551615), (18, u "MOST_DIGITS"), (0, u "I"), (2, u "LONG_DIGITS"), (10, u "digits"), (0, u "([CII)J")] 20

def k3m0 : Method := { name := "<init>", desc := "()V", sig := { parameters := [], returnType := none }, accessFlags := 2, code := none }
def k3c1 : Code := { maxStack := 4, maxLocals := 7, code := prog_94_method_4_code, exceptionTable := #[], attributes := #[] }
def k3m1 : Method := { name := "digits", desc := "([CII)J", sig := { parameters := [(.array .char), .int, .int], returnType := some .long }, accessFlags := 8, code := some k3c1 }
/-- com/example/planbook/planbook/files/Decimals -/
def k3 : Class := { plain "com/example/planbook/planbook/files/Decimals" (some 0) with
  accessFlags := 48
  interfaces := #[]
  cf := some (fileOf pool3 18 #[] #[{ accessFlags := 2, nameIndex := 5, descriptorIndex := 6, attributes := #[] }, { accessFlags := 8, nameIndex := 82, descriptorIndex := 83, attributes := #[] }] 48 2 #[] #[{ accessFlags := 26, nameIndex := 67, descriptorIndex := 68, attributes := #[] }, { accessFlags := 26, nameIndex := 71, descriptorIndex := 68, attributes := #[] }])
  fields := #[{ name := "MOST_DIGITS", type := .int, accessFlags := 26, slot := 0, constantValue := 0 }, { name := "LONG_DIGITS", type := .int, accessFlags := 26, slot := 1, constantValue := 0 }]
  methods := #[k3m0, k3m1]
  instanceTypes := #[]
  staticTypes := #[.int, .int]
  resolved := Array.replicate 104 none
  statics := none }

def pool4 : Array CpInfo := pool [(1, u "java/lang/Cloneable"), (0, .class_ 1), (0, u "java/lang/Object"), (0, .class_ 3)] 3

/-- java/lang/Cloneable -/
def k4 : Class := { plain "java/lang/Cloneable" (some 0) with
  accessFlags := 1537
  interfaces := #[]
  cf := some (fileOf pool4 2 #[] #[] 1537 4 #[] #[])
  fields := #[]
  methods := #[]
  instanceTypes := #[]
  staticTypes := #[]
  resolved := Array.replicate 8 none
  statics := none }

def pool5 : Array CpInfo := pool [(1, u "java/io/Serializable"), (0, .class_ 1), (0, u "java/lang/Object"), (0, .class_ 3)] 3

/-- java/io/Serializable -/
def k5 : Class := { plain "java/io/Serializable" (some 0) with
  accessFlags := 1537
  interfaces := #[]
  cf := some (fileOf pool5 2 #[] #[] 1537 4 #[] #[])
  fields := #[]
  methods := #[]
  instanceTypes := #[]
  staticTypes := #[]
  resolved := Array.replicate 8 none
  statics := none }

/-- the primitive byte -/
def k6 : Class := { plain "byte" none with kind := .primitive 'B', accessFlags := 0x411 }
/-- [B -/
def k7 : Class := { plain "[B" (some 0) with kind := .array 6 .byte, interfaces := #[4, 5], accessFlags := 1041 }

/-- the primitive char -/
def k8 : Class := { plain "char" none with kind := .primitive 'C', accessFlags := 0x411 }
/-- [C -/
def k9 : Class := { plain "[C" (some 0) with kind := .array 8 .char, interfaces := #[4, 5], accessFlags := 1041 }

/-- the primitive int -/
def k10 : Class := { plain "int" none with kind := .primitive 'I', accessFlags := 0x411 }
/-- [I -/
def k11 : Class := { plain "[I" (some 0) with kind := .array 10 .int, interfaces := #[4, 5], accessFlags := 1041 }

def heap : Heap := #[]
def classes : Array Class := #[k0, k1, k2, k3, k4, k5, k6, k7, k8, k9, k10, k11]
def interned : List (Array UInt16 × Addr) := []
def slotsUsed : Nat := 0
def theMethod : MethodId := ⟨1, 1⟩
def args0 : Array Value := #[.int 5, .int 5, .int 5, .int 5, .int 5, .int 5]
def aboutOver (below : List Frame) : State where
  vm := { classes := classes, interned := interned.toArray }
  heap := heap
  slotsUsed := slotsUsed
  threads := #[{ frames := .invoking theMethod args0 :: below }]
def below0 : List Frame := [.native { method := ⟨0, 0⟩, args := #[] }]
def about1 : State := aboutOver below0
def p0 : Program := .bare "" "" ""
def e0 : Env := launch0.env 0 0 0
theorem w_frames : about1.frames = Frame.invoking theMethod args0 :: below0 := rfl
set_option maxRecDepth 65536 in
theorem w_args : argsFit about1.vm theMethod args0 = true := by decide +kernel
set_option maxRecDepth 65536 in
theorem w_heap : heapFits about1 = true := by decide +kernel
set_option maxRecDepth 65536 in
theorem w_runnable : about1.curStatus? = some .runnable := by decide +kernel
set_option maxRecDepth 65536 in
theorem w_alone : about1.alone = true := by decide +kernel
set_option maxRecDepth 65536 in
theorem w_named : about1.methodNamed? x = some theMethod := by decide +kernel
set_option maxRecDepth 65536 in
theorem w_hears : about1.hears theMethod below0 = true := by decide +kernel
set_option maxRecDepth 65536 in
theorem w_ripe : about1.ripe theMethod args0 below0 = true := by decide +kernel
theorem w_running : about1.status = .running := rfl
set_option maxRecDepth 65536 in
theorem w_room : about1.hasRoom e0.platform room_1 = true :=
  launch0.hasRoom_least _ room_1 (by decide +kernel) (by decide +kernel) (by decide +kernel) (by decide +kernel) (by decide +kernel) (by decide +kernel)
theorem allAtoms_all (ts : List Jvm.Cond) (a : Array Jvm.Value) (st : Jvm.State) : (allAtoms ts).before a st = ts.all (fun c => c.before a st) := by
  induction ts with
  | nil => rfl
  | cons c t ih =>
    show (Jvm.Cond.and c (allAtoms t)).before a st = _
    rw [Jvm.Cond.before_and, ih, List.all_cons]
def words1 : List Jvm.Cond := Jvm.Cond.code x code maxLocals ret :: tables_1
/-- a 'code' word, met by the world's own term for the bytes: nothing is compared byte by byte -/
theorem code_word {y : MethodName} {bytes : ByteArray} {mx : Nat} {rt : Option FieldType} {a : Array Value} {s : State} {m : MethodId} {meth : Method} {c : Code} (h1 : s.methodNamed? y = some m) (h2 : s.vm.method? m = some meth) (h3 : meth.code = some c) (h4 : c.code = bytes)
    (h5 : (c.maxLocals == mx && c.exceptionTable.isEmpty && decide (c.maxStack ≤ mostOperands) && decide (meth.sig.returnType = rt) && !meth.locks && decide (parseMethodDescriptor y.desc = some meth.sig)) = true) : (Jvm.Cond.code y bytes mx rt).before a s = true := by
  simp only [Bool.and_eq_true, beq_iff_eq, Bool.not_eq_true', decide_eq_true_eq] at h5
  obtain ⟨⟨⟨⟨⟨g1, g2⟩, g3⟩, g4⟩, g5⟩, g6⟩ := h5
  simp [Cond.before, Cond.holds, Cond.value, h1, h2, h3, h4, g1, g2, g3, g4, g5, g6]
def isCode : Jvm.Cond → Bool
  | .code _ _ _ _ => true
  | _ => false
theorem all_split {L : List Jvm.Cond} {P : Jvm.Cond → Bool} (h1 : L.all (fun c => isCode c || P c) = true) (h2 : ∀ c ∈ L.filter isCode, P c = true) : L.all P = true := by
  refine List.all_eq_true.mpr fun c hc => ?_
  have h := List.all_eq_true.mp h1 c hc
  rcases Bool.eq_false_or_eq_true (isCode c) with hi | hi
  · exact h2 c (List.mem_filter.mpr ⟨hc, hi⟩)
  · simpa [hi] using h
set_option maxRecDepth 65536 in
theorem w_c0 : (Jvm.Cond.code x code maxLocals ret).before args0 about1 = true := code_word (m := ⟨1, 1⟩) (meth := k1m1) (c := k1c1) (by decide +kernel) rfl rfl rfl (by decide +kernel)
set_option maxRecDepth 65536 in
theorem w_c1 : (Jvm.Cond.code ({ cls := "com/example/planbook/planbook/files/YearsIsYearPinLaw", name := "draw", desc := "(I)C" } : Jvm.MethodName) method_4_code (1 : Nat) (Option.some Jvm.ClassFile.FieldType.char)).before args0 about1 = true := code_word (m := ⟨1, 3⟩) (meth := k1m3) (c := k1c3) (by decide +kernel) rfl rfl rfl (by decide +kernel)
set_option maxRecDepth 65536 in
theorem w_c2 : (Jvm.Cond.code ({ cls := "com/example/planbook/planbook/files/Years", name := "isYear", desc := "([CI)Z" } : Jvm.MethodName) prog_109_method_3_code (2 : Nat) (Option.some Jvm.ClassFile.FieldType.boolean)).before args0 about1 = true := code_word (m := ⟨2, 1⟩) (meth := k2m1) (c := k2c1) (by decide +kernel) rfl rfl rfl (by decide +kernel)
set_option maxRecDepth 65536 in
theorem w_c3 : (Jvm.Cond.code ({ cls := "com/example/planbook/planbook/files/YearsIsYearPinLaw", name := "isDigit", desc := "(C)Z" } : Jvm.MethodName) method_3_code (1 : Nat) (Option.some Jvm.ClassFile.FieldType.boolean)).before args0 about1 = true := code_word (m := ⟨1, 2⟩) (meth := k1m2) (c := k1c2) (by decide +kernel) rfl rfl rfl (by decide +kernel)
set_option maxRecDepth 65536 in
theorem w_c4 : (Jvm.Cond.code ({ cls := "com/example/planbook/planbook/files/Decimals", name := "digits", desc := "([CII)J" } : Jvm.MethodName) prog_94_method_4_code (7 : Nat) (Option.some Jvm.ClassFile.FieldType.long)).before args0 about1 = true := code_word (m := ⟨3, 1⟩) (meth := k3m1) (c := k3c1) (by decide +kernel) rfl rfl rfl (by decide +kernel)
def codes1 : List Jvm.Cond := [Jvm.Cond.code x code maxLocals ret, Jvm.Cond.code ({ cls := "com/example/planbook/planbook/files/YearsIsYearPinLaw", name := "draw", desc := "(I)C" } : Jvm.MethodName) method_4_code (1 : Nat) (Option.some Jvm.ClassFile.FieldType.char), Jvm.Cond.code ({ cls := "com/example/planbook/planbook/files/Years", name := "isYear", desc := "([CI)Z" } : Jvm.MethodName) prog_109_method_3_code (2 : Nat) (Option.some Jvm.ClassFile.FieldType.boolean), Jvm.Cond.code ({ cls := "com/example/planbook/planbook/files/YearsIsYearPinLaw", name := "isDigit", desc := "(C)Z" } : Jvm.MethodName) method_3_code (1 : Nat) (Option.some Jvm.ClassFile.FieldType.boolean), Jvm.Cond.code ({ cls := "com/example/planbook/planbook/files/Decimals", name := "digits", desc := "([CII)J" } : Jvm.MethodName) prog_94_method_4_code (7 : Nat) (Option.some Jvm.ClassFile.FieldType.long)]
set_option maxRecDepth 65536 in
theorem codes_eq : words1.filter isCode = codes1 := rfl
theorem w_codes : ∀ c ∈ words1.filter isCode, c.before args0 about1 = true := by
  rw [codes_eq]
  intro c hc
  simp only [codes1, List.mem_cons, List.not_mem_nil, or_false] at hc
  rcases hc with rfl | rfl | rfl | rfl | rfl
  · exact w_c0
  · exact w_c1
  · exact w_c2
  · exact w_c3
  · exact w_c4
set_option maxRecDepth 65536 in
theorem w_t1 : words1.all (fun c => isCode c || c.before args0 about1) = true := by decide +kernel
theorem w_tables : (allAtoms (Jvm.Cond.code x code maxLocals ret :: tables_1)).before args0 about1 = true := by
  rw [allAtoms_all]
  show words1.all (fun c => c.before args0 about1) = true
  refine all_split ?_ w_codes
  rw [w_t1]
set_option maxRecDepth 65536 in
theorem w_case : (Jvm.Cond.and given_1 narrow_1).before args0 about1 = true := by decide +kernel
theorem w_applies : (headSpec (Jvm.Cond.code x code maxLocals ret :: tables_1) room_1).applies x e0.platform about1 = true :=
  (Spec.applies_iff w_frames).mpr ⟨w_running, w_runnable, w_alone, w_named, w_hears, w_ripe, w_room, w_tables⟩
theorem atStart : AtStart classFile x code maxLocals ret World_1 tables_1 room_1 Calls_1 rest_1 Pre_1 launch0 p0 e0 about1 theMethod args0 below0 :=
  ⟨lists_1, trivial, launch0.admits_env _ _ _, launch0.least_env, fairChoices_fair.cas, fairChoices_fair.clock, w_frames, w_args, w_heap, w_applies, trivial, trivial, w_case⟩
end start1
theorem witness_1 : WitnessClaimed_1 := ⟨start1.p0, start1.e0, start1.about1, start1.theMethod, start1.args0, start1.below0, start1.atStart⟩
end Jvm.Pilot.@@N@@
