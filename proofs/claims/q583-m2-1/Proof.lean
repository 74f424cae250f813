import JvmDerived
import JvmDerived.Pilot.@@N@@Statement
import JvmDerived.Pilot.@@N@@Code
set_option linter.unusedVariables false
set_option linter.unusedSimpArgs false
namespace Jvm.Pilot.@@N@@
open Jvm Jvm.ClassFile Sem Op Lib Jvm.Free Jvm.Stand Jvm.LawKit Jvm.RoadKit Bundle Jvm.Pilot.@@N@@.Jvm.D
/-- from S the run goes on below 'below', ends, and E holds of the end -/
def Go (tb : Tables) (e : Env) (below : List Frame) (E : State → Outcome → Prop) (S : State) : Prop := ∃ s₂ o, Steps tb e below S s₂ ∧ s₂.status = .running ∧ Ended s₂ below o ∧ E s₂ o
theorem Go.via {tb : Tables} {e : Env} {below : List Frame} {E : State → Outcome → Prop} {S S' : State} (k : ∀ t, Steps tb e below S' t → Steps tb e below S t) (h : Go tb e below E S') : Go tb e below E S := by
  obtain ⟨a, b, c, d⟩ := h; exact ⟨a, b, k _ c, d⟩
/-- a body's contract, short -/
abbrev MetP (l : Launch) (y : MethodName) (bytes : ByteArray) (maxL : Nat) (ret : Option FieldType) (ws : List Jvm.Cond) (rm : Room) (Z : State) (as' : Array Value) (h0 : Heap) (Q : Option Value → Heap → List Loc → Prop) : Prop :=
  MetFree l y (head1 (Jvm.Cond.code y bytes maxL ret :: ws) rm) (fun a U => a = as' ∧ Z.Warmed39 U.vm ∧ U.heap = h0) (fun _ _ _ _ _ => True) (fun _ U o U' => ∃ v L, o = .returned v ∧ Q v U'.heap L ∧ FrameEnd U o U' L rm.cells rm.slots)
/-- it returned r and wrote and made nothing -/
def Pure (r : Value) (h0 : Heap) (v : Option Value) (h : Heap) (L : List Loc) : Prop := v = some r ∧ L = [] ∧ h = h0
abbrev EndE (s : State) (rm : Room) (Q : Option Value → Heap → List Loc → Prop) : State → Outcome → Prop := fun s₂ o => ∃ v L, o = .returned v ∧ Q v s₂.heap L ∧ FrameEnd s o s₂ L rm.cells rm.slots
theorem met_go {l : Launch} {y : MethodName} {bytes : ByteArray} {maxL : Nat} {ret : Option FieldType} {ws : List Jvm.Cond} {rm : Room} {Z : State} {as' : Array Value} {h0 : Heap} {Q : Option Value → Heap → List Loc → Prop} (hpl : plainFor y = true)
    (body : ∀ (p : Program) (e : Env) (s : State) (m : MethodId) (below : List Frame) (meth : Method) (c : Code) (s₁ : State), p.tables.exec = Jvm.exec → c.code = bytes → c.maxLocals = maxL → s.vm.findClass y.cls = some m.cls → meth.name = y.name → meth.sig.returnType = ret → meth.locks = false → Z.Warmed39 s.vm → s₁.heap = h0 →
      Stand p l e rm s m as' below meth c s₁ [] 0 0 → Go p.tables e below (EndE s rm Q) (s₁.setTop (entryFrame m as' maxL))) : MetP l y bytes maxL ret ws rm Z as' h0 Q := by
  refine MetFree.of_bodySF hpl hisR ?_
  intro p e s m args below meth c s₁ Bd hml hP hK
  obtain ⟨rfl, hZ, hh⟩ := hP
  exact body p e s m below meth c s₁ Bd.exec Bd.bytes hml (findClass_of_methodNamed Bd.named) (name_of_methodNamed Bd.named Bd.method).1 Bd.returns Bd.notSynchronized hZ (by rw [← hh, Bd.state]; rfl) (Stand.of_body Bd)
abbrev EndW (s : State) (rm : Room) (Q : Option Value → Heap → List Loc → Prop) : State → Outcome → Prop := fun s₂ o => ∃ v L, o = .returned v ∧ Q v s₂.heap L ∧ ReturnedEndW s o s₂ L rm.cells rm.slots
theorem met_goW {l : Launch} {y : MethodName} {bytes : ByteArray} {maxL : Nat} {ret : Option FieldType} {ws : List Jvm.Cond} {rm : Room} {Z : State} {as' : Array Value} {h0 : Heap} {Q : Option Value → Heap → List Loc → Prop} (hpl : plainFor y = true)
    (body : ∀ (p : Program) (e : Env) (s : State) (m : MethodId) (below : List Frame) (meth : Method) (c : Code) (s₁ : State), p.tables.exec = Jvm.exec → c.code = bytes → c.maxLocals = maxL → s.vm.findClass y.cls = some m.cls → meth.name = y.name → meth.sig.returnType = ret → meth.locks = false → Z.Warmed39 s.vm → s₁.heap = h0 →
      Stand p l e rm s m as' below meth c s₁ [] 0 0 → Go p.tables e below (EndW s rm Q) (s₁.setTop (entryFrame m as' maxL))) : MetFree l y (head1 (Jvm.Cond.code y bytes maxL ret :: ws) rm) (fun a U => a = as' ∧ Z.Warmed39 U.vm ∧ U.heap = h0) (fun _ _ _ _ _ => True) (fun _ U o U' => ∃ v L, o = .returned v ∧ Q v U'.heap L ∧ ReturnedEndW U o U' L rm.cells rm.slots) := by
  refine MetFree.of_bodySF hpl hisR ?_
  intro p e s m args below meth c s₁ Bd hml hP hK
  obtain ⟨rfl, hZ, hh⟩ := hP
  exact body p e s m below meth c s₁ Bd.exec Bd.bytes hml (findClass_of_methodNamed Bd.named) (name_of_methodNamed Bd.named Bd.method).1 Bd.returns Bd.notSynchronized hZ (by rw [← hh, Bd.state]; rfl) (Stand.of_body Bd)
theorem met_goZ {l : Launch} {y : MethodName} {bytes : ByteArray} {maxL : Nat} {ret : Option FieldType} {ws : List Jvm.Cond} {rm : Room} {Z : State} {as' : Array Value} {Q : Option Value → Heap → List Loc → Prop} (hpl : plainFor y = true)
    (body : ∀ (p : Program) (e : Env) (s : State) (m : MethodId) (below : List Frame) (meth : Method) (c : Code) (s₁ : State), p.tables.exec = Jvm.exec → c.code = bytes → c.maxLocals = maxL → s.vm.findClass y.cls = some m.cls → meth.name = y.name → meth.sig.returnType = ret → meth.locks = false → s = Z → s₁.heap = Z.heap →
      Stand p l e rm s m as' below meth c s₁ [] 0 0 → Go p.tables e below (EndW s rm Q) (s₁.setTop (entryFrame m as' maxL))) : MetFree l y (head1 (Jvm.Cond.code y bytes maxL ret :: ws) rm) (fun a U => a = as' ∧ U = Z) (fun _ _ _ _ _ => True) (fun _ U o U' => ∃ v L, o = .returned v ∧ Q v U'.heap L ∧ ReturnedEndW U o U' L rm.cells rm.slots) := by
  refine MetFree.of_bodySF hpl hisR ?_
  intro p e s m args below meth c s₁ Bd hml hP hK
  obtain ⟨rfl, hZ⟩ := hP
  exact body p e s m below meth c s₁ Bd.exec Bd.bytes hml (findClass_of_methodNamed Bd.named) (name_of_methodNamed Bd.named Bd.method).1 Bd.returns Bd.notSynchronized hZ (by rw [← hZ, Bd.state]; rfl) (Stand.of_body Bd)
section OwnKit
variable {p : Program} {l : Launch} {e : Env} {R : Room} {s : State} {m : MethodId} {args : Array Value} {below : List Frame} {meth : Method} {c : Code} {T : State} {locs : List Loc} {cells slots : Nat} {E : State → Outcome → Prop} {Z : State} {a0 : Array Value} {h : Heap} {pc : Nat} {Ls Ls' : Array Slot} {st : List Value}
theorem o_iload (pc' : Nat) (X : Stand p l e R s m args below meth c T locs cells slots) (hx : p.tables.exec = Jvm.exec) (hpc : pc + 2 = pc') {k : Nat} {v : Int32} (hd : decode c.code pc = .ok (.iload k, 2)) (hl : Ls[k]? = some (.val (.int v))) (h : Go p.tables e below E (T.setTop (mkF m pc' Ls ((.int v) :: st)))) : Go p.tables e below E (T.setTop (mkF m pc Ls st)) := by
  subst hpc; exact Go.via (fun _ k => XS.iload X.here hx rfl hd hl k) h
theorem o_lload (pc' : Nat) (X : Stand p l e R s m args below meth c T locs cells slots) (hx : p.tables.exec = Jvm.exec) (hpc : pc + 2 = pc') {k : Nat} {v : Int64} (hd : decode c.code pc = .ok (.lload k, 2)) (hl : Ls[k]? = some (.val (.long v))) (h : Go p.tables e below E (T.setTop (mkF m pc' Ls ((.long v) :: st)))) : Go p.tables e below E (T.setTop (mkF m pc Ls st)) := by
  subst hpc; exact Go.via (fun _ k => XS.lload X.here hx rfl hd hl k) h
theorem o_iloadN (pc' : Nat) (X : Stand p l e R s m args below meth c T locs cells slots) (hx : p.tables.exec = Jvm.exec) (hpc : pc + 1 = pc') {k : Fin 4} {v : Int32} (hd : decode c.code pc = .ok (.iload_n k, 1)) (hl : Ls[k.val]? = some (.val (.int v))) (h : Go p.tables e below E (T.setTop (mkF m pc' Ls ((.int v) :: st)))) : Go p.tables e below E (T.setTop (mkF m pc Ls st)) := by
  subst hpc; exact Go.via (fun _ k => XS.iloadN X.here hx rfl hd hl k) h
theorem o_lloadN (pc' : Nat) (X : Stand p l e R s m args below meth c T locs cells slots) (hx : p.tables.exec = Jvm.exec) (hpc : pc + 1 = pc') {k : Fin 4} {v : Int64} (hd : decode c.code pc = .ok (.lload_n k, 1)) (hl : Ls[k.val]? = some (.val (.long v))) (h : Go p.tables e below E (T.setTop (mkF m pc' Ls ((.long v) :: st)))) : Go p.tables e below E (T.setTop (mkF m pc Ls st)) := by
  subst hpc; exact Go.via (fun _ k => XS.lloadN X.here hx rfl hd hl k) h
theorem o_aload (pc' : Nat) (X : Stand p l e R s m args below meth c T locs cells slots) (hx : p.tables.exec = Jvm.exec) (hpc : pc + 2 = pc') {k : Nat} {v : Value} (hd : decode c.code pc = .ok (.aload k, 2)) (hl : Ls[k]? = some (.val v)) (hv : v.isRef = true) (h : Go p.tables e below E (T.setTop (mkF m pc' Ls (v :: st)))) : Go p.tables e below E (T.setTop (mkF m pc Ls st)) := by
  subst hpc; exact Go.via (fun _ k => XS.aload X.here hx rfl hd hl hv k) h
theorem o_aloadN (pc' : Nat) (X : Stand p l e R s m args below meth c T locs cells slots) (hx : p.tables.exec = Jvm.exec) (hpc : pc + 1 = pc') {k : Fin 4} {v : Value} (hd : decode c.code pc = .ok (.aload_n k, 1)) (hl : Ls[k.val]? = some (.val v)) (hv : v.isRef = true) (h : Go p.tables e below E (T.setTop (mkF m pc' Ls (v :: st)))) : Go p.tables e below E (T.setTop (mkF m pc Ls st)) := by
  subst hpc; exact Go.via (fun _ k => XS.aloadN X.here hx rfl hd hl hv k) h
theorem o_istore (pc' : Nat) (X : Stand p l e R s m args below meth c T locs cells slots) (hx : p.tables.exec = Jvm.exec) (hpc : pc + 2 = pc') {k : Nat} {v : Int32} (hd : decode c.code pc = .ok (.istore k, 2)) (Ls' : Array Slot) (hl : storeLocals Ls k (.int v) = some Ls') (h : Go p.tables e below E (T.setTop (mkF m pc' Ls' st))) : Go p.tables e below E (T.setTop (mkF m pc Ls ((.int v) :: st))) := by
  subst hpc; exact Go.via (fun _ k => XS.istore X.here hx rfl hd rfl hl k) h
theorem o_lstore (pc' : Nat) (X : Stand p l e R s m args below meth c T locs cells slots) (hx : p.tables.exec = Jvm.exec) (hpc : pc + 2 = pc') {k : Nat} {v : Int64} (hd : decode c.code pc = .ok (.lstore k, 2)) (Ls' : Array Slot) (hl : storeLocals Ls k (.long v) = some Ls') (h : Go p.tables e below E (T.setTop (mkF m pc' Ls' st))) : Go p.tables e below E (T.setTop (mkF m pc Ls ((.long v) :: st))) := by
  subst hpc; exact Go.via (fun _ k => XS.lstore X.here hx rfl hd rfl hl k) h
theorem o_astore (pc' : Nat) (X : Stand p l e R s m args below meth c T locs cells slots) (hx : p.tables.exec = Jvm.exec) (hpc : pc + 2 = pc') {k : Nat} {v : Value} (hd : decode c.code pc = .ok (.astore k, 2)) (hv : v.isRef = true) (Ls' : Array Slot) (hl : storeLocals Ls k v = some Ls') (h : Go p.tables e below E (T.setTop (mkF m pc' Ls' st))) : Go p.tables e below E (T.setTop (mkF m pc Ls (v :: st))) := by
  subst hpc; exact Go.via (fun _ k => XS.astore X.here hx rfl hd rfl hv hl k) h
theorem o_iinc (pc' : Nat) (X : Stand p l e R s m args below meth c T locs cells slots) (hx : p.tables.exec = Jvm.exec) (hpc : pc + 3 = pc') {k : Nat} {cst : Int} {v : Int32} (hd : decode c.code pc = .ok (.iinc k cst, 3)) (w : Int32) (hw : Int32.ofInt cst = w) (hl : Ls[k]? = some (.val (.int v))) (Ls' : Array Slot) (hl' : storeLocals Ls k (.int (v + w)) = some Ls') (h : Go p.tables e below E (T.setTop (mkF m pc' Ls' st))) : Go p.tables e below E (T.setTop (mkF m pc Ls st)) := by
  subst hpc; exact Go.via (fun _ k => XS.iinc X.here hx rfl hd hl (by rw [hw]; exact hl') k) h
theorem o_iconst (pc' : Nat) (X : Stand p l e R s m args below meth c T locs cells slots) (hx : p.tables.exec = Jvm.exec) (hpc : pc + 1 = pc') {i : Int} (hd : decode c.code pc = .ok (.iconst i, 1)) (v : Int32) (hv : Int32.ofInt i = v) (h : Go p.tables e below E (T.setTop (mkF m pc' Ls (.int v :: st)))) : Go p.tables e below E (T.setTop (mkF m pc Ls st)) := by
  subst hpc; exact Go.via (fun _ k => XS.iconst X.here hx rfl hd (by rw [hv]; exact k)) h
theorem o_bipush (pc' : Nat) (X : Stand p l e R s m args below meth c T locs cells slots) (hx : p.tables.exec = Jvm.exec) (hpc : pc + 2 = pc') {i : Int} (hd : decode c.code pc = .ok (.bipush i, 2)) (v : Int32) (hv : (Int8.ofInt i).toInt32 = v) (h : Go p.tables e below E (T.setTop (mkF m pc' Ls (.int v :: st)))) : Go p.tables e below E (T.setTop (mkF m pc Ls st)) := by
  subst hpc; exact Go.via (fun _ k => XS.bipush X.here hx rfl hd (by rw [hv]; exact k)) h
theorem o_lconst (pc' : Nat) (X : Stand p l e R s m args below meth c T locs cells slots) (hx : p.tables.exec = Jvm.exec) (hpc : pc + 1 = pc') {i : Fin 2} (hd : decode c.code pc = .ok (.lconst i, 1)) (v : Int64) (hv : Int64.ofNat i = v) (h : Go p.tables e below E (T.setTop (mkF m pc' Ls (.long v :: st)))) : Go p.tables e below E (T.setTop (mkF m pc Ls st)) := by
  subst hpc; exact Go.via (fun _ k => XS.lconst X.here hx rfl hd (by rw [hv]; exact k)) h
theorem o_ldcInt (pc' : Nat) (X : Stand p l e R s m args below meth c T locs cells slots) (hx : p.tables.exec = Jvm.exec) (hpc : pc + 2 = pc') (hZ : Z.Warmed39 s.vm) {own : String} {index : Nat} (hown : s.vm.findClass own = some m.cls) {v : Int32} (w : (Jvm.Cond.constant own index v).before a0 Z = true) (hd : decode c.code pc = .ok (.ldc index, 2)) (h : Go p.tables e below E (T.setTop (mkF m pc' Ls (.int v :: st)))) : Go p.tables e below E (T.setTop (mkF m pc Ls st)) := by
  subst hpc; exact Go.via (fun _ k => X.ldcInt hx hown (mvT hZ w) (g := mkF m pc Ls st) rfl hd _ k) h
theorem o_iadd (pc' : Nat) (X : Stand p l e R s m args below meth c T locs cells slots) (hx : p.tables.exec = Jvm.exec) (hpc : pc + 1 = pc') {x : Int32} {y : Int32} (hd : decode c.code pc = .ok (.iadd, 1)) (h : Go p.tables e below E (T.setTop (mkF m pc' Ls (.int (x + y) :: st)))) : Go p.tables e below E (T.setTop (mkF m pc Ls (.int y :: .int x :: st))) := by
  subst hpc; exact Go.via (fun _ k => XS.iadd X.here hx rfl hd rfl k) h
theorem o_isub (pc' : Nat) (X : Stand p l e R s m args below meth c T locs cells slots) (hx : p.tables.exec = Jvm.exec) (hpc : pc + 1 = pc') {x : Int32} {y : Int32} (hd : decode c.code pc = .ok (.isub, 1)) (h : Go p.tables e below E (T.setTop (mkF m pc' Ls (.int (x - y) :: st)))) : Go p.tables e below E (T.setTop (mkF m pc Ls (.int y :: .int x :: st))) := by
  subst hpc; exact Go.via (fun _ k => XS.isub X.here hx rfl hd rfl k) h
theorem o_imul (pc' : Nat) (X : Stand p l e R s m args below meth c T locs cells slots) (hx : p.tables.exec = Jvm.exec) (hpc : pc + 1 = pc') {x : Int32} {y : Int32} (hd : decode c.code pc = .ok (.imul, 1)) (h : Go p.tables e below E (T.setTop (mkF m pc' Ls (.int (x * y) :: st)))) : Go p.tables e below E (T.setTop (mkF m pc Ls (.int y :: .int x :: st))) := by
  subst hpc; exact Go.via (fun _ k => XS.imul X.here hx rfl hd rfl k) h
theorem o_iand (pc' : Nat) (X : Stand p l e R s m args below meth c T locs cells slots) (hx : p.tables.exec = Jvm.exec) (hpc : pc + 1 = pc') {x : Int32} {y : Int32} (hd : decode c.code pc = .ok (.iand, 1)) (h : Go p.tables e below E (T.setTop (mkF m pc' Ls (.int (x &&& y) :: st)))) : Go p.tables e below E (T.setTop (mkF m pc Ls (.int y :: .int x :: st))) := by
  subst hpc; exact Go.via (fun _ k => XS.iand X.here hx rfl hd rfl k) h
theorem o_lsub (pc' : Nat) (X : Stand p l e R s m args below meth c T locs cells slots) (hx : p.tables.exec = Jvm.exec) (hpc : pc + 1 = pc') {x : Int64} {y : Int64} (hd : decode c.code pc = .ok (.lsub, 1)) (h : Go p.tables e below E (T.setTop (mkF m pc' Ls (.long (x - y) :: st)))) : Go p.tables e below E (T.setTop (mkF m pc Ls (.long y :: .long x :: st))) := by
  subst hpc; exact Go.via (fun _ k => XS.lsub X.here hx rfl hd rfl k) h
theorem o_land (pc' : Nat) (X : Stand p l e R s m args below meth c T locs cells slots) (hx : p.tables.exec = Jvm.exec) (hpc : pc + 1 = pc') {x : Int64} {y : Int64} (hd : decode c.code pc = .ok (.land, 1)) (h : Go p.tables e below E (T.setTop (mkF m pc' Ls (.long (x &&& y) :: st)))) : Go p.tables e below E (T.setTop (mkF m pc Ls (.long y :: .long x :: st))) := by
  subst hpc; exact Go.via (fun _ k => XS.land X.here hx rfl hd rfl k) h
theorem o_lshl (pc' : Nat) (X : Stand p l e R s m args below meth c T locs cells slots) (hx : p.tables.exec = Jvm.exec) (hpc : pc + 1 = pc') {x : Int64} {y : Int32} (hd : decode c.code pc = .ok (.lshl, 1)) (h : Go p.tables e below E (T.setTop (mkF m pc' Ls (.long (x <<< (y &&& 0x3f).toInt64) :: st)))) : Go p.tables e below E (T.setTop (mkF m pc Ls (.int y :: .long x :: st))) := by
  subst hpc; exact Go.via (fun _ k => XS.lshl X.here hx rfl hd rfl k) h
theorem o_lushr (pc' : Nat) (X : Stand p l e R s m args below meth c T locs cells slots) (hx : p.tables.exec = Jvm.exec) (hpc : pc + 1 = pc') {x : Int64} {y : Int32} (hd : decode c.code pc = .ok (.lushr, 1)) (h : Go p.tables e below E (T.setTop (mkF m pc' Ls (.long ((x.toUInt64 >>> (y &&& 0x3f).toInt64.toUInt64).toInt64) :: st)))) : Go p.tables e below E (T.setTop (mkF m pc Ls (.int y :: .long x :: st))) := by
  subst hpc; exact Go.via (fun _ k => XS.lushr X.here hx rfl hd rfl k) h
theorem o_irem (pc' : Nat) (X : Stand p l e R s m args below meth c T locs cells slots) (hx : p.tables.exec = Jvm.exec) (hpc : pc + 1 = pc') {x y : Int32} (hd : decode c.code pc = .ok (.irem, 1)) (hy : y ≠ 0) (h : Go p.tables e below E (T.setTop (mkF m pc' Ls (.int (x % y) :: st)))) : Go p.tables e below E (T.setTop (mkF m pc Ls (.int y :: .int x :: st))) := by
  subst hpc; exact Go.via (fun _ k => iremM (g := mkF m pc Ls (.int y :: .int x :: st)) X hx rfl hd rfl hy k) h
theorem o_l2i (pc' : Nat) (X : Stand p l e R s m args below meth c T locs cells slots) (hx : p.tables.exec = Jvm.exec) (hpc : pc + 1 = pc') {x : Int64} (hd : decode c.code pc = .ok (.l2i, 1)) (h : Go p.tables e below E (T.setTop (mkF m pc' Ls (.int (x.toInt32) :: st)))) : Go p.tables e below E (T.setTop (mkF m pc Ls (.long x :: st))) := by
  subst hpc; exact Go.via (fun _ k => XS.l2i X.here hx rfl hd rfl k) h
theorem o_i2b (pc' : Nat) (X : Stand p l e R s m args below meth c T locs cells slots) (hx : p.tables.exec = Jvm.exec) (hpc : pc + 1 = pc') {x : Int32} (hd : decode c.code pc = .ok (.i2b, 1)) (h : Go p.tables e below E (T.setTop (mkF m pc' Ls (.int (x.toInt8.toInt32) :: st)))) : Go p.tables e below E (T.setTop (mkF m pc Ls (.int x :: st))) := by
  subst hpc; exact Go.via (fun _ k => XS.i2b X.here hx rfl hd rfl k) h
theorem o_goto (pc' : Nat) (X : Stand p l e R s m args below meth c T locs cells slots) (hx : p.tables.exec = Jvm.exec) {o : Int} (hd : decode c.code pc = .ok (.goto o, 3)) (ho : 0 ≤ (pc : Int) + o) (hp : ((pc : Int) + o).toNat = pc') (h : Go p.tables e below E (T.setTop (mkF m pc' Ls st))) : Go p.tables e below E (T.setTop (mkF m pc Ls st)) := by
  exact Go.via (fun _ k => XS.goto X.here hx rfl (pc0 := pc) (pc' := pc') rfl hd ho hp k) h
theorem o_ifNo (pc' : Nat) (X : Stand p l e R s m args below meth c T locs cells slots) (hx : p.tables.exec = Jvm.exec) (hpc : pc + 3 = pc') {cd : ClassFile.Cond} {x : Int32} {o : Int} (hd : decode c.code pc = .ok (.ifCond cd o, 3)) (hc : if_icmp.holds cd x 0 = false) (h : Go p.tables e below E (T.setTop (mkF m pc' Ls st))) : Go p.tables e below E (T.setTop (mkF m pc Ls (.int x :: st))) := by
  subst hpc; exact Go.via (fun _ k => XS.ifNo X.here hx rfl hd rfl ((if0 _ _).trans hc) k) h
theorem o_icmpYes (pc' : Nat) (X : Stand p l e R s m args below meth c T locs cells slots) (hx : p.tables.exec = Jvm.exec) {cd : ClassFile.Cond} {x y : Int32} {o : Int} (hd : decode c.code pc = .ok (.if_icmp cd o, 3)) (hc : if_icmp.holds cd x y = true) (ho : 0 ≤ (pc : Int) + o) (hp : ((pc : Int) + o).toNat = pc') (h : Go p.tables e below E (T.setTop (mkF m pc' Ls st))) : Go p.tables e below E (T.setTop (mkF m pc Ls (.int y :: .int x :: st))) := by
  exact Go.via (fun _ k => XS.icmpYes X.here hx rfl (pc0 := pc) (pc' := pc') rfl hd rfl hc ho hp k) h
theorem o_icmpNo (pc' : Nat) (X : Stand p l e R s m args below meth c T locs cells slots) (hx : p.tables.exec = Jvm.exec) (hpc : pc + 3 = pc') {cd : ClassFile.Cond} {x y : Int32} {o : Int} (hd : decode c.code pc = .ok (.if_icmp cd o, 3)) (hc : if_icmp.holds cd x y = false) (h : Go p.tables e below E (T.setTop (mkF m pc' Ls st))) : Go p.tables e below E (T.setTop (mkF m pc Ls (.int y :: .int x :: st))) := by
  subst hpc; exact Go.via (fun _ k => XS.icmpNo X.here hx rfl hd rfl hc k) h
theorem o_out (X : Stand p l e R s m args below meth c T locs cells slots) (hx : p.tables.exec = Jvm.exec) {rm : Room} {Q : Option Value → Heap → List Loc → Prop} {v : Option Value} (hv : meth.sig.returnType = none → v = none) (hlk : meth.locks = false) {g : JFrame}
    (hst : ∀ fs, (∀ (f : JFrame) (acts : List Action), f.method = m → f.locked = none → f.entered = [] → (doReturn e (T.setTop f) acts v).1 = T.setFrames fs) → Steps p.tables e below (T.setTop g) (T.setFrames fs)) (hq : Q v T.heap locs) (hk : cells ≤ rm.cells) (hn : slots ≤ rm.slots) : Go p.tables e below (EndE s rm Q) (T.setTop g) := by
  obtain ⟨fs, hr, hrun, hended, hW, hsame⟩ := X.leave (v := v) hv hlk
  exact ⟨_, _, hst fs hr, hrun, hended, _, _, rfl, hq, ⟨_, rfl⟩, hW, hsame.mono hk hn⟩
theorem o_retN (X : Stand p l e R s m args below meth c T locs cells slots) (hx : p.tables.exec = Jvm.exec) {z : Int32} (t : FieldType) (ht : t = .boolean ∨ t = .byte ∨ t = .char ∨ t = .short) {rm : Room} {Q : Option Value → Heap → List Loc → Prop} (hret : meth.sig.returnType = some t) (hlk : meth.locks = false) (hd : decode c.code pc = .ok (.ireturn, 1)) (hk : cells ≤ rm.cells) (hn : slots ≤ rm.slots) (hq : Q (some (.int (nar t z))) T.heap locs) : Go p.tables e below (EndE s rm Q) (T.setTop (mkF m pc Ls (.int z :: st))) :=
  o_out X hx (fun q => by rw [hret] at q; cases q) hlk (fun fs hr => retN X hx hret ht hd hr) hq hk hn
theorem o_retV (X : Stand p l e R s m args below meth c T locs cells slots) (hx : p.tables.exec = Jvm.exec) {rm : Room} {Q : Option Value → Heap → List Loc → Prop} (hret : meth.sig.returnType = none) (hlk : meth.locks = false) (hd : decode c.code pc = .ok (.return_, 1)) (hk : cells ≤ rm.cells) (hn : slots ≤ rm.slots) (hq : Q none T.heap locs) : Go p.tables e below (EndE s rm Q) (T.setTop (mkF m pc Ls [])) :=
  o_out X hx (fun _ => rfl) hlk (fun fs hr => X.returnOut hx hret hd hr) hq hk hn
theorem o_callS (pc' : Nat) (X : Stand p l e R s m args below meth c T locs cells slots) (hx : p.tables.exec = Jvm.exec) (hpc : pc + 3 = pc') (hZ : Z.Warmed39 s.vm) {own : String} {index : Nat} {y : MethodName} {bytes : ByteArray} {maxL : Nat} {ret : Option FieldType} {rm : Room} {as' : Array Value} {Q : Option Value → Heap → List Loc → Prop} (hown : s.vm.findClass own = some m.cls) (w1 : (Jvm.Cond.methodLink own index y).before a0 Z = true) (w2 : (Jvm.Cond.static y).before a0 Z = true) (w3 : (Jvm.Cond.initialized y.cls).before a0 Z = true) (w4 : (Jvm.Cond.code y bytes maxL ret).before a0 Z = true) (hy : y.cls ≠ "java/lang/invoke/MethodHandle" ∧ y.cls ≠ "java/lang/invoke/VarHandle") (eT : T.heap = h)
    (hM : MetP l y bytes maxL ret [] rm Z as' h Q) {ps : List FieldType} {r : Option FieldType} (hdsc : parseMethodDescriptor y.desc = some ⟨ps, r⟩) (argsL rest : List Value) (hlen : argsL.length = ps.length) (has : argsL.toArray = as') (hsize : Ls.size = c.maxLocals) (hst : st = argsL.reverse ++ rest) (hd : decode c.code pc = .ok (.invokestatic index, 3)) (W : Nat) (hW : (rest.map fun v => v.category).sum ≤ W) (hf : rm.frames + 1 ≤ R.frames) (hlo : W + (maxL + 11) + rm.locals ≤ R.locals) (hc : cells + rm.cells ≤ R.cells) (hsl : slots + rm.slots ≤ R.slots)
    (k : ∀ (v : Option Value) (T' : State) (L : List Loc), Stand p l e R s m args below meth c T' (locs ++ L) (cells + rm.cells) (slots + rm.slots) → Q v T'.heap L → Go p.tables e below E (T'.setTop (mkF m pc' Ls (v.toList ++ rest)))) : Go p.tables e below E (T.setTop (mkF m pc Ls st)) := by
  subst hpc
  obtain ⟨v, _, ⟨T', L', c', s'⟩, -, X', ⟨L, hQ, h1, h2, h3⟩, st'⟩ := Jvm.LawKit.callS X hx (y := y) hown (mvT hZ w1) (mvT hZ w2) (mvT hZ w3) (mvT hZ w4) hy (backOf (W := W) hM hZ w4 w3 hf hlo) (g := mkF m pc Ls st) rfl hsize (argsL := argsL) (rest := rest) (lenOf hdsc hlen) hst (by show 2 * 0 + _ ≤ _; rw [Nat.mul_zero, Nat.zero_add]; exact hW) hd (fun _ _ => ⟨has, eT, hc, hsl⟩)
  dsimp only [Pt.U, Pt.locs, Pt.cells, Pt.slots] at X' h1 h2 h3 st' hQ
  subst h1 h2 h3
  exact Go.via st' (k v T' L X' hQ)
theorem o_callP (pc' : Nat) (X : Stand p l e R s m args below meth c T locs cells slots) (hx : p.tables.exec = Jvm.exec) (hpc : pc + 3 = pc') (hZ : Z.Warmed39 s.vm) {own : String} {index : Nat} {y : MethodName} {bytes : ByteArray} {maxL : Nat} {ret : Option FieldType} {rm : Room} {as' : Array Value} {rv : Value} (hown : s.vm.findClass own = some m.cls) (w1 : (Jvm.Cond.methodLink own index y).before a0 Z = true) (w2 : (Jvm.Cond.static y).before a0 Z = true) (w3 : (Jvm.Cond.initialized y.cls).before a0 Z = true) (w4 : (Jvm.Cond.code y bytes maxL ret).before a0 Z = true) (hy : y.cls ≠ "java/lang/invoke/MethodHandle" ∧ y.cls ≠ "java/lang/invoke/VarHandle") (eT : T.heap = h)
    (hM : MetP l y bytes maxL ret [] rm Z as' h (Pure rv h)) {ps : List FieldType} {r : Option FieldType} (hdsc : parseMethodDescriptor y.desc = some ⟨ps, r⟩) (argsL rest : List Value) (hlen : argsL.length = ps.length) (has : argsL.toArray = as') (hsize : Ls.size = c.maxLocals) (hst : st = argsL.reverse ++ rest) (hd : decode c.code pc = .ok (.invokestatic index, 3)) (W : Nat) (hW : (rest.map fun v => v.category).sum ≤ W) (hf : rm.frames + 1 ≤ R.frames) (hlo : W + (maxL + 11) + rm.locals ≤ R.locals) (hc : cells + rm.cells ≤ R.cells) (hsl : slots + rm.slots ≤ R.slots) (hc0 : rm.cells = 0) (hs0 : rm.slots = 0)
    (k : ∀ (T' : State), Stand p l e R s m args below meth c T' locs cells slots → T'.heap = h → Go p.tables e below E (T'.setTop (mkF m pc' Ls (rv :: rest)))) : Go p.tables e below E (T.setTop (mkF m pc Ls st)) := by
  refine o_callS pc' X hx hpc hZ hown w1 w2 w3 w4 hy eT hM hdsc argsL rest hlen has hsize hst hd W hW hf hlo hc hsl ?_
  intro v T' L X' hQ
  obtain ⟨rfl, rfl, e'⟩ := hQ
  rw [hc0, hs0, List.append_nil] at X'
  exact k T' X' e' 
theorem o_newarr (pc' : Nat) (X : Stand p l e R s m args below meth c T locs cells slots) (hx : p.tables.exec = Jvm.exec) (hpc : pc + 2 = pc') (hZ : Z.Warmed39 s.vm) (aty : ArrayType) (ty : FieldType) (hty : newarray.typeOf aty = ty) (w : (Jvm.Cond.arrayClass ty).before a0 Z = true) (eT : T.heap = h) {n : Int32} (hd : decode c.code pc = .ok (.newarray aty, 2)) (hn : ¬ n < 0) (cap : Nat) (hcap : n.toNatClampNeg ≤ cap) (hb : cap * 8 ≤ 536870912) (hc : cells + 1 ≤ R.cells) (hl : slots + cap ≤ R.slots)
    (k : ∀ (T' : State) (h' : Heap) (a : Addr) (cA : ClassId), a = h.size → Stand p l e R s m args below meth c T' locs (cells + 1) (slots + cap) → T'.heap = h' → Ext h h' → Arv Z h' a cA ty n [] (defaultValue ty) → Go p.tables e below E (T'.setTop (mkF m pc' Ls (.ref a :: st)))) : Go p.tables e below E (T.setTop (mkF m pc Ls (.int n :: st))) := by
  subst hpc; subst hty
  obtain ⟨T', h', cA, X', e', E', A', st'⟩ := newP X hx hZ w eT (g := mkF m pc Ls (.int n :: st)) rfl hd rfl hn hcap hb hc hl
  exact Go.via st' (k T' h' h.size cA rfl X' e' E' (Arv.new A' hn))
theorem o_baloadB (pc' : Nat) (X : Stand p l e R s m args below meth c T locs cells slots) (hx : p.tables.exec = Jvm.exec) (hpc : pc + 1 = pc') (hZ : Z.Warmed39 s.vm) (eT : T.heap = h) {a : Addr} {ka : ClassId} {n j : Int32} {vs : List Value} {dv : Value} (F : Arv Z h a ka .byte n vs dv) (hj : ¬ j < 0 ∧ j < n) (v : Value) (hv : vs.getD j.toNatClampNeg dv = v) (hd : decode c.code pc = .ok (.baload, 1)) (k : Go p.tables e below E (T.setTop (mkF m pc' Ls (v :: st)))) : Go p.tables e below E (T.setTop (mkF m pc Ls (.int j :: .ref a :: st))) := by
  subst hpc
  obtain ⟨cl, A, -, S, M, H, -⟩ := F
  have hin := inb_of S hj
  exact Go.via (fun _ q => X.baloadBytes hx (j := j) (v := v) (by rw [eT]; exact A.1) (State.isArrayOf_alike hZ.alike A.2.1) A.2.2 hin (H.at hin hv) (g := mkF m pc Ls (.int j :: .ref a :: st)) rfl rfl hd _ q) k
theorem o_bastoreB (pc' : Nat) (X : Stand p l e R s m args below meth c T locs cells slots) (hx : p.tables.exec = Jvm.exec) (hpc : pc + 1 = pc') (hZ : Z.Warmed39 s.vm) (eT : T.heap = h) {a : Addr} {ka : ClassId} {n j : Int32} {x : Int32} {vs : List Value} {dv : Value} (F : Arv Z h a ka .byte n vs dv) (hj : ¬ j < 0 ∧ j < n) (i : Nat) (hi : j.toNatClampNeg = i) (hlt : i < vs.length) (vs' : List Value) (hvs : vs.set i (.int (nar .byte x)) = vs') {n0 : Nat} (N : Fr n0 locs) (ga : n0 ≤ a) (hd : decode c.code pc = .ok (.bastore, 1))
    (k : ∀ (T' : State) (h' : Heap) (L' : List Loc), Stand p l e R s m args below meth c T' L' cells slots → Fr n0 L' → T'.heap = h' → Wr h h' a j.toNatClampNeg (.int (nar .byte x)) → Arv Z h' a ka .byte n vs' dv → Go p.tables e below E (T'.setTop (mkF m pc' Ls st))) : Go p.tables e below E (T.setTop (mkF m pc Ls (.int x :: .int j :: .ref a :: st))) := by
  subst hpc; subst hvs
  obtain ⟨cl, A, q1, S, M, H, G⟩ := F
  have hin := inb_of S hj
  obtain ⟨T', h', X', e', W', st'⟩ := stB X hx hZ eT A hin (g := mkF m pc Ls (.int x :: .int j :: .ref a :: st)) rfl rfl hd
  exact Go.via st' (k T' h' _ X' (Fr.snoc X' N ga) e' W' (Arv.set A q1 S M H G (fits_nar_byte x) W' i hi hlt))
theorem own_getI (xs : List Int32) (i : Nat) : (xs.map Value.int).getD i (.int 0) = .int (xs.getD i 0) := by
  simp only [List.getD_eq_getElem?_getD, List.getElem?_map]; cases xs[i]? <;> rfl
theorem o_baloadBX (pc' : Nat) (X : Stand p l e R s m args below meth c T locs cells slots) (hx : p.tables.exec = Jvm.exec) (hpc : pc + 1 = pc') (hZ : Z.Warmed39 s.vm) (eT : T.heap = h) {a : Addr} {ka : ClassId} {n j : Int32} {xs : List Int32} (F : Arv Z h a ka .byte n (xs.map Value.int) (.int 0)) (hj : ¬ j < 0 ∧ j < n) (hd : decode c.code pc = .ok (.baload, 1)) (v : Int32) (hv : xs.getD j.toNatClampNeg 0 = v) (k : Go p.tables e below E (T.setTop (mkF m pc' Ls (.int v :: st)))) : Go p.tables e below E (T.setTop (mkF m pc Ls (.int j :: .ref a :: st))) := by
  subst hv; exact o_baloadB pc' X hx hpc hZ eT F hj _ (own_getI xs _) hd k
theorem o_bastoreBX (pc' : Nat) (X : Stand p l e R s m args below meth c T locs cells slots) (hx : p.tables.exec = Jvm.exec) (hpc : pc + 1 = pc') (hZ : Z.Warmed39 s.vm) (eT : T.heap = h) {a : Addr} {ka : ClassId} {n j : Int32} {x : Int32} {xs : List Int32} (F : Arv Z h a ka .byte n (xs.map Value.int) (.int 0)) (hj : ¬ j < 0 ∧ j < n) (hlt : j.toNatClampNeg < xs.length) (xs' : List Int32) (hxs : xs.set j.toNatClampNeg (nar .byte x) = xs') {n0 : Nat} (N : Fr n0 locs) (ga : n0 ≤ a) (hd : decode c.code pc = .ok (.bastore, 1))
    (k : ∀ (T' : State) (h' : Heap) (L' : List Loc), Stand p l e R s m args below meth c T' L' cells slots → Fr n0 L' → T'.heap = h' → Wr h h' a j.toNatClampNeg (.int (nar .byte x)) → Arv Z h' a ka .byte n (xs'.map Value.int) (.int 0) → Go p.tables e below E (T'.setTop (mkF m pc' Ls st))) : Go p.tables e below E (T.setTop (mkF m pc Ls (.int x :: .int j :: .ref a :: st))) := by
  subst hxs
  exact o_bastoreB pc' X hx hpc hZ eT F hj _ rfl (by rw [List.length_map]; exact hlt) _ (List.map_set.symm) N ga hd k
theorem o_newarrI (pc' : Nat) (X : Stand p l e R s m args below meth c T locs cells slots) (hx : p.tables.exec = Jvm.exec) (hpc : pc + 2 = pc') (hZ : Z.Warmed39 s.vm) (aty : ArrayType) (ty : FieldType) (hty : newarray.typeOf aty = ty) (hdf : defaultValue ty = .int 0) (w : (Jvm.Cond.arrayClass ty).before a0 Z = true) (eT : T.heap = h) {n : Int32} (hd : decode c.code pc = .ok (.newarray aty, 2)) (hn : ¬ n < 0) (cap : Nat) (hcap : n.toNatClampNeg ≤ cap) (hb : cap * 8 ≤ 536870912) (hc : cells + 1 ≤ R.cells) (hl : slots + cap ≤ R.slots) (xs : List Int32) (hxs : List.replicate n.toNatClampNeg 0 = xs)
    (k : ∀ (T' : State) (h' : Heap) (a : Addr) (cA : ClassId), a = h.size → Stand p l e R s m args below meth c T' locs (cells + 1) (slots + cap) → T'.heap = h' → Ext h h' → Arv Z h' a cA ty n (xs.map Value.int) (.int 0) → Go p.tables e below E (T'.setTop (mkF m pc' Ls (.ref a :: st)))) : Go p.tables e below E (T.setTop (mkF m pc Ls (.int n :: st))) := by
  subst hxs
  refine o_newarr pc' X hx hpc hZ aty ty hty w eT hd hn cap hcap hb hc hl ?_
  intro T' h' a cA g X' e' E' A'
  rw [hdf] at A'
  refine k T' h' a cA g X' e' E' ?_
  rw [List.map_replicate]
  exact A'.pad (pad_rep [] _ _)
theorem o_callSw (pc' : Nat) (X : Stand p l e R s m args below meth c T locs cells slots) (hx : p.tables.exec = Jvm.exec) (hpc : pc + 3 = pc') (hZ : Z.Warmed39 s.vm) {own : String} {index : Nat} {y : MethodName} {bytes : ByteArray} {maxL : Nat} {ret : Option FieldType} {rm : Room} {as' : Array Value} {Q : Option Value → Heap → List Loc → Prop} (hown : s.vm.findClass own = some m.cls) (w1 : (Jvm.Cond.methodLink own index y).before a0 Z = true) (w2 : (Jvm.Cond.static y).before a0 Z = true) (w3 : (Jvm.Cond.initialized y.cls).before a0 Z = true) (w4 : (Jvm.Cond.code y bytes maxL ret).before a0 Z = true) (hy : y.cls ≠ "java/lang/invoke/MethodHandle" ∧ y.cls ≠ "java/lang/invoke/VarHandle") (eT : T.heap = h) {n0 : Nat} (N : Fr n0 locs)
    (hM : MetP l y bytes maxL ret [] rm Z as' h Q) {ps : List FieldType} {r : Option FieldType} (hdsc : parseMethodDescriptor y.desc = some ⟨ps, r⟩) (argsL rest : List Value) (hlen : argsL.length = ps.length) (has : argsL.toArray = as') (hsize : Ls.size = c.maxLocals) (hst : st = argsL.reverse ++ rest) (hd : decode c.code pc = .ok (.invokestatic index, 3)) (W : Nat) (hW : (rest.map fun v => v.category).sum ≤ W) (hf : rm.frames + 1 ≤ R.frames) (hlo : W + (maxL + 11) + rm.locals ≤ R.locals) (hc : cells + rm.cells ≤ R.cells) (hsl : slots + rm.slots ≤ R.slots)
    (k : ∀ (v : Option Value) (T' : State) (L L' : List Loc), Stand p l e R s m args below meth c T' L' (cells + rm.cells) (slots + rm.slots) → Q v T'.heap L → (Fr n0 L → Fr n0 L') → Go p.tables e below E (T'.setTop (mkF m pc' Ls (v.toList ++ rest)))) : Go p.tables e below E (T.setTop (mkF m pc Ls st)) :=
  o_callS pc' X hx hpc hZ hown w1 w2 w3 w4 hy eT hM hdsc argsL rest hlen has hsize hst hd W hW hf hlo hc hsl (fun v T' L X' hQ => k v T' L _ X' hQ (fun M => Fr.app N M))
end OwnKit
theorem l_tlt {x y : Int64} (h : x < y) : lcmpW x y < 0 := (lw_lt x y).mpr h
theorem l_flt {x y : Int64} (h : ¬ x < y) : ¬ lcmpW x y < 0 := fun q => h ((lw_lt x y).mp q)
theorem l_tgt {x y : Int64} (h : y < x) : 0 < lcmpW x y := (lw_gt x y).mpr h
theorem l_fgt {x y : Int64} (h : ¬ y < x) : ¬ 0 < lcmpW x y := fun q => h ((lw_gt x y).mp q)
theorem l_teq {x y : Int64} (h : x = y) : lcmpW x y = 0 := (lw_eq x y).mpr h
theorem l_feq {x y : Int64} (h : ¬ x = y) : ¬ lcmpW x y = 0 := fun q => h ((lw_eq x y).mp q)
theorem wd_0 {Z : State} {a0 : Array Value} (hw : ∀ d ∈ tables_1, d.before a0 Z = true) : (Jvm.Cond.constant "com/example/coarsefine/coarsefine/code/BigEndianWritePinLaw" (7 : Nat) (2147483647 : Int32)).before a0 Z = true := hw _ (List.mem_of_getElem? (i := 0) rfl)
theorem wd_1 {Z : State} {a0 : Array Value} (hw : ∀ d ∈ tables_1, d.before a0 Z = true) : (Jvm.Cond.arrayClass Jvm.ClassFile.FieldType.byte).before a0 Z = true := hw _ (List.mem_of_getElem? (i := 1) rfl)
theorem wd_2 {Z : State} {a0 : Array Value} (hw : ∀ d ∈ tables_1, d.before a0 Z = true) : (Jvm.Cond.methodLink "com/example/coarsefine/coarsefine/code/BigEndianWritePinLaw" (8 : Nat) ({ cls := "com/example/coarsefine/coarsefine/code/BigEndianWritePinLaw", name := "fill", desc := "(JI)B" } : Jvm.MethodName)).before a0 Z = true := hw _ (List.mem_of_getElem? (i := 2) rfl)
theorem wd_3 {Z : State} {a0 : Array Value} (hw : ∀ d ∈ tables_1, d.before a0 Z = true) : (Jvm.Cond.static ({ cls := "com/example/coarsefine/coarsefine/code/BigEndianWritePinLaw", name := "fill", desc := "(JI)B" } : Jvm.MethodName)).before a0 Z = true := hw _ (List.mem_of_getElem? (i := 3) rfl)
theorem wd_4 {Z : State} {a0 : Array Value} (hw : ∀ d ∈ tables_1, d.before a0 Z = true) : (Jvm.Cond.initialized "com/example/coarsefine/coarsefine/code/BigEndianWritePinLaw").before a0 Z = true := hw _ (List.mem_of_getElem? (i := 4) rfl)
theorem wd_5 {Z : State} {a0 : Array Value} (hw : ∀ d ∈ tables_1, d.before a0 Z = true) : (Jvm.Cond.code ({ cls := "com/example/coarsefine/coarsefine/code/BigEndianWritePinLaw", name := "fill", desc := "(JI)B" } : Jvm.MethodName) method_3_code (3 : Nat) (Option.some Jvm.ClassFile.FieldType.byte)).before a0 Z = true := hw _ (List.mem_of_getElem? (i := 5) rfl)
theorem wd_6 {Z : State} {a0 : Array Value} (hw : ∀ d ∈ tables_1, d.before a0 Z = true) : (Jvm.Cond.methodLink "com/example/coarsefine/coarsefine/code/BigEndianWritePinLaw" (14 : Nat) ({ cls := "com/example/coarsefine/coarsefine/code/BigEndian", name := "write", desc := "(J[BII)V" } : Jvm.MethodName)).before a0 Z = true := hw _ (List.mem_of_getElem? (i := 6) rfl)
theorem wd_7 {Z : State} {a0 : Array Value} (hw : ∀ d ∈ tables_1, d.before a0 Z = true) : (Jvm.Cond.static ({ cls := "com/example/coarsefine/coarsefine/code/BigEndian", name := "write", desc := "(J[BII)V" } : Jvm.MethodName)).before a0 Z = true := hw _ (List.mem_of_getElem? (i := 7) rfl)
theorem wd_8 {Z : State} {a0 : Array Value} (hw : ∀ d ∈ tables_1, d.before a0 Z = true) : (Jvm.Cond.initialized "com/example/coarsefine/coarsefine/code/BigEndian").before a0 Z = true := hw _ (List.mem_of_getElem? (i := 8) rfl)
theorem wd_9 {Z : State} {a0 : Array Value} (hw : ∀ d ∈ tables_1, d.before a0 Z = true) : (Jvm.Cond.code ({ cls := "com/example/coarsefine/coarsefine/code/BigEndian", name := "write", desc := "(J[BII)V" } : Jvm.MethodName) prog_33_method_7_code (8 : Nat) (Option.none : Option Jvm.ClassFile.FieldType)).before a0 Z = true := hw _ (List.mem_of_getElem? (i := 9) rfl)
theorem wd_10 {Z : State} {a0 : Array Value} (hw : ∀ d ∈ tables_1, d.before a0 Z = true) : (Jvm.Cond.methodLink "com/example/coarsefine/coarsefine/code/BigEndianWritePinLaw" (20 : Nat) ({ cls := "com/example/coarsefine/coarsefine/code/BigEndianWritePinLaw", name := "ok", desc := "([BIJIIJ)Z" } : Jvm.MethodName)).before a0 Z = true := hw _ (List.mem_of_getElem? (i := 10) rfl)
theorem wd_11 {Z : State} {a0 : Array Value} (hw : ∀ d ∈ tables_1, d.before a0 Z = true) : (Jvm.Cond.static ({ cls := "com/example/coarsefine/coarsefine/code/BigEndianWritePinLaw", name := "ok", desc := "([BIJIIJ)Z" } : Jvm.MethodName)).before a0 Z = true := hw _ (List.mem_of_getElem? (i := 11) rfl)
theorem wd_12 {Z : State} {a0 : Array Value} (hw : ∀ d ∈ tables_1, d.before a0 Z = true) : (Jvm.Cond.code ({ cls := "com/example/coarsefine/coarsefine/code/BigEndianWritePinLaw", name := "ok", desc := "([BIJIIJ)Z" } : Jvm.MethodName) method_4_code (9 : Nat) (Option.some Jvm.ClassFile.FieldType.boolean)).before a0 Z = true := hw _ (List.mem_of_getElem? (i := 12) rfl)
theorem d1_0 : decode method_3_code 0 = .ok (.lload_n 0, 1) := by decide +kernel
theorem d1_1 : decode method_3_code 1 = .ok (.bipush 6, 2) := by decide +kernel
theorem d1_3 : decode method_3_code 3 = .ok (.iload_n 2, 1) := by decide +kernel
theorem d1_4 : decode method_3_code 4 = .ok (.imul, 1) := by decide +kernel
theorem d1_5 : decode method_3_code 5 = .ok (.lushr, 1) := by decide +kernel
theorem d1_6 : decode method_3_code 6 = .ok (.l2i, 1) := by decide +kernel
theorem d1_7 : decode method_3_code 7 = .ok (.i2b, 1) := by decide +kernel
theorem d1_8 : decode method_3_code 8 = .ok (.ireturn, 1) := by decide +kernel
theorem d2_0 : decode prog_33_method_7_code 0 = .ok (.lload_n 0, 1) := by decide +kernel
theorem d2_1 : decode prog_33_method_7_code 1 = .ok (.lstore 5, 2) := by decide +kernel
theorem d2_11 : decode prog_33_method_7_code 11 = .ok (.iload 7, 2) := by decide +kernel
theorem d2_13 : decode prog_33_method_7_code 13 = .ok (.iload_n 3, 1) := by decide +kernel
theorem d2_14 : decode prog_33_method_7_code 14 = .ok (.if_icmp .lt 24, 3) := by decide +kernel
theorem d2_17 : decode prog_33_method_7_code 17 = .ok (.aload_n 2, 1) := by decide +kernel
theorem d2_18 : decode prog_33_method_7_code 18 = .ok (.iload 7, 2) := by decide +kernel
theorem d2_20 : decode prog_33_method_7_code 20 = .ok (.lload 5, 2) := by decide +kernel
theorem d2_22 : decode prog_33_method_7_code 22 = .ok (.l2i, 1) := by decide +kernel
theorem d2_23 : decode prog_33_method_7_code 23 = .ok (.i2b, 1) := by decide +kernel
theorem d2_24 : decode prog_33_method_7_code 24 = .ok (.bastore, 1) := by decide +kernel
theorem d2_25 : decode prog_33_method_7_code 25 = .ok (.lload 5, 2) := by decide +kernel
theorem d2_27 : decode prog_33_method_7_code 27 = .ok (.bipush 8, 2) := by decide +kernel
theorem d2_29 : decode prog_33_method_7_code 29 = .ok (.lushr, 1) := by decide +kernel
theorem d2_3 : decode prog_33_method_7_code 3 = .ok (.iload_n 3, 1) := by decide +kernel
theorem d2_30 : decode prog_33_method_7_code 30 = .ok (.lstore 5, 2) := by decide +kernel
theorem d2_32 : decode prog_33_method_7_code 32 = .ok (.iinc 7 (-1), 3) := by decide +kernel
theorem d2_35 : decode prog_33_method_7_code 35 = .ok (.goto (-24), 3) := by decide +kernel
theorem d2_38 : decode prog_33_method_7_code 38 = .ok (.return_, 1) := by decide +kernel
theorem d2_4 : decode prog_33_method_7_code 4 = .ok (.iload 4, 2) := by decide +kernel
theorem d2_6 : decode prog_33_method_7_code 6 = .ok (.iadd, 1) := by decide +kernel
theorem d2_7 : decode prog_33_method_7_code 7 = .ok (.iconst 1, 1) := by decide +kernel
theorem d2_8 : decode prog_33_method_7_code 8 = .ok (.isub, 1) := by decide +kernel
theorem d2_9 : decode prog_33_method_7_code 9 = .ok (.istore 7, 2) := by decide +kernel
theorem d3_0 : decode method_4_code 0 = .ok (.iload_n 1, 1) := by decide +kernel
theorem d3_1 : decode method_4_code 1 = .ok (.iload 4, 2) := by decide +kernel
theorem d3_11 : decode method_4_code 11 = .ok (.iadd, 1) := by decide +kernel
theorem d3_12 : decode method_4_code 12 = .ok (.if_icmp .ge 24, 3) := by decide +kernel
theorem d3_15 : decode method_4_code 15 = .ok (.lload_n 2, 1) := by decide +kernel
theorem d3_16 : decode method_4_code 16 = .ok (.bipush 8, 2) := by decide +kernel
theorem d3_18 : decode method_4_code 18 = .ok (.iload 4, 2) := by decide +kernel
theorem d3_20 : decode method_4_code 20 = .ok (.iload 5, 2) := by decide +kernel
theorem d3_22 : decode method_4_code 22 = .ok (.iadd, 1) := by decide +kernel
theorem d3_23 : decode method_4_code 23 = .ok (.iconst 1, 1) := by decide +kernel
theorem d3_24 : decode method_4_code 24 = .ok (.isub, 1) := by decide +kernel
theorem d3_25 : decode method_4_code 25 = .ok (.iload_n 1, 1) := by decide +kernel
theorem d3_26 : decode method_4_code 26 = .ok (.isub, 1) := by decide +kernel
theorem d3_27 : decode method_4_code 27 = .ok (.imul, 1) := by decide +kernel
theorem d3_28 : decode method_4_code 28 = .ok (.lushr, 1) := by decide +kernel
theorem d3_29 : decode method_4_code 29 = .ok (.l2i, 1) := by decide +kernel
theorem d3_3 : decode method_4_code 3 = .ok (.if_icmp .lt 33, 3) := by decide +kernel
theorem d3_30 : decode method_4_code 30 = .ok (.i2b, 1) := by decide +kernel
theorem d3_31 : decode method_4_code 31 = .ok (.istore 8, 2) := by decide +kernel
theorem d3_33 : decode method_4_code 33 = .ok (.goto 11, 3) := by decide +kernel
theorem d3_36 : decode method_4_code 36 = .ok (.lload 6, 2) := by decide +kernel
theorem d3_38 : decode method_4_code 38 = .ok (.iload_n 1, 1) := by decide +kernel
theorem d3_39 : decode method_4_code 39 = .ok (.invokestatic 8, 3) := by decide +kernel
theorem d3_42 : decode method_4_code 42 = .ok (.istore 8, 2) := by decide +kernel
theorem d3_44 : decode method_4_code 44 = .ok (.aload_n 0, 1) := by decide +kernel
theorem d3_45 : decode method_4_code 45 = .ok (.iload_n 1, 1) := by decide +kernel
theorem d3_46 : decode method_4_code 46 = .ok (.baload, 1) := by decide +kernel
theorem d3_47 : decode method_4_code 47 = .ok (.iload 8, 2) := by decide +kernel
theorem d3_49 : decode method_4_code 49 = .ok (.if_icmp .ne 7, 3) := by decide +kernel
theorem d3_52 : decode method_4_code 52 = .ok (.iconst 1, 1) := by decide +kernel
theorem d3_53 : decode method_4_code 53 = .ok (.goto 4, 3) := by decide +kernel
theorem d3_56 : decode method_4_code 56 = .ok (.iconst 0, 1) := by decide +kernel
theorem d3_57 : decode method_4_code 57 = .ok (.ireturn, 1) := by decide +kernel
theorem d3_6 : decode method_4_code 6 = .ok (.iload_n 1, 1) := by decide +kernel
theorem d3_7 : decode method_4_code 7 = .ok (.iload 4, 2) := by decide +kernel
theorem d3_9 : decode method_4_code 9 = .ok (.iload 5, 2) := by decide +kernel
theorem pd_lJIrB : parseMethodDescriptor "(JI)B" = some ⟨[.long, .int], some .byte⟩ := by decide +kernel
theorem pd_lJaBIIrV : parseMethodDescriptor "(J[BII)V" = some ⟨[.long, (.array .byte), .int, .int], none⟩ := by decide +kernel
theorem pd_laBIJIIJrZ : parseMethodDescriptor "([BIJIIJ)Z" = some ⟨[(.array .byte), .int, .long, .int, .int, .long], some .boolean⟩ := by decide +kernel
theorem pn_0 : plainFor x = true := plainFor_of_name (show plainName "com/example/coarsefine/coarsefine/code/BigEndianWritePinLaw" = true by first | (simp [plainName, overriddenIn]; done) | decide +kernel)
theorem pn_1 : plainFor (⟨"com/example/coarsefine/coarsefine/code/BigEndianWritePinLaw", "fill", "(JI)B"⟩ : MethodName) = true := plainFor_of_name (show plainName "com/example/coarsefine/coarsefine/code/BigEndianWritePinLaw" = true by first | (simp [plainName, overriddenIn]; done) | decide +kernel)
theorem pn_2 : plainFor (⟨"com/example/coarsefine/coarsefine/code/BigEndian", "write", "(J[BII)V"⟩ : MethodName) = true := plainFor_of_name (show plainName "com/example/coarsefine/coarsefine/code/BigEndian" = true by first | (simp [plainName, overriddenIn]; done) | decide +kernel)
theorem pn_3 : plainFor (⟨"com/example/coarsefine/coarsefine/code/BigEndianWritePinLaw", "ok", "([BIJIIJ)Z"⟩ : MethodName) = true := plainFor_of_name (show plainName "com/example/coarsefine/coarsefine/code/BigEndianWritePinLaw" = true by first | (simp [plainName, overriddenIn]; done) | decide +kernel)
theorem own_lt {i n : Nat} (h : i < n) (hn : n < 2147483648) : Int32.ofNat i < Int32.ofNat n := by
  rw [Int32.lt_iff_toInt_lt, Int32.toInt_ofNat_of_lt (by omega), Int32.toInt_ofNat_of_lt (by omega)]
  omega
theorem own_nn {n : Nat} (hn : n < 2147483648) : ¬ Int32.ofNat n < 0 := by
  rw [Int32.lt_iff_toInt_lt, Int32.toInt_ofNat_of_lt (by omega), show (0 : Int32).toInt = 0 from rfl]
  omega
theorem own_n32 {n : Nat} (hn : n < 2147483648) : (Int32.ofNat n).toNatClampNeg = n := by
  rw [Int32.toNatClampNeg, Int32.toInt_ofNat_of_lt (by omega)]; rfl
theorem own_one (i : Nat) : Int32.ofNat i + (1 : Int32) = Int32.ofNat (i + 1) := (Int32.ofNat_add i 1).symm
theorem own_hd {xs ys : List Int32} {y : Int32} {i : Nat} (h : xs.drop i = y :: ys) : xs.getD i 0 = y := by
  have q : xs[i]? = some y := by have := congrArg (fun l => l[0]?) h; simpa [List.getElem?_drop] using this
  rw [List.getD_eq_getElem?_getD, q]; rfl
theorem own_tl {xs ys : List Int32} {y : Int32} {i : Nat} (h : xs.drop i = y :: ys) : xs.drop (i + 1) = ys := by
  have := congrArg (List.drop 1) h; simpa [List.drop_drop] using this
theorem ef_1 (m : MethodId) (y0 : Int64) (y1 : Int32) : entryFrame m #[(.long y0), (.int y1)] 3 = mkF m 0 #[.val (.long y0), .second, .val (.int y1)] [] := by first | (simp [entryFrame, mkF, argsToLocals, Value.category]; done) | rfl
def fn1 (q0 : Int64) (i1 : Int32) : Int32 := (nar .byte ((((q0.toUInt64 >>> (((6 : Int32) * i1) &&& 0x3f).toInt64.toUInt64).toInt64).toInt32).toInt8.toInt32))
set_option maxRecDepth 65536 in
set_option maxHeartbeats 40000000 in
theorem rm1 (l : Launch) (Z : State) (a0 : Array Value) (hw : ∀ d ∈ tables_1, d.before a0 Z = true) (q0 : Int64) (i1 : Int32) (h0 : Heap) : MetP l (⟨"com/example/coarsefine/coarsefine/code/BigEndianWritePinLaw", "fill", "(JI)B"⟩ : MethodName) method_3_code 3 (some .byte) [] ({ frames := 0, cells := 0, slots := 0, locals := 0 } : Room) Z #[(.long q0), (.int i1)] h0 (Pure (.int (fn1 q0 i1)) h0) := by
  refine met_go pn_1 ?_
  intro p e s m below meth c s₁ hx hby hml hown hnm hret hlk hZ e0 X0
  rw [ef_1 m q0 i1]
  refine o_lloadN 1 X0 hx rfl (hb hby d1_0) rfl ?_
  refine o_bipush 3 X0 hx rfl (hb hby d1_1) (6 : Int32) rfl ?_
  refine o_iloadN 4 X0 hx rfl (hb hby d1_3) rfl ?_
  refine o_imul 5 X0 hx rfl (hb hby d1_4) ?_
  refine o_lushr 6 X0 hx rfl (hb hby d1_5) ?_
  refine o_l2i 7 X0 hx rfl (hb hby d1_6) ?_
  refine o_i2b 8 X0 hx rfl (hb hby d1_7) ?_
  refine o_retN X0 hx .byte (by simp) hret hlk (hb hby d1_8) (by decide) (by decide) ?_
  exact ⟨show some (Value.int (nar .byte ((((q0.toUInt64 >>> (((6 : Int32) * i1) &&& 0x3f).toInt64.toUInt64).toInt64).toInt32).toInt8.toInt32))) = some (Value.int (fn1 q0 i1)) from by rw [show (fn1 q0 i1) = (nar .byte ((((q0.toUInt64 >>> (((6 : Int32) * i1) &&& 0x3f).toInt64.toUInt64).toInt64).toInt32).toInt8.toInt32)) from by rfl], rfl, e0⟩
theorem own_pred (n : Nat) : Int32.ofNat (n + 1) + (-1 : Int32) = Int32.ofNat n := by
  rw [← own_one, Int32.add_assoc, show (1 : Int32) + (-1) = 0 from rfl, Int32.add_zero]
theorem own_subone (x : Int32) : x - (1 : Int32) = x + (-1 : Int32) := by rw [Int32.sub_eq_add_neg]
theorem own_pl {n : Nat} (h : n < 2147483648) : Int32.ofNat n + (-1 : Int32) < Int32.ofNat n := by
  have e1 := c_iadd (Int32.ofNat n) (-1)
  have e2 : (Int32.ofNat n).toInt = n := Int32.toInt_ofNat_of_lt (by omega)
  have r := rng32 (Int32.ofNat n + (-1 : Int32))
  rw [Int32.lt_iff_toInt_lt]
  rw [show (-1 : Int32).toInt = -1 from rfl] at e1
  omega
theorem own_nle {i n : Nat} (h : n ≤ i) (hn : i < 2147483648) : ¬ Int32.ofNat i < Int32.ofNat n := by
  rw [Int32.lt_iff_toInt_lt, Int32.toInt_ofNat_of_lt (by omega), Int32.toInt_ofNat_of_lt (by omega)]
  omega
theorem ef_2 (m : MethodId) (y0 : Int64) (y1 : Addr) (y2 : Int32) (y3 : Int32) : entryFrame m #[(.long y0), (.ref y1), (.int y2), (.int y3)] 8 = mkF m 0 #[.val (.long y0), .second, .val (.ref y1), .val (.int y2), .val (.int y3), .unset, .unset, .unset] [] := by first | (simp [entryFrame, mkF, argsToLocals, Value.category]; done) | rfl
def own_wr (O : Nat) : Nat → Int64 → List Int32 → List Int32
  | 0, _, ys => ys
  | k + 1, q, ys => own_wr O k ((q.toUInt64 >>> ((8 : Int32) &&& 0x3f).toInt64.toUInt64).toInt64) (ys.set (O + k) (nar .byte ((q.toInt32).toInt8.toInt32)))
def Qw2 (Z : State) (n0 : Nat) (h0 : Heap) (r1 : Addr) (ka : ClassId) (N : Nat) (zs : List Int32) (v : Option Value) (h : Heap) (L : List Loc) : Prop := v = none ∧ Fr n0 L ∧ Keep h0 h [r1] ∧ Arv Z h r1 ka .byte (Int32.ofNat N) (zs.map Value.int) (.int 0)
set_option maxRecDepth 65536 in
set_option maxHeartbeats 40000000 in
theorem rm2 (l : Launch) (Z : State) (a0 : Array Value) (hw : ∀ d ∈ tables_1, d.before a0 Z = true) (q0 : Int64) (r1 : Addr) (O Ln N : Nat) (ka : ClassId) (xs : List Int32) (h0 : Heap) (n0 : Nat) (Z0 : n0 ≤ h0.size) (ga : n0 ≤ r1) (hN : N < 2147483648) (hOL : O + Ln ≤ N) (hlen : xs.length = N) (A0 : Arv Z h0 r1 ka .byte (Int32.ofNat N) (xs.map Value.int) (.int 0)) : MetP l (⟨"com/example/coarsefine/coarsefine/code/BigEndian", "write", "(J[BII)V"⟩ : MethodName) prog_33_method_7_code 8 none [] ({ frames := 0, cells := 0, slots := 0, locals := 0 } : Room) Z #[(.long q0), (.ref r1), (.int (Int32.ofNat O)), (.int (Int32.ofNat Ln))] h0 (Qw2 Z n0 h0 r1 ka N (own_wr O Ln q0 xs)) := by
  refine met_go pn_2 ?_
  intro p e s m below meth c s₁ hx hby hml hown hnm hret hlk hZ e0 X0
  have N0 := Fr.nil n0
  have K0 : Keep h0 h0 [r1] := Keep.refl _ _
  rw [ef_2 m q0 r1 (Int32.ofNat O) (Int32.ofNat Ln)]
  refine o_lloadN 1 X0 hx rfl (hb hby d2_0) rfl ?_
  refine o_lstore 3 X0 hx rfl (hb hby d2_1) #[.val (.long q0), .second, .val (.ref r1), .val (.int (Int32.ofNat O)), .val (.int (Int32.ofNat Ln)), .val (.long q0), .second, .unset] rfl ?_
  refine o_iloadN 4 X0 hx rfl (hb hby d2_3) rfl ?_
  refine o_iload 6 X0 hx rfl (hb hby d2_4) rfl ?_
  refine o_iadd 7 X0 hx rfl (hb hby d2_6) ?_
  refine o_iconst 8 X0 hx rfl (hb hby d2_7) (1 : Int32) rfl ?_
  refine o_isub 9 X0 hx rfl (hb hby d2_8) ?_
  rw [← Int32.ofNat_add, own_subone]
  refine o_istore 11 X0 hx rfl (hb hby d2_9) #[.val (.long q0), .second, .val (.ref r1), .val (.int (Int32.ofNat O)), .val (.int (Int32.ofNat Ln)), .val (.long q0), .second, .val (.int ((Int32.ofNat (O + Ln)) + (-1 : Int32)))] rfl ?_
  suffices loop : ∀ (k : Nat) (ys : List Int32) (q : Int64) (T : State) (h : Heap) (Lc : List Loc), Stand p l e ({ frames := 0, cells := 0, slots := 0, locals := 0 } : Room) s m #[(.long q0), (.ref r1), (.int (Int32.ofNat O)), (.int (Int32.ofNat Ln))] below meth c T Lc 0 0 → Fr n0 Lc → T.heap = h → Keep h0 h [r1] → n0 ≤ h.size → ys.length = N → Arv Z h r1 ka .byte (Int32.ofNat N) (ys.map Value.int) (.int 0) → k ≤ Ln → own_wr O k q ys = own_wr O Ln q0 xs → Go p.tables e below (EndE s ({ frames := 0, cells := 0, slots := 0, locals := 0 } : Room) (Qw2 Z n0 h0 r1 ka N (own_wr O Ln q0 xs))) (T.setTop (mkF m 11 #[.val (.long q0), .second, .val (.ref r1), .val (.int (Int32.ofNat O)), .val (.int (Int32.ofNat Ln)), .val (.long q), .second, .val (.int ((Int32.ofNat (O + k)) + (-1 : Int32)))] [])) by
    exact loop Ln xs q0 s₁ h0 [] X0 N0 e0 K0 Z0 hlen A0 (Nat.le_refl _) rfl
  intro k
  induction k with
  | zero =>
    intro ys q T h Lc X Nf eh K sz hyl Ay hk hval
    refine o_iload 13 X hx rfl (hb hby d2_11) rfl ?_
    refine o_iloadN 14 X hx rfl (hb hby d2_13) rfl ?_
    refine o_icmpYes 38 X hx (hb hby d2_14) (tlt (own_pl (by omega))).1 (by decide) (by decide) ?_
    refine o_retV X hx hret hlk (hb hby d2_38) (by decide) (by decide) ?_
    rw [eh]
    exact ⟨rfl, Nf, K, by rw [← hval]; exact Ay⟩
  | succ k ih =>
    intro ys q T h Lc X Nf eh K sz hyl Ay hk hval
    rw [show O + (k + 1) = (O + k) + 1 from rfl, own_pred]
    have hO : O + k < N := by omega
    have hO2 : O + k < 2147483648 := by omega
    refine o_iload 13 X hx rfl (hb hby d2_11) rfl ?_
    refine o_iloadN 14 X hx rfl (hb hby d2_13) rfl ?_
    refine o_icmpNo 17 X hx rfl (hb hby d2_14) (flt (own_nle (by omega) hO2)).1 ?_
    refine o_aloadN 18 X hx rfl (hb hby d2_17) rfl rfl ?_
    refine o_iload 20 X hx rfl (hb hby d2_18) rfl ?_
    refine o_lload 22 X hx rfl (hb hby d2_20) rfl ?_
    refine o_l2i 23 X hx rfl (hb hby d2_22) ?_
    refine o_i2b 24 X hx rfl (hb hby d2_23) ?_
    refine o_bastoreBX 25 X hx rfl hZ eh Ay ⟨own_nn hO2, own_lt hO hN⟩ (by rw [own_n32 hO2]; omega) ((ys.set (O + k) (nar .byte ((q.toInt32).toInt8.toInt32)))) (by rw [own_n32 hO2]) Nf ga (hb hby d2_24) fun T1 h1 L1 X1 N1 e1 W1 A1 => ?_
    have sz2 : n0 ≤ h1.size := Nat.le_trans sz (Keep.of_wr W1).1
    have K3 : Keep h0 h1 [r1] := K.wr W1 (Or.inl (by simp))
    refine o_lload 27 X1 hx rfl (hb hby d2_25) rfl ?_
    refine o_bipush 29 X1 hx rfl (hb hby d2_27) (8 : Int32) rfl ?_
    refine o_lushr 30 X1 hx rfl (hb hby d2_29) ?_
    refine o_lstore 32 X1 hx rfl (hb hby d2_30) #[.val (.long q0), .second, .val (.ref r1), .val (.int (Int32.ofNat O)), .val (.int (Int32.ofNat Ln)), .val (.long ((q.toUInt64 >>> ((8 : Int32) &&& 0x3f).toInt64.toUInt64).toInt64)), .second, .val (.int (Int32.ofNat (O + k)))] rfl ?_
    refine o_iinc 35 X1 hx rfl (hb hby d2_32) (-1 : Int32) rfl rfl #[.val (.long q0), .second, .val (.ref r1), .val (.int (Int32.ofNat O)), .val (.int (Int32.ofNat Ln)), .val (.long ((q.toUInt64 >>> ((8 : Int32) &&& 0x3f).toInt64.toUInt64).toInt64)), .second, .val (.int ((Int32.ofNat (O + k)) + (-1 : Int32)))] rfl ?_
    refine o_goto 11 X1 hx (hb hby d2_35) (by decide) (by decide) ?_
    exact ih _ _ _ _ _ X1 N1 e1 K3 sz2 (by rw [List.length_set]; exact hyl) A1 (by omega) (by rw [← hval]; rfl)
theorem ef_3 (m : MethodId) (y0 : Addr) (y1 : Int32) (y2 : Int64) (y3 : Int32) (y4 : Int32) (y5 : Int64) : entryFrame m #[(.ref y0), (.int y1), (.long y2), (.int y3), (.int y4), (.long y5)] 9 = mkF m 0 #[.val (.ref y0), .val (.int y1), .val (.long y2), .second, .val (.int y3), .val (.int y4), .val (.long y5), .second, .unset] [] := by first | (simp [entryFrame, mkF, argsToLocals, Value.category]; done) | rfl
def f3_44_l8 (i1 : Int32) (i3 : Int32) (i4 : Int32) (q2 : Int64) (q5 : Int64) : Int32 := (if i1 < i3 then (fn1 q5 i1) else (if i1 < (i3 + i4) then ((((q2.toUInt64 >>> (((8 : Int32) * (((i3 + i4) - (1 : Int32)) - i1)) &&& 0x3f).toInt64.toUInt64).toInt64).toInt32).toInt8.toInt32) else (fn1 q5 i1)))
def f3_57_s0 (i1 : Int32) (i3 : Int32) (i4 : Int32) (q2 : Int64) (q5 : Int64) (xs : List Int32) : Int32 := (if (xs.getD i1.toNatClampNeg 0) = (f3_44_l8 i1 i3 i4 q2 q5) then (1 : Int32) else (0 : Int32))
def fn3 (i1 : Int32) (q2 : Int64) (i3 : Int32) (i4 : Int32) (q5 : Int64) (xs : List Int32) : Int32 := (nar .boolean (f3_57_s0 i1 i3 i4 q2 q5 xs))
set_option maxRecDepth 65536 in
set_option maxHeartbeats 40000000 in
theorem rm3 (l : Launch) (Z : State) (a0 : Array Value) (hw : ∀ d ∈ tables_1, d.before a0 Z = true) (r0 : Addr) (i1 : Int32) (q2 : Int64) (i3 : Int32) (i4 : Int32) (q5 : Int64) (kxs : ClassId) (xs : List Int32) (h0 : Heap) (Axs : Arv Z h0 r0 kxs .byte (10 : Int32) (xs.map Value.int) (.int 0)) (hi : ¬ i1 < 0 ∧ i1 < (10 : Int32)) : MetP l (⟨"com/example/coarsefine/coarsefine/code/BigEndianWritePinLaw", "ok", "([BIJIIJ)Z"⟩ : MethodName) method_4_code 9 (some .boolean) [] ({ frames := 1, cells := 0, slots := 0, locals := 14 } : Room) Z #[(.ref r0), (.int i1), (.long q2), (.int i3), (.int i4), (.long q5)] h0 (Pure (.int (fn3 i1 q2 i3 i4 q5 xs)) h0) := by
  refine met_go pn_3 ?_
  intro p e s m below meth c s₁ hx hby hml hown hnm hret hlk hZ e0 X0
  rw [ef_3 m r0 i1 q2 i3 i4 q5]
  refine o_iloadN 1 X0 hx rfl (hb hby d3_0) rfl ?_
  refine o_iload 3 X0 hx rfl (hb hby d3_1) rfl ?_
  suffices j44_1 : ∀ (T' : State), Stand p l e ({ frames := 1, cells := 0, slots := 0, locals := 14 } : Room) s m #[(.ref r0), (.int i1), (.long q2), (.int i3), (.int i4), (.long q5)] below meth c T' [] 0 0 → T'.heap = h0 → Go p.tables e below (EndE s ({ frames := 1, cells := 0, slots := 0, locals := 14 } : Room) (Pure (.int (fn3 i1 q2 i3 i4 q5 xs)) h0)) (T'.setTop (mkF m 44 #[.val (.ref r0), .val (.int i1), .val (.long q2), .second, .val (.int i3), .val (.int i4), .val (.long q5), .second, .val (.int (f3_44_l8 i1 i3 i4 q2 q5))] [])) by
    by_cases hc3_2 : i1 < i3
    · refine o_icmpYes 36 X0 hx (hb hby d3_3) (tlt hc3_2).1 (by decide) (by decide) ?_
      refine o_lload 38 X0 hx rfl (hb hby d3_36) rfl ?_
      refine o_iloadN 39 X0 hx rfl (hb hby d3_38) rfl ?_
      refine o_callP (rv := (.int (fn1 q5 i1))) 42 X0 hx rfl hZ hown (wd_2 hw) (wd_3 hw) (wd_4 hw) (wd_5 hw) (by decide) e0 (rm1 l Z a0 hw q5 i1 h0) pd_lJIrB [(.long q5), (.int i1)] [] rfl rfl (by rw [hml]; rfl) rfl (hb hby d3_39) 0 (Nat.le_of_eq rfl) (by decide) (by decide) (by decide) (by decide) rfl rfl fun T3 X3 e3 => ?_
      refine o_istore 44 X3 hx rfl (hb hby d3_42) #[.val (.ref r0), .val (.int i1), .val (.long q2), .second, .val (.int i3), .val (.int i4), .val (.long q5), .second, .val (.int (fn1 q5 i1))] rfl ?_
      rw [show (f3_44_l8 i1 i3 i4 q2 q5) = (fn1 q5 i1) from by unfold f3_44_l8; simp only [if_pos hc3_2]] at j44_1
      exact j44_1 T3 X3 e3
    · refine o_icmpNo 6 X0 hx rfl (hb hby d3_3) (flt hc3_2).1 ?_
      refine o_iloadN 7 X0 hx rfl (hb hby d3_6) rfl ?_
      refine o_iload 9 X0 hx rfl (hb hby d3_7) rfl ?_
      refine o_iload 11 X0 hx rfl (hb hby d3_9) rfl ?_
      refine o_iadd 12 X0 hx rfl (hb hby d3_11) ?_
      by_cases hc12_4 : i1 < (i3 + i4)
      · refine o_icmpNo 15 X0 hx rfl (hb hby d3_12) (tlt hc12_4).2.1 ?_
        refine o_lloadN 16 X0 hx rfl (hb hby d3_15) rfl ?_
        refine o_bipush 18 X0 hx rfl (hb hby d3_16) (8 : Int32) rfl ?_
        refine o_iload 20 X0 hx rfl (hb hby d3_18) rfl ?_
        refine o_iload 22 X0 hx rfl (hb hby d3_20) rfl ?_
        refine o_iadd 23 X0 hx rfl (hb hby d3_22) ?_
        refine o_iconst 24 X0 hx rfl (hb hby d3_23) (1 : Int32) rfl ?_
        refine o_isub 25 X0 hx rfl (hb hby d3_24) ?_
        refine o_iloadN 26 X0 hx rfl (hb hby d3_25) rfl ?_
        refine o_isub 27 X0 hx rfl (hb hby d3_26) ?_
        refine o_imul 28 X0 hx rfl (hb hby d3_27) ?_
        refine o_lushr 29 X0 hx rfl (hb hby d3_28) ?_
        refine o_l2i 30 X0 hx rfl (hb hby d3_29) ?_
        refine o_i2b 31 X0 hx rfl (hb hby d3_30) ?_
        refine o_istore 33 X0 hx rfl (hb hby d3_31) #[.val (.ref r0), .val (.int i1), .val (.long q2), .second, .val (.int i3), .val (.int i4), .val (.long q5), .second, .val (.int ((((q2.toUInt64 >>> (((8 : Int32) * (((i3 + i4) - (1 : Int32)) - i1)) &&& 0x3f).toInt64.toUInt64).toInt64).toInt32).toInt8.toInt32))] rfl ?_
        refine o_goto 44 X0 hx (hb hby d3_33) (by decide) (by decide) ?_
        rw [show (f3_44_l8 i1 i3 i4 q2 q5) = ((((q2.toUInt64 >>> (((8 : Int32) * (((i3 + i4) - (1 : Int32)) - i1)) &&& 0x3f).toInt64.toUInt64).toInt64).toInt32).toInt8.toInt32) from by unfold f3_44_l8; simp only [if_neg hc3_2, if_pos hc12_4]] at j44_1
        exact j44_1 s₁ X0 e0
      · refine o_icmpYes 36 X0 hx (hb hby d3_12) (flt hc12_4).2.1 (by decide) (by decide) ?_
        refine o_lload 38 X0 hx rfl (hb hby d3_36) rfl ?_
        refine o_iloadN 39 X0 hx rfl (hb hby d3_38) rfl ?_
        refine o_callP (rv := (.int (fn1 q5 i1))) 42 X0 hx rfl hZ hown (wd_2 hw) (wd_3 hw) (wd_4 hw) (wd_5 hw) (by decide) e0 (rm1 l Z a0 hw q5 i1 h0) pd_lJIrB [(.long q5), (.int i1)] [] rfl rfl (by rw [hml]; rfl) rfl (hb hby d3_39) 0 (Nat.le_of_eq rfl) (by decide) (by decide) (by decide) (by decide) rfl rfl fun T5 X5 e5 => ?_
        refine o_istore 44 X5 hx rfl (hb hby d3_42) #[.val (.ref r0), .val (.int i1), .val (.long q2), .second, .val (.int i3), .val (.int i4), .val (.long q5), .second, .val (.int (fn1 q5 i1))] rfl ?_
        rw [show (f3_44_l8 i1 i3 i4 q2 q5) = (fn1 q5 i1) from by unfold f3_44_l8; simp only [if_neg hc3_2, if_neg hc12_4]] at j44_1
        exact j44_1 T5 X5 e5
  intro T6 X6 e6
  refine o_aloadN 45 X6 hx rfl (hb hby d3_44) rfl rfl ?_
  refine o_iloadN 46 X6 hx rfl (hb hby d3_45) rfl ?_
  refine o_baloadBX 47 X6 hx rfl hZ e6 Axs hi (hb hby d3_46) (xs.getD i1.toNatClampNeg 0) rfl ?_
  refine o_iload 49 X6 hx rfl (hb hby d3_47) rfl ?_
  suffices j57_7 : Go p.tables e below (EndE s ({ frames := 1, cells := 0, slots := 0, locals := 14 } : Room) (Pure (.int (fn3 i1 q2 i3 i4 q5 xs)) h0)) (T6.setTop (mkF m 57 #[.val (.ref r0), .val (.int i1), .val (.long q2), .second, .val (.int i3), .val (.int i4), .val (.long q5), .second, .val (.int (f3_44_l8 i1 i3 i4 q2 q5))] [(.int (f3_57_s0 i1 i3 i4 q2 q5 xs))])) by
    by_cases hc49_8 : (xs.getD i1.toNatClampNeg 0) = (f3_44_l8 i1 i3 i4 q2 q5)
    · refine o_icmpNo 52 X6 hx rfl (hb hby d3_49) (teq hc49_8).2 ?_
      refine o_iconst 53 X6 hx rfl (hb hby d3_52) (1 : Int32) rfl ?_
      refine o_goto 57 X6 hx (hb hby d3_53) (by decide) (by decide) ?_
      rw [show (f3_57_s0 i1 i3 i4 q2 q5 xs) = (1 : Int32) from by unfold f3_57_s0; simp only [if_pos hc49_8]] at j57_7
      exact j57_7
    · refine o_icmpYes 56 X6 hx (hb hby d3_49) (feq hc49_8).2 (by decide) (by decide) ?_
      refine o_iconst 57 X6 hx rfl (hb hby d3_56) (0 : Int32) rfl ?_
      rw [show (f3_57_s0 i1 i3 i4 q2 q5 xs) = (0 : Int32) from by unfold f3_57_s0; simp only [if_neg hc49_8]] at j57_7
      exact j57_7
  refine o_retN X6 hx .boolean (by simp) hret hlk (hb hby d3_57) (by decide) (by decide) ?_
  exact ⟨show some (Value.int (nar .boolean (f3_57_s0 i1 i3 i4 q2 q5 xs))) = some (Value.int (fn3 i1 q2 i3 i4 q5 xs)) from by rw [show (fn3 i1 q2 i3 i4 q5 xs) = (nar .boolean (f3_57_s0 i1 i3 i4 q2 q5 xs)) from by rfl], rfl, e6⟩
theorem ef_0 (m : MethodId) (y0 : Int64) (y1 : Int32) (y2 : Int32) (y3 : Int64) : entryFrame m #[(.long y0), (.int y1), (.int y2), (.long y3)] maxLocals = mkF m 0 #[.val (.long y0), .second, .val (.int y1), .val (.int y2), .val (.long y3), .second, .unset, .unset, .unset, .unset, .unset] [] := by first | (simp [entryFrame, mkF, argsToLocals, Value.category, maxLocals]; done) | rfl
def f0_7 (i1 : Int32) : Int32 := ((i1 &&& (2147483647 : Int32)) % (9 : Int32))
def f0_43_s0 (Ln : Nat) (q0 : Int64) : Int64 := (if (Int32.ofNat Ln) = (8 : Int32) then q0 else (q0 &&& (((1 : Int64) <<< (((8 : Int32) * (Int32.ofNat Ln)) &&& 0x3f).toInt64) - (1 : Int64))))
theorem own_mr (x y : Int32) (D : Int) (hy : y.toInt = D) (hD : 0 < D) : ∃ J : Nat, (J : Int) < D ∧ ((x &&& (2147483647 : Int32)) % y) = Int32.ofNat J := by
  have e1 : (x &&& (2147483647 : Int32)).toInt = x.toInt % (2 ^ 31 : Nat) := c_mask x 2147483647 31 (by decide) (by decide)
  have e2 := (c_irem (x &&& (2147483647 : Int32)) y D hy).1 (by rw [e1]; omega)
  have r2 := Int.emod_nonneg (x &&& (2147483647 : Int32)).toInt (b := D) (by omega)
  have r3 := Int.emod_lt_of_pos (x &&& (2147483647 : Int32)).toInt hD
  have r := rng32 ((x &&& (2147483647 : Int32)) % y)
  rw [← e2] at r2 r3
  refine ⟨((x &&& (2147483647 : Int32)) % y).toInt.toNat, by omega, ?_⟩
  apply Int32.toInt_inj.mp; rw [Int32.toInt_ofNat_of_lt (by omega)]; omega
theorem own_gs (xs : List Int32) (i j : Nat) (v : Int32) (h : i < xs.length) : (xs.set i v).getD j 0 = if i = j then v else xs.getD j 0 := by
  rw [List.getD_eq_getElem?_getD, List.getD_eq_getElem?_getD, List.getElem?_set]
  by_cases e : i = j
  · rw [if_pos e, if_pos e, if_pos h]; rfl
  · rw [if_neg e, if_neg e]
theorem own_bb (x : Int32) : nar .byte (x.toInt8.toInt32) = x.toInt8.toInt32 := by
  have e1 := c_i2b x
  have e2 := c_i2b (x.toInt8.toInt32)
  have e3 : (nar .byte (x.toInt8.toInt32)).toInt = (x.toInt8.toInt32).toInt8.toInt32.toInt := rfl
  apply Int32.toInt_inj.mp
  omega
theorem own_L (i1 : Int32) : ∃ Ln : Nat, Ln ≤ 8 ∧ f0_7 i1 = Int32.ofNat Ln := by
  obtain ⟨J, h1, h2⟩ := own_mr i1 9 9 rfl (by decide)
  exact ⟨J, by omega, h2⟩
theorem own_el {Ln : Nat} (h : Ln ≤ 8) : ((11 : Int32) - (Int32.ofNat Ln)).toInt = 11 - (Ln : Int) := by
  have e1 := c_isub 11 (Int32.ofNat Ln)
  have r := rng32 ((11 : Int32) - (Int32.ofNat Ln))
  rw [Int32.toInt_ofNat_of_lt (by omega), show (11 : Int32).toInt = 11 from rfl] at e1
  omega
theorem own_nz {Ln : Nat} (h : Ln ≤ 8) : (11 : Int32) - (Int32.ofNat Ln) ≠ 0 := fun z => by
  have e := own_el h
  rw [z, show (0 : Int32).toInt = 0 from rfl] at e
  omega
theorem own_O (i2 : Int32) {Ln : Nat} (h : Ln ≤ 8) : ∃ O : Nat, O + Ln ≤ 10 ∧ ((i2 &&& (2147483647 : Int32)) % ((11 : Int32) - (Int32.ofNat Ln))) = Int32.ofNat O := by
  obtain ⟨J, h1, h2⟩ := own_mr i2 _ _ (own_el h) (by omega)
  exact ⟨J, by omega, h2⟩
def own_s (q : Int64) : Int64 := ((q.toUInt64 >>> ((8 : Int32) &&& 0x3f).toInt64.toUInt64).toInt64)
def own_sh : Int64 → Nat → Int64
  | q, 0 => q
  | q, n + 1 => own_sh (own_s q) n
theorem own_sI (q : Int64) : (own_s q).toInt = (q.toInt % 18446744073709551616) / (2 ^ 8 : Nat) := c_lushr q 8 8 (by decide) (by decide)
theorem own_wrg (O : Nat) : ∀ (k : Nat) (q : Int64) (ys : List Int32) (i : Nat), O + k ≤ ys.length → (own_wr O k q ys).getD i 0 = if O ≤ i ∧ i < O + k then nar .byte ((own_sh q (O + k - 1 - i)).toInt32.toInt8.toInt32) else ys.getD i 0
  | 0, q, ys, i, h => by rw [own_wr, if_neg (by omega)]
  | k + 1, q, ys, i, h => by
    rw [own_wr, own_wrg O k _ _ i (by rw [List.length_set]; omega)]
    by_cases h1 : O ≤ i ∧ i < O + k
    · rw [if_pos h1, if_pos (by omega), show O + (k + 1) - 1 - i = (O + k - 1 - i) + 1 by omega]; rfl
    · rw [if_neg h1, own_gs _ _ _ _ (by omega)]
      by_cases h2 : O + k = i
      · rw [if_pos h2, if_pos (by omega), show O + (k + 1) - 1 - i = 0 by omega]; rfl
      · rw [if_neg h2, if_neg (by omega)]
theorem own_sh0 (q : Int64) : own_sh q 0 = ((q.toUInt64 >>> ((Int32.ofNat (8 * 0)) &&& 0x3f).toInt64.toUInt64).toInt64) := by
  rw [show ((Int32.ofNat (8 * 0)) &&& 0x3f).toInt64.toUInt64 = 0 from by decide, UInt64.shiftRight_zero]; rfl
theorem own_sh1 (q : Int64) : own_sh q 1 = ((q.toUInt64 >>> ((Int32.ofNat (8 * 1)) &&& 0x3f).toInt64.toUInt64).toInt64) := by
  have e := c_lushr q (Int32.ofNat (8 * 1)) 8 (by decide) (by decide)
  have f0 := own_sI q
  apply Int64.toInt_inj.mp
  show (own_s q).toInt = _
  rw [e]
  omega
theorem own_sh2 (q : Int64) : own_sh q 2 = ((q.toUInt64 >>> ((Int32.ofNat (8 * 2)) &&& 0x3f).toInt64.toUInt64).toInt64) := by
  have e := c_lushr q (Int32.ofNat (8 * 2)) 16 (by decide) (by decide)
  have f0 := own_sI q
  have f1 := own_sI (own_s q)
  apply Int64.toInt_inj.mp
  show (own_s (own_s q)).toInt = _
  rw [e]
  omega
theorem own_sh3 (q : Int64) : own_sh q 3 = ((q.toUInt64 >>> ((Int32.ofNat (8 * 3)) &&& 0x3f).toInt64.toUInt64).toInt64) := by
  have e := c_lushr q (Int32.ofNat (8 * 3)) 24 (by decide) (by decide)
  have f0 := own_sI q
  have f1 := own_sI (own_s q)
  have f2 := own_sI (own_s (own_s q))
  apply Int64.toInt_inj.mp
  show (own_s (own_s (own_s q))).toInt = _
  rw [e]
  omega
theorem own_sh4 (q : Int64) : own_sh q 4 = ((q.toUInt64 >>> ((Int32.ofNat (8 * 4)) &&& 0x3f).toInt64.toUInt64).toInt64) := by
  have e := c_lushr q (Int32.ofNat (8 * 4)) 32 (by decide) (by decide)
  have f0 := own_sI q
  have f1 := own_sI (own_s q)
  have f2 := own_sI (own_s (own_s q))
  have f3 := own_sI (own_s (own_s (own_s q)))
  apply Int64.toInt_inj.mp
  show (own_s (own_s (own_s (own_s q)))).toInt = _
  rw [e]
  omega
theorem own_sh5 (q : Int64) : own_sh q 5 = ((q.toUInt64 >>> ((Int32.ofNat (8 * 5)) &&& 0x3f).toInt64.toUInt64).toInt64) := by
  have e := c_lushr q (Int32.ofNat (8 * 5)) 40 (by decide) (by decide)
  have f0 := own_sI q
  have f1 := own_sI (own_s q)
  have f2 := own_sI (own_s (own_s q))
  have f3 := own_sI (own_s (own_s (own_s q)))
  have f4 := own_sI (own_s (own_s (own_s (own_s q))))
  apply Int64.toInt_inj.mp
  show (own_s (own_s (own_s (own_s (own_s q))))).toInt = _
  rw [e]
  omega
theorem own_sh6 (q : Int64) : own_sh q 6 = ((q.toUInt64 >>> ((Int32.ofNat (8 * 6)) &&& 0x3f).toInt64.toUInt64).toInt64) := by
  have e := c_lushr q (Int32.ofNat (8 * 6)) 48 (by decide) (by decide)
  have f0 := own_sI q
  have f1 := own_sI (own_s q)
  have f2 := own_sI (own_s (own_s q))
  have f3 := own_sI (own_s (own_s (own_s q)))
  have f4 := own_sI (own_s (own_s (own_s (own_s q))))
  have f5 := own_sI (own_s (own_s (own_s (own_s (own_s q)))))
  apply Int64.toInt_inj.mp
  show (own_s (own_s (own_s (own_s (own_s (own_s q)))))).toInt = _
  rw [e]
  omega
theorem own_sh7 (q : Int64) : own_sh q 7 = ((q.toUInt64 >>> ((Int32.ofNat (8 * 7)) &&& 0x3f).toInt64.toUInt64).toInt64) := by
  have e := c_lushr q (Int32.ofNat (8 * 7)) 56 (by decide) (by decide)
  have f0 := own_sI q
  have f1 := own_sI (own_s q)
  have f2 := own_sI (own_s (own_s q))
  have f3 := own_sI (own_s (own_s (own_s q)))
  have f4 := own_sI (own_s (own_s (own_s (own_s q))))
  have f5 := own_sI (own_s (own_s (own_s (own_s (own_s q)))))
  have f6 := own_sI (own_s (own_s (own_s (own_s (own_s (own_s q))))))
  apply Int64.toInt_inj.mp
  show (own_s (own_s (own_s (own_s (own_s (own_s (own_s q))))))).toInt = _
  rw [e]
  omega
theorem own_shx (q : Int64) (n : Nat) (hn : n ≤ 7) : own_sh q n = ((q.toUInt64 >>> ((Int32.ofNat (8 * n)) &&& 0x3f).toInt64.toUInt64).toInt64) := by
  match n, hn with
  | 0, _ => exact own_sh0 q
  | 1, _ => exact own_sh1 q
  | 2, _ => exact own_sh2 q
  | 3, _ => exact own_sh3 q
  | 4, _ => exact own_sh4 q
  | 5, _ => exact own_sh5 q
  | 6, _ => exact own_sh6 q
  | 7, _ => exact own_sh7 q
theorem own_cnt {O Ln i : Nat} (hO : O + Ln ≤ 10) (hi : i < O + Ln) : ((8 : Int32) * (((Int32.ofNat O + Int32.ofNat Ln) - (1 : Int32)) - Int32.ofNat i)) = Int32.ofNat (8 * (O + Ln - 1 - i)) := by
  have e1 := c_isub (Int32.ofNat O + Int32.ofNat Ln) 1
  have e2 := c_isub ((Int32.ofNat O + Int32.ofNat Ln) - (1 : Int32)) (Int32.ofNat i)
  have e3 := c_imul 8 (((Int32.ofNat O + Int32.ofNat Ln) - (1 : Int32)) - Int32.ofNat i)
  have r1 := rng32 ((Int32.ofNat O + Int32.ofNat Ln) - (1 : Int32))
  have r2 := rng32 (((Int32.ofNat O + Int32.ofNat Ln) - (1 : Int32)) - Int32.ofNat i)
  have r3 := rng32 ((8 : Int32) * (((Int32.ofNat O + Int32.ofNat Ln) - (1 : Int32)) - Int32.ofNat i))
  have e0 : (Int32.ofNat O + Int32.ofNat Ln).toInt = ((O + Ln : Nat) : Int) := by rw [← Int32.ofNat_add]; exact Int32.toInt_ofNat_of_lt (by omega)
  have ei : (Int32.ofNat i).toInt = (i : Int) := Int32.toInt_ofNat_of_lt (by omega)
  rw [show (1 : Int32).toInt = 1 from rfl] at e1
  rw [show (8 : Int32).toInt = 8 from rfl] at e3
  apply Int32.toInt_inj.mp
  rw [Int32.toInt_ofNat_of_lt (by omega)]
  omega
theorem own_okg (q3 v : Int64) (O Ln i : Nat) (hi : i < 10) (hO : O + Ln ≤ 10) (hLn : Ln ≤ 8) (xs : List Int32) (hx : xs.length = 10) (hg : xs.getD i 0 = nar .byte (fn1 q3 (Int32.ofNat i))) : ¬ fn3 (Int32.ofNat i) v (Int32.ofNat O) (Int32.ofNat Ln) q3 (own_wr O Ln v xs) = 0 := by
  have hh : (own_wr O Ln v xs).getD (Int32.ofNat i).toNatClampNeg 0 = f3_44_l8 (Int32.ofNat i) (Int32.ofNat O) (Int32.ofNat Ln) v q3 := by
    have hf : nar .byte (fn1 q3 (Int32.ofNat i)) = fn1 q3 (Int32.ofNat i) := by unfold fn1; rw [own_bb, own_bb]
    rw [own_n32 (by omega), own_wrg O Ln v xs i (by omega)]
    unfold f3_44_l8
    by_cases h1 : i < O
    · rw [if_neg (by omega), if_pos (own_lt h1 (by omega)), hg, hf]
    · rw [if_neg (own_nle (by omega) (by omega))]
      by_cases h2 : i < O + Ln
      · rw [if_pos ⟨by omega, h2⟩, if_pos (by rw [← Int32.ofNat_add]; exact own_lt h2 (by omega)), own_bb, own_shx v _ (by omega), own_cnt hO h2]
      · rw [if_neg (by omega), if_neg (by rw [← Int32.ofNat_add]; exact own_nle (by omega) (by omega)), hg, hf]
  unfold fn3 f3_57_s0
  rw [if_pos hh]
  decide
theorem own_ok0 (i1 : Int32) (q0 q3 : Int64) (O Ln : Nat) (hO : O + Ln ≤ 10) (hLn : Ln ≤ 8) : ¬ (fn3 (0 : Int32) (f0_43_s0 Ln q0) (Int32.ofNat O) (Int32.ofNat Ln) q3 (own_wr O Ln (f0_43_s0 Ln q0) [(nar .byte (fn1 q3 (0 : Int32))), (nar .byte (fn1 q3 (1 : Int32))), (nar .byte (fn1 q3 (2 : Int32))), (nar .byte (fn1 q3 (3 : Int32))), (nar .byte (fn1 q3 (4 : Int32))), (nar .byte (fn1 q3 (5 : Int32))), (nar .byte (fn1 q3 (6 : Int32))), (nar .byte (fn1 q3 (7 : Int32))), (nar .byte (fn1 q3 (8 : Int32))), (nar .byte (fn1 q3 (9 : Int32)))])) = (0 : Int32) := own_okg q3 (f0_43_s0 Ln q0) O Ln 0 (by decide) hO hLn [(nar .byte (fn1 q3 (0 : Int32))), (nar .byte (fn1 q3 (1 : Int32))), (nar .byte (fn1 q3 (2 : Int32))), (nar .byte (fn1 q3 (3 : Int32))), (nar .byte (fn1 q3 (4 : Int32))), (nar .byte (fn1 q3 (5 : Int32))), (nar .byte (fn1 q3 (6 : Int32))), (nar .byte (fn1 q3 (7 : Int32))), (nar .byte (fn1 q3 (8 : Int32))), (nar .byte (fn1 q3 (9 : Int32)))] rfl rfl
theorem own_ok1 (i1 : Int32) (q0 q3 : Int64) (O Ln : Nat) (hO : O + Ln ≤ 10) (hLn : Ln ≤ 8) : ¬ (fn3 (1 : Int32) (f0_43_s0 Ln q0) (Int32.ofNat O) (Int32.ofNat Ln) q3 (own_wr O Ln (f0_43_s0 Ln q0) [(nar .byte (fn1 q3 (0 : Int32))), (nar .byte (fn1 q3 (1 : Int32))), (nar .byte (fn1 q3 (2 : Int32))), (nar .byte (fn1 q3 (3 : Int32))), (nar .byte (fn1 q3 (4 : Int32))), (nar .byte (fn1 q3 (5 : Int32))), (nar .byte (fn1 q3 (6 : Int32))), (nar .byte (fn1 q3 (7 : Int32))), (nar .byte (fn1 q3 (8 : Int32))), (nar .byte (fn1 q3 (9 : Int32)))])) = (0 : Int32) := own_okg q3 (f0_43_s0 Ln q0) O Ln 1 (by decide) hO hLn [(nar .byte (fn1 q3 (0 : Int32))), (nar .byte (fn1 q3 (1 : Int32))), (nar .byte (fn1 q3 (2 : Int32))), (nar .byte (fn1 q3 (3 : Int32))), (nar .byte (fn1 q3 (4 : Int32))), (nar .byte (fn1 q3 (5 : Int32))), (nar .byte (fn1 q3 (6 : Int32))), (nar .byte (fn1 q3 (7 : Int32))), (nar .byte (fn1 q3 (8 : Int32))), (nar .byte (fn1 q3 (9 : Int32)))] rfl rfl
theorem own_ok2 (i1 : Int32) (q0 q3 : Int64) (O Ln : Nat) (hO : O + Ln ≤ 10) (hLn : Ln ≤ 8) : ¬ (fn3 (2 : Int32) (f0_43_s0 Ln q0) (Int32.ofNat O) (Int32.ofNat Ln) q3 (own_wr O Ln (f0_43_s0 Ln q0) [(nar .byte (fn1 q3 (0 : Int32))), (nar .byte (fn1 q3 (1 : Int32))), (nar .byte (fn1 q3 (2 : Int32))), (nar .byte (fn1 q3 (3 : Int32))), (nar .byte (fn1 q3 (4 : Int32))), (nar .byte (fn1 q3 (5 : Int32))), (nar .byte (fn1 q3 (6 : Int32))), (nar .byte (fn1 q3 (7 : Int32))), (nar .byte (fn1 q3 (8 : Int32))), (nar .byte (fn1 q3 (9 : Int32)))])) = (0 : Int32) := own_okg q3 (f0_43_s0 Ln q0) O Ln 2 (by decide) hO hLn [(nar .byte (fn1 q3 (0 : Int32))), (nar .byte (fn1 q3 (1 : Int32))), (nar .byte (fn1 q3 (2 : Int32))), (nar .byte (fn1 q3 (3 : Int32))), (nar .byte (fn1 q3 (4 : Int32))), (nar .byte (fn1 q3 (5 : Int32))), (nar .byte (fn1 q3 (6 : Int32))), (nar .byte (fn1 q3 (7 : Int32))), (nar .byte (fn1 q3 (8 : Int32))), (nar .byte (fn1 q3 (9 : Int32)))] rfl rfl
theorem own_ok3 (i1 : Int32) (q0 q3 : Int64) (O Ln : Nat) (hO : O + Ln ≤ 10) (hLn : Ln ≤ 8) : ¬ (fn3 (3 : Int32) (f0_43_s0 Ln q0) (Int32.ofNat O) (Int32.ofNat Ln) q3 (own_wr O Ln (f0_43_s0 Ln q0) [(nar .byte (fn1 q3 (0 : Int32))), (nar .byte (fn1 q3 (1 : Int32))), (nar .byte (fn1 q3 (2 : Int32))), (nar .byte (fn1 q3 (3 : Int32))), (nar .byte (fn1 q3 (4 : Int32))), (nar .byte (fn1 q3 (5 : Int32))), (nar .byte (fn1 q3 (6 : Int32))), (nar .byte (fn1 q3 (7 : Int32))), (nar .byte (fn1 q3 (8 : Int32))), (nar .byte (fn1 q3 (9 : Int32)))])) = (0 : Int32) := own_okg q3 (f0_43_s0 Ln q0) O Ln 3 (by decide) hO hLn [(nar .byte (fn1 q3 (0 : Int32))), (nar .byte (fn1 q3 (1 : Int32))), (nar .byte (fn1 q3 (2 : Int32))), (nar .byte (fn1 q3 (3 : Int32))), (nar .byte (fn1 q3 (4 : Int32))), (nar .byte (fn1 q3 (5 : Int32))), (nar .byte (fn1 q3 (6 : Int32))), (nar .byte (fn1 q3 (7 : Int32))), (nar .byte (fn1 q3 (8 : Int32))), (nar .byte (fn1 q3 (9 : Int32)))] rfl rfl
theorem own_ok4 (i1 : Int32) (q0 q3 : Int64) (O Ln : Nat) (hO : O + Ln ≤ 10) (hLn : Ln ≤ 8) : ¬ (fn3 (4 : Int32) (f0_43_s0 Ln q0) (Int32.ofNat O) (Int32.ofNat Ln) q3 (own_wr O Ln (f0_43_s0 Ln q0) [(nar .byte (fn1 q3 (0 : Int32))), (nar .byte (fn1 q3 (1 : Int32))), (nar .byte (fn1 q3 (2 : Int32))), (nar .byte (fn1 q3 (3 : Int32))), (nar .byte (fn1 q3 (4 : Int32))), (nar .byte (fn1 q3 (5 : Int32))), (nar .byte (fn1 q3 (6 : Int32))), (nar .byte (fn1 q3 (7 : Int32))), (nar .byte (fn1 q3 (8 : Int32))), (nar .byte (fn1 q3 (9 : Int32)))])) = (0 : Int32) := own_okg q3 (f0_43_s0 Ln q0) O Ln 4 (by decide) hO hLn [(nar .byte (fn1 q3 (0 : Int32))), (nar .byte (fn1 q3 (1 : Int32))), (nar .byte (fn1 q3 (2 : Int32))), (nar .byte (fn1 q3 (3 : Int32))), (nar .byte (fn1 q3 (4 : Int32))), (nar .byte (fn1 q3 (5 : Int32))), (nar .byte (fn1 q3 (6 : Int32))), (nar .byte (fn1 q3 (7 : Int32))), (nar .byte (fn1 q3 (8 : Int32))), (nar .byte (fn1 q3 (9 : Int32)))] rfl rfl
theorem own_ok5 (i1 : Int32) (q0 q3 : Int64) (O Ln : Nat) (hO : O + Ln ≤ 10) (hLn : Ln ≤ 8) : ¬ (fn3 (5 : Int32) (f0_43_s0 Ln q0) (Int32.ofNat O) (Int32.ofNat Ln) q3 (own_wr O Ln (f0_43_s0 Ln q0) [(nar .byte (fn1 q3 (0 : Int32))), (nar .byte (fn1 q3 (1 : Int32))), (nar .byte (fn1 q3 (2 : Int32))), (nar .byte (fn1 q3 (3 : Int32))), (nar .byte (fn1 q3 (4 : Int32))), (nar .byte (fn1 q3 (5 : Int32))), (nar .byte (fn1 q3 (6 : Int32))), (nar .byte (fn1 q3 (7 : Int32))), (nar .byte (fn1 q3 (8 : Int32))), (nar .byte (fn1 q3 (9 : Int32)))])) = (0 : Int32) := own_okg q3 (f0_43_s0 Ln q0) O Ln 5 (by decide) hO hLn [(nar .byte (fn1 q3 (0 : Int32))), (nar .byte (fn1 q3 (1 : Int32))), (nar .byte (fn1 q3 (2 : Int32))), (nar .byte (fn1 q3 (3 : Int32))), (nar .byte (fn1 q3 (4 : Int32))), (nar .byte (fn1 q3 (5 : Int32))), (nar .byte (fn1 q3 (6 : Int32))), (nar .byte (fn1 q3 (7 : Int32))), (nar .byte (fn1 q3 (8 : Int32))), (nar .byte (fn1 q3 (9 : Int32)))] rfl rfl
theorem own_ok6 (i1 : Int32) (q0 q3 : Int64) (O Ln : Nat) (hO : O + Ln ≤ 10) (hLn : Ln ≤ 8) : ¬ (fn3 (6 : Int32) (f0_43_s0 Ln q0) (Int32.ofNat O) (Int32.ofNat Ln) q3 (own_wr O Ln (f0_43_s0 Ln q0) [(nar .byte (fn1 q3 (0 : Int32))), (nar .byte (fn1 q3 (1 : Int32))), (nar .byte (fn1 q3 (2 : Int32))), (nar .byte (fn1 q3 (3 : Int32))), (nar .byte (fn1 q3 (4 : Int32))), (nar .byte (fn1 q3 (5 : Int32))), (nar .byte (fn1 q3 (6 : Int32))), (nar .byte (fn1 q3 (7 : Int32))), (nar .byte (fn1 q3 (8 : Int32))), (nar .byte (fn1 q3 (9 : Int32)))])) = (0 : Int32) := own_okg q3 (f0_43_s0 Ln q0) O Ln 6 (by decide) hO hLn [(nar .byte (fn1 q3 (0 : Int32))), (nar .byte (fn1 q3 (1 : Int32))), (nar .byte (fn1 q3 (2 : Int32))), (nar .byte (fn1 q3 (3 : Int32))), (nar .byte (fn1 q3 (4 : Int32))), (nar .byte (fn1 q3 (5 : Int32))), (nar .byte (fn1 q3 (6 : Int32))), (nar .byte (fn1 q3 (7 : Int32))), (nar .byte (fn1 q3 (8 : Int32))), (nar .byte (fn1 q3 (9 : Int32)))] rfl rfl
theorem own_ok7 (i1 : Int32) (q0 q3 : Int64) (O Ln : Nat) (hO : O + Ln ≤ 10) (hLn : Ln ≤ 8) : ¬ (fn3 (7 : Int32) (f0_43_s0 Ln q0) (Int32.ofNat O) (Int32.ofNat Ln) q3 (own_wr O Ln (f0_43_s0 Ln q0) [(nar .byte (fn1 q3 (0 : Int32))), (nar .byte (fn1 q3 (1 : Int32))), (nar .byte (fn1 q3 (2 : Int32))), (nar .byte (fn1 q3 (3 : Int32))), (nar .byte (fn1 q3 (4 : Int32))), (nar .byte (fn1 q3 (5 : Int32))), (nar .byte (fn1 q3 (6 : Int32))), (nar .byte (fn1 q3 (7 : Int32))), (nar .byte (fn1 q3 (8 : Int32))), (nar .byte (fn1 q3 (9 : Int32)))])) = (0 : Int32) := own_okg q3 (f0_43_s0 Ln q0) O Ln 7 (by decide) hO hLn [(nar .byte (fn1 q3 (0 : Int32))), (nar .byte (fn1 q3 (1 : Int32))), (nar .byte (fn1 q3 (2 : Int32))), (nar .byte (fn1 q3 (3 : Int32))), (nar .byte (fn1 q3 (4 : Int32))), (nar .byte (fn1 q3 (5 : Int32))), (nar .byte (fn1 q3 (6 : Int32))), (nar .byte (fn1 q3 (7 : Int32))), (nar .byte (fn1 q3 (8 : Int32))), (nar .byte (fn1 q3 (9 : Int32)))] rfl rfl
theorem own_ok8 (i1 : Int32) (q0 q3 : Int64) (O Ln : Nat) (hO : O + Ln ≤ 10) (hLn : Ln ≤ 8) : ¬ (fn3 (8 : Int32) (f0_43_s0 Ln q0) (Int32.ofNat O) (Int32.ofNat Ln) q3 (own_wr O Ln (f0_43_s0 Ln q0) [(nar .byte (fn1 q3 (0 : Int32))), (nar .byte (fn1 q3 (1 : Int32))), (nar .byte (fn1 q3 (2 : Int32))), (nar .byte (fn1 q3 (3 : Int32))), (nar .byte (fn1 q3 (4 : Int32))), (nar .byte (fn1 q3 (5 : Int32))), (nar .byte (fn1 q3 (6 : Int32))), (nar .byte (fn1 q3 (7 : Int32))), (nar .byte (fn1 q3 (8 : Int32))), (nar .byte (fn1 q3 (9 : Int32)))])) = (0 : Int32) := own_okg q3 (f0_43_s0 Ln q0) O Ln 8 (by decide) hO hLn [(nar .byte (fn1 q3 (0 : Int32))), (nar .byte (fn1 q3 (1 : Int32))), (nar .byte (fn1 q3 (2 : Int32))), (nar .byte (fn1 q3 (3 : Int32))), (nar .byte (fn1 q3 (4 : Int32))), (nar .byte (fn1 q3 (5 : Int32))), (nar .byte (fn1 q3 (6 : Int32))), (nar .byte (fn1 q3 (7 : Int32))), (nar .byte (fn1 q3 (8 : Int32))), (nar .byte (fn1 q3 (9 : Int32)))] rfl rfl
theorem own_ok9 (i1 : Int32) (q0 q3 : Int64) (O Ln : Nat) (hO : O + Ln ≤ 10) (hLn : Ln ≤ 8) : ¬ (fn3 (9 : Int32) (f0_43_s0 Ln q0) (Int32.ofNat O) (Int32.ofNat Ln) q3 (own_wr O Ln (f0_43_s0 Ln q0) [(nar .byte (fn1 q3 (0 : Int32))), (nar .byte (fn1 q3 (1 : Int32))), (nar .byte (fn1 q3 (2 : Int32))), (nar .byte (fn1 q3 (3 : Int32))), (nar .byte (fn1 q3 (4 : Int32))), (nar .byte (fn1 q3 (5 : Int32))), (nar .byte (fn1 q3 (6 : Int32))), (nar .byte (fn1 q3 (7 : Int32))), (nar .byte (fn1 q3 (8 : Int32))), (nar .byte (fn1 q3 (9 : Int32)))])) = (0 : Int32) := own_okg q3 (f0_43_s0 Ln q0) O Ln 9 (by decide) hO hLn [(nar .byte (fn1 q3 (0 : Int32))), (nar .byte (fn1 q3 (1 : Int32))), (nar .byte (fn1 q3 (2 : Int32))), (nar .byte (fn1 q3 (3 : Int32))), (nar .byte (fn1 q3 (4 : Int32))), (nar .byte (fn1 q3 (5 : Int32))), (nar .byte (fn1 q3 (6 : Int32))), (nar .byte (fn1 q3 (7 : Int32))), (nar .byte (fn1 q3 (8 : Int32))), (nar .byte (fn1 q3 (9 : Int32)))] rfl rfl
set_option maxRecDepth 65536 in
set_option maxHeartbeats 40000000 in
theorem rm0 (l : Launch) (Z : State) (a0 : Array Value) (hw : ∀ d ∈ tables_1, d.before a0 Z = true) (ws : List Jvm.Cond) (q0 : Int64) (i1 : Int32) (i2 : Int32) (q3 : Int64) (h0 : Heap) (n0 : Nat) (Z0 : n0 ≤ h0.size) : MetP l x code maxLocals ret ws room_1 Z #[(.long q0), (.int i1), (.int i2), (.long q3)] h0 (fun v h L => v = some (.int (1 : Int32)) ∧ Fr n0 L) := by
  refine met_go pn_0 ?_
  intro p e s m below meth c s₁ hx hby hml hown hnm hret hlk hZ e0 X0
  have N0 := Fr.nil n0
  rw [ef_0 m q0 i1 i2 q3]
  refine o_iloadN 1 X0 hx rfl (hb hby at_0) rfl ?_
  refine o_ldcInt 3 X0 hx rfl hZ hown (wd_0 hw) (hb hby at_1) ?_
  refine o_iand 4 X0 hx rfl (hb hby at_3) ?_
  refine o_bipush 6 X0 hx rfl (hb hby at_4) (9 : Int32) rfl ?_
  refine o_irem 7 X0 hx rfl (hb hby at_6) (by decide) ?_
  refine o_istore 9 X0 hx rfl (hb hby at_7) #[.val (.long q0), .second, .val (.int i1), .val (.int i2), .val (.long q3), .second, .val (.int (f0_7 i1)), .unset, .unset, .unset, .unset] rfl ?_
  obtain ⟨Ln, hLn, hl⟩ := own_L i1
  rw [hl]
  refine o_iloadN 10 X0 hx rfl (hb hby at_9) rfl ?_
  refine o_ldcInt 12 X0 hx rfl hZ hown (wd_0 hw) (hb hby at_10) ?_
  refine o_iand 13 X0 hx rfl (hb hby at_12) ?_
  refine o_bipush 15 X0 hx rfl (hb hby at_13) (11 : Int32) rfl ?_
  refine o_iload 17 X0 hx rfl (hb hby at_15) rfl ?_
  refine o_isub 18 X0 hx rfl (hb hby at_17) ?_
  refine o_irem 19 X0 hx rfl (hb hby at_18) (own_nz hLn) ?_
  refine o_istore 21 X0 hx rfl (hb hby at_19) #[.val (.long q0), .second, .val (.int i1), .val (.int i2), .val (.long q3), .second, .val (.int (Int32.ofNat Ln)), .val (.int ((i2 &&& (2147483647 : Int32)) % ((11 : Int32) - (Int32.ofNat Ln)))), .unset, .unset, .unset] rfl ?_
  obtain ⟨O, hO, ho⟩ := own_O i2 hLn
  rw [ho]
  refine o_iload 23 X0 hx rfl (hb hby at_21) rfl ?_
  refine o_bipush 25 X0 hx rfl (hb hby at_23) (8 : Int32) rfl ?_
  suffices j43_1 : Go p.tables e below (EndE s room_1 (fun v h L => v = some (.int (1 : Int32)) ∧ Fr n0 L)) (s₁.setTop (mkF m 43 #[.val (.long q0), .second, .val (.int i1), .val (.int i2), .val (.long q3), .second, .val (.int (Int32.ofNat Ln)), .val (.int (Int32.ofNat O)), .unset, .unset, .unset] [(.long (f0_43_s0 Ln q0))])) by
    by_cases hc25_2 : (Int32.ofNat Ln) = (8 : Int32)
    · refine o_icmpNo 28 X0 hx rfl (hb hby at_25) (teq hc25_2).2 ?_
      refine o_lloadN 29 X0 hx rfl (hb hby at_28) rfl ?_
      refine o_goto 43 X0 hx (hb hby at_29) (by decide) (by decide) ?_
      rw [show (f0_43_s0 Ln q0) = q0 from by unfold f0_43_s0; simp only [if_pos hc25_2]] at j43_1
      exact j43_1
    · refine o_icmpYes 32 X0 hx (hb hby at_25) (feq hc25_2).2 (by decide) (by decide) ?_
      refine o_lloadN 33 X0 hx rfl (hb hby at_32) rfl ?_
      refine o_lconst 34 X0 hx rfl (hb hby at_33) (1 : Int64) rfl ?_
      refine o_bipush 36 X0 hx rfl (hb hby at_34) (8 : Int32) rfl ?_
      refine o_iload 38 X0 hx rfl (hb hby at_36) rfl ?_
      refine o_imul 39 X0 hx rfl (hb hby at_38) ?_
      refine o_lshl 40 X0 hx rfl (hb hby at_39) ?_
      refine o_lconst 41 X0 hx rfl (hb hby at_40) (1 : Int64) rfl ?_
      refine o_lsub 42 X0 hx rfl (hb hby at_41) ?_
      refine o_land 43 X0 hx rfl (hb hby at_42) ?_
      rw [show (f0_43_s0 Ln q0) = (q0 &&& (((1 : Int64) <<< (((8 : Int32) * (Int32.ofNat Ln)) &&& 0x3f).toInt64) - (1 : Int64))) from by unfold f0_43_s0; simp only [if_neg hc25_2]] at j43_1
      exact j43_1
  refine o_lstore 45 X0 hx rfl (hb hby at_43) #[.val (.long q0), .second, .val (.int i1), .val (.int i2), .val (.long q3), .second, .val (.int (Int32.ofNat Ln)), .val (.int (Int32.ofNat O)), .val (.long (f0_43_s0 Ln q0)), .second, .unset] rfl ?_
  refine o_bipush 47 X0 hx rfl (hb hby at_45) (10 : Int32) rfl ?_
  refine o_newarrI 49 X0 hx rfl hZ .byte .byte rfl rfl (wd_1 hw) e0 (hb hby at_47) (by decide) 10 (by decide) (by decide) (by decide) (by decide) [(0 : Int32), (0 : Int32), (0 : Int32), (0 : Int32), (0 : Int32), (0 : Int32), (0 : Int32), (0 : Int32), (0 : Int32), (0 : Int32)] rfl fun T3 h3 a3 k3 g3 X3 e3 E3 A3 => ?_
  have ge4 : n0 ≤ a3 := Nat.le_trans Z0 (Nat.le_of_eq g3.symm)
  have sz5 : n0 ≤ h3.size := Nat.le_trans Z0 E3.1
  refine o_astore 51 X3 hx rfl (hb hby at_49) rfl #[.val (.long q0), .second, .val (.int i1), .val (.int i2), .val (.long q3), .second, .val (.int (Int32.ofNat Ln)), .val (.int (Int32.ofNat O)), .val (.long (f0_43_s0 Ln q0)), .second, .val (.ref a3)] rfl ?_
  refine o_aload 53 X3 hx rfl (hb hby at_51) rfl rfl ?_
  refine o_iconst 54 X3 hx rfl (hb hby at_53) (0 : Int32) rfl ?_
  refine o_lload 56 X3 hx rfl (hb hby at_54) rfl ?_
  refine o_iconst 57 X3 hx rfl (hb hby at_56) (0 : Int32) rfl ?_
  refine o_callP (rv := (.int (fn1 q3 (0 : Int32)))) 60 X3 hx rfl hZ hown (wd_2 hw) (wd_3 hw) (wd_4 hw) (wd_5 hw) (by decide) e3 (rm1 l Z a0 hw q3 (0 : Int32) h3) pd_lJIrB [(.long q3), (.int (0 : Int32))] [(.int (0 : Int32)), (.ref a3)] rfl rfl (by rw [hml]; rfl) rfl (hb hby at_57) 2 (Nat.le_of_eq rfl) (by decide) (by decide) (by decide) (by decide) rfl rfl fun T6 X6 e6 => ?_
  refine o_bastoreBX 61 X6 hx rfl hZ e6 A3 (by decide) (Nat.le_of_ble_eq_true rfl) [(nar .byte (fn1 q3 (0 : Int32))), (0 : Int32), (0 : Int32), (0 : Int32), (0 : Int32), (0 : Int32), (0 : Int32), (0 : Int32), (0 : Int32), (0 : Int32)] rfl N0 ge4 (hb hby at_60) fun T7 h7 L7 X7 N7 e7 W7 A7 => ?_
  have sz8 : n0 ≤ h7.size := Nat.le_trans sz5 (Keep.of_wr W7).1
  refine o_aload 63 X7 hx rfl (hb hby at_61) rfl rfl ?_
  refine o_iconst 64 X7 hx rfl (hb hby at_63) (1 : Int32) rfl ?_
  refine o_lload 66 X7 hx rfl (hb hby at_64) rfl ?_
  refine o_iconst 67 X7 hx rfl (hb hby at_66) (1 : Int32) rfl ?_
  refine o_callP (rv := (.int (fn1 q3 (1 : Int32)))) 70 X7 hx rfl hZ hown (wd_2 hw) (wd_3 hw) (wd_4 hw) (wd_5 hw) (by decide) e7 (rm1 l Z a0 hw q3 (1 : Int32) h7) pd_lJIrB [(.long q3), (.int (1 : Int32))] [(.int (1 : Int32)), (.ref a3)] rfl rfl (by rw [hml]; rfl) rfl (hb hby at_67) 2 (Nat.le_of_eq rfl) (by decide) (by decide) (by decide) (by decide) rfl rfl fun T9 X9 e9 => ?_
  refine o_bastoreBX 71 X9 hx rfl hZ e9 A7 (by decide) (Nat.le_of_ble_eq_true rfl) [(nar .byte (fn1 q3 (0 : Int32))), (nar .byte (fn1 q3 (1 : Int32))), (0 : Int32), (0 : Int32), (0 : Int32), (0 : Int32), (0 : Int32), (0 : Int32), (0 : Int32), (0 : Int32)] rfl N7 ge4 (hb hby at_70) fun T10 h10 L10 X10 N10 e10 W10 A10 => ?_
  have sz11 : n0 ≤ h10.size := Nat.le_trans sz8 (Keep.of_wr W10).1
  refine o_aload 73 X10 hx rfl (hb hby at_71) rfl rfl ?_
  refine o_iconst 74 X10 hx rfl (hb hby at_73) (2 : Int32) rfl ?_
  refine o_lload 76 X10 hx rfl (hb hby at_74) rfl ?_
  refine o_iconst 77 X10 hx rfl (hb hby at_76) (2 : Int32) rfl ?_
  refine o_callP (rv := (.int (fn1 q3 (2 : Int32)))) 80 X10 hx rfl hZ hown (wd_2 hw) (wd_3 hw) (wd_4 hw) (wd_5 hw) (by decide) e10 (rm1 l Z a0 hw q3 (2 : Int32) h10) pd_lJIrB [(.long q3), (.int (2 : Int32))] [(.int (2 : Int32)), (.ref a3)] rfl rfl (by rw [hml]; rfl) rfl (hb hby at_77) 2 (Nat.le_of_eq rfl) (by decide) (by decide) (by decide) (by decide) rfl rfl fun T12 X12 e12 => ?_
  refine o_bastoreBX 81 X12 hx rfl hZ e12 A10 (by decide) (Nat.le_of_ble_eq_true rfl) [(nar .byte (fn1 q3 (0 : Int32))), (nar .byte (fn1 q3 (1 : Int32))), (nar .byte (fn1 q3 (2 : Int32))), (0 : Int32), (0 : Int32), (0 : Int32), (0 : Int32), (0 : Int32), (0 : Int32), (0 : Int32)] rfl N10 ge4 (hb hby at_80) fun T13 h13 L13 X13 N13 e13 W13 A13 => ?_
  have sz14 : n0 ≤ h13.size := Nat.le_trans sz11 (Keep.of_wr W13).1
  refine o_aload 83 X13 hx rfl (hb hby at_81) rfl rfl ?_
  refine o_iconst 84 X13 hx rfl (hb hby at_83) (3 : Int32) rfl ?_
  refine o_lload 86 X13 hx rfl (hb hby at_84) rfl ?_
  refine o_iconst 87 X13 hx rfl (hb hby at_86) (3 : Int32) rfl ?_
  refine o_callP (rv := (.int (fn1 q3 (3 : Int32)))) 90 X13 hx rfl hZ hown (wd_2 hw) (wd_3 hw) (wd_4 hw) (wd_5 hw) (by decide) e13 (rm1 l Z a0 hw q3 (3 : Int32) h13) pd_lJIrB [(.long q3), (.int (3 : Int32))] [(.int (3 : Int32)), (.ref a3)] rfl rfl (by rw [hml]; rfl) rfl (hb hby at_87) 2 (Nat.le_of_eq rfl) (by decide) (by decide) (by decide) (by decide) rfl rfl fun T15 X15 e15 => ?_
  refine o_bastoreBX 91 X15 hx rfl hZ e15 A13 (by decide) (Nat.le_of_ble_eq_true rfl) [(nar .byte (fn1 q3 (0 : Int32))), (nar .byte (fn1 q3 (1 : Int32))), (nar .byte (fn1 q3 (2 : Int32))), (nar .byte (fn1 q3 (3 : Int32))), (0 : Int32), (0 : Int32), (0 : Int32), (0 : Int32), (0 : Int32), (0 : Int32)] rfl N13 ge4 (hb hby at_90) fun T16 h16 L16 X16 N16 e16 W16 A16 => ?_
  have sz17 : n0 ≤ h16.size := Nat.le_trans sz14 (Keep.of_wr W16).1
  refine o_aload 93 X16 hx rfl (hb hby at_91) rfl rfl ?_
  refine o_iconst 94 X16 hx rfl (hb hby at_93) (4 : Int32) rfl ?_
  refine o_lload 96 X16 hx rfl (hb hby at_94) rfl ?_
  refine o_iconst 97 X16 hx rfl (hb hby at_96) (4 : Int32) rfl ?_
  refine o_callP (rv := (.int (fn1 q3 (4 : Int32)))) 100 X16 hx rfl hZ hown (wd_2 hw) (wd_3 hw) (wd_4 hw) (wd_5 hw) (by decide) e16 (rm1 l Z a0 hw q3 (4 : Int32) h16) pd_lJIrB [(.long q3), (.int (4 : Int32))] [(.int (4 : Int32)), (.ref a3)] rfl rfl (by rw [hml]; rfl) rfl (hb hby at_97) 2 (Nat.le_of_eq rfl) (by decide) (by decide) (by decide) (by decide) rfl rfl fun T18 X18 e18 => ?_
  refine o_bastoreBX 101 X18 hx rfl hZ e18 A16 (by decide) (Nat.le_of_ble_eq_true rfl) [(nar .byte (fn1 q3 (0 : Int32))), (nar .byte (fn1 q3 (1 : Int32))), (nar .byte (fn1 q3 (2 : Int32))), (nar .byte (fn1 q3 (3 : Int32))), (nar .byte (fn1 q3 (4 : Int32))), (0 : Int32), (0 : Int32), (0 : Int32), (0 : Int32), (0 : Int32)] rfl N16 ge4 (hb hby at_100) fun T19 h19 L19 X19 N19 e19 W19 A19 => ?_
  have sz20 : n0 ≤ h19.size := Nat.le_trans sz17 (Keep.of_wr W19).1
  refine o_aload 103 X19 hx rfl (hb hby at_101) rfl rfl ?_
  refine o_iconst 104 X19 hx rfl (hb hby at_103) (5 : Int32) rfl ?_
  refine o_lload 106 X19 hx rfl (hb hby at_104) rfl ?_
  refine o_iconst 107 X19 hx rfl (hb hby at_106) (5 : Int32) rfl ?_
  refine o_callP (rv := (.int (fn1 q3 (5 : Int32)))) 110 X19 hx rfl hZ hown (wd_2 hw) (wd_3 hw) (wd_4 hw) (wd_5 hw) (by decide) e19 (rm1 l Z a0 hw q3 (5 : Int32) h19) pd_lJIrB [(.long q3), (.int (5 : Int32))] [(.int (5 : Int32)), (.ref a3)] rfl rfl (by rw [hml]; rfl) rfl (hb hby at_107) 2 (Nat.le_of_eq rfl) (by decide) (by decide) (by decide) (by decide) rfl rfl fun T21 X21 e21 => ?_
  refine o_bastoreBX 111 X21 hx rfl hZ e21 A19 (by decide) (Nat.le_of_ble_eq_true rfl) [(nar .byte (fn1 q3 (0 : Int32))), (nar .byte (fn1 q3 (1 : Int32))), (nar .byte (fn1 q3 (2 : Int32))), (nar .byte (fn1 q3 (3 : Int32))), (nar .byte (fn1 q3 (4 : Int32))), (nar .byte (fn1 q3 (5 : Int32))), (0 : Int32), (0 : Int32), (0 : Int32), (0 : Int32)] rfl N19 ge4 (hb hby at_110) fun T22 h22 L22 X22 N22 e22 W22 A22 => ?_
  have sz23 : n0 ≤ h22.size := Nat.le_trans sz20 (Keep.of_wr W22).1
  refine o_aload 113 X22 hx rfl (hb hby at_111) rfl rfl ?_
  refine o_bipush 115 X22 hx rfl (hb hby at_113) (6 : Int32) rfl ?_
  refine o_lload 117 X22 hx rfl (hb hby at_115) rfl ?_
  refine o_bipush 119 X22 hx rfl (hb hby at_117) (6 : Int32) rfl ?_
  refine o_callP (rv := (.int (fn1 q3 (6 : Int32)))) 122 X22 hx rfl hZ hown (wd_2 hw) (wd_3 hw) (wd_4 hw) (wd_5 hw) (by decide) e22 (rm1 l Z a0 hw q3 (6 : Int32) h22) pd_lJIrB [(.long q3), (.int (6 : Int32))] [(.int (6 : Int32)), (.ref a3)] rfl rfl (by rw [hml]; rfl) rfl (hb hby at_119) 2 (Nat.le_of_eq rfl) (by decide) (by decide) (by decide) (by decide) rfl rfl fun T24 X24 e24 => ?_
  refine o_bastoreBX 123 X24 hx rfl hZ e24 A22 (by decide) (Nat.le_of_ble_eq_true rfl) [(nar .byte (fn1 q3 (0 : Int32))), (nar .byte (fn1 q3 (1 : Int32))), (nar .byte (fn1 q3 (2 : Int32))), (nar .byte (fn1 q3 (3 : Int32))), (nar .byte (fn1 q3 (4 : Int32))), (nar .byte (fn1 q3 (5 : Int32))), (nar .byte (fn1 q3 (6 : Int32))), (0 : Int32), (0 : Int32), (0 : Int32)] rfl N22 ge4 (hb hby at_122) fun T25 h25 L25 X25 N25 e25 W25 A25 => ?_
  have sz26 : n0 ≤ h25.size := Nat.le_trans sz23 (Keep.of_wr W25).1
  refine o_aload 125 X25 hx rfl (hb hby at_123) rfl rfl ?_
  refine o_bipush 127 X25 hx rfl (hb hby at_125) (7 : Int32) rfl ?_
  refine o_lload 129 X25 hx rfl (hb hby at_127) rfl ?_
  refine o_bipush 131 X25 hx rfl (hb hby at_129) (7 : Int32) rfl ?_
  refine o_callP (rv := (.int (fn1 q3 (7 : Int32)))) 134 X25 hx rfl hZ hown (wd_2 hw) (wd_3 hw) (wd_4 hw) (wd_5 hw) (by decide) e25 (rm1 l Z a0 hw q3 (7 : Int32) h25) pd_lJIrB [(.long q3), (.int (7 : Int32))] [(.int (7 : Int32)), (.ref a3)] rfl rfl (by rw [hml]; rfl) rfl (hb hby at_131) 2 (Nat.le_of_eq rfl) (by decide) (by decide) (by decide) (by decide) rfl rfl fun T27 X27 e27 => ?_
  refine o_bastoreBX 135 X27 hx rfl hZ e27 A25 (by decide) (Nat.le_of_ble_eq_true rfl) [(nar .byte (fn1 q3 (0 : Int32))), (nar .byte (fn1 q3 (1 : Int32))), (nar .byte (fn1 q3 (2 : Int32))), (nar .byte (fn1 q3 (3 : Int32))), (nar .byte (fn1 q3 (4 : Int32))), (nar .byte (fn1 q3 (5 : Int32))), (nar .byte (fn1 q3 (6 : Int32))), (nar .byte (fn1 q3 (7 : Int32))), (0 : Int32), (0 : Int32)] rfl N25 ge4 (hb hby at_134) fun T28 h28 L28 X28 N28 e28 W28 A28 => ?_
  have sz29 : n0 ≤ h28.size := Nat.le_trans sz26 (Keep.of_wr W28).1
  refine o_aload 137 X28 hx rfl (hb hby at_135) rfl rfl ?_
  refine o_bipush 139 X28 hx rfl (hb hby at_137) (8 : Int32) rfl ?_
  refine o_lload 141 X28 hx rfl (hb hby at_139) rfl ?_
  refine o_bipush 143 X28 hx rfl (hb hby at_141) (8 : Int32) rfl ?_
  refine o_callP (rv := (.int (fn1 q3 (8 : Int32)))) 146 X28 hx rfl hZ hown (wd_2 hw) (wd_3 hw) (wd_4 hw) (wd_5 hw) (by decide) e28 (rm1 l Z a0 hw q3 (8 : Int32) h28) pd_lJIrB [(.long q3), (.int (8 : Int32))] [(.int (8 : Int32)), (.ref a3)] rfl rfl (by rw [hml]; rfl) rfl (hb hby at_143) 2 (Nat.le_of_eq rfl) (by decide) (by decide) (by decide) (by decide) rfl rfl fun T30 X30 e30 => ?_
  refine o_bastoreBX 147 X30 hx rfl hZ e30 A28 (by decide) (Nat.le_of_ble_eq_true rfl) [(nar .byte (fn1 q3 (0 : Int32))), (nar .byte (fn1 q3 (1 : Int32))), (nar .byte (fn1 q3 (2 : Int32))), (nar .byte (fn1 q3 (3 : Int32))), (nar .byte (fn1 q3 (4 : Int32))), (nar .byte (fn1 q3 (5 : Int32))), (nar .byte (fn1 q3 (6 : Int32))), (nar .byte (fn1 q3 (7 : Int32))), (nar .byte (fn1 q3 (8 : Int32))), (0 : Int32)] rfl N28 ge4 (hb hby at_146) fun T31 h31 L31 X31 N31 e31 W31 A31 => ?_
  have sz32 : n0 ≤ h31.size := Nat.le_trans sz29 (Keep.of_wr W31).1
  refine o_aload 149 X31 hx rfl (hb hby at_147) rfl rfl ?_
  refine o_bipush 151 X31 hx rfl (hb hby at_149) (9 : Int32) rfl ?_
  refine o_lload 153 X31 hx rfl (hb hby at_151) rfl ?_
  refine o_bipush 155 X31 hx rfl (hb hby at_153) (9 : Int32) rfl ?_
  refine o_callP (rv := (.int (fn1 q3 (9 : Int32)))) 158 X31 hx rfl hZ hown (wd_2 hw) (wd_3 hw) (wd_4 hw) (wd_5 hw) (by decide) e31 (rm1 l Z a0 hw q3 (9 : Int32) h31) pd_lJIrB [(.long q3), (.int (9 : Int32))] [(.int (9 : Int32)), (.ref a3)] rfl rfl (by rw [hml]; rfl) rfl (hb hby at_155) 2 (Nat.le_of_eq rfl) (by decide) (by decide) (by decide) (by decide) rfl rfl fun T33 X33 e33 => ?_
  refine o_bastoreBX 159 X33 hx rfl hZ e33 A31 (by decide) (Nat.le_of_ble_eq_true rfl) [(nar .byte (fn1 q3 (0 : Int32))), (nar .byte (fn1 q3 (1 : Int32))), (nar .byte (fn1 q3 (2 : Int32))), (nar .byte (fn1 q3 (3 : Int32))), (nar .byte (fn1 q3 (4 : Int32))), (nar .byte (fn1 q3 (5 : Int32))), (nar .byte (fn1 q3 (6 : Int32))), (nar .byte (fn1 q3 (7 : Int32))), (nar .byte (fn1 q3 (8 : Int32))), (nar .byte (fn1 q3 (9 : Int32)))] rfl N31 ge4 (hb hby at_158) fun T34 h34 L34 X34 N34 e34 W34 A34 => ?_
  have sz35 : n0 ≤ h34.size := Nat.le_trans sz32 (Keep.of_wr W34).1
  refine o_lload 161 X34 hx rfl (hb hby at_159) rfl ?_
  refine o_aload 163 X34 hx rfl (hb hby at_161) rfl rfl ?_
  refine o_iload 165 X34 hx rfl (hb hby at_163) rfl ?_
  refine o_iload 167 X34 hx rfl (hb hby at_165) rfl ?_
  refine o_callSw 170 X34 hx rfl hZ hown (wd_6 hw) (wd_7 hw) (wd_8 hw) (wd_9 hw) (by decide) e34 N34 (rm2 l Z a0 hw (f0_43_s0 Ln q0) a3 O Ln 10 k3 [(nar .byte (fn1 q3 (0 : Int32))), (nar .byte (fn1 q3 (1 : Int32))), (nar .byte (fn1 q3 (2 : Int32))), (nar .byte (fn1 q3 (3 : Int32))), (nar .byte (fn1 q3 (4 : Int32))), (nar .byte (fn1 q3 (5 : Int32))), (nar .byte (fn1 q3 (6 : Int32))), (nar .byte (fn1 q3 (7 : Int32))), (nar .byte (fn1 q3 (8 : Int32))), (nar .byte (fn1 q3 (9 : Int32)))] h34 n0 sz35 ge4 (by decide) (by omega) rfl A34) pd_lJaBIIrV [(.long (f0_43_s0 Ln q0)), (.ref a3), (.int (Int32.ofNat O)), (.int (Int32.ofNat Ln))] [] rfl rfl (by rw [hml]; rfl) rfl (hb hby at_167) 0 (Nat.le_of_eq rfl) (by decide) (by decide) (by decide) (by decide) fun v36 T36 L36 LL36 X36 Q36 NF36 => ?_
  obtain ⟨rfl, M36, K36, A36⟩ := Q36
  have NN36 := NF36 M36
  have sz37 : n0 ≤ T36.heap.size := Nat.le_trans sz35 K36.1
  show Go p.tables e below (EndE s room_1 (fun v h L => v = some (.int (1 : Int32)) ∧ Fr n0 L)) (T36.setTop (mkF m 170 #[.val (.long q0), .second, .val (.int i1), .val (.int i2), .val (.long q3), .second, .val (.int (Int32.ofNat Ln)), .val (.int (Int32.ofNat O)), .val (.long (f0_43_s0 Ln q0)), .second, .val (.ref a3)] []))
  refine o_aload 172 X36 hx rfl (hb hby at_170) rfl rfl ?_
  refine o_iconst 173 X36 hx rfl (hb hby at_172) (0 : Int32) rfl ?_
  refine o_lload 175 X36 hx rfl (hb hby at_173) rfl ?_
  refine o_iload 177 X36 hx rfl (hb hby at_175) rfl ?_
  refine o_iload 179 X36 hx rfl (hb hby at_177) rfl ?_
  refine o_lload 181 X36 hx rfl (hb hby at_179) rfl ?_
  refine o_callP (rv := (.int (fn3 (0 : Int32) (f0_43_s0 Ln q0) (Int32.ofNat O) (Int32.ofNat Ln) q3 (own_wr O Ln (f0_43_s0 Ln q0) [(nar .byte (fn1 q3 (0 : Int32))), (nar .byte (fn1 q3 (1 : Int32))), (nar .byte (fn1 q3 (2 : Int32))), (nar .byte (fn1 q3 (3 : Int32))), (nar .byte (fn1 q3 (4 : Int32))), (nar .byte (fn1 q3 (5 : Int32))), (nar .byte (fn1 q3 (6 : Int32))), (nar .byte (fn1 q3 (7 : Int32))), (nar .byte (fn1 q3 (8 : Int32))), (nar .byte (fn1 q3 (9 : Int32)))])))) 184 X36 hx rfl hZ hown (wd_10 hw) (wd_11 hw) (wd_4 hw) (wd_12 hw) (by decide) rfl (rm3 l Z a0 hw a3 (0 : Int32) (f0_43_s0 Ln q0) (Int32.ofNat O) (Int32.ofNat Ln) q3 k3 (own_wr O Ln (f0_43_s0 Ln q0) [(nar .byte (fn1 q3 (0 : Int32))), (nar .byte (fn1 q3 (1 : Int32))), (nar .byte (fn1 q3 (2 : Int32))), (nar .byte (fn1 q3 (3 : Int32))), (nar .byte (fn1 q3 (4 : Int32))), (nar .byte (fn1 q3 (5 : Int32))), (nar .byte (fn1 q3 (6 : Int32))), (nar .byte (fn1 q3 (7 : Int32))), (nar .byte (fn1 q3 (8 : Int32))), (nar .byte (fn1 q3 (9 : Int32)))]) T36.heap A36 (by decide)) pd_laBIJIIJrZ [(.ref a3), (.int (0 : Int32)), (.long (f0_43_s0 Ln q0)), (.int (Int32.ofNat O)), (.int (Int32.ofNat Ln)), (.long q3)] [] rfl rfl (by rw [hml]; rfl) rfl (hb hby at_181) 0 (Nat.le_of_eq rfl) (by decide) (by decide) (by decide) (by decide) rfl rfl fun T38 X38 e38 => ?_
  refine o_ifNo 187 X38 hx rfl (hb hby at_184) (feq (own_ok0 i1 q0 q3 O Ln hO hLn)).1 ?_
  refine o_aload 189 X38 hx rfl (hb hby at_187) rfl rfl ?_
  refine o_iconst 190 X38 hx rfl (hb hby at_189) (1 : Int32) rfl ?_
  refine o_lload 192 X38 hx rfl (hb hby at_190) rfl ?_
  refine o_iload 194 X38 hx rfl (hb hby at_192) rfl ?_
  refine o_iload 196 X38 hx rfl (hb hby at_194) rfl ?_
  refine o_lload 198 X38 hx rfl (hb hby at_196) rfl ?_
  refine o_callP (rv := (.int (fn3 (1 : Int32) (f0_43_s0 Ln q0) (Int32.ofNat O) (Int32.ofNat Ln) q3 (own_wr O Ln (f0_43_s0 Ln q0) [(nar .byte (fn1 q3 (0 : Int32))), (nar .byte (fn1 q3 (1 : Int32))), (nar .byte (fn1 q3 (2 : Int32))), (nar .byte (fn1 q3 (3 : Int32))), (nar .byte (fn1 q3 (4 : Int32))), (nar .byte (fn1 q3 (5 : Int32))), (nar .byte (fn1 q3 (6 : Int32))), (nar .byte (fn1 q3 (7 : Int32))), (nar .byte (fn1 q3 (8 : Int32))), (nar .byte (fn1 q3 (9 : Int32)))])))) 201 X38 hx rfl hZ hown (wd_10 hw) (wd_11 hw) (wd_4 hw) (wd_12 hw) (by decide) e38 (rm3 l Z a0 hw a3 (1 : Int32) (f0_43_s0 Ln q0) (Int32.ofNat O) (Int32.ofNat Ln) q3 k3 (own_wr O Ln (f0_43_s0 Ln q0) [(nar .byte (fn1 q3 (0 : Int32))), (nar .byte (fn1 q3 (1 : Int32))), (nar .byte (fn1 q3 (2 : Int32))), (nar .byte (fn1 q3 (3 : Int32))), (nar .byte (fn1 q3 (4 : Int32))), (nar .byte (fn1 q3 (5 : Int32))), (nar .byte (fn1 q3 (6 : Int32))), (nar .byte (fn1 q3 (7 : Int32))), (nar .byte (fn1 q3 (8 : Int32))), (nar .byte (fn1 q3 (9 : Int32)))]) T36.heap A36 (by decide)) pd_laBIJIIJrZ [(.ref a3), (.int (1 : Int32)), (.long (f0_43_s0 Ln q0)), (.int (Int32.ofNat O)), (.int (Int32.ofNat Ln)), (.long q3)] [] rfl rfl (by rw [hml]; rfl) rfl (hb hby at_198) 0 (Nat.le_of_eq rfl) (by decide) (by decide) (by decide) (by decide) rfl rfl fun T39 X39 e39 => ?_
  refine o_ifNo 204 X39 hx rfl (hb hby at_201) (feq (own_ok1 i1 q0 q3 O Ln hO hLn)).1 ?_
  refine o_aload 206 X39 hx rfl (hb hby at_204) rfl rfl ?_
  refine o_iconst 207 X39 hx rfl (hb hby at_206) (2 : Int32) rfl ?_
  refine o_lload 209 X39 hx rfl (hb hby at_207) rfl ?_
  refine o_iload 211 X39 hx rfl (hb hby at_209) rfl ?_
  refine o_iload 213 X39 hx rfl (hb hby at_211) rfl ?_
  refine o_lload 215 X39 hx rfl (hb hby at_213) rfl ?_
  refine o_callP (rv := (.int (fn3 (2 : Int32) (f0_43_s0 Ln q0) (Int32.ofNat O) (Int32.ofNat Ln) q3 (own_wr O Ln (f0_43_s0 Ln q0) [(nar .byte (fn1 q3 (0 : Int32))), (nar .byte (fn1 q3 (1 : Int32))), (nar .byte (fn1 q3 (2 : Int32))), (nar .byte (fn1 q3 (3 : Int32))), (nar .byte (fn1 q3 (4 : Int32))), (nar .byte (fn1 q3 (5 : Int32))), (nar .byte (fn1 q3 (6 : Int32))), (nar .byte (fn1 q3 (7 : Int32))), (nar .byte (fn1 q3 (8 : Int32))), (nar .byte (fn1 q3 (9 : Int32)))])))) 218 X39 hx rfl hZ hown (wd_10 hw) (wd_11 hw) (wd_4 hw) (wd_12 hw) (by decide) e39 (rm3 l Z a0 hw a3 (2 : Int32) (f0_43_s0 Ln q0) (Int32.ofNat O) (Int32.ofNat Ln) q3 k3 (own_wr O Ln (f0_43_s0 Ln q0) [(nar .byte (fn1 q3 (0 : Int32))), (nar .byte (fn1 q3 (1 : Int32))), (nar .byte (fn1 q3 (2 : Int32))), (nar .byte (fn1 q3 (3 : Int32))), (nar .byte (fn1 q3 (4 : Int32))), (nar .byte (fn1 q3 (5 : Int32))), (nar .byte (fn1 q3 (6 : Int32))), (nar .byte (fn1 q3 (7 : Int32))), (nar .byte (fn1 q3 (8 : Int32))), (nar .byte (fn1 q3 (9 : Int32)))]) T36.heap A36 (by decide)) pd_laBIJIIJrZ [(.ref a3), (.int (2 : Int32)), (.long (f0_43_s0 Ln q0)), (.int (Int32.ofNat O)), (.int (Int32.ofNat Ln)), (.long q3)] [] rfl rfl (by rw [hml]; rfl) rfl (hb hby at_215) 0 (Nat.le_of_eq rfl) (by decide) (by decide) (by decide) (by decide) rfl rfl fun T40 X40 e40 => ?_
  refine o_ifNo 221 X40 hx rfl (hb hby at_218) (feq (own_ok2 i1 q0 q3 O Ln hO hLn)).1 ?_
  refine o_aload 223 X40 hx rfl (hb hby at_221) rfl rfl ?_
  refine o_iconst 224 X40 hx rfl (hb hby at_223) (3 : Int32) rfl ?_
  refine o_lload 226 X40 hx rfl (hb hby at_224) rfl ?_
  refine o_iload 228 X40 hx rfl (hb hby at_226) rfl ?_
  refine o_iload 230 X40 hx rfl (hb hby at_228) rfl ?_
  refine o_lload 232 X40 hx rfl (hb hby at_230) rfl ?_
  refine o_callP (rv := (.int (fn3 (3 : Int32) (f0_43_s0 Ln q0) (Int32.ofNat O) (Int32.ofNat Ln) q3 (own_wr O Ln (f0_43_s0 Ln q0) [(nar .byte (fn1 q3 (0 : Int32))), (nar .byte (fn1 q3 (1 : Int32))), (nar .byte (fn1 q3 (2 : Int32))), (nar .byte (fn1 q3 (3 : Int32))), (nar .byte (fn1 q3 (4 : Int32))), (nar .byte (fn1 q3 (5 : Int32))), (nar .byte (fn1 q3 (6 : Int32))), (nar .byte (fn1 q3 (7 : Int32))), (nar .byte (fn1 q3 (8 : Int32))), (nar .byte (fn1 q3 (9 : Int32)))])))) 235 X40 hx rfl hZ hown (wd_10 hw) (wd_11 hw) (wd_4 hw) (wd_12 hw) (by decide) e40 (rm3 l Z a0 hw a3 (3 : Int32) (f0_43_s0 Ln q0) (Int32.ofNat O) (Int32.ofNat Ln) q3 k3 (own_wr O Ln (f0_43_s0 Ln q0) [(nar .byte (fn1 q3 (0 : Int32))), (nar .byte (fn1 q3 (1 : Int32))), (nar .byte (fn1 q3 (2 : Int32))), (nar .byte (fn1 q3 (3 : Int32))), (nar .byte (fn1 q3 (4 : Int32))), (nar .byte (fn1 q3 (5 : Int32))), (nar .byte (fn1 q3 (6 : Int32))), (nar .byte (fn1 q3 (7 : Int32))), (nar .byte (fn1 q3 (8 : Int32))), (nar .byte (fn1 q3 (9 : Int32)))]) T36.heap A36 (by decide)) pd_laBIJIIJrZ [(.ref a3), (.int (3 : Int32)), (.long (f0_43_s0 Ln q0)), (.int (Int32.ofNat O)), (.int (Int32.ofNat Ln)), (.long q3)] [] rfl rfl (by rw [hml]; rfl) rfl (hb hby at_232) 0 (Nat.le_of_eq rfl) (by decide) (by decide) (by decide) (by decide) rfl rfl fun T41 X41 e41 => ?_
  refine o_ifNo 238 X41 hx rfl (hb hby at_235) (feq (own_ok3 i1 q0 q3 O Ln hO hLn)).1 ?_
  refine o_aload 240 X41 hx rfl (hb hby at_238) rfl rfl ?_
  refine o_iconst 241 X41 hx rfl (hb hby at_240) (4 : Int32) rfl ?_
  refine o_lload 243 X41 hx rfl (hb hby at_241) rfl ?_
  refine o_iload 245 X41 hx rfl (hb hby at_243) rfl ?_
  refine o_iload 247 X41 hx rfl (hb hby at_245) rfl ?_
  refine o_lload 249 X41 hx rfl (hb hby at_247) rfl ?_
  refine o_callP (rv := (.int (fn3 (4 : Int32) (f0_43_s0 Ln q0) (Int32.ofNat O) (Int32.ofNat Ln) q3 (own_wr O Ln (f0_43_s0 Ln q0) [(nar .byte (fn1 q3 (0 : Int32))), (nar .byte (fn1 q3 (1 : Int32))), (nar .byte (fn1 q3 (2 : Int32))), (nar .byte (fn1 q3 (3 : Int32))), (nar .byte (fn1 q3 (4 : Int32))), (nar .byte (fn1 q3 (5 : Int32))), (nar .byte (fn1 q3 (6 : Int32))), (nar .byte (fn1 q3 (7 : Int32))), (nar .byte (fn1 q3 (8 : Int32))), (nar .byte (fn1 q3 (9 : Int32)))])))) 252 X41 hx rfl hZ hown (wd_10 hw) (wd_11 hw) (wd_4 hw) (wd_12 hw) (by decide) e41 (rm3 l Z a0 hw a3 (4 : Int32) (f0_43_s0 Ln q0) (Int32.ofNat O) (Int32.ofNat Ln) q3 k3 (own_wr O Ln (f0_43_s0 Ln q0) [(nar .byte (fn1 q3 (0 : Int32))), (nar .byte (fn1 q3 (1 : Int32))), (nar .byte (fn1 q3 (2 : Int32))), (nar .byte (fn1 q3 (3 : Int32))), (nar .byte (fn1 q3 (4 : Int32))), (nar .byte (fn1 q3 (5 : Int32))), (nar .byte (fn1 q3 (6 : Int32))), (nar .byte (fn1 q3 (7 : Int32))), (nar .byte (fn1 q3 (8 : Int32))), (nar .byte (fn1 q3 (9 : Int32)))]) T36.heap A36 (by decide)) pd_laBIJIIJrZ [(.ref a3), (.int (4 : Int32)), (.long (f0_43_s0 Ln q0)), (.int (Int32.ofNat O)), (.int (Int32.ofNat Ln)), (.long q3)] [] rfl rfl (by rw [hml]; rfl) rfl (hb hby at_249) 0 (Nat.le_of_eq rfl) (by decide) (by decide) (by decide) (by decide) rfl rfl fun T42 X42 e42 => ?_
  refine o_ifNo 255 X42 hx rfl (hb hby at_252) (feq (own_ok4 i1 q0 q3 O Ln hO hLn)).1 ?_
  refine o_aload 257 X42 hx rfl (hb hby at_255) rfl rfl ?_
  refine o_iconst 258 X42 hx rfl (hb hby at_257) (5 : Int32) rfl ?_
  refine o_lload 260 X42 hx rfl (hb hby at_258) rfl ?_
  refine o_iload 262 X42 hx rfl (hb hby at_260) rfl ?_
  refine o_iload 264 X42 hx rfl (hb hby at_262) rfl ?_
  refine o_lload 266 X42 hx rfl (hb hby at_264) rfl ?_
  refine o_callP (rv := (.int (fn3 (5 : Int32) (f0_43_s0 Ln q0) (Int32.ofNat O) (Int32.ofNat Ln) q3 (own_wr O Ln (f0_43_s0 Ln q0) [(nar .byte (fn1 q3 (0 : Int32))), (nar .byte (fn1 q3 (1 : Int32))), (nar .byte (fn1 q3 (2 : Int32))), (nar .byte (fn1 q3 (3 : Int32))), (nar .byte (fn1 q3 (4 : Int32))), (nar .byte (fn1 q3 (5 : Int32))), (nar .byte (fn1 q3 (6 : Int32))), (nar .byte (fn1 q3 (7 : Int32))), (nar .byte (fn1 q3 (8 : Int32))), (nar .byte (fn1 q3 (9 : Int32)))])))) 269 X42 hx rfl hZ hown (wd_10 hw) (wd_11 hw) (wd_4 hw) (wd_12 hw) (by decide) e42 (rm3 l Z a0 hw a3 (5 : Int32) (f0_43_s0 Ln q0) (Int32.ofNat O) (Int32.ofNat Ln) q3 k3 (own_wr O Ln (f0_43_s0 Ln q0) [(nar .byte (fn1 q3 (0 : Int32))), (nar .byte (fn1 q3 (1 : Int32))), (nar .byte (fn1 q3 (2 : Int32))), (nar .byte (fn1 q3 (3 : Int32))), (nar .byte (fn1 q3 (4 : Int32))), (nar .byte (fn1 q3 (5 : Int32))), (nar .byte (fn1 q3 (6 : Int32))), (nar .byte (fn1 q3 (7 : Int32))), (nar .byte (fn1 q3 (8 : Int32))), (nar .byte (fn1 q3 (9 : Int32)))]) T36.heap A36 (by decide)) pd_laBIJIIJrZ [(.ref a3), (.int (5 : Int32)), (.long (f0_43_s0 Ln q0)), (.int (Int32.ofNat O)), (.int (Int32.ofNat Ln)), (.long q3)] [] rfl rfl (by rw [hml]; rfl) rfl (hb hby at_266) 0 (Nat.le_of_eq rfl) (by decide) (by decide) (by decide) (by decide) rfl rfl fun T43 X43 e43 => ?_
  refine o_ifNo 272 X43 hx rfl (hb hby at_269) (feq (own_ok5 i1 q0 q3 O Ln hO hLn)).1 ?_
  refine o_aload 274 X43 hx rfl (hb hby at_272) rfl rfl ?_
  refine o_bipush 276 X43 hx rfl (hb hby at_274) (6 : Int32) rfl ?_
  refine o_lload 278 X43 hx rfl (hb hby at_276) rfl ?_
  refine o_iload 280 X43 hx rfl (hb hby at_278) rfl ?_
  refine o_iload 282 X43 hx rfl (hb hby at_280) rfl ?_
  refine o_lload 284 X43 hx rfl (hb hby at_282) rfl ?_
  refine o_callP (rv := (.int (fn3 (6 : Int32) (f0_43_s0 Ln q0) (Int32.ofNat O) (Int32.ofNat Ln) q3 (own_wr O Ln (f0_43_s0 Ln q0) [(nar .byte (fn1 q3 (0 : Int32))), (nar .byte (fn1 q3 (1 : Int32))), (nar .byte (fn1 q3 (2 : Int32))), (nar .byte (fn1 q3 (3 : Int32))), (nar .byte (fn1 q3 (4 : Int32))), (nar .byte (fn1 q3 (5 : Int32))), (nar .byte (fn1 q3 (6 : Int32))), (nar .byte (fn1 q3 (7 : Int32))), (nar .byte (fn1 q3 (8 : Int32))), (nar .byte (fn1 q3 (9 : Int32)))])))) 287 X43 hx rfl hZ hown (wd_10 hw) (wd_11 hw) (wd_4 hw) (wd_12 hw) (by decide) e43 (rm3 l Z a0 hw a3 (6 : Int32) (f0_43_s0 Ln q0) (Int32.ofNat O) (Int32.ofNat Ln) q3 k3 (own_wr O Ln (f0_43_s0 Ln q0) [(nar .byte (fn1 q3 (0 : Int32))), (nar .byte (fn1 q3 (1 : Int32))), (nar .byte (fn1 q3 (2 : Int32))), (nar .byte (fn1 q3 (3 : Int32))), (nar .byte (fn1 q3 (4 : Int32))), (nar .byte (fn1 q3 (5 : Int32))), (nar .byte (fn1 q3 (6 : Int32))), (nar .byte (fn1 q3 (7 : Int32))), (nar .byte (fn1 q3 (8 : Int32))), (nar .byte (fn1 q3 (9 : Int32)))]) T36.heap A36 (by decide)) pd_laBIJIIJrZ [(.ref a3), (.int (6 : Int32)), (.long (f0_43_s0 Ln q0)), (.int (Int32.ofNat O)), (.int (Int32.ofNat Ln)), (.long q3)] [] rfl rfl (by rw [hml]; rfl) rfl (hb hby at_284) 0 (Nat.le_of_eq rfl) (by decide) (by decide) (by decide) (by decide) rfl rfl fun T44 X44 e44 => ?_
  refine o_ifNo 290 X44 hx rfl (hb hby at_287) (feq (own_ok6 i1 q0 q3 O Ln hO hLn)).1 ?_
  refine o_aload 292 X44 hx rfl (hb hby at_290) rfl rfl ?_
  refine o_bipush 294 X44 hx rfl (hb hby at_292) (7 : Int32) rfl ?_
  refine o_lload 296 X44 hx rfl (hb hby at_294) rfl ?_
  refine o_iload 298 X44 hx rfl (hb hby at_296) rfl ?_
  refine o_iload 300 X44 hx rfl (hb hby at_298) rfl ?_
  refine o_lload 302 X44 hx rfl (hb hby at_300) rfl ?_
  refine o_callP (rv := (.int (fn3 (7 : Int32) (f0_43_s0 Ln q0) (Int32.ofNat O) (Int32.ofNat Ln) q3 (own_wr O Ln (f0_43_s0 Ln q0) [(nar .byte (fn1 q3 (0 : Int32))), (nar .byte (fn1 q3 (1 : Int32))), (nar .byte (fn1 q3 (2 : Int32))), (nar .byte (fn1 q3 (3 : Int32))), (nar .byte (fn1 q3 (4 : Int32))), (nar .byte (fn1 q3 (5 : Int32))), (nar .byte (fn1 q3 (6 : Int32))), (nar .byte (fn1 q3 (7 : Int32))), (nar .byte (fn1 q3 (8 : Int32))), (nar .byte (fn1 q3 (9 : Int32)))])))) 305 X44 hx rfl hZ hown (wd_10 hw) (wd_11 hw) (wd_4 hw) (wd_12 hw) (by decide) e44 (rm3 l Z a0 hw a3 (7 : Int32) (f0_43_s0 Ln q0) (Int32.ofNat O) (Int32.ofNat Ln) q3 k3 (own_wr O Ln (f0_43_s0 Ln q0) [(nar .byte (fn1 q3 (0 : Int32))), (nar .byte (fn1 q3 (1 : Int32))), (nar .byte (fn1 q3 (2 : Int32))), (nar .byte (fn1 q3 (3 : Int32))), (nar .byte (fn1 q3 (4 : Int32))), (nar .byte (fn1 q3 (5 : Int32))), (nar .byte (fn1 q3 (6 : Int32))), (nar .byte (fn1 q3 (7 : Int32))), (nar .byte (fn1 q3 (8 : Int32))), (nar .byte (fn1 q3 (9 : Int32)))]) T36.heap A36 (by decide)) pd_laBIJIIJrZ [(.ref a3), (.int (7 : Int32)), (.long (f0_43_s0 Ln q0)), (.int (Int32.ofNat O)), (.int (Int32.ofNat Ln)), (.long q3)] [] rfl rfl (by rw [hml]; rfl) rfl (hb hby at_302) 0 (Nat.le_of_eq rfl) (by decide) (by decide) (by decide) (by decide) rfl rfl fun T45 X45 e45 => ?_
  refine o_ifNo 308 X45 hx rfl (hb hby at_305) (feq (own_ok7 i1 q0 q3 O Ln hO hLn)).1 ?_
  refine o_aload 310 X45 hx rfl (hb hby at_308) rfl rfl ?_
  refine o_bipush 312 X45 hx rfl (hb hby at_310) (8 : Int32) rfl ?_
  refine o_lload 314 X45 hx rfl (hb hby at_312) rfl ?_
  refine o_iload 316 X45 hx rfl (hb hby at_314) rfl ?_
  refine o_iload 318 X45 hx rfl (hb hby at_316) rfl ?_
  refine o_lload 320 X45 hx rfl (hb hby at_318) rfl ?_
  refine o_callP (rv := (.int (fn3 (8 : Int32) (f0_43_s0 Ln q0) (Int32.ofNat O) (Int32.ofNat Ln) q3 (own_wr O Ln (f0_43_s0 Ln q0) [(nar .byte (fn1 q3 (0 : Int32))), (nar .byte (fn1 q3 (1 : Int32))), (nar .byte (fn1 q3 (2 : Int32))), (nar .byte (fn1 q3 (3 : Int32))), (nar .byte (fn1 q3 (4 : Int32))), (nar .byte (fn1 q3 (5 : Int32))), (nar .byte (fn1 q3 (6 : Int32))), (nar .byte (fn1 q3 (7 : Int32))), (nar .byte (fn1 q3 (8 : Int32))), (nar .byte (fn1 q3 (9 : Int32)))])))) 323 X45 hx rfl hZ hown (wd_10 hw) (wd_11 hw) (wd_4 hw) (wd_12 hw) (by decide) e45 (rm3 l Z a0 hw a3 (8 : Int32) (f0_43_s0 Ln q0) (Int32.ofNat O) (Int32.ofNat Ln) q3 k3 (own_wr O Ln (f0_43_s0 Ln q0) [(nar .byte (fn1 q3 (0 : Int32))), (nar .byte (fn1 q3 (1 : Int32))), (nar .byte (fn1 q3 (2 : Int32))), (nar .byte (fn1 q3 (3 : Int32))), (nar .byte (fn1 q3 (4 : Int32))), (nar .byte (fn1 q3 (5 : Int32))), (nar .byte (fn1 q3 (6 : Int32))), (nar .byte (fn1 q3 (7 : Int32))), (nar .byte (fn1 q3 (8 : Int32))), (nar .byte (fn1 q3 (9 : Int32)))]) T36.heap A36 (by decide)) pd_laBIJIIJrZ [(.ref a3), (.int (8 : Int32)), (.long (f0_43_s0 Ln q0)), (.int (Int32.ofNat O)), (.int (Int32.ofNat Ln)), (.long q3)] [] rfl rfl (by rw [hml]; rfl) rfl (hb hby at_320) 0 (Nat.le_of_eq rfl) (by decide) (by decide) (by decide) (by decide) rfl rfl fun T46 X46 e46 => ?_
  refine o_ifNo 326 X46 hx rfl (hb hby at_323) (feq (own_ok8 i1 q0 q3 O Ln hO hLn)).1 ?_
  refine o_aload 328 X46 hx rfl (hb hby at_326) rfl rfl ?_
  refine o_bipush 330 X46 hx rfl (hb hby at_328) (9 : Int32) rfl ?_
  refine o_lload 332 X46 hx rfl (hb hby at_330) rfl ?_
  refine o_iload 334 X46 hx rfl (hb hby at_332) rfl ?_
  refine o_iload 336 X46 hx rfl (hb hby at_334) rfl ?_
  refine o_lload 338 X46 hx rfl (hb hby at_336) rfl ?_
  refine o_callP (rv := (.int (fn3 (9 : Int32) (f0_43_s0 Ln q0) (Int32.ofNat O) (Int32.ofNat Ln) q3 (own_wr O Ln (f0_43_s0 Ln q0) [(nar .byte (fn1 q3 (0 : Int32))), (nar .byte (fn1 q3 (1 : Int32))), (nar .byte (fn1 q3 (2 : Int32))), (nar .byte (fn1 q3 (3 : Int32))), (nar .byte (fn1 q3 (4 : Int32))), (nar .byte (fn1 q3 (5 : Int32))), (nar .byte (fn1 q3 (6 : Int32))), (nar .byte (fn1 q3 (7 : Int32))), (nar .byte (fn1 q3 (8 : Int32))), (nar .byte (fn1 q3 (9 : Int32)))])))) 341 X46 hx rfl hZ hown (wd_10 hw) (wd_11 hw) (wd_4 hw) (wd_12 hw) (by decide) e46 (rm3 l Z a0 hw a3 (9 : Int32) (f0_43_s0 Ln q0) (Int32.ofNat O) (Int32.ofNat Ln) q3 k3 (own_wr O Ln (f0_43_s0 Ln q0) [(nar .byte (fn1 q3 (0 : Int32))), (nar .byte (fn1 q3 (1 : Int32))), (nar .byte (fn1 q3 (2 : Int32))), (nar .byte (fn1 q3 (3 : Int32))), (nar .byte (fn1 q3 (4 : Int32))), (nar .byte (fn1 q3 (5 : Int32))), (nar .byte (fn1 q3 (6 : Int32))), (nar .byte (fn1 q3 (7 : Int32))), (nar .byte (fn1 q3 (8 : Int32))), (nar .byte (fn1 q3 (9 : Int32)))]) T36.heap A36 (by decide)) pd_laBIJIIJrZ [(.ref a3), (.int (9 : Int32)), (.long (f0_43_s0 Ln q0)), (.int (Int32.ofNat O)), (.int (Int32.ofNat Ln)), (.long q3)] [] rfl rfl (by rw [hml]; rfl) rfl (hb hby at_338) 0 (Nat.le_of_eq rfl) (by decide) (by decide) (by decide) (by decide) rfl rfl fun T47 X47 e47 => ?_
  refine o_ifNo 344 X47 hx rfl (hb hby at_341) (feq (own_ok9 i1 q0 q3 O Ln hO hLn)).1 ?_
  refine o_iconst 345 X47 hx rfl (hb hby at_344) (1 : Int32) rfl ?_
  refine o_goto 349 X47 hx (hb hby at_345) (by decide) (by decide) ?_
  refine o_retN X47 hx .boolean (by simp) hret hlk (hb hby at_349) (by decide) (by decide) ?_
  exact ⟨rfl, NN36⟩
set_option maxRecDepth 65536 in
set_option maxHeartbeats 40000000 in
theorem comes_1 {Post : Tables → Env → Array Value → State → Outcome → State → Prop} (hpost : ∀ tb e args s v u, (limb_1_1.after args s (.returned v) u = true ∧ limb_1_2.after args s (.returned v) u = true ∧ True) → FrameEnd s (.returned v) u (Jvm.fieldLocs frame_1_writes args s ++ Jvm.arrayLocs frame_1_arrays args s ++ Jvm.staticLocs frame_1_statics s) 16 128 → Post tb e args s (.returned v) u) :
    ArmFor flags0 classFile x code maxLocals ret World_1 tables_1 room_1 Calls_1 rest_1 Pre_1 Post := by
  intro l hfl _ _ p e ha hc hk s m args below hf hA hF happ hP
  obtain ⟨hcalls, hrest, hpre⟩ := hP
  obtain ⟨-, -, -, hnamed, -, -, -, hat⟩ := (Spec.applies_iff hf).mp happ
  obtain ⟨hg, hn⟩ := and_e (Cond.before_iff.mp (show (Jvm.Cond.and given_1 narrow_1).before args s = true from hpre))
  obtain ⟨gc, g0⟩ := and_e hg
  obtain ⟨ga0, g1⟩ := and_e g0
  obtain ⟨ga1, g2⟩ := and_e g1
  obtain ⟨ga2, g3⟩ := and_e g2
  obtain ⟨w0, w1, w2, w3, rfl⟩ : ∃ w0 w1 w2 w3 : Value, args = #[w0, w1, w2, w3] := by
    have hs : args.size = 4 := by simpa [Cond.value, given_1] using gc
    obtain ⟨L⟩ := args
    match L, hs with
    | [w0, w1, w2, w3], _ => exact ⟨w0, w1, w2, w3, rfl⟩
  have hw := fun d (hd : d ∈ tables_1) => atoms_spec (ws := Jvm.Cond.code x code maxLocals ret :: tables_1) hat d (List.mem_cons_of_mem _ hd)
  obtain ⟨i0, ei0⟩ := isL_v ga0
  obtain rfl : w0 = (.long i0) := Option.some.inj ei0
  obtain ⟨i1, ei1⟩ := is_v ga1
  obtain rfl : w1 = (.int i1) := Option.some.inj ei1
  obtain ⟨i2, ei2⟩ := is_v ga2
  obtain rfl : w2 = (.int i2) := Option.some.inj ei2
  obtain ⟨i3, ei3⟩ := isL_v g3
  obtain rfl : w3 = (.long i3) := Option.some.inj ei3
  obtain ⟨n, o, h1, h2, h3, _, L, rfl, ⟨rfl, N⟩, hq⟩ := rm0 l s _ hw tables_1 i0 i1 i2 i3 s.heap s.heap.size (Nat.le_refl _) p e ha hc hk s m _ below hf ((Spec.applies_iff_loose hf).mp happ).1 ⟨rfl, State.Warmed39.refl s, rfl⟩ trivial
  refine ⟨n, _, h1, h2, h3, hpost _ _ _ _ _ _ ⟨Cond.after_iff.mpr rfl, Cond.after_iff.mpr (eq_i res_at (Term.int_eval (1)) rfl), trivial⟩ ⟨hq.1, hq.2.1, (hq.2.2.sift fun y hy => Or.inr (N y hy)).mono (by decide) (by decide)⟩⟩
theorem main_1_1 : Claimed_1_1 := comes_1 fun _ _ _ _ _ _ h hF => ⟨h.1, hF⟩
theorem main_1_2 : Claimed_1_2 := comes_1 fun _ _ _ _ _ _ h hF => ⟨h.2.1, hF⟩
end Jvm.Pilot.@@N@@
namespace Jvm.Pilot.@@N@@
open Jvm Jvm.ClassFile Sem Op Lib Jvm.Free Jvm.Stand Jvm.Pilot.@@N@@.Jvm.D
/-! MADE BY PROGRAM (witnessworld.py) out of the Statement's table words and the real class files: 9 classes; the members and pool entries that the words name. The judged class is class 1, her method 1. -/
namespace start1
open Jvm.ClassFile
def u (s : String) : CpInfo := .utf8 (stringToUtf16 s)
/-- a pool by its gaps: so many unusable entries, then the entry; so many at the end -/
def gap : Nat → List CpInfo → List CpInfo
  | 0, r => r
  | n + 1, r => .unusable :: gap n r
def poolList (es : List (Nat × CpInfo)) (last : Nat) : List CpInfo := es.foldr (fun e r => gap e.1 (e.2 :: r)) (gap last [])
def pool (es : List (Nat × CpInfo)) (last : Nat) : Array CpInfo := ⟨poolList es last⟩
def fileOf (pool : Array CpInfo) (this : Nat) (attrs : Array Attribute := #[]) (ms : Array MethodInfo := #[]) (fl : Nat := 33) (sup : Nat := 0) (ifs : Array Nat := #[]) (fds : Array FieldInfo := #[]) : ClassFile where
  minorVersion := 0
  majorVersion := 65
  constantPool := pool
  accessFlags := fl
  thisClass := this
  superClass := sup
  interfaces := ifs
  fields := fds
  methods := ms
  attributes := attrs
def plain (name : String) (sup : Option ClassId) : Class where
  name := name
  kind := .ordinary
  loader := none
  accessFlags := 33
  super := sup
  interfaces := #[]
  cf := none
  fields := #[]
  methods := #[]
  instanceTypes := #[]
  staticTypes := #[]
  resolved := #[]
  callSites := []
  init := .initialized
  statics := none
  mirror := none

def pool0 : Array CpInfo := pool [(5, u "<init>"), (0, u "()V"), (1, .class_ 10), (1, u "java/lang/Object")] 113

def k0m0 : Method := { name := "<init>", desc := "()V", sig := { parameters := [], returnType := none }, accessFlags := 1, code := none }
/-- java/lang/Object -/
def k0 : Class := { plain "java/lang/Object" none with
  accessFlags := 33
  interfaces := #[]
  cf := some (fileOf pool0 8 #[] #[{ accessFlags := 1, nameIndex := 5, descriptorIndex := 6, attributes := #[] }] 33 0 #[] #[])
  fields := #[]
  methods := #[k0m0]
  instanceTypes := #[]
  staticTypes := #[]
  resolved := Array.replicate 124 none
  statics := none }

def pool1 : Array CpInfo := pool [(2, .class_ 4), (1, u "java/lang/Object"), (0, u "<init>"), (0, u "()V"), (0, .integer 2147483647), (0, .methodref 9 10), (0, .class_ 11), (0, .nameAndType 12 13), (0, u "com/example/coarsefine/coarsefine/code/BigEndianWritePinLaw"), (0, u "fill"), (0, u "(JI)B"), (0, .methodref 15 16), (0, .class_ 17), (0, .nameAndType 18 19), (0, u "com/example/coarsefine/coarsefine/code/BigEndian"), (0, u "write"), (0, u "(J[BII)V"), (0, .methodref 9 21), (0, .nameAndType 22 23), (0, u "ok"), (0, u "([BIJIIJ)Z"), (2, u "law"), (0, u "(JIIJ)Z")] 5

def k1m0 : Method := { name := "<init>", desc := "()V", sig := { parameters := [], returnType := none }, accessFlags := 1, code := none }
def k1c1 : Code := { maxStack := 8, maxLocals := 11, code := code, exceptionTable := #[], attributes := #[] }
def k1m1 : Method := { name := "law", desc := "(JIIJ)Z", sig := { parameters := [.long, .int, .int, .long], returnType := some .boolean }, accessFlags := 9, code := some k1c1 }
def k1c2 : Code := { maxStack := 4, maxLocals := 3, code := method_3_code, exceptionTable := #[], attributes := #[] }
def k1m2 : Method := { name := "fill", desc := "(JI)B", sig := { parameters := [.long, .int], returnType := some .byte }, accessFlags := 10, code := some k1c2 }
def k1c3 : Code := { maxStack := 5, maxLocals := 9, code := method_4_code, exceptionTable := #[], attributes := #[] }
def k1m3 : Method := { name := "ok", desc := "([BIJIIJ)Z", sig := { parameters := [(.array .byte), .int, .long, .int, .int, .long], returnType := some .boolean }, accessFlags := 10, code := some k1c3 }
/-- com/example/coarsefine/coarsefine/code/BigEndianWritePinLaw -/
def k1 : Class := { plain "com/example/coarsefine/coarsefine/code/BigEndianWritePinLaw" (some 0) with
  accessFlags := 49
  interfaces := #[]
  cf := some (fileOf pool1 9 #[] #[{ accessFlags := 1, nameIndex := 5, descriptorIndex := 6, attributes := #[] }, { accessFlags := 9, nameIndex := 26, descriptorIndex := 27, attributes := #[] }, { accessFlags := 10, nameIndex := 12, descriptorIndex := 13, attributes := #[] }, { accessFlags := 10, nameIndex := 22, descriptorIndex := 23, attributes := #[] }] 49 2 #[] #[])
  fields := #[]
  methods := #[k1m0, k1m1, k1m2, k1m3]
  instanceTypes := #[]
  staticTypes := #[]
  resolved := Array.replicate 33 none
  statics := none }

def pool2 : Array CpInfo := pool [(2, .class_ 4), (1, u "java/lang/Object"), (0, u "<init>"), (0, u "()V"), (1, .class_ 10), (1, u "com/example/coarsefine/coarsefine/code/BigEndian"), (0, u "SHORT"), (0, u "Ljava/lang/invoke/VarHandle;"), (23, u "INT"), (34, u "LONG_OCTETS"), (0, u "I"), (11, u "write"), (0, u "(J[BII)V")] 17

def k2m0 : Method := { name := "<init>", desc := "()V", sig := { parameters := [], returnType := none }, accessFlags := 2, code := none }
def k2c1 : Code := { maxStack := 4, maxLocals := 8, code := prog_33_method_7_code, exceptionTable := #[], attributes := #[] }
def k2m1 : Method := { name := "write", desc := "(J[BII)V", sig := { parameters := [.long, (.array .byte), .int, .int], returnType := none }, accessFlags := 9, code := some k2c1 }
/-- com/example/coarsefine/coarsefine/code/BigEndian -/
def k2 : Class := { plain "com/example/coarsefine/coarsefine/code/BigEndian" (some 0) with
  accessFlags := 49
  interfaces := #[]
  cf := some (fileOf pool2 8 #[] #[{ accessFlags := 2, nameIndex := 5, descriptorIndex := 6, attributes := #[] }, { accessFlags := 9, nameIndex := 84, descriptorIndex := 85, attributes := #[] }] 49 2 #[] #[{ accessFlags := 25, nameIndex := 71, descriptorIndex := 72, attributes := #[] }, { accessFlags := 26, nameIndex := 11, descriptorIndex := 12, attributes := #[] }, { accessFlags := 26, nameIndex := 36, descriptorIndex := 12, attributes := #[] }])
  fields := #[{ name := "LONG_OCTETS", type := .int, accessFlags := 25, slot := 0, constantValue := 0 }, { name := "SHORT", type := (.object "java/lang/invoke/VarHandle"), accessFlags := 26, slot := 1, constantValue := 0 }, { name := "INT", type := (.object "java/lang/invoke/VarHandle"), accessFlags := 26, slot := 2, constantValue := 0 }]
  methods := #[k2m0, k2m1]
  instanceTypes := #[]
  staticTypes := #[.int, (.object "java/lang/invoke/VarHandle"), (.object "java/lang/invoke/VarHandle")]
  resolved := Array.replicate 103 none
  statics := none }

def pool3 : Array CpInfo := pool [(1, u "java/lang/Cloneable"), (0, .class_ 1), (0, u "java/lang/Object"), (0, .class_ 3)] 3

/-- java/lang/Cloneable -/
def k3 : Class := { plain "java/lang/Cloneable" (some 0) with
  accessFlags := 1537
  interfaces := #[]
  cf := some (fileOf pool3 2 #[] #[] 1537 4 #[] #[])
  fields := #[]
  methods := #[]
  instanceTypes := #[]
  staticTypes := #[]
  resolved := Array.replicate 8 none
  statics := none }

def pool4 : Array CpInfo := pool [(1, u "java/io/Serializable"), (0, .class_ 1), (0, u "java/lang/Object"), (0, .class_ 3)] 3

/-- java/io/Serializable -/
def k4 : Class := { plain "java/io/Serializable" (some 0) with
  accessFlags := 1537
  interfaces := #[]
  cf := some (fileOf pool4 2 #[] #[] 1537 4 #[] #[])
  fields := #[]
  methods := #[]
  instanceTypes := #[]
  staticTypes := #[]
  resolved := Array.replicate 8 none
  statics := none }

/-- the primitive byte -/
def k5 : Class := { plain "byte" none with kind := .primitive 'B', accessFlags := 0x411 }
/-- [B -/
def k6 : Class := { plain "[B" (some 0) with kind := .array 5 .byte, interfaces := #[3, 4], accessFlags := 1041 }

/-- the primitive int -/
def k7 : Class := { plain "int" none with kind := .primitive 'I', accessFlags := 0x411 }
/-- [I -/
def k8 : Class := { plain "[I" (some 0) with kind := .array 7 .int, interfaces := #[3, 4], accessFlags := 1041 }

def heap : Heap := #[]
def classes : Array Class := #[k0, k1, k2, k3, k4, k5, k6, k7, k8]
def interned : List (Array UInt16 × Addr) := []
def slotsUsed : Nat := 0
def theMethod : MethodId := ⟨1, 1⟩
def args0 : Array Value := #[.long 5, .int 5, .int 5, .long 5]
def aboutOver (below : List Frame) : State where
  vm := { classes := classes, interned := interned.toArray }
  heap := heap
  slotsUsed := slotsUsed
  threads := #[{ frames := .invoking theMethod args0 :: below }]
def below0 : List Frame := [.native { method := ⟨0, 0⟩, args := #[] }]
def about1 : State := aboutOver below0
def p0 : Program := .bare "" "" ""
def e0 : Env := launch0.env 0 0 0
theorem w_frames : about1.frames = Frame.invoking theMethod args0 :: below0 := rfl
set_option maxRecDepth 65536 in
theorem w_args : argsFit about1.vm theMethod args0 = true := by decide +kernel
set_option maxRecDepth 65536 in
theorem w_heap : heapFits about1 = true := by decide +kernel
set_option maxRecDepth 65536 in
theorem w_runnable : about1.curStatus? = some .runnable := by decide +kernel
set_option maxRecDepth 65536 in
theorem w_alone : about1.alone = true := by decide +kernel
set_option maxRecDepth 65536 in
theorem w_named : about1.methodNamed? x = some theMethod := by decide +kernel
set_option maxRecDepth 65536 in
theorem w_hears : about1.hears theMethod below0 = true := by decide +kernel
set_option maxRecDepth 65536 in
theorem w_ripe : about1.ripe theMethod args0 below0 = true := by decide +kernel
theorem w_running : about1.status = .running := rfl
set_option maxRecDepth 65536 in
theorem w_room : about1.hasRoom e0.platform room_1 = true :=
  launch0.hasRoom_least _ room_1 (by decide +kernel) (by decide +kernel) (by decide +kernel) (by decide +kernel) (by decide +kernel) (by decide +kernel)
theorem allAtoms_all (ts : List Jvm.Cond) (a : Array Jvm.Value) (st : Jvm.State) : (allAtoms ts).before a st = ts.all (fun c => c.before a st) := by
  induction ts with
  | nil => rfl
  | cons c t ih =>
    show (Jvm.Cond.and c (allAtoms t)).before a st = _
    rw [Jvm.Cond.before_and, ih, List.all_cons]
def words1 : List Jvm.Cond := Jvm.Cond.code x code maxLocals ret :: tables_1
/-- a 'code' word, met by the world's own term for the bytes: nothing is compared byte by byte -/
theorem code_word {y : MethodName} {bytes : ByteArray} {mx : Nat} {rt : Option FieldType} {a : Array Value} {s : State} {m : MethodId} {meth : Method} {c : Code} (h1 : s.methodNamed? y = some m) (h2 : s.vm.method? m = some meth) (h3 : meth.code = some c) (h4 : c.code = bytes)
    (h5 : (c.maxLocals == mx && c.exceptionTable.isEmpty && decide (c.maxStack ≤ mostOperands) && decide (meth.sig.returnType = rt) && !meth.locks && decide (parseMethodDescriptor y.desc = some meth.sig)) = true) : (Jvm.Cond.code y bytes mx rt).before a s = true := by
  simp only [Bool.and_eq_true, beq_iff_eq, Bool.not_eq_true', decide_eq_true_eq] at h5
  obtain ⟨⟨⟨⟨⟨g1, g2⟩, g3⟩, g4⟩, g5⟩, g6⟩ := h5
  simp [Cond.before, Cond.holds, Cond.value, h1, h2, h3, h4, g1, g2, g3, g4, g5, g6]
def isCode : Jvm.Cond → Bool
  | .code _ _ _ _ => true
  | _ => false
theorem all_split {L : List Jvm.Cond} {P : Jvm.Cond → Bool} (h1 : L.all (fun c => isCode c || P c) = true) (h2 : ∀ c ∈ L.filter isCode, P c = true) : L.all P = true := by
  refine List.all_eq_true.mpr fun c hc => ?_
  have h := List.all_eq_true.mp h1 c hc
  rcases Bool.eq_false_or_eq_true (isCode c) with hi | hi
  · exact h2 c (List.mem_filter.mpr ⟨hc, hi⟩)
  · simpa [hi] using h
set_option maxRecDepth 65536 in
theorem w_c0 : (Jvm.Cond.code x code maxLocals ret).before args0 about1 = true := code_word (m := ⟨1, 1⟩) (meth := k1m1) (c := k1c1) (by decide +kernel) rfl rfl rfl (by decide +kernel)
set_option maxRecDepth 65536 in
theorem w_c1 : (Jvm.Cond.code ({ cls := "com/example/coarsefine/coarsefine/code/BigEndianWritePinLaw", name := "fill", desc := "(JI)B" } : Jvm.MethodName) method_3_code (3 : Nat) (Option.some Jvm.ClassFile.FieldType.byte)).before args0 about1 = true := code_word (m := ⟨1, 2⟩) (meth := k1m2) (c := k1c2) (by decide +kernel) rfl rfl rfl (by decide +kernel)
set_option maxRecDepth 65536 in
theorem w_c2 : (Jvm.Cond.code ({ cls := "com/example/coarsefine/coarsefine/code/BigEndian", name := "write", desc := "(J[BII)V" } : Jvm.MethodName) prog_33_method_7_code (8 : Nat) (Option.none : Option Jvm.ClassFile.FieldType)).before args0 about1 = true := code_word (m := ⟨2, 1⟩) (meth := k2m1) (c := k2c1) (by decide +kernel) rfl rfl rfl (by decide +kernel)
set_option maxRecDepth 65536 in
theorem w_c3 : (Jvm.Cond.code ({ cls := "com/example/coarsefine/coarsefine/code/BigEndianWritePinLaw", name := "ok", desc := "([BIJIIJ)Z" } : Jvm.MethodName) method_4_code (9 : Nat) (Option.some Jvm.ClassFile.FieldType.boolean)).before args0 about1 = true := code_word (m := ⟨1, 3⟩) (meth := k1m3) (c := k1c3) (by decide +kernel) rfl rfl rfl (by decide +kernel)
def codes1 : List Jvm.Cond := [Jvm.Cond.code x code maxLocals ret, Jvm.Cond.code ({ cls := "com/example/coarsefine/coarsefine/code/BigEndianWritePinLaw", name := "fill", desc := "(JI)B" } : Jvm.MethodName) method_3_code (3 : Nat) (Option.some Jvm.ClassFile.FieldType.byte), Jvm.Cond.code ({ cls := "com/example/coarsefine/coarsefine/code/BigEndian", name := "write", desc := "(J[BII)V" } : Jvm.MethodName) prog_33_method_7_code (8 : Nat) (Option.none : Option Jvm.ClassFile.FieldType), Jvm.Cond.code ({ cls := "com/example/coarsefine/coarsefine/code/BigEndianWritePinLaw", name := "ok", desc := "([BIJIIJ)Z" } : Jvm.MethodName) method_4_code (9 : Nat) (Option.some Jvm.ClassFile.FieldType.boolean)]
set_option maxRecDepth 65536 in
theorem codes_eq : words1.filter isCode = codes1 := rfl
theorem w_codes : ∀ c ∈ words1.filter isCode, c.before args0 about1 = true := by
  rw [codes_eq]
  intro c hc
  simp only [codes1, List.mem_cons, List.not_mem_nil, or_false] at hc
  rcases hc with rfl | rfl | rfl | rfl
  · exact w_c0
  · exact w_c1
  · exact w_c2
  · exact w_c3
set_option maxRecDepth 65536 in
theorem w_t1 : words1.all (fun c => isCode c || c.before args0 about1) = true := by decide +kernel
theorem w_tables : (allAtoms (Jvm.Cond.code x code maxLocals ret :: tables_1)).before args0 about1 = true := by
  rw [allAtoms_all]
  show words1.all (fun c => c.before args0 about1) = true
  refine all_split ?_ w_codes
  rw [w_t1]
set_option maxRecDepth 65536 in
theorem w_case : (Jvm.Cond.and given_1 narrow_1).before args0 about1 = true := by decide +kernel
theorem w_applies : (headSpec (Jvm.Cond.code x code maxLocals ret :: tables_1) room_1).applies x e0.platform about1 = true :=
  (Spec.applies_iff w_frames).mpr ⟨w_running, w_runnable, w_alone, w_named, w_hears, w_ripe, w_room, w_tables⟩
theorem atStart : AtStart classFile x code maxLocals ret World_1 tables_1 room_1 Calls_1 rest_1 Pre_1 launch0 p0 e0 about1 theMethod args0 below0 :=
  ⟨lists_1, trivial, launch0.admits_env _ _ _, launch0.least_env, fairChoices_fair.cas, fairChoices_fair.clock, w_frames, w_args, w_heap, w_applies, trivial, trivial, w_case⟩
end start1
theorem witness_1 : WitnessClaimed_1 := ⟨start1.p0, start1.e0, start1.about1, start1.theMethod, start1.args0, start1.below0, start1.atStart⟩
end Jvm.Pilot.@@N@@
