import JvmDerived
import JvmDerived.Pilot.@@N@@Statement
import JvmDerived.Pilot.@@N@@Code
set_option linter.unusedVariables false
set_option linter.unusedSimpArgs false
namespace Jvm.Pilot.@@N@@
open Jvm Jvm.ClassFile Sem Op Lib Jvm.Free Jvm.Stand Jvm.LawKit Jvm.RoadKit Bundle Jvm.Pilot.@@N@@.Jvm.D
/-- from S the run goes on below 'below', ends, and E holds of the end -/
def Go (tb : Tables) (e : Env) (below : List Frame) (E : State → Outcome → Prop) (S : State) : Prop := ∃ s₂ o, Steps tb e below S s₂ ∧ s₂.status = .running ∧ Ended s₂ below o ∧ E s₂ o
theorem Go.via {tb : Tables} {e : Env} {below : List Frame} {E : State → Outcome → Prop} {S S' : State} (k : ∀ t, Steps tb e below S' t → Steps tb e below S t) (h : Go tb e below E S') : Go tb e below E S := by
  obtain ⟨a, b, c, d⟩ := h; exact ⟨a, b, k _ c, d⟩
/-- a body's contract, short -/
abbrev MetP (l : Launch) (y : MethodName) (bytes : ByteArray) (maxL : Nat) (ret : Option FieldType) (ws : List Jvm.Cond) (rm : Room) (Z : State) (as' : Array Value) (h0 : Heap) (Q : Option Value → Heap → List Loc → Prop) : Prop :=
  MetFree l y (head1 (Jvm.Cond.code y bytes maxL ret :: ws) rm) (fun a U => a = as' ∧ Z.Warmed39 U.vm ∧ U.heap = h0) (fun _ _ _ _ _ => True) (fun _ U o U' => ∃ v L, o = .returned v ∧ Q v U'.heap L ∧ FrameEnd U o U' L rm.cells rm.slots)
/-- it returned r and wrote and made nothing -/
def Pure (r : Value) (h0 : Heap) (v : Option Value) (h : Heap) (L : List Loc) : Prop := v = some r ∧ L = [] ∧ h = h0
abbrev EndE (s : State) (rm : Room) (Q : Option Value → Heap → List Loc → Prop) : State → Outcome → Prop := fun s₂ o => ∃ v L, o = .returned v ∧ Q v s₂.heap L ∧ FrameEnd s o s₂ L rm.cells rm.slots
theorem met_go {l : Launch} {y : MethodName} {bytes : ByteArray} {maxL : Nat} {ret : Option FieldType} {ws : List Jvm.Cond} {rm : Room} {Z : State} {as' : Array Value} {h0 : Heap} {Q : Option Value → Heap → List Loc → Prop} (hpl : plainFor y = true)
    (body : ∀ (p : Program) (e : Env) (s : State) (m : MethodId) (below : List Frame) (meth : Method) (c : Code) (s₁ : State), p.tables.exec = Jvm.exec → c.code = bytes → c.maxLocals = maxL → s.vm.findClass y.cls = some m.cls → meth.name = y.name → meth.sig.returnType = ret → meth.locks = false → Z.Warmed39 s.vm → s₁.heap = h0 →
      Stand p l e rm s m as' below meth c s₁ [] 0 0 → Go p.tables e below (EndE s rm Q) (s₁.setTop (entryFrame m as' maxL))) : MetP l y bytes maxL ret ws rm Z as' h0 Q := by
  refine MetFree.of_bodySF hpl hisR ?_
  intro p e s m args below meth c s₁ Bd hml hP hK
  obtain ⟨rfl, hZ, hh⟩ := hP
  exact body p e s m below meth c s₁ Bd.exec Bd.bytes hml (findClass_of_methodNamed Bd.named) (name_of_methodNamed Bd.named Bd.method).1 Bd.returns Bd.notSynchronized hZ (by rw [← hh, Bd.state]; rfl) (Stand.of_body Bd)
abbrev EndW (s : State) (rm : Room) (Q : Option Value → Heap → List Loc → Prop) : State → Outcome → Prop := fun s₂ o => ∃ v L, o = .returned v ∧ Q v s₂.heap L ∧ ReturnedEndW s o s₂ L rm.cells rm.slots
theorem met_goW {l : Launch} {y : MethodName} {bytes : ByteArray} {maxL : Nat} {ret : Option FieldType} {ws : List Jvm.Cond} {rm : Room} {Z : State} {as' : Array Value} {h0 : Heap} {Q : Option Value → Heap → List Loc → Prop} (hpl : plainFor y = true)
    (body : ∀ (p : Program) (e : Env) (s : State) (m : MethodId) (below : List Frame) (meth : Method) (c : Code) (s₁ : State), p.tables.exec = Jvm.exec → c.code = bytes → c.maxLocals = maxL → s.vm.findClass y.cls = some m.cls → meth.name = y.name → meth.sig.returnType = ret → meth.locks = false → Z.Warmed39 s.vm → s₁.heap = h0 →
      Stand p l e rm s m as' below meth c s₁ [] 0 0 → Go p.tables e below (EndW s rm Q) (s₁.setTop (entryFrame m as' maxL))) : MetFree l y (head1 (Jvm.Cond.code y bytes maxL ret :: ws) rm) (fun a U => a = as' ∧ Z.Warmed39 U.vm ∧ U.heap = h0) (fun _ _ _ _ _ => True) (fun _ U o U' => ∃ v L, o = .returned v ∧ Q v U'.heap L ∧ ReturnedEndW U o U' L rm.cells rm.slots) := by
  refine MetFree.of_bodySF hpl hisR ?_
  intro p e s m args below meth c s₁ Bd hml hP hK
  obtain ⟨rfl, hZ, hh⟩ := hP
  exact body p e s m below meth c s₁ Bd.exec Bd.bytes hml (findClass_of_methodNamed Bd.named) (name_of_methodNamed Bd.named Bd.method).1 Bd.returns Bd.notSynchronized hZ (by rw [← hh, Bd.state]; rfl) (Stand.of_body Bd)
theorem met_goZ {l : Launch} {y : MethodName} {bytes : ByteArray} {maxL : Nat} {ret : Option FieldType} {ws : List Jvm.Cond} {rm : Room} {Z : State} {as' : Array Value} {Q : Option Value → Heap → List Loc → Prop} (hpl : plainFor y = true)
    (body : ∀ (p : Program) (e : Env) (s : State) (m : MethodId) (below : List Frame) (meth : Method) (c : Code) (s₁ : State), p.tables.exec = Jvm.exec → c.code = bytes → c.maxLocals = maxL → s.vm.findClass y.cls = some m.cls → meth.name = y.name → meth.sig.returnType = ret → meth.locks = false → s = Z → s₁.heap = Z.heap →
      Stand p l e rm s m as' below meth c s₁ [] 0 0 → Go p.tables e below (EndW s rm Q) (s₁.setTop (entryFrame m as' maxL))) : MetFree l y (head1 (Jvm.Cond.code y bytes maxL ret :: ws) rm) (fun a U => a = as' ∧ U = Z) (fun _ _ _ _ _ => True) (fun _ U o U' => ∃ v L, o = .returned v ∧ Q v U'.heap L ∧ ReturnedEndW U o U' L rm.cells rm.slots) := by
  refine MetFree.of_bodySF hpl hisR ?_
  intro p e s m args below meth c s₁ Bd hml hP hK
  obtain ⟨rfl, hZ⟩ := hP
  exact body p e s m below meth c s₁ Bd.exec Bd.bytes hml (findClass_of_methodNamed Bd.named) (name_of_methodNamed Bd.named Bd.method).1 Bd.returns Bd.notSynchronized hZ (by rw [← hZ, Bd.state]; rfl) (Stand.of_body Bd)
section OwnKit
variable {p : Program} {l : Launch} {e : Env} {R : Room} {s : State} {m : MethodId} {args : Array Value} {below : List Frame} {meth : Method} {c : Code} {T : State} {locs : List Loc} {cells slots : Nat} {E : State → Outcome → Prop} {Z : State} {a0 : Array Value} {h : Heap} {pc : Nat} {Ls Ls' : Array Slot} {st : List Value}
theorem o_iload (pc' : Nat) (X : Stand p l e R s m args below meth c T locs cells slots) (hx : p.tables.exec = Jvm.exec) (hpc : pc + 2 = pc') {k : Nat} {v : Int32} (hd : decode c.code pc = .ok (.iload k, 2)) (hl : Ls[k]? = some (.val (.int v))) (h : Go p.tables e below E (T.setTop (mkF m pc' Ls ((.int v) :: st)))) : Go p.tables e below E (T.setTop (mkF m pc Ls st)) := by
  subst hpc; exact Go.via (fun _ k => XS.iload X.here hx rfl hd hl k) h
theorem o_iloadN (pc' : Nat) (X : Stand p l e R s m args below meth c T locs cells slots) (hx : p.tables.exec = Jvm.exec) (hpc : pc + 1 = pc') {k : Fin 4} {v : Int32} (hd : decode c.code pc = .ok (.iload_n k, 1)) (hl : Ls[k.val]? = some (.val (.int v))) (h : Go p.tables e below E (T.setTop (mkF m pc' Ls ((.int v) :: st)))) : Go p.tables e below E (T.setTop (mkF m pc Ls st)) := by
  subst hpc; exact Go.via (fun _ k => XS.iloadN X.here hx rfl hd hl k) h
theorem o_aload (pc' : Nat) (X : Stand p l e R s m args below meth c T locs cells slots) (hx : p.tables.exec = Jvm.exec) (hpc : pc + 2 = pc') {k : Nat} {v : Value} (hd : decode c.code pc = .ok (.aload k, 2)) (hl : Ls[k]? = some (.val v)) (hv : v.isRef = true) (h : Go p.tables e below E (T.setTop (mkF m pc' Ls (v :: st)))) : Go p.tables e below E (T.setTop (mkF m pc Ls st)) := by
  subst hpc; exact Go.via (fun _ k => XS.aload X.here hx rfl hd hl hv k) h
theorem o_aloadN (pc' : Nat) (X : Stand p l e R s m args below meth c T locs cells slots) (hx : p.tables.exec = Jvm.exec) (hpc : pc + 1 = pc') {k : Fin 4} {v : Value} (hd : decode c.code pc = .ok (.aload_n k, 1)) (hl : Ls[k.val]? = some (.val v)) (hv : v.isRef = true) (h : Go p.tables e below E (T.setTop (mkF m pc' Ls (v :: st)))) : Go p.tables e below E (T.setTop (mkF m pc Ls st)) := by
  subst hpc; exact Go.via (fun _ k => XS.aloadN X.here hx rfl hd hl hv k) h
theorem o_istore (pc' : Nat) (X : Stand p l e R s m args below meth c T locs cells slots) (hx : p.tables.exec = Jvm.exec) (hpc : pc + 2 = pc') {k : Nat} {v : Int32} (hd : decode c.code pc = .ok (.istore k, 2)) (Ls' : Array Slot) (hl : storeLocals Ls k (.int v) = some Ls') (h : Go p.tables e below E (T.setTop (mkF m pc' Ls' st))) : Go p.tables e below E (T.setTop (mkF m pc Ls ((.int v) :: st))) := by
  subst hpc; exact Go.via (fun _ k => XS.istore X.here hx rfl hd rfl hl k) h
theorem o_istoreN (pc' : Nat) (X : Stand p l e R s m args below meth c T locs cells slots) (hx : p.tables.exec = Jvm.exec) (hpc : pc + 1 = pc') {k : Fin 4} {v : Int32} (hd : decode c.code pc = .ok (.istore_n k, 1)) (Ls' : Array Slot) (hl : storeLocals Ls k.val (.int v) = some Ls') (h : Go p.tables e below E (T.setTop (mkF m pc' Ls' st))) : Go p.tables e below E (T.setTop (mkF m pc Ls ((.int v) :: st))) := by
  subst hpc; exact Go.via (fun _ k => XS.istoreN X.here hx rfl hd rfl hl k) h
theorem o_astore (pc' : Nat) (X : Stand p l e R s m args below meth c T locs cells slots) (hx : p.tables.exec = Jvm.exec) (hpc : pc + 2 = pc') {k : Nat} {v : Value} (hd : decode c.code pc = .ok (.astore k, 2)) (hv : v.isRef = true) (Ls' : Array Slot) (hl : storeLocals Ls k v = some Ls') (h : Go p.tables e below E (T.setTop (mkF m pc' Ls' st))) : Go p.tables e below E (T.setTop (mkF m pc Ls (v :: st))) := by
  subst hpc; exact Go.via (fun _ k => XS.astore X.here hx rfl hd rfl hv hl k) h
theorem o_iinc (pc' : Nat) (X : Stand p l e R s m args below meth c T locs cells slots) (hx : p.tables.exec = Jvm.exec) (hpc : pc + 3 = pc') {k : Nat} {cst : Int} {v : Int32} (hd : decode c.code pc = .ok (.iinc k cst, 3)) (w : Int32) (hw : Int32.ofInt cst = w) (hl : Ls[k]? = some (.val (.int v))) (Ls' : Array Slot) (hl' : storeLocals Ls k (.int (v + w)) = some Ls') (h : Go p.tables e below E (T.setTop (mkF m pc' Ls' st))) : Go p.tables e below E (T.setTop (mkF m pc Ls st)) := by
  subst hpc; exact Go.via (fun _ k => XS.iinc X.here hx rfl hd hl (by rw [hw]; exact hl') k) h
theorem o_iconst (pc' : Nat) (X : Stand p l e R s m args below meth c T locs cells slots) (hx : p.tables.exec = Jvm.exec) (hpc : pc + 1 = pc') {i : Int} (hd : decode c.code pc = .ok (.iconst i, 1)) (v : Int32) (hv : Int32.ofInt i = v) (h : Go p.tables e below E (T.setTop (mkF m pc' Ls (.int v :: st)))) : Go p.tables e below E (T.setTop (mkF m pc Ls st)) := by
  subst hpc; exact Go.via (fun _ k => XS.iconst X.here hx rfl hd (by rw [hv]; exact k)) h
theorem o_bipush (pc' : Nat) (X : Stand p l e R s m args below meth c T locs cells slots) (hx : p.tables.exec = Jvm.exec) (hpc : pc + 2 = pc') {i : Int} (hd : decode c.code pc = .ok (.bipush i, 2)) (v : Int32) (hv : (Int8.ofInt i).toInt32 = v) (h : Go p.tables e below E (T.setTop (mkF m pc' Ls (.int v :: st)))) : Go p.tables e below E (T.setTop (mkF m pc Ls st)) := by
  subst hpc; exact Go.via (fun _ k => XS.bipush X.here hx rfl hd (by rw [hv]; exact k)) h
theorem o_sipush (pc' : Nat) (X : Stand p l e R s m args below meth c T locs cells slots) (hx : p.tables.exec = Jvm.exec) (hpc : pc + 3 = pc') {i : Int} (hd : decode c.code pc = .ok (.sipush i, 3)) (v : Int32) (hv : (Int16.ofInt i).toInt32 = v) (h : Go p.tables e below E (T.setTop (mkF m pc' Ls (.int v :: st)))) : Go p.tables e below E (T.setTop (mkF m pc Ls st)) := by
  subst hpc; exact Go.via (fun _ k => XS.sipush X.here hx rfl hd (by rw [hv]; exact k)) h
theorem o_iadd (pc' : Nat) (X : Stand p l e R s m args below meth c T locs cells slots) (hx : p.tables.exec = Jvm.exec) (hpc : pc + 1 = pc') {x : Int32} {y : Int32} (hd : decode c.code pc = .ok (.iadd, 1)) (h : Go p.tables e below E (T.setTop (mkF m pc' Ls (.int (x + y) :: st)))) : Go p.tables e below E (T.setTop (mkF m pc Ls (.int y :: .int x :: st))) := by
  subst hpc; exact Go.via (fun _ k => XS.iadd X.here hx rfl hd rfl k) h
theorem o_isub (pc' : Nat) (X : Stand p l e R s m args below meth c T locs cells slots) (hx : p.tables.exec = Jvm.exec) (hpc : pc + 1 = pc') {x : Int32} {y : Int32} (hd : decode c.code pc = .ok (.isub, 1)) (h : Go p.tables e below E (T.setTop (mkF m pc' Ls (.int (x - y) :: st)))) : Go p.tables e below E (T.setTop (mkF m pc Ls (.int y :: .int x :: st))) := by
  subst hpc; exact Go.via (fun _ k => XS.isub X.here hx rfl hd rfl k) h
theorem o_iand (pc' : Nat) (X : Stand p l e R s m args below meth c T locs cells slots) (hx : p.tables.exec = Jvm.exec) (hpc : pc + 1 = pc') {x : Int32} {y : Int32} (hd : decode c.code pc = .ok (.iand, 1)) (h : Go p.tables e below E (T.setTop (mkF m pc' Ls (.int (x &&& y) :: st)))) : Go p.tables e below E (T.setTop (mkF m pc Ls (.int y :: .int x :: st))) := by
  subst hpc; exact Go.via (fun _ k => XS.iand X.here hx rfl hd rfl k) h
theorem o_ixor (pc' : Nat) (X : Stand p l e R s m args below meth c T locs cells slots) (hx : p.tables.exec = Jvm.exec) (hpc : pc + 1 = pc') {x : Int32} {y : Int32} (hd : decode c.code pc = .ok (.ixor, 1)) (h : Go p.tables e below E (T.setTop (mkF m pc' Ls (.int (x ^^^ y) :: st)))) : Go p.tables e below E (T.setTop (mkF m pc Ls (.int y :: .int x :: st))) := by
  subst hpc; exact Go.via (fun _ k => XS.ixor X.here hx rfl hd rfl k) h
theorem o_iushr (pc' : Nat) (X : Stand p l e R s m args below meth c T locs cells slots) (hx : p.tables.exec = Jvm.exec) (hpc : pc + 1 = pc') {x : Int32} {y : Int32} (hd : decode c.code pc = .ok (.iushr, 1)) (h : Go p.tables e below E (T.setTop (mkF m pc' Ls (.int ((x.toUInt32 >>> (y &&& 31).toUInt32).toInt32) :: st)))) : Go p.tables e below E (T.setTop (mkF m pc Ls (.int y :: .int x :: st))) := by
  subst hpc; exact Go.via (fun _ k => XS.iushr X.here hx rfl hd rfl k) h
theorem o_i2b (pc' : Nat) (X : Stand p l e R s m args below meth c T locs cells slots) (hx : p.tables.exec = Jvm.exec) (hpc : pc + 1 = pc') {x : Int32} (hd : decode c.code pc = .ok (.i2b, 1)) (h : Go p.tables e below E (T.setTop (mkF m pc' Ls (.int (x.toInt8.toInt32) :: st)))) : Go p.tables e below E (T.setTop (mkF m pc Ls (.int x :: st))) := by
  subst hpc; exact Go.via (fun _ k => XS.i2b X.here hx rfl hd rfl k) h
theorem o_dup (pc' : Nat) (X : Stand p l e R s m args below meth c T locs cells slots) (hx : p.tables.exec = Jvm.exec) (hpc : pc + 1 = pc') {v : Value} (hd : decode c.code pc = .ok (.dup, 1)) (hv : v.category = 1) (h : Go p.tables e below E (T.setTop (mkF m pc' Ls (v :: v :: st)))) : Go p.tables e below E (T.setTop (mkF m pc Ls (v :: st))) := by
  subst hpc; exact Go.via (fun _ k => XS.dup X.here hx rfl hd rfl hv k) h
theorem o_goto (pc' : Nat) (X : Stand p l e R s m args below meth c T locs cells slots) (hx : p.tables.exec = Jvm.exec) {o : Int} (hd : decode c.code pc = .ok (.goto o, 3)) (ho : 0 ≤ (pc : Int) + o) (hp : ((pc : Int) + o).toNat = pc') (h : Go p.tables e below E (T.setTop (mkF m pc' Ls st))) : Go p.tables e below E (T.setTop (mkF m pc Ls st)) := by
  exact Go.via (fun _ k => XS.goto X.here hx rfl (pc0 := pc) (pc' := pc') rfl hd ho hp k) h
theorem o_ifYes (pc' : Nat) (X : Stand p l e R s m args below meth c T locs cells slots) (hx : p.tables.exec = Jvm.exec) {cd : ClassFile.Cond} {x : Int32} {o : Int} (hd : decode c.code pc = .ok (.ifCond cd o, 3)) (hc : if_icmp.holds cd x 0 = true) (ho : 0 ≤ (pc : Int) + o) (hp : ((pc : Int) + o).toNat = pc') (h : Go p.tables e below E (T.setTop (mkF m pc' Ls st))) : Go p.tables e below E (T.setTop (mkF m pc Ls (.int x :: st))) := by
  exact Go.via (fun _ k => XS.ifYes X.here hx rfl (pc0 := pc) (pc' := pc') rfl hd rfl ((if0 _ _).trans hc) ho hp k) h
theorem o_ifNo (pc' : Nat) (X : Stand p l e R s m args below meth c T locs cells slots) (hx : p.tables.exec = Jvm.exec) (hpc : pc + 3 = pc') {cd : ClassFile.Cond} {x : Int32} {o : Int} (hd : decode c.code pc = .ok (.ifCond cd o, 3)) (hc : if_icmp.holds cd x 0 = false) (h : Go p.tables e below E (T.setTop (mkF m pc' Ls st))) : Go p.tables e below E (T.setTop (mkF m pc Ls (.int x :: st))) := by
  subst hpc; exact Go.via (fun _ k => XS.ifNo X.here hx rfl hd rfl ((if0 _ _).trans hc) k) h
theorem o_icmpYes (pc' : Nat) (X : Stand p l e R s m args below meth c T locs cells slots) (hx : p.tables.exec = Jvm.exec) {cd : ClassFile.Cond} {x y : Int32} {o : Int} (hd : decode c.code pc = .ok (.if_icmp cd o, 3)) (hc : if_icmp.holds cd x y = true) (ho : 0 ≤ (pc : Int) + o) (hp : ((pc : Int) + o).toNat = pc') (h : Go p.tables e below E (T.setTop (mkF m pc' Ls st))) : Go p.tables e below E (T.setTop (mkF m pc Ls (.int y :: .int x :: st))) := by
  exact Go.via (fun _ k => XS.icmpYes X.here hx rfl (pc0 := pc) (pc' := pc') rfl hd rfl hc ho hp k) h
theorem o_icmpNo (pc' : Nat) (X : Stand p l e R s m args below meth c T locs cells slots) (hx : p.tables.exec = Jvm.exec) (hpc : pc + 3 = pc') {cd : ClassFile.Cond} {x y : Int32} {o : Int} (hd : decode c.code pc = .ok (.if_icmp cd o, 3)) (hc : if_icmp.holds cd x y = false) (h : Go p.tables e below E (T.setTop (mkF m pc' Ls st))) : Go p.tables e below E (T.setTop (mkF m pc Ls (.int y :: .int x :: st))) := by
  subst hpc; exact Go.via (fun _ k => XS.icmpNo X.here hx rfl hd rfl hc k) h
theorem o_out (X : Stand p l e R s m args below meth c T locs cells slots) (hx : p.tables.exec = Jvm.exec) {rm : Room} {Q : Option Value → Heap → List Loc → Prop} {v : Option Value} (hv : meth.sig.returnType = none → v = none) (hlk : meth.locks = false) {g : JFrame}
    (hst : ∀ fs, (∀ (f : JFrame) (acts : List Action), f.method = m → f.locked = none → f.entered = [] → (doReturn e (T.setTop f) acts v).1 = T.setFrames fs) → Steps p.tables e below (T.setTop g) (T.setFrames fs)) (hq : Q v T.heap locs) (hk : cells ≤ rm.cells) (hn : slots ≤ rm.slots) : Go p.tables e below (EndE s rm Q) (T.setTop g) := by
  obtain ⟨fs, hr, hrun, hended, hW, hsame⟩ := X.leave (v := v) hv hlk
  exact ⟨_, _, hst fs hr, hrun, hended, _, _, rfl, hq, ⟨_, rfl⟩, hW, hsame.mono hk hn⟩
theorem own_retI (X : Stand p l e R s m args below meth c T locs cells slots) (hx : p.tables.exec = Jvm.exec) {z : Int32} (hret : meth.sig.returnType = some .int) (hd : decode c.code pc = .ok (.ireturn, 1)) {fs : List Frame}
    (hl : ∀ (f : JFrame) (acts : List Action), f.method = m → f.locked = none → f.entered = [] → (doReturn e (T.setTop f) acts (some (.int z))).1 = T.setFrames fs) : Steps p.tables e below (T.setTop (mkF m pc Ls (.int z :: st))) (T.setFrames fs) :=
  retOut X hx hret rfl (Or.inl ⟨rfl, Or.inl rfl, z, rfl⟩) hd hl
theorem o_retI (X : Stand p l e R s m args below meth c T locs cells slots) (hx : p.tables.exec = Jvm.exec) {z : Int32} {rm : Room} {Q : Option Value → Heap → List Loc → Prop} (hret : meth.sig.returnType = some .int) (hlk : meth.locks = false) (hd : decode c.code pc = .ok (.ireturn, 1)) (hk : cells ≤ rm.cells) (hn : slots ≤ rm.slots) (hq : Q (some (.int z)) T.heap locs) : Go p.tables e below (EndE s rm Q) (T.setTop (mkF m pc Ls (.int z :: st))) :=
  o_out X hx (fun q => by rw [hret] at q; cases q) hlk (fun fs hr => own_retI X hx hret hd hr) hq hk hn
theorem o_retN (X : Stand p l e R s m args below meth c T locs cells slots) (hx : p.tables.exec = Jvm.exec) {z : Int32} (t : FieldType) (ht : t = .boolean ∨ t = .byte ∨ t = .char ∨ t = .short) {rm : Room} {Q : Option Value → Heap → List Loc → Prop} (hret : meth.sig.returnType = some t) (hlk : meth.locks = false) (hd : decode c.code pc = .ok (.ireturn, 1)) (hk : cells ≤ rm.cells) (hn : slots ≤ rm.slots) (hq : Q (some (.int (nar t z))) T.heap locs) : Go p.tables e below (EndE s rm Q) (T.setTop (mkF m pc Ls (.int z :: st))) :=
  o_out X hx (fun q => by rw [hret] at q; cases q) hlk (fun fs hr => retN X hx hret ht hd hr) hq hk hn
theorem o_callS (pc' : Nat) (X : Stand p l e R s m args below meth c T locs cells slots) (hx : p.tables.exec = Jvm.exec) (hpc : pc + 3 = pc') (hZ : Z.Warmed39 s.vm) {own : String} {index : Nat} {y : MethodName} {bytes : ByteArray} {maxL : Nat} {ret : Option FieldType} {rm : Room} {as' : Array Value} {Q : Option Value → Heap → List Loc → Prop} (hown : s.vm.findClass own = some m.cls) (w1 : (Jvm.Cond.methodLink own index y).before a0 Z = true) (w2 : (Jvm.Cond.static y).before a0 Z = true) (w3 : (Jvm.Cond.initialized y.cls).before a0 Z = true) (w4 : (Jvm.Cond.code y bytes maxL ret).before a0 Z = true) (hy : y.cls ≠ "java/lang/invoke/MethodHandle" ∧ y.cls ≠ "java/lang/invoke/VarHandle") (eT : T.heap = h)
    (hM : MetP l y bytes maxL ret [] rm Z as' h Q) {ps : List FieldType} {r : Option FieldType} (hdsc : parseMethodDescriptor y.desc = some ⟨ps, r⟩) (argsL rest : List Value) (hlen : argsL.length = ps.length) (has : argsL.toArray = as') (hsize : Ls.size = c.maxLocals) (hst : st = argsL.reverse ++ rest) (hd : decode c.code pc = .ok (.invokestatic index, 3)) (W : Nat) (hW : (rest.map fun v => v.category).sum ≤ W) (hf : rm.frames + 1 ≤ R.frames) (hlo : W + (maxL + 11) + rm.locals ≤ R.locals) (hc : cells + rm.cells ≤ R.cells) (hsl : slots + rm.slots ≤ R.slots)
    (k : ∀ (v : Option Value) (T' : State) (L : List Loc), Stand p l e R s m args below meth c T' (locs ++ L) (cells + rm.cells) (slots + rm.slots) → Q v T'.heap L → Go p.tables e below E (T'.setTop (mkF m pc' Ls (v.toList ++ rest)))) : Go p.tables e below E (T.setTop (mkF m pc Ls st)) := by
  subst hpc
  obtain ⟨v, _, ⟨T', L', c', s'⟩, -, X', ⟨L, hQ, h1, h2, h3⟩, st'⟩ := Jvm.LawKit.callS X hx (y := y) hown (mvT hZ w1) (mvT hZ w2) (mvT hZ w3) (mvT hZ w4) hy (backOf (W := W) hM hZ w4 w3 hf hlo) (g := mkF m pc Ls st) rfl hsize (argsL := argsL) (rest := rest) (lenOf hdsc hlen) hst (by show 2 * 0 + _ ≤ _; rw [Nat.mul_zero, Nat.zero_add]; exact hW) hd (fun _ _ => ⟨has, eT, hc, hsl⟩)
  dsimp only [Pt.U, Pt.locs, Pt.cells, Pt.slots] at X' h1 h2 h3 st' hQ
  subst h1 h2 h3
  exact Go.via st' (k v T' L X' hQ)
theorem o_callP (pc' : Nat) (X : Stand p l e R s m args below meth c T locs cells slots) (hx : p.tables.exec = Jvm.exec) (hpc : pc + 3 = pc') (hZ : Z.Warmed39 s.vm) {own : String} {index : Nat} {y : MethodName} {bytes : ByteArray} {maxL : Nat} {ret : Option FieldType} {rm : Room} {as' : Array Value} {rv : Value} (hown : s.vm.findClass own = some m.cls) (w1 : (Jvm.Cond.methodLink own index y).before a0 Z = true) (w2 : (Jvm.Cond.static y).before a0 Z = true) (w3 : (Jvm.Cond.initialized y.cls).before a0 Z = true) (w4 : (Jvm.Cond.code y bytes maxL ret).before a0 Z = true) (hy : y.cls ≠ "java/lang/invoke/MethodHandle" ∧ y.cls ≠ "java/lang/invoke/VarHandle") (eT : T.heap = h)
    (hM : MetP l y bytes maxL ret [] rm Z as' h (Pure rv h)) {ps : List FieldType} {r : Option FieldType} (hdsc : parseMethodDescriptor y.desc = some ⟨ps, r⟩) (argsL rest : List Value) (hlen : argsL.length = ps.length) (has : argsL.toArray = as') (hsize : Ls.size = c.maxLocals) (hst : st = argsL.reverse ++ rest) (hd : decode c.code pc = .ok (.invokestatic index, 3)) (W : Nat) (hW : (rest.map fun v => v.category).sum ≤ W) (hf : rm.frames + 1 ≤ R.frames) (hlo : W + (maxL + 11) + rm.locals ≤ R.locals) (hc : cells + rm.cells ≤ R.cells) (hsl : slots + rm.slots ≤ R.slots) (hc0 : rm.cells = 0) (hs0 : rm.slots = 0)
    (k : ∀ (T' : State), Stand p l e R s m args below meth c T' locs cells slots → T'.heap = h → Go p.tables e below E (T'.setTop (mkF m pc' Ls (rv :: rest)))) : Go p.tables e below E (T.setTop (mkF m pc Ls st)) := by
  refine o_callS pc' X hx hpc hZ hown w1 w2 w3 w4 hy eT hM hdsc argsL rest hlen has hsize hst hd W hW hf hlo hc hsl ?_
  intro v T' L X' hQ
  obtain ⟨rfl, rfl, e'⟩ := hQ
  rw [hc0, hs0, List.append_nil] at X'
  exact k T' X' e' 
theorem o_newarr (pc' : Nat) (X : Stand p l e R s m args below meth c T locs cells slots) (hx : p.tables.exec = Jvm.exec) (hpc : pc + 2 = pc') (hZ : Z.Warmed39 s.vm) (aty : ArrayType) (ty : FieldType) (hty : newarray.typeOf aty = ty) (w : (Jvm.Cond.arrayClass ty).before a0 Z = true) (eT : T.heap = h) {n : Int32} (hd : decode c.code pc = .ok (.newarray aty, 2)) (hn : ¬ n < 0) (cap : Nat) (hcap : n.toNatClampNeg ≤ cap) (hb : cap * 8 ≤ 536870912) (hc : cells + 1 ≤ R.cells) (hl : slots + cap ≤ R.slots)
    (k : ∀ (T' : State) (h' : Heap) (a : Addr) (cA : ClassId), a = h.size → Stand p l e R s m args below meth c T' locs (cells + 1) (slots + cap) → T'.heap = h' → Ext h h' → Arv Z h' a cA ty n [] (defaultValue ty) → Go p.tables e below E (T'.setTop (mkF m pc' Ls (.ref a :: st)))) : Go p.tables e below E (T.setTop (mkF m pc Ls (.int n :: st))) := by
  subst hpc; subst hty
  obtain ⟨T', h', cA, X', e', E', A', st'⟩ := newP X hx hZ w eT (g := mkF m pc Ls (.int n :: st)) rfl hd rfl hn hcap hb hc hl
  exact Go.via st' (k T' h' h.size cA rfl X' e' E' (Arv.new A' hn))
theorem o_baloadB (pc' : Nat) (X : Stand p l e R s m args below meth c T locs cells slots) (hx : p.tables.exec = Jvm.exec) (hpc : pc + 1 = pc') (hZ : Z.Warmed39 s.vm) (eT : T.heap = h) {a : Addr} {ka : ClassId} {n j : Int32} {vs : List Value} {dv : Value} (F : Arv Z h a ka .byte n vs dv) (hj : ¬ j < 0 ∧ j < n) (v : Value) (hv : vs.getD j.toNatClampNeg dv = v) (hd : decode c.code pc = .ok (.baload, 1)) (k : Go p.tables e below E (T.setTop (mkF m pc' Ls (v :: st)))) : Go p.tables e below E (T.setTop (mkF m pc Ls (.int j :: .ref a :: st))) := by
  subst hpc
  obtain ⟨cl, A, -, S, M, H, -⟩ := F
  have hin := inb_of S hj
  exact Go.via (fun _ q => X.baloadBytes hx (j := j) (v := v) (by rw [eT]; exact A.1) (State.isArrayOf_alike hZ.alike A.2.1) A.2.2 hin (H.at hin hv) (g := mkF m pc Ls (.int j :: .ref a :: st)) rfl rfl hd _ q) k
theorem o_bastoreB (pc' : Nat) (X : Stand p l e R s m args below meth c T locs cells slots) (hx : p.tables.exec = Jvm.exec) (hpc : pc + 1 = pc') (hZ : Z.Warmed39 s.vm) (eT : T.heap = h) {a : Addr} {ka : ClassId} {n j : Int32} {x : Int32} {vs : List Value} {dv : Value} (F : Arv Z h a ka .byte n vs dv) (hj : ¬ j < 0 ∧ j < n) (i : Nat) (hi : j.toNatClampNeg = i) (hlt : i < vs.length) (vs' : List Value) (hvs : vs.set i (.int (nar .byte x)) = vs') {n0 : Nat} (N : Fr n0 locs) (ga : n0 ≤ a) (hd : decode c.code pc = .ok (.bastore, 1))
    (k : ∀ (T' : State) (h' : Heap) (L' : List Loc), Stand p l e R s m args below meth c T' L' cells slots → Fr n0 L' → T'.heap = h' → Wr h h' a j.toNatClampNeg (.int (nar .byte x)) → Arv Z h' a ka .byte n vs' dv → Go p.tables e below E (T'.setTop (mkF m pc' Ls st))) : Go p.tables e below E (T.setTop (mkF m pc Ls (.int x :: .int j :: .ref a :: st))) := by
  subst hpc; subst hvs
  obtain ⟨cl, A, q1, S, M, H, G⟩ := F
  have hin := inb_of S hj
  obtain ⟨T', h', X', e', W', st'⟩ := stB X hx hZ eT A hin (g := mkF m pc Ls (.int x :: .int j :: .ref a :: st)) rfl rfl hd
  exact Go.via st' (k T' h' _ X' (Fr.snoc X' N ga) e' W' (Arv.set A q1 S M H G (fits_nar_byte x) W' i hi hlt))
theorem own_getI (xs : List Int32) (i : Nat) : (xs.map Value.int).getD i (.int 0) = .int (xs.getD i 0) := by
  simp only [List.getD_eq_getElem?_getD, List.getElem?_map]; cases xs[i]? <;> rfl
theorem o_baloadBX (pc' : Nat) (X : Stand p l e R s m args below meth c T locs cells slots) (hx : p.tables.exec = Jvm.exec) (hpc : pc + 1 = pc') (hZ : Z.Warmed39 s.vm) (eT : T.heap = h) {a : Addr} {ka : ClassId} {n j : Int32} {xs : List Int32} (F : Arv Z h a ka .byte n (xs.map Value.int) (.int 0)) (hj : ¬ j < 0 ∧ j < n) (hd : decode c.code pc = .ok (.baload, 1)) (v : Int32) (hv : xs.getD j.toNatClampNeg 0 = v) (k : Go p.tables e below E (T.setTop (mkF m pc' Ls (.int v :: st)))) : Go p.tables e below E (T.setTop (mkF m pc Ls (.int j :: .ref a :: st))) := by
  subst hv; exact o_baloadB pc' X hx hpc hZ eT F hj _ (own_getI xs _) hd k
theorem o_bastoreBX (pc' : Nat) (X : Stand p l e R s m args below meth c T locs cells slots) (hx : p.tables.exec = Jvm.exec) (hpc : pc + 1 = pc') (hZ : Z.Warmed39 s.vm) (eT : T.heap = h) {a : Addr} {ka : ClassId} {n j : Int32} {x : Int32} {xs : List Int32} (F : Arv Z h a ka .byte n (xs.map Value.int) (.int 0)) (hj : ¬ j < 0 ∧ j < n) (hlt : j.toNatClampNeg < xs.length) (xs' : List Int32) (hxs : xs.set j.toNatClampNeg (nar .byte x) = xs') {n0 : Nat} (N : Fr n0 locs) (ga : n0 ≤ a) (hd : decode c.code pc = .ok (.bastore, 1))
    (k : ∀ (T' : State) (h' : Heap) (L' : List Loc), Stand p l e R s m args below meth c T' L' cells slots → Fr n0 L' → T'.heap = h' → Wr h h' a j.toNatClampNeg (.int (nar .byte x)) → Arv Z h' a ka .byte n (xs'.map Value.int) (.int 0) → Go p.tables e below E (T'.setTop (mkF m pc' Ls st))) : Go p.tables e below E (T.setTop (mkF m pc Ls (.int x :: .int j :: .ref a :: st))) := by
  subst hxs
  exact o_bastoreB pc' X hx hpc hZ eT F hj _ rfl (by rw [List.length_map]; exact hlt) _ (List.map_set.symm) N ga hd k
theorem o_newarrI (pc' : Nat) (X : Stand p l e R s m args below meth c T locs cells slots) (hx : p.tables.exec = Jvm.exec) (hpc : pc + 2 = pc') (hZ : Z.Warmed39 s.vm) (aty : ArrayType) (ty : FieldType) (hty : newarray.typeOf aty = ty) (hdf : defaultValue ty = .int 0) (w : (Jvm.Cond.arrayClass ty).before a0 Z = true) (eT : T.heap = h) {n : Int32} (hd : decode c.code pc = .ok (.newarray aty, 2)) (hn : ¬ n < 0) (cap : Nat) (hcap : n.toNatClampNeg ≤ cap) (hb : cap * 8 ≤ 536870912) (hc : cells + 1 ≤ R.cells) (hl : slots + cap ≤ R.slots) (xs : List Int32) (hxs : List.replicate n.toNatClampNeg 0 = xs)
    (k : ∀ (T' : State) (h' : Heap) (a : Addr) (cA : ClassId), a = h.size → Stand p l e R s m args below meth c T' locs (cells + 1) (slots + cap) → T'.heap = h' → Ext h h' → Arv Z h' a cA ty n (xs.map Value.int) (.int 0) → Go p.tables e below E (T'.setTop (mkF m pc' Ls (.ref a :: st)))) : Go p.tables e below E (T.setTop (mkF m pc Ls (.int n :: st))) := by
  subst hxs
  refine o_newarr pc' X hx hpc hZ aty ty hty w eT hd hn cap hcap hb hc hl ?_
  intro T' h' a cA g X' e' E' A'
  rw [hdf] at A'
  refine k T' h' a cA g X' e' E' ?_
  rw [List.map_replicate]
  exact A'.pad (pad_rep [] _ _)
end OwnKit
theorem l_tlt {x y : Int64} (h : x < y) : lcmpW x y < 0 := (lw_lt x y).mpr h
theorem l_flt {x y : Int64} (h : ¬ x < y) : ¬ lcmpW x y < 0 := fun q => h ((lw_lt x y).mp q)
theorem l_tgt {x y : Int64} (h : y < x) : 0 < lcmpW x y := (lw_gt x y).mpr h
theorem l_fgt {x y : Int64} (h : ¬ y < x) : ¬ 0 < lcmpW x y := fun q => h ((lw_gt x y).mp q)
theorem l_teq {x y : Int64} (h : x = y) : lcmpW x y = 0 := (lw_eq x y).mpr h
theorem l_feq {x y : Int64} (h : ¬ x = y) : ¬ lcmpW x y = 0 := fun q => h ((lw_eq x y).mp q)
theorem wd_0 {Z : State} {a0 : Array Value} (hw : ∀ d ∈ tables_1, d.before a0 Z = true) : (Jvm.Cond.methodLink "com/example/headword/headword/stardict/SortedIndexComparePinLaw" (7 : Nat) ({ cls := "com/example/headword/headword/stardict/SortedIndexComparePinLaw", name := "pick", desc := "(III)I" } : Jvm.MethodName)).before a0 Z = true := hw _ (List.mem_of_getElem? (i := 0) rfl)
theorem wd_1 {Z : State} {a0 : Array Value} (hw : ∀ d ∈ tables_1, d.before a0 Z = true) : (Jvm.Cond.static ({ cls := "com/example/headword/headword/stardict/SortedIndexComparePinLaw", name := "pick", desc := "(III)I" } : Jvm.MethodName)).before a0 Z = true := hw _ (List.mem_of_getElem? (i := 1) rfl)
theorem wd_2 {Z : State} {a0 : Array Value} (hw : ∀ d ∈ tables_1, d.before a0 Z = true) : (Jvm.Cond.initialized "com/example/headword/headword/stardict/SortedIndexComparePinLaw").before a0 Z = true := hw _ (List.mem_of_getElem? (i := 2) rfl)
theorem wd_3 {Z : State} {a0 : Array Value} (hw : ∀ d ∈ tables_1, d.before a0 Z = true) : (Jvm.Cond.code ({ cls := "com/example/headword/headword/stardict/SortedIndexComparePinLaw", name := "pick", desc := "(III)I" } : Jvm.MethodName) method_3_code (3 : Nat) (Option.some Jvm.ClassFile.FieldType.int)).before a0 Z = true := hw _ (List.mem_of_getElem? (i := 3) rfl)
theorem wd_4 {Z : State} {a0 : Array Value} (hw : ∀ d ∈ tables_1, d.before a0 Z = true) : (Jvm.Cond.arrayClass Jvm.ClassFile.FieldType.byte).before a0 Z = true := hw _ (List.mem_of_getElem? (i := 4) rfl)
theorem wd_5 {Z : State} {a0 : Array Value} (hw : ∀ d ∈ tables_1, d.before a0 Z = true) : (Jvm.Cond.methodLink "com/example/headword/headword/stardict/SortedIndexComparePinLaw" (13 : Nat) ({ cls := "com/example/headword/headword/stardict/SortedIndex", name := "compare", desc := "([BI[BI)I" } : Jvm.MethodName)).before a0 Z = true := hw _ (List.mem_of_getElem? (i := 5) rfl)
theorem wd_6 {Z : State} {a0 : Array Value} (hw : ∀ d ∈ tables_1, d.before a0 Z = true) : (Jvm.Cond.static ({ cls := "com/example/headword/headword/stardict/SortedIndex", name := "compare", desc := "([BI[BI)I" } : Jvm.MethodName)).before a0 Z = true := hw _ (List.mem_of_getElem? (i := 6) rfl)
theorem wd_7 {Z : State} {a0 : Array Value} (hw : ∀ d ∈ tables_1, d.before a0 Z = true) : (Jvm.Cond.initialized "com/example/headword/headword/stardict/SortedIndex").before a0 Z = true := hw _ (List.mem_of_getElem? (i := 7) rfl)
theorem wd_8 {Z : State} {a0 : Array Value} (hw : ∀ d ∈ tables_1, d.before a0 Z = true) : (Jvm.Cond.code ({ cls := "com/example/headword/headword/stardict/SortedIndex", name := "compare", desc := "([BI[BI)I" } : Jvm.MethodName) prog_65_method_4_code (11 : Nat) (Option.some Jvm.ClassFile.FieldType.int)).before a0 Z = true := hw _ (List.mem_of_getElem? (i := 8) rfl)
theorem wd_9 {Z : State} {a0 : Array Value} (hw : ∀ d ∈ tables_1, d.before a0 Z = true) : (Jvm.Cond.methodLink "com/example/headword/headword/stardict/SortedIndex" (86 : Nat) ({ cls := "java/lang/Math", name := "min", desc := "(II)I" } : Jvm.MethodName)).before a0 Z = true := hw _ (List.mem_of_getElem? (i := 9) rfl)
theorem wd_10 {Z : State} {a0 : Array Value} (hw : ∀ d ∈ tables_1, d.before a0 Z = true) : (Jvm.Cond.static ({ cls := "java/lang/Math", name := "min", desc := "(II)I" } : Jvm.MethodName)).before a0 Z = true := hw _ (List.mem_of_getElem? (i := 10) rfl)
theorem wd_11 {Z : State} {a0 : Array Value} (hw : ∀ d ∈ tables_1, d.before a0 Z = true) : (Jvm.Cond.initialized "java/lang/Math").before a0 Z = true := hw _ (List.mem_of_getElem? (i := 11) rfl)
theorem wd_12 {Z : State} {a0 : Array Value} (hw : ∀ d ∈ tables_1, d.before a0 Z = true) : (Jvm.Cond.code ({ cls := "java/lang/Math", name := "min", desc := "(II)I" } : Jvm.MethodName) jdk_29_method_69_code (2 : Nat) (Option.some Jvm.ClassFile.FieldType.int)).before a0 Z = true := hw _ (List.mem_of_getElem? (i := 12) rfl)
theorem wd_13 {Z : State} {a0 : Array Value} (hw : ∀ d ∈ tables_1, d.before a0 Z = true) : (Jvm.Cond.methodLink "com/example/headword/headword/stardict/SortedIndexComparePinLaw" (19 : Nat) ({ cls := "com/example/headword/headword/stardict/SortedIndexComparePinLaw", name := "sign", desc := "(I)I" } : Jvm.MethodName)).before a0 Z = true := hw _ (List.mem_of_getElem? (i := 13) rfl)
theorem wd_14 {Z : State} {a0 : Array Value} (hw : ∀ d ∈ tables_1, d.before a0 Z = true) : (Jvm.Cond.static ({ cls := "com/example/headword/headword/stardict/SortedIndexComparePinLaw", name := "sign", desc := "(I)I" } : Jvm.MethodName)).before a0 Z = true := hw _ (List.mem_of_getElem? (i := 14) rfl)
theorem wd_15 {Z : State} {a0 : Array Value} (hw : ∀ d ∈ tables_1, d.before a0 Z = true) : (Jvm.Cond.code ({ cls := "com/example/headword/headword/stardict/SortedIndexComparePinLaw", name := "sign", desc := "(I)I" } : Jvm.MethodName) method_5_code (1 : Nat) (Option.some Jvm.ClassFile.FieldType.int)).before a0 Z = true := hw _ (List.mem_of_getElem? (i := 15) rfl)
theorem wd_16 {Z : State} {a0 : Array Value} (hw : ∀ d ∈ tables_1, d.before a0 Z = true) : (Jvm.Cond.methodLink "com/example/headword/headword/stardict/SortedIndexComparePinLaw" (23 : Nat) ({ cls := "com/example/headword/headword/stardict/SortedIndexComparePinLaw", name := "reference", desc := "(IIIIIIII)I" } : Jvm.MethodName)).before a0 Z = true := hw _ (List.mem_of_getElem? (i := 16) rfl)
theorem wd_17 {Z : State} {a0 : Array Value} (hw : ∀ d ∈ tables_1, d.before a0 Z = true) : (Jvm.Cond.static ({ cls := "com/example/headword/headword/stardict/SortedIndexComparePinLaw", name := "reference", desc := "(IIIIIIII)I" } : Jvm.MethodName)).before a0 Z = true := hw _ (List.mem_of_getElem? (i := 17) rfl)
theorem wd_18 {Z : State} {a0 : Array Value} (hw : ∀ d ∈ tables_1, d.before a0 Z = true) : (Jvm.Cond.code ({ cls := "com/example/headword/headword/stardict/SortedIndexComparePinLaw", name := "reference", desc := "(IIIIIIII)I" } : Jvm.MethodName) method_6_code (9 : Nat) (Option.some Jvm.ClassFile.FieldType.int)).before a0 Z = true := hw _ (List.mem_of_getElem? (i := 18) rfl)
theorem wd_19 {Z : State} {a0 : Array Value} (hw : ∀ d ∈ tables_1, d.before a0 Z = true) : (Jvm.Cond.methodLink "com/example/headword/headword/stardict/SortedIndexComparePinLaw" (27 : Nat) ({ cls := "java/lang/Math", name := "min", desc := "(II)I" } : Jvm.MethodName)).before a0 Z = true := hw _ (List.mem_of_getElem? (i := 19) rfl)
theorem wd_20 {Z : State} {a0 : Array Value} (hw : ∀ d ∈ tables_1, d.before a0 Z = true) : (Jvm.Cond.methodLink "com/example/headword/headword/stardict/SortedIndexComparePinLaw" (33 : Nat) ({ cls := "com/example/headword/headword/stardict/SortedIndexComparePinLaw", name := "fold", desc := "(I)I" } : Jvm.MethodName)).before a0 Z = true := hw _ (List.mem_of_getElem? (i := 20) rfl)
theorem wd_21 {Z : State} {a0 : Array Value} (hw : ∀ d ∈ tables_1, d.before a0 Z = true) : (Jvm.Cond.static ({ cls := "com/example/headword/headword/stardict/SortedIndexComparePinLaw", name := "fold", desc := "(I)I" } : Jvm.MethodName)).before a0 Z = true := hw _ (List.mem_of_getElem? (i := 21) rfl)
theorem wd_22 {Z : State} {a0 : Array Value} (hw : ∀ d ∈ tables_1, d.before a0 Z = true) : (Jvm.Cond.code ({ cls := "com/example/headword/headword/stardict/SortedIndexComparePinLaw", name := "fold", desc := "(I)I" } : Jvm.MethodName) method_4_code (1 : Nat) (Option.some Jvm.ClassFile.FieldType.int)).before a0 Z = true := hw _ (List.mem_of_getElem? (i := 22) rfl)
theorem d1_0 : decode method_3_code 0 = .ok (.iload_n 2, 1) := by decide +kernel
theorem d1_1 : decode method_3_code 1 = .ok (.ifCond .ne 5, 3) := by decide +kernel
theorem d1_11 : decode method_3_code 11 = .ok (.iload_n 0, 1) := by decide +kernel
theorem d1_12 : decode method_3_code 12 = .ok (.bipush 32, 2) := by decide +kernel
theorem d1_14 : decode method_3_code 14 = .ok (.ixor, 1) := by decide +kernel
theorem d1_15 : decode method_3_code 15 = .ok (.ireturn, 1) := by decide +kernel
theorem d1_16 : decode method_3_code 16 = .ok (.iload_n 1, 1) := by decide +kernel
theorem d1_17 : decode method_3_code 17 = .ok (.ireturn, 1) := by decide +kernel
theorem d1_4 : decode method_3_code 4 = .ok (.iload_n 0, 1) := by decide +kernel
theorem d1_5 : decode method_3_code 5 = .ok (.ireturn, 1) := by decide +kernel
theorem d1_6 : decode method_3_code 6 = .ok (.iload_n 2, 1) := by decide +kernel
theorem d1_7 : decode method_3_code 7 = .ok (.iconst 1, 1) := by decide +kernel
theorem d1_8 : decode method_3_code 8 = .ok (.if_icmp .ne 8, 3) := by decide +kernel
theorem d2_0 : decode prog_65_method_4_code 0 = .ok (.iload_n 1, 1) := by decide +kernel
theorem d2_1 : decode prog_65_method_4_code 1 = .ok (.iload_n 3, 1) := by decide +kernel
theorem d2_10 : decode prog_65_method_4_code 10 = .ok (.iconst 0, 1) := by decide +kernel
theorem d2_101 : decode prog_65_method_4_code 101 = .ok (.iload 10, 2) := by decide +kernel
theorem d2_103 : decode prog_65_method_4_code 103 = .ok (.if_icmp .eq 9, 3) := by decide +kernel
theorem d2_106 : decode prog_65_method_4_code 106 = .ok (.iload 9, 2) := by decide +kernel
theorem d2_108 : decode prog_65_method_4_code 108 = .ok (.iload 10, 2) := by decide +kernel
theorem d2_11 : decode prog_65_method_4_code 11 = .ok (.istore 6, 2) := by decide +kernel
theorem d2_110 : decode prog_65_method_4_code 110 = .ok (.isub, 1) := by decide +kernel
theorem d2_111 : decode prog_65_method_4_code 111 = .ok (.ireturn, 1) := by decide +kernel
theorem d2_112 : decode prog_65_method_4_code 112 = .ok (.iload 5, 2) := by decide +kernel
theorem d2_114 : decode prog_65_method_4_code 114 = .ok (.ifCond .ne 10, 3) := by decide +kernel
theorem d2_117 : decode prog_65_method_4_code 117 = .ok (.iload 7, 2) := by decide +kernel
theorem d2_119 : decode prog_65_method_4_code 119 = .ok (.iload 8, 2) := by decide +kernel
theorem d2_121 : decode prog_65_method_4_code 121 = .ok (.isub, 1) := by decide +kernel
theorem d2_122 : decode prog_65_method_4_code 122 = .ok (.istore 5, 2) := by decide +kernel
theorem d2_124 : decode prog_65_method_4_code 124 = .ok (.iinc 6 1, 3) := by decide +kernel
theorem d2_127 : decode prog_65_method_4_code 127 = .ok (.goto (-114), 3) := by decide +kernel
theorem d2_13 : decode prog_65_method_4_code 13 = .ok (.iload 6, 2) := by decide +kernel
theorem d2_130 : decode prog_65_method_4_code 130 = .ok (.iload_n 1, 1) := by decide +kernel
theorem d2_131 : decode prog_65_method_4_code 131 = .ok (.iload_n 3, 1) := by decide +kernel
theorem d2_132 : decode prog_65_method_4_code 132 = .ok (.if_icmp .eq 9, 3) := by decide +kernel
theorem d2_135 : decode prog_65_method_4_code 135 = .ok (.iload_n 1, 1) := by decide +kernel
theorem d2_136 : decode prog_65_method_4_code 136 = .ok (.iload_n 3, 1) := by decide +kernel
theorem d2_137 : decode prog_65_method_4_code 137 = .ok (.isub, 1) := by decide +kernel
theorem d2_138 : decode prog_65_method_4_code 138 = .ok (.goto 5, 3) := by decide +kernel
theorem d2_141 : decode prog_65_method_4_code 141 = .ok (.iload 5, 2) := by decide +kernel
theorem d2_143 : decode prog_65_method_4_code 143 = .ok (.ireturn, 1) := by decide +kernel
theorem d2_15 : decode prog_65_method_4_code 15 = .ok (.iload 4, 2) := by decide +kernel
theorem d2_17 : decode prog_65_method_4_code 17 = .ok (.if_icmp .ge 113, 3) := by decide +kernel
theorem d2_2 : decode prog_65_method_4_code 2 = .ok (.invokestatic 86, 3) := by decide +kernel
theorem d2_20 : decode prog_65_method_4_code 20 = .ok (.aload_n 0, 1) := by decide +kernel
theorem d2_21 : decode prog_65_method_4_code 21 = .ok (.iload 6, 2) := by decide +kernel
theorem d2_23 : decode prog_65_method_4_code 23 = .ok (.baload, 1) := by decide +kernel
theorem d2_24 : decode prog_65_method_4_code 24 = .ok (.sipush 255, 3) := by decide +kernel
theorem d2_27 : decode prog_65_method_4_code 27 = .ok (.iand, 1) := by decide +kernel
theorem d2_28 : decode prog_65_method_4_code 28 = .ok (.istore 7, 2) := by decide +kernel
theorem d2_30 : decode prog_65_method_4_code 30 = .ok (.aload_n 2, 1) := by decide +kernel
theorem d2_31 : decode prog_65_method_4_code 31 = .ok (.iload 6, 2) := by decide +kernel
theorem d2_33 : decode prog_65_method_4_code 33 = .ok (.baload, 1) := by decide +kernel
theorem d2_34 : decode prog_65_method_4_code 34 = .ok (.sipush 255, 3) := by decide +kernel
theorem d2_37 : decode prog_65_method_4_code 37 = .ok (.iand, 1) := by decide +kernel
theorem d2_38 : decode prog_65_method_4_code 38 = .ok (.istore 8, 2) := by decide +kernel
theorem d2_40 : decode prog_65_method_4_code 40 = .ok (.iload 7, 2) := by decide +kernel
theorem d2_42 : decode prog_65_method_4_code 42 = .ok (.iload 8, 2) := by decide +kernel
theorem d2_44 : decode prog_65_method_4_code 44 = .ok (.if_icmp .eq 80, 3) := by decide +kernel
theorem d2_47 : decode prog_65_method_4_code 47 = .ok (.iload 7, 2) := by decide +kernel
theorem d2_49 : decode prog_65_method_4_code 49 = .ok (.bipush 65, 2) := by decide +kernel
theorem d2_5 : decode prog_65_method_4_code 5 = .ok (.istore 4, 2) := by decide +kernel
theorem d2_51 : decode prog_65_method_4_code 51 = .ok (.if_icmp .lt 18, 3) := by decide +kernel
theorem d2_54 : decode prog_65_method_4_code 54 = .ok (.iload 7, 2) := by decide +kernel
theorem d2_56 : decode prog_65_method_4_code 56 = .ok (.bipush 90, 2) := by decide +kernel
theorem d2_58 : decode prog_65_method_4_code 58 = .ok (.if_icmp .gt 11, 3) := by decide +kernel
theorem d2_61 : decode prog_65_method_4_code 61 = .ok (.iload 7, 2) := by decide +kernel
theorem d2_63 : decode prog_65_method_4_code 63 = .ok (.bipush 32, 2) := by decide +kernel
theorem d2_65 : decode prog_65_method_4_code 65 = .ok (.iadd, 1) := by decide +kernel
theorem d2_66 : decode prog_65_method_4_code 66 = .ok (.goto 5, 3) := by decide +kernel
theorem d2_69 : decode prog_65_method_4_code 69 = .ok (.iload 7, 2) := by decide +kernel
theorem d2_7 : decode prog_65_method_4_code 7 = .ok (.iconst 0, 1) := by decide +kernel
theorem d2_71 : decode prog_65_method_4_code 71 = .ok (.istore 9, 2) := by decide +kernel
theorem d2_73 : decode prog_65_method_4_code 73 = .ok (.iload 8, 2) := by decide +kernel
theorem d2_75 : decode prog_65_method_4_code 75 = .ok (.bipush 65, 2) := by decide +kernel
theorem d2_77 : decode prog_65_method_4_code 77 = .ok (.if_icmp .lt 18, 3) := by decide +kernel
theorem d2_8 : decode prog_65_method_4_code 8 = .ok (.istore 5, 2) := by decide +kernel
theorem d2_80 : decode prog_65_method_4_code 80 = .ok (.iload 8, 2) := by decide +kernel
theorem d2_82 : decode prog_65_method_4_code 82 = .ok (.bipush 90, 2) := by decide +kernel
theorem d2_84 : decode prog_65_method_4_code 84 = .ok (.if_icmp .gt 11, 3) := by decide +kernel
theorem d2_87 : decode prog_65_method_4_code 87 = .ok (.iload 8, 2) := by decide +kernel
theorem d2_89 : decode prog_65_method_4_code 89 = .ok (.bipush 32, 2) := by decide +kernel
theorem d2_91 : decode prog_65_method_4_code 91 = .ok (.iadd, 1) := by decide +kernel
theorem d2_92 : decode prog_65_method_4_code 92 = .ok (.goto 5, 3) := by decide +kernel
theorem d2_95 : decode prog_65_method_4_code 95 = .ok (.iload 8, 2) := by decide +kernel
theorem d2_97 : decode prog_65_method_4_code 97 = .ok (.istore 10, 2) := by decide +kernel
theorem d2_99 : decode prog_65_method_4_code 99 = .ok (.iload 9, 2) := by decide +kernel
theorem d3_0 : decode jdk_29_method_69_code 0 = .ok (.iload_n 0, 1) := by decide +kernel
theorem d3_1 : decode jdk_29_method_69_code 1 = .ok (.iload_n 1, 1) := by decide +kernel
theorem d3_10 : decode jdk_29_method_69_code 10 = .ok (.ireturn, 1) := by decide +kernel
theorem d3_2 : decode jdk_29_method_69_code 2 = .ok (.if_icmp .gt 7, 3) := by decide +kernel
theorem d3_5 : decode jdk_29_method_69_code 5 = .ok (.iload_n 0, 1) := by decide +kernel
theorem d3_6 : decode jdk_29_method_69_code 6 = .ok (.goto 4, 3) := by decide +kernel
theorem d3_9 : decode jdk_29_method_69_code 9 = .ok (.iload_n 1, 1) := by decide +kernel
theorem d4_0 : decode method_5_code 0 = .ok (.iload_n 0, 1) := by decide +kernel
theorem d4_1 : decode method_5_code 1 = .ok (.ifCond .ge 5, 3) := by decide +kernel
theorem d4_10 : decode method_5_code 10 = .ok (.iconst 1, 1) := by decide +kernel
theorem d4_11 : decode method_5_code 11 = .ok (.ireturn, 1) := by decide +kernel
theorem d4_12 : decode method_5_code 12 = .ok (.iconst 0, 1) := by decide +kernel
theorem d4_13 : decode method_5_code 13 = .ok (.ireturn, 1) := by decide +kernel
theorem d4_4 : decode method_5_code 4 = .ok (.iconst (-1), 1) := by decide +kernel
theorem d4_5 : decode method_5_code 5 = .ok (.ireturn, 1) := by decide +kernel
theorem d4_6 : decode method_5_code 6 = .ok (.iload_n 0, 1) := by decide +kernel
theorem d4_7 : decode method_5_code 7 = .ok (.ifCond .le 5, 3) := by decide +kernel
theorem d5_0 : decode method_6_code 0 = .ok (.iload_n 3, 1) := by decide +kernel
theorem d5_1 : decode method_6_code 1 = .ok (.iload 7, 2) := by decide +kernel
theorem d5_10 : decode method_6_code 10 = .ok (.ifCond .le 29, 3) := by decide +kernel
theorem d5_102 : decode method_6_code 102 = .ok (.ireturn, 1) := by decide +kernel
theorem d5_103 : decode method_6_code 103 = .ok (.iload_n 3, 1) := by decide +kernel
theorem d5_104 : decode method_6_code 104 = .ok (.iload 7, 2) := by decide +kernel
theorem d5_106 : decode method_6_code 106 = .ok (.if_icmp .eq 15, 3) := by decide +kernel
theorem d5_109 : decode method_6_code 109 = .ok (.iload_n 3, 1) := by decide +kernel
theorem d5_110 : decode method_6_code 110 = .ok (.iload 7, 2) := by decide +kernel
theorem d5_112 : decode method_6_code 112 = .ok (.if_icmp .ge 7, 3) := by decide +kernel
theorem d5_115 : decode method_6_code 115 = .ok (.iconst (-1), 1) := by decide +kernel
theorem d5_116 : decode method_6_code 116 = .ok (.goto 4, 3) := by decide +kernel
theorem d5_119 : decode method_6_code 119 = .ok (.iconst 1, 1) := by decide +kernel
theorem d5_120 : decode method_6_code 120 = .ok (.ireturn, 1) := by decide +kernel
theorem d5_121 : decode method_6_code 121 = .ok (.iload_n 3, 1) := by decide +kernel
theorem d5_122 : decode method_6_code 122 = .ok (.ifCond .le 17, 3) := by decide +kernel
theorem d5_125 : decode method_6_code 125 = .ok (.iload_n 0, 1) := by decide +kernel
theorem d5_126 : decode method_6_code 126 = .ok (.iload 4, 2) := by decide +kernel
theorem d5_128 : decode method_6_code 128 = .ok (.if_icmp .eq 11, 3) := by decide +kernel
theorem d5_13 : decode method_6_code 13 = .ok (.iload_n 0, 1) := by decide +kernel
theorem d5_131 : decode method_6_code 131 = .ok (.iload_n 0, 1) := by decide +kernel
theorem d5_132 : decode method_6_code 132 = .ok (.iload 4, 2) := by decide +kernel
theorem d5_134 : decode method_6_code 134 = .ok (.isub, 1) := by decide +kernel
theorem d5_135 : decode method_6_code 135 = .ok (.invokestatic 19, 3) := by decide +kernel
theorem d5_138 : decode method_6_code 138 = .ok (.ireturn, 1) := by decide +kernel
theorem d5_139 : decode method_6_code 139 = .ok (.iload_n 3, 1) := by decide +kernel
theorem d5_14 : decode method_6_code 14 = .ok (.invokestatic 33, 3) := by decide +kernel
theorem d5_140 : decode method_6_code 140 = .ok (.iconst 1, 1) := by decide +kernel
theorem d5_141 : decode method_6_code 141 = .ok (.if_icmp .le 17, 3) := by decide +kernel
theorem d5_144 : decode method_6_code 144 = .ok (.iload_n 1, 1) := by decide +kernel
theorem d5_145 : decode method_6_code 145 = .ok (.iload 5, 2) := by decide +kernel
theorem d5_147 : decode method_6_code 147 = .ok (.if_icmp .eq 11, 3) := by decide +kernel
theorem d5_150 : decode method_6_code 150 = .ok (.iload_n 1, 1) := by decide +kernel
theorem d5_151 : decode method_6_code 151 = .ok (.iload 5, 2) := by decide +kernel
theorem d5_153 : decode method_6_code 153 = .ok (.isub, 1) := by decide +kernel
theorem d5_154 : decode method_6_code 154 = .ok (.invokestatic 19, 3) := by decide +kernel
theorem d5_157 : decode method_6_code 157 = .ok (.ireturn, 1) := by decide +kernel
theorem d5_158 : decode method_6_code 158 = .ok (.iload_n 3, 1) := by decide +kernel
theorem d5_159 : decode method_6_code 159 = .ok (.iconst 2, 1) := by decide +kernel
theorem d5_160 : decode method_6_code 160 = .ok (.if_icmp .le 17, 3) := by decide +kernel
theorem d5_163 : decode method_6_code 163 = .ok (.iload_n 2, 1) := by decide +kernel
theorem d5_164 : decode method_6_code 164 = .ok (.iload 6, 2) := by decide +kernel
theorem d5_166 : decode method_6_code 166 = .ok (.if_icmp .eq 11, 3) := by decide +kernel
theorem d5_169 : decode method_6_code 169 = .ok (.iload_n 2, 1) := by decide +kernel
theorem d5_17 : decode method_6_code 17 = .ok (.iload 4, 2) := by decide +kernel
theorem d5_170 : decode method_6_code 170 = .ok (.iload 6, 2) := by decide +kernel
theorem d5_172 : decode method_6_code 172 = .ok (.isub, 1) := by decide +kernel
theorem d5_173 : decode method_6_code 173 = .ok (.invokestatic 19, 3) := by decide +kernel
theorem d5_176 : decode method_6_code 176 = .ok (.ireturn, 1) := by decide +kernel
theorem d5_177 : decode method_6_code 177 = .ok (.iconst 0, 1) := by decide +kernel
theorem d5_178 : decode method_6_code 178 = .ok (.ireturn, 1) := by decide +kernel
theorem d5_19 : decode method_6_code 19 = .ok (.invokestatic 33, 3) := by decide +kernel
theorem d5_22 : decode method_6_code 22 = .ok (.if_icmp .eq 17, 3) := by decide +kernel
theorem d5_25 : decode method_6_code 25 = .ok (.iload_n 0, 1) := by decide +kernel
theorem d5_26 : decode method_6_code 26 = .ok (.invokestatic 33, 3) := by decide +kernel
theorem d5_29 : decode method_6_code 29 = .ok (.iload 4, 2) := by decide +kernel
theorem d5_3 : decode method_6_code 3 = .ok (.invokestatic 27, 3) := by decide +kernel
theorem d5_31 : decode method_6_code 31 = .ok (.invokestatic 33, 3) := by decide +kernel
theorem d5_34 : decode method_6_code 34 = .ok (.isub, 1) := by decide +kernel
theorem d5_35 : decode method_6_code 35 = .ok (.invokestatic 19, 3) := by decide +kernel
theorem d5_38 : decode method_6_code 38 = .ok (.ireturn, 1) := by decide +kernel
theorem d5_39 : decode method_6_code 39 = .ok (.iload 8, 2) := by decide +kernel
theorem d5_41 : decode method_6_code 41 = .ok (.iconst 1, 1) := by decide +kernel
theorem d5_42 : decode method_6_code 42 = .ok (.if_icmp .le 29, 3) := by decide +kernel
theorem d5_45 : decode method_6_code 45 = .ok (.iload_n 1, 1) := by decide +kernel
theorem d5_46 : decode method_6_code 46 = .ok (.invokestatic 33, 3) := by decide +kernel
theorem d5_49 : decode method_6_code 49 = .ok (.iload 5, 2) := by decide +kernel
theorem d5_51 : decode method_6_code 51 = .ok (.invokestatic 33, 3) := by decide +kernel
theorem d5_54 : decode method_6_code 54 = .ok (.if_icmp .eq 17, 3) := by decide +kernel
theorem d5_57 : decode method_6_code 57 = .ok (.iload_n 1, 1) := by decide +kernel
theorem d5_58 : decode method_6_code 58 = .ok (.invokestatic 33, 3) := by decide +kernel
theorem d5_6 : decode method_6_code 6 = .ok (.istore 8, 2) := by decide +kernel
theorem d5_61 : decode method_6_code 61 = .ok (.iload 5, 2) := by decide +kernel
theorem d5_63 : decode method_6_code 63 = .ok (.invokestatic 33, 3) := by decide +kernel
theorem d5_66 : decode method_6_code 66 = .ok (.isub, 1) := by decide +kernel
theorem d5_67 : decode method_6_code 67 = .ok (.invokestatic 19, 3) := by decide +kernel
theorem d5_70 : decode method_6_code 70 = .ok (.ireturn, 1) := by decide +kernel
theorem d5_71 : decode method_6_code 71 = .ok (.iload 8, 2) := by decide +kernel
theorem d5_73 : decode method_6_code 73 = .ok (.iconst 2, 1) := by decide +kernel
theorem d5_74 : decode method_6_code 74 = .ok (.if_icmp .le 29, 3) := by decide +kernel
theorem d5_77 : decode method_6_code 77 = .ok (.iload_n 2, 1) := by decide +kernel
theorem d5_78 : decode method_6_code 78 = .ok (.invokestatic 33, 3) := by decide +kernel
theorem d5_8 : decode method_6_code 8 = .ok (.iload 8, 2) := by decide +kernel
theorem d5_81 : decode method_6_code 81 = .ok (.iload 6, 2) := by decide +kernel
theorem d5_83 : decode method_6_code 83 = .ok (.invokestatic 33, 3) := by decide +kernel
theorem d5_86 : decode method_6_code 86 = .ok (.if_icmp .eq 17, 3) := by decide +kernel
theorem d5_89 : decode method_6_code 89 = .ok (.iload_n 2, 1) := by decide +kernel
theorem d5_90 : decode method_6_code 90 = .ok (.invokestatic 33, 3) := by decide +kernel
theorem d5_93 : decode method_6_code 93 = .ok (.iload 6, 2) := by decide +kernel
theorem d5_95 : decode method_6_code 95 = .ok (.invokestatic 33, 3) := by decide +kernel
theorem d5_98 : decode method_6_code 98 = .ok (.isub, 1) := by decide +kernel
theorem d5_99 : decode method_6_code 99 = .ok (.invokestatic 19, 3) := by decide +kernel
theorem d6_0 : decode method_4_code 0 = .ok (.iload_n 0, 1) := by decide +kernel
theorem d6_1 : decode method_4_code 1 = .ok (.bipush 65, 2) := by decide +kernel
theorem d6_12 : decode method_4_code 12 = .ok (.iload_n 0, 1) := by decide +kernel
theorem d6_13 : decode method_4_code 13 = .ok (.bipush 32, 2) := by decide +kernel
theorem d6_15 : decode method_4_code 15 = .ok (.iadd, 1) := by decide +kernel
theorem d6_16 : decode method_4_code 16 = .ok (.ireturn, 1) := by decide +kernel
theorem d6_17 : decode method_4_code 17 = .ok (.iload_n 0, 1) := by decide +kernel
theorem d6_18 : decode method_4_code 18 = .ok (.ireturn, 1) := by decide +kernel
theorem d6_3 : decode method_4_code 3 = .ok (.if_icmp .lt 14, 3) := by decide +kernel
theorem d6_6 : decode method_4_code 6 = .ok (.iload_n 0, 1) := by decide +kernel
theorem d6_7 : decode method_4_code 7 = .ok (.bipush 90, 2) := by decide +kernel
theorem d6_9 : decode method_4_code 9 = .ok (.if_icmp .gt 8, 3) := by decide +kernel
theorem pd_lIrI : parseMethodDescriptor "(I)I" = some ⟨[.int], some .int⟩ := by decide +kernel
theorem pd_lIIrI : parseMethodDescriptor "(II)I" = some ⟨[.int, .int], some .int⟩ := by decide +kernel
theorem pd_lIIIrI : parseMethodDescriptor "(III)I" = some ⟨[.int, .int, .int], some .int⟩ := by decide +kernel
theorem pd_lIIIIIIIIrI : parseMethodDescriptor "(IIIIIIII)I" = some ⟨[.int, .int, .int, .int, .int, .int, .int, .int], some .int⟩ := by decide +kernel
theorem pd_laBIaBIrI : parseMethodDescriptor "([BI[BI)I" = some ⟨[(.array .byte), .int, (.array .byte), .int], some .int⟩ := by decide +kernel
theorem pn_0 : plainFor x = true := plainFor_of_name (show plainName "com/example/headword/headword/stardict/SortedIndexComparePinLaw" = true by first | (simp [plainName, overriddenIn]; done) | decide +kernel)
theorem pn_1 : plainFor (⟨"com/example/headword/headword/stardict/SortedIndexComparePinLaw", "pick", "(III)I"⟩ : MethodName) = true := plainFor_of_name (show plainName "com/example/headword/headword/stardict/SortedIndexComparePinLaw" = true by first | (simp [plainName, overriddenIn]; done) | decide +kernel)
theorem pn_2 : plainFor (⟨"com/example/headword/headword/stardict/SortedIndex", "compare", "([BI[BI)I"⟩ : MethodName) = true := plainFor_of_name (show plainName "com/example/headword/headword/stardict/SortedIndex" = true by first | (simp [plainName, overriddenIn]; done) | decide +kernel)
theorem pn_3 : plainFor (⟨"java/lang/Math", "min", "(II)I"⟩ : MethodName) = true := Jvm.Free.JP.mathPlain rfl (by decide +kernel)
theorem pn_4 : plainFor (⟨"com/example/headword/headword/stardict/SortedIndexComparePinLaw", "sign", "(I)I"⟩ : MethodName) = true := plainFor_of_name (show plainName "com/example/headword/headword/stardict/SortedIndexComparePinLaw" = true by first | (simp [plainName, overriddenIn]; done) | decide +kernel)
theorem pn_5 : plainFor (⟨"com/example/headword/headword/stardict/SortedIndexComparePinLaw", "reference", "(IIIIIIII)I"⟩ : MethodName) = true := plainFor_of_name (show plainName "com/example/headword/headword/stardict/SortedIndexComparePinLaw" = true by first | (simp [plainName, overriddenIn]; done) | decide +kernel)
theorem pn_6 : plainFor (⟨"com/example/headword/headword/stardict/SortedIndexComparePinLaw", "fold", "(I)I"⟩ : MethodName) = true := plainFor_of_name (show plainName "com/example/headword/headword/stardict/SortedIndexComparePinLaw" = true by first | (simp [plainName, overriddenIn]; done) | decide +kernel)
theorem own_lt {i n : Nat} (h : i < n) (hn : n < 2147483648) : Int32.ofNat i < Int32.ofNat n := by
  rw [Int32.lt_iff_toInt_lt, Int32.toInt_ofNat_of_lt (by omega), Int32.toInt_ofNat_of_lt (by omega)]
  omega
theorem own_nn {n : Nat} (hn : n < 2147483648) : ¬ Int32.ofNat n < 0 := by
  rw [Int32.lt_iff_toInt_lt, Int32.toInt_ofNat_of_lt (by omega), show (0 : Int32).toInt = 0 from rfl]
  omega
theorem own_n32 {n : Nat} (hn : n < 2147483648) : (Int32.ofNat n).toNatClampNeg = n := by
  rw [Int32.toNatClampNeg, Int32.toInt_ofNat_of_lt (by omega)]; rfl
theorem own_one (i : Nat) : Int32.ofNat i + (1 : Int32) = Int32.ofNat (i + 1) := (Int32.ofNat_add i 1).symm
theorem own_hd {xs ys : List Int32} {y : Int32} {i : Nat} (h : xs.drop i = y :: ys) : xs.getD i 0 = y := by
  have q : xs[i]? = some y := by have := congrArg (fun l => l[0]?) h; simpa [List.getElem?_drop] using this
  rw [List.getD_eq_getElem?_getD, q]; rfl
theorem own_tl {xs ys : List Int32} {y : Int32} {i : Nat} (h : xs.drop i = y :: ys) : xs.drop (i + 1) = ys := by
  have := congrArg (List.drop 1) h; simpa [List.drop_drop] using this
theorem ef_1 (m : MethodId) (y0 : Int32) (y1 : Int32) (y2 : Int32) : entryFrame m #[(.int y0), (.int y1), (.int y2)] 3 = mkF m 0 #[.val (.int y0), .val (.int y1), .val (.int y2)] [] := by first | (simp [entryFrame, mkF, argsToLocals, Value.category]; done) | rfl
def fn1 (i0 : Int32) (i1 : Int32) (i2 : Int32) : Int32 := (if i2 = (0 : Int32) then i0 else (if i2 = (1 : Int32) then (i0 ^^^ (32 : Int32)) else i1))
set_option maxRecDepth 65536 in
set_option maxHeartbeats 40000000 in
theorem rm1 (l : Launch) (Z : State) (a0 : Array Value) (hw : ∀ d ∈ tables_1, d.before a0 Z = true) (i0 : Int32) (i1 : Int32) (i2 : Int32) (h0 : Heap) : MetP l (⟨"com/example/headword/headword/stardict/SortedIndexComparePinLaw", "pick", "(III)I"⟩ : MethodName) method_3_code 3 (some .int) [] ({ frames := 0, cells := 0, slots := 0, locals := 0 } : Room) Z #[(.int i0), (.int i1), (.int i2)] h0 (Pure (.int (fn1 i0 i1 i2)) h0) := by
  refine met_go pn_1 ?_
  intro p e s m below meth c s₁ hx hby hml hown hnm hret hlk hZ e0 X0
  rw [ef_1 m i0 i1 i2]
  refine o_iloadN 1 X0 hx rfl (hb hby d1_0) rfl ?_
  by_cases hc1_1 : i2 = (0 : Int32)
  · refine o_ifNo 4 X0 hx rfl (hb hby d1_1) (teq hc1_1).2 ?_
    refine o_iloadN 5 X0 hx rfl (hb hby d1_4) rfl ?_
    refine o_retI X0 hx hret hlk (hb hby d1_5) (by decide) (by decide) ?_
    exact ⟨show some (Value.int i0) = some (Value.int (fn1 i0 i1 i2)) from by rw [show (fn1 i0 i1 i2) = i0 from by unfold fn1; simp only [if_pos hc1_1]], rfl, e0⟩
  · refine o_ifYes 6 X0 hx (hb hby d1_1) (feq hc1_1).2 (by decide) (by decide) ?_
    refine o_iloadN 7 X0 hx rfl (hb hby d1_6) rfl ?_
    refine o_iconst 8 X0 hx rfl (hb hby d1_7) (1 : Int32) rfl ?_
    by_cases hc8_2 : i2 = (1 : Int32)
    · refine o_icmpNo 11 X0 hx rfl (hb hby d1_8) (teq hc8_2).2 ?_
      refine o_iloadN 12 X0 hx rfl (hb hby d1_11) rfl ?_
      refine o_bipush 14 X0 hx rfl (hb hby d1_12) (32 : Int32) rfl ?_
      refine o_ixor 15 X0 hx rfl (hb hby d1_14) ?_
      refine o_retI X0 hx hret hlk (hb hby d1_15) (by decide) (by decide) ?_
      exact ⟨show some (Value.int (i0 ^^^ (32 : Int32))) = some (Value.int (fn1 i0 i1 i2)) from by rw [show (fn1 i0 i1 i2) = (i0 ^^^ (32 : Int32)) from by unfold fn1; simp only [if_neg hc1_1, if_pos hc8_2]], rfl, e0⟩
    · refine o_icmpYes 16 X0 hx (hb hby d1_8) (feq hc8_2).2 (by decide) (by decide) ?_
      refine o_iloadN 17 X0 hx rfl (hb hby d1_16) rfl ?_
      refine o_retI X0 hx hret hlk (hb hby d1_17) (by decide) (by decide) ?_
      exact ⟨show some (Value.int i1) = some (Value.int (fn1 i0 i1 i2)) from by rw [show (fn1 i0 i1 i2) = i1 from by unfold fn1; simp only [if_neg hc1_1, if_neg hc8_2]], rfl, e0⟩
theorem ef_3 (m : MethodId) (y0 : Int32) (y1 : Int32) : entryFrame m #[(.int y0), (.int y1)] 2 = mkF m 0 #[.val (.int y0), .val (.int y1)] [] := by first | (simp [entryFrame, mkF, argsToLocals, Value.category]; done) | rfl
def f3_10_s0 (i0 : Int32) (i1 : Int32) : Int32 := (if i1 < i0 then i1 else i0)
def fn3 (i0 : Int32) (i1 : Int32) : Int32 := (f3_10_s0 i0 i1)
set_option maxRecDepth 65536 in
set_option maxHeartbeats 40000000 in
theorem rm3 (l : Launch) (Z : State) (a0 : Array Value) (hw : ∀ d ∈ tables_1, d.before a0 Z = true) (i0 : Int32) (i1 : Int32) (h0 : Heap) : MetP l (⟨"java/lang/Math", "min", "(II)I"⟩ : MethodName) jdk_29_method_69_code 2 (some .int) [] ({ frames := 0, cells := 0, slots := 0, locals := 0 } : Room) Z #[(.int i0), (.int i1)] h0 (Pure (.int (fn3 i0 i1)) h0) := by
  refine met_go pn_3 ?_
  intro p e s m below meth c s₁ hx hby hml hown hnm hret hlk hZ e0 X0
  rw [ef_3 m i0 i1]
  refine o_iloadN 1 X0 hx rfl (hb hby d3_0) rfl ?_
  refine o_iloadN 2 X0 hx rfl (hb hby d3_1) rfl ?_
  suffices j10_1 : Go p.tables e below (EndE s ({ frames := 0, cells := 0, slots := 0, locals := 0 } : Room) (Pure (.int (fn3 i0 i1)) h0)) (s₁.setTop (mkF m 10 #[.val (.int i0), .val (.int i1)] [(.int (f3_10_s0 i0 i1))])) by
    by_cases hc2_2 : i1 < i0
    · refine o_icmpYes 9 X0 hx (hb hby d3_2) (tlt hc2_2).2.2.1 (by decide) (by decide) ?_
      refine o_iloadN 10 X0 hx rfl (hb hby d3_9) rfl ?_
      rw [show (f3_10_s0 i0 i1) = i1 from by unfold f3_10_s0; simp only [if_pos hc2_2]] at j10_1
      exact j10_1
    · refine o_icmpNo 5 X0 hx rfl (hb hby d3_2) (flt hc2_2).2.2.1 ?_
      refine o_iloadN 6 X0 hx rfl (hb hby d3_5) rfl ?_
      refine o_goto 10 X0 hx (hb hby d3_6) (by decide) (by decide) ?_
      rw [show (f3_10_s0 i0 i1) = i0 from by unfold f3_10_s0; simp only [if_neg hc2_2]] at j10_1
      exact j10_1
  refine o_retI X0 hx hret hlk (hb hby d3_10) (by decide) (by decide) ?_
  exact ⟨show some (Value.int (f3_10_s0 i0 i1)) = some (Value.int (fn3 i0 i1)) from by rw [show (fn3 i0 i1) = (f3_10_s0 i0 i1) from by rfl], rfl, e0⟩
theorem ef_4 (m : MethodId) (y0 : Int32) : entryFrame m #[(.int y0)] 1 = mkF m 0 #[.val (.int y0)] [] := by first | (simp [entryFrame, mkF, argsToLocals, Value.category]; done) | rfl
def fn4 (i0 : Int32) : Int32 := (if i0 < (0 : Int32) then (-1 : Int32) else (if (0 : Int32) < i0 then (1 : Int32) else (0 : Int32)))
set_option maxRecDepth 65536 in
set_option maxHeartbeats 40000000 in
theorem rm4 (l : Launch) (Z : State) (a0 : Array Value) (hw : ∀ d ∈ tables_1, d.before a0 Z = true) (i0 : Int32) (h0 : Heap) : MetP l (⟨"com/example/headword/headword/stardict/SortedIndexComparePinLaw", "sign", "(I)I"⟩ : MethodName) method_5_code 1 (some .int) [] ({ frames := 0, cells := 0, slots := 0, locals := 0 } : Room) Z #[(.int i0)] h0 (Pure (.int (fn4 i0)) h0) := by
  refine met_go pn_4 ?_
  intro p e s m below meth c s₁ hx hby hml hown hnm hret hlk hZ e0 X0
  rw [ef_4 m i0]
  refine o_iloadN 1 X0 hx rfl (hb hby d4_0) rfl ?_
  by_cases hc1_1 : i0 < (0 : Int32)
  · refine o_ifNo 4 X0 hx rfl (hb hby d4_1) (tlt hc1_1).2.1 ?_
    refine o_iconst 5 X0 hx rfl (hb hby d4_4) (-1 : Int32) rfl ?_
    refine o_retI X0 hx hret hlk (hb hby d4_5) (by decide) (by decide) ?_
    exact ⟨show some (Value.int (-1 : Int32)) = some (Value.int (fn4 i0)) from by rw [show (fn4 i0) = (-1 : Int32) from by unfold fn4; simp only [if_pos hc1_1]], rfl, e0⟩
  · refine o_ifYes 6 X0 hx (hb hby d4_1) (flt hc1_1).2.1 (by decide) (by decide) ?_
    refine o_iloadN 7 X0 hx rfl (hb hby d4_6) rfl ?_
    by_cases hc7_2 : (0 : Int32) < i0
    · refine o_ifNo 10 X0 hx rfl (hb hby d4_7) (tlt hc7_2).2.2.2 ?_
      refine o_iconst 11 X0 hx rfl (hb hby d4_10) (1 : Int32) rfl ?_
      refine o_retI X0 hx hret hlk (hb hby d4_11) (by decide) (by decide) ?_
      exact ⟨show some (Value.int (1 : Int32)) = some (Value.int (fn4 i0)) from by rw [show (fn4 i0) = (1 : Int32) from by unfold fn4; simp only [if_neg hc1_1, if_pos hc7_2]], rfl, e0⟩
    · refine o_ifYes 12 X0 hx (hb hby d4_7) (flt hc7_2).2.2.2 (by decide) (by decide) ?_
      refine o_iconst 13 X0 hx rfl (hb hby d4_12) (0 : Int32) rfl ?_
      refine o_retI X0 hx hret hlk (hb hby d4_13) (by decide) (by decide) ?_
      exact ⟨show some (Value.int (0 : Int32)) = some (Value.int (fn4 i0)) from by rw [show (fn4 i0) = (0 : Int32) from by unfold fn4; simp only [if_neg hc1_1, if_neg hc7_2]], rfl, e0⟩
theorem ef_6 (m : MethodId) (y0 : Int32) : entryFrame m #[(.int y0)] 1 = mkF m 0 #[.val (.int y0)] [] := by first | (simp [entryFrame, mkF, argsToLocals, Value.category]; done) | rfl
def fn6 (i0 : Int32) : Int32 := (if i0 < (65 : Int32) then i0 else (if (90 : Int32) < i0 then i0 else (i0 + (32 : Int32))))
set_option maxRecDepth 65536 in
set_option maxHeartbeats 40000000 in
theorem rm6 (l : Launch) (Z : State) (a0 : Array Value) (hw : ∀ d ∈ tables_1, d.before a0 Z = true) (i0 : Int32) (h0 : Heap) : MetP l (⟨"com/example/headword/headword/stardict/SortedIndexComparePinLaw", "fold", "(I)I"⟩ : MethodName) method_4_code 1 (some .int) [] ({ frames := 0, cells := 0, slots := 0, locals := 0 } : Room) Z #[(.int i0)] h0 (Pure (.int (fn6 i0)) h0) := by
  refine met_go pn_6 ?_
  intro p e s m below meth c s₁ hx hby hml hown hnm hret hlk hZ e0 X0
  rw [ef_6 m i0]
  refine o_iloadN 1 X0 hx rfl (hb hby d6_0) rfl ?_
  refine o_bipush 3 X0 hx rfl (hb hby d6_1) (65 : Int32) rfl ?_
  by_cases hc3_1 : i0 < (65 : Int32)
  · refine o_icmpYes 17 X0 hx (hb hby d6_3) (tlt hc3_1).1 (by decide) (by decide) ?_
    refine o_iloadN 18 X0 hx rfl (hb hby d6_17) rfl ?_
    refine o_retI X0 hx hret hlk (hb hby d6_18) (by decide) (by decide) ?_
    exact ⟨show some (Value.int i0) = some (Value.int (fn6 i0)) from by rw [show (fn6 i0) = i0 from by unfold fn6; simp only [if_pos hc3_1]], rfl, e0⟩
  · refine o_icmpNo 6 X0 hx rfl (hb hby d6_3) (flt hc3_1).1 ?_
    refine o_iloadN 7 X0 hx rfl (hb hby d6_6) rfl ?_
    refine o_bipush 9 X0 hx rfl (hb hby d6_7) (90 : Int32) rfl ?_
    by_cases hc9_2 : (90 : Int32) < i0
    · refine o_icmpYes 17 X0 hx (hb hby d6_9) (tlt hc9_2).2.2.1 (by decide) (by decide) ?_
      refine o_iloadN 18 X0 hx rfl (hb hby d6_17) rfl ?_
      refine o_retI X0 hx hret hlk (hb hby d6_18) (by decide) (by decide) ?_
      exact ⟨show some (Value.int i0) = some (Value.int (fn6 i0)) from by rw [show (fn6 i0) = i0 from by unfold fn6; simp only [if_neg hc3_1, if_pos hc9_2]], rfl, e0⟩
    · refine o_icmpNo 12 X0 hx rfl (hb hby d6_9) (flt hc9_2).2.2.1 ?_
      refine o_iloadN 13 X0 hx rfl (hb hby d6_12) rfl ?_
      refine o_bipush 15 X0 hx rfl (hb hby d6_13) (32 : Int32) rfl ?_
      refine o_iadd 16 X0 hx rfl (hb hby d6_15) ?_
      refine o_retI X0 hx hret hlk (hb hby d6_16) (by decide) (by decide) ?_
      exact ⟨show some (Value.int (i0 + (32 : Int32))) = some (Value.int (fn6 i0)) from by rw [show (fn6 i0) = (i0 + (32 : Int32)) from by unfold fn6; simp only [if_neg hc3_1, if_neg hc9_2]], rfl, e0⟩
theorem ef_5 (m : MethodId) (y0 : Int32) (y1 : Int32) (y2 : Int32) (y3 : Int32) (y4 : Int32) (y5 : Int32) (y6 : Int32) (y7 : Int32) : entryFrame m #[(.int y0), (.int y1), (.int y2), (.int y3), (.int y4), (.int y5), (.int y6), (.int y7)] 9 = mkF m 0 #[.val (.int y0), .val (.int y1), .val (.int y2), .val (.int y3), .val (.int y4), .val (.int y5), .val (.int y6), .val (.int y7), .unset] [] := by first | (simp [entryFrame, mkF, argsToLocals, Value.category]; done) | rfl
def f5_x177 (i0 : Int32) (i1 : Int32) (i2 : Int32) (i3 : Int32) (i4 : Int32) (i5 : Int32) (i6 : Int32) (i7 : Int32) : Int32 := (0 : Int32)
def f5_x158 (i0 : Int32) (i1 : Int32) (i2 : Int32) (i3 : Int32) (i4 : Int32) (i5 : Int32) (i6 : Int32) (i7 : Int32) : Int32 := (if (2 : Int32) < i3 then (if i2 = i6 then (f5_x177 i0 i1 i2 i3 i4 i5 i6 i7) else (fn4 (i2 - i6))) else (f5_x177 i0 i1 i2 i3 i4 i5 i6 i7))
def f5_x139 (i0 : Int32) (i1 : Int32) (i2 : Int32) (i3 : Int32) (i4 : Int32) (i5 : Int32) (i6 : Int32) (i7 : Int32) : Int32 := (if (1 : Int32) < i3 then (if i1 = i5 then (f5_x158 i0 i1 i2 i3 i4 i5 i6 i7) else (fn4 (i1 - i5))) else (f5_x158 i0 i1 i2 i3 i4 i5 i6 i7))
def f5_120_s0 (i3 : Int32) (i7 : Int32) : Int32 := (if i3 < i7 then (-1 : Int32) else (1 : Int32))
def f5_x103 (i0 : Int32) (i1 : Int32) (i2 : Int32) (i3 : Int32) (i4 : Int32) (i5 : Int32) (i6 : Int32) (i7 : Int32) : Int32 := (if i3 = i7 then (if (0 : Int32) < i3 then (if i0 = i4 then (f5_x139 i0 i1 i2 i3 i4 i5 i6 i7) else (fn4 (i0 - i4))) else (f5_x139 i0 i1 i2 i3 i4 i5 i6 i7)) else (f5_120_s0 i3 i7))
def f5_x71 (i0 : Int32) (i1 : Int32) (i2 : Int32) (i3 : Int32) (i4 : Int32) (i5 : Int32) (i6 : Int32) (i7 : Int32) : Int32 := (if (2 : Int32) < (fn3 i3 i7) then (if (fn6 i2) = (fn6 i6) then (f5_x103 i0 i1 i2 i3 i4 i5 i6 i7) else (fn4 ((fn6 i2) - (fn6 i6)))) else (f5_x103 i0 i1 i2 i3 i4 i5 i6 i7))
def f5_x39 (i0 : Int32) (i1 : Int32) (i2 : Int32) (i3 : Int32) (i4 : Int32) (i5 : Int32) (i6 : Int32) (i7 : Int32) : Int32 := (if (1 : Int32) < (fn3 i3 i7) then (if (fn6 i1) = (fn6 i5) then (f5_x71 i0 i1 i2 i3 i4 i5 i6 i7) else (fn4 ((fn6 i1) - (fn6 i5)))) else (f5_x71 i0 i1 i2 i3 i4 i5 i6 i7))
def fn5 (i0 : Int32) (i1 : Int32) (i2 : Int32) (i3 : Int32) (i4 : Int32) (i5 : Int32) (i6 : Int32) (i7 : Int32) : Int32 := (if (0 : Int32) < (fn3 i3 i7) then (if (fn6 i0) = (fn6 i4) then (f5_x39 i0 i1 i2 i3 i4 i5 i6 i7) else (fn4 ((fn6 i0) - (fn6 i4)))) else (f5_x39 i0 i1 i2 i3 i4 i5 i6 i7))
set_option maxRecDepth 65536 in
set_option maxHeartbeats 40000000 in
theorem rm5 (l : Launch) (Z : State) (a0 : Array Value) (hw : ∀ d ∈ tables_1, d.before a0 Z = true) (i0 : Int32) (i1 : Int32) (i2 : Int32) (i3 : Int32) (i4 : Int32) (i5 : Int32) (i6 : Int32) (i7 : Int32) (h0 : Heap) : MetP l (⟨"com/example/headword/headword/stardict/SortedIndexComparePinLaw", "reference", "(IIIIIIII)I"⟩ : MethodName) method_6_code 9 (some .int) [] ({ frames := 1, cells := 0, slots := 0, locals := 13 } : Room) Z #[(.int i0), (.int i1), (.int i2), (.int i3), (.int i4), (.int i5), (.int i6), (.int i7)] h0 (Pure (.int (fn5 i0 i1 i2 i3 i4 i5 i6 i7)) h0) := by
  refine met_go pn_5 ?_
  intro p e s m below meth c s₁ hx hby hml hown hnm hret hlk hZ e0 X0
  rw [ef_5 m i0 i1 i2 i3 i4 i5 i6 i7]
  refine o_iloadN 1 X0 hx rfl (hb hby d5_0) rfl ?_
  refine o_iload 3 X0 hx rfl (hb hby d5_1) rfl ?_
  refine o_callP (rv := (.int (fn3 i3 i7))) 6 X0 hx rfl hZ hown (wd_19 hw) (wd_10 hw) (wd_11 hw) (wd_12 hw) (by decide) e0 (rm3 l Z a0 hw i3 i7 h0) pd_lIIrI [(.int i3), (.int i7)] [] rfl rfl (by rw [hml]; rfl) rfl (hb hby d5_3) 0 (Nat.le_of_eq rfl) (by decide) (by decide) (by decide) (by decide) rfl rfl fun T1 X1 e1 => ?_
  refine o_istore 8 X1 hx rfl (hb hby d5_6) #[.val (.int i0), .val (.int i1), .val (.int i2), .val (.int i3), .val (.int i4), .val (.int i5), .val (.int i6), .val (.int i7), .val (.int (fn3 i3 i7))] rfl ?_
  refine o_iload 10 X1 hx rfl (hb hby d5_8) rfl ?_
  suffices j39_3 : ∀ (T' : State), Stand p l e ({ frames := 1, cells := 0, slots := 0, locals := 13 } : Room) s m #[(.int i0), (.int i1), (.int i2), (.int i3), (.int i4), (.int i5), (.int i6), (.int i7)] below meth c T' [] 0 0 → T'.heap = h0 → Go p.tables e below (EndE s ({ frames := 1, cells := 0, slots := 0, locals := 13 } : Room) (Pure (.int (f5_x39 i0 i1 i2 i3 i4 i5 i6 i7)) h0)) (T'.setTop (mkF m 39 #[.val (.int i0), .val (.int i1), .val (.int i2), .val (.int i3), .val (.int i4), .val (.int i5), .val (.int i6), .val (.int i7), .val (.int (fn3 i3 i7))] [])) by
    by_cases hc10_2 : (0 : Int32) < (fn3 i3 i7)
    · refine o_ifNo 13 X1 hx rfl (hb hby d5_10) (tlt hc10_2).2.2.2 ?_
      refine o_iloadN 14 X1 hx rfl (hb hby d5_13) rfl ?_
      refine o_callP (rv := (.int (fn6 i0))) 17 X1 hx rfl hZ hown (wd_20 hw) (wd_21 hw) (wd_2 hw) (wd_22 hw) (by decide) e1 (rm6 l Z a0 hw i0 h0) pd_lIrI [(.int i0)] [] rfl rfl (by rw [hml]; rfl) rfl (hb hby d5_14) 0 (Nat.le_of_eq rfl) (by decide) (by decide) (by decide) (by decide) rfl rfl fun T4 X4 e4 => ?_
      refine o_iload 19 X4 hx rfl (hb hby d5_17) rfl ?_
      refine o_callP (rv := (.int (fn6 i4))) 22 X4 hx rfl hZ hown (wd_20 hw) (wd_21 hw) (wd_2 hw) (wd_22 hw) (by decide) e4 (rm6 l Z a0 hw i4 h0) pd_lIrI [(.int i4)] [(.int (fn6 i0))] rfl rfl (by rw [hml]; rfl) rfl (hb hby d5_19) 1 (Nat.le_of_eq rfl) (by decide) (by decide) (by decide) (by decide) rfl rfl fun T5 X5 e5 => ?_
      by_cases hc22_6 : (fn6 i0) = (fn6 i4)
      · refine o_icmpYes 39 X5 hx (hb hby d5_22) (teq hc22_6).1 (by decide) (by decide) ?_
        rw [show (fn5 i0 i1 i2 i3 i4 i5 i6 i7) = (f5_x39 i0 i1 i2 i3 i4 i5 i6 i7) from by unfold fn5; simp only [if_pos hc10_2, if_pos hc22_6]]
        exact j39_3 T5 X5 e5
      · refine o_icmpNo 25 X5 hx rfl (hb hby d5_22) (feq hc22_6).1 ?_
        refine o_iloadN 26 X5 hx rfl (hb hby d5_25) rfl ?_
        refine o_callP (rv := (.int (fn6 i0))) 29 X5 hx rfl hZ hown (wd_20 hw) (wd_21 hw) (wd_2 hw) (wd_22 hw) (by decide) e5 (rm6 l Z a0 hw i0 h0) pd_lIrI [(.int i0)] [] rfl rfl (by rw [hml]; rfl) rfl (hb hby d5_26) 0 (Nat.le_of_eq rfl) (by decide) (by decide) (by decide) (by decide) rfl rfl fun T7 X7 e7 => ?_
        refine o_iload 31 X7 hx rfl (hb hby d5_29) rfl ?_
        refine o_callP (rv := (.int (fn6 i4))) 34 X7 hx rfl hZ hown (wd_20 hw) (wd_21 hw) (wd_2 hw) (wd_22 hw) (by decide) e7 (rm6 l Z a0 hw i4 h0) pd_lIrI [(.int i4)] [(.int (fn6 i0))] rfl rfl (by rw [hml]; rfl) rfl (hb hby d5_31) 1 (Nat.le_of_eq rfl) (by decide) (by decide) (by decide) (by decide) rfl rfl fun T8 X8 e8 => ?_
        refine o_isub 35 X8 hx rfl (hb hby d5_34) ?_
        refine o_callP (rv := (.int (fn4 ((fn6 i0) - (fn6 i4))))) 38 X8 hx rfl hZ hown (wd_13 hw) (wd_14 hw) (wd_2 hw) (wd_15 hw) (by decide) e8 (rm4 l Z a0 hw ((fn6 i0) - (fn6 i4)) h0) pd_lIrI [(.int ((fn6 i0) - (fn6 i4)))] [] rfl rfl (by rw [hml]; rfl) rfl (hb hby d5_35) 0 (Nat.le_of_eq rfl) (by decide) (by decide) (by decide) (by decide) rfl rfl fun T9 X9 e9 => ?_
        refine o_retI X9 hx hret hlk (hb hby d5_38) (by decide) (by decide) ?_
        exact ⟨show some (Value.int (fn4 ((fn6 i0) - (fn6 i4)))) = some (Value.int (fn5 i0 i1 i2 i3 i4 i5 i6 i7)) from by rw [show (fn5 i0 i1 i2 i3 i4 i5 i6 i7) = (fn4 ((fn6 i0) - (fn6 i4))) from by unfold fn5; simp only [if_pos hc10_2, if_neg hc22_6]], rfl, e9⟩
    · refine o_ifYes 39 X1 hx (hb hby d5_10) (flt hc10_2).2.2.2 (by decide) (by decide) ?_
      rw [show (fn5 i0 i1 i2 i3 i4 i5 i6 i7) = (f5_x39 i0 i1 i2 i3 i4 i5 i6 i7) from by unfold fn5; simp only [if_neg hc10_2]]
      exact j39_3 T1 X1 e1
  intro T10 X10 e10
  refine o_iload 41 X10 hx rfl (hb hby d5_39) rfl ?_
  refine o_iconst 42 X10 hx rfl (hb hby d5_41) (1 : Int32) rfl ?_
  suffices j71_12 : ∀ (T' : State), Stand p l e ({ frames := 1, cells := 0, slots := 0, locals := 13 } : Room) s m #[(.int i0), (.int i1), (.int i2), (.int i3), (.int i4), (.int i5), (.int i6), (.int i7)] below meth c T' [] 0 0 → T'.heap = h0 → Go p.tables e below (EndE s ({ frames := 1, cells := 0, slots := 0, locals := 13 } : Room) (Pure (.int (f5_x71 i0 i1 i2 i3 i4 i5 i6 i7)) h0)) (T'.setTop (mkF m 71 #[.val (.int i0), .val (.int i1), .val (.int i2), .val (.int i3), .val (.int i4), .val (.int i5), .val (.int i6), .val (.int i7), .val (.int (fn3 i3 i7))] [])) by
    by_cases hc42_11 : (1 : Int32) < (fn3 i3 i7)
    · refine o_icmpNo 45 X10 hx rfl (hb hby d5_42) (tlt hc42_11).2.2.2 ?_
      refine o_iloadN 46 X10 hx rfl (hb hby d5_45) rfl ?_
      refine o_callP (rv := (.int (fn6 i1))) 49 X10 hx rfl hZ hown (wd_20 hw) (wd_21 hw) (wd_2 hw) (wd_22 hw) (by decide) e10 (rm6 l Z a0 hw i1 h0) pd_lIrI [(.int i1)] [] rfl rfl (by rw [hml]; rfl) rfl (hb hby d5_46) 0 (Nat.le_of_eq rfl) (by decide) (by decide) (by decide) (by decide) rfl rfl fun T13 X13 e13 => ?_
      refine o_iload 51 X13 hx rfl (hb hby d5_49) rfl ?_
      refine o_callP (rv := (.int (fn6 i5))) 54 X13 hx rfl hZ hown (wd_20 hw) (wd_21 hw) (wd_2 hw) (wd_22 hw) (by decide) e13 (rm6 l Z a0 hw i5 h0) pd_lIrI [(.int i5)] [(.int (fn6 i1))] rfl rfl (by rw [hml]; rfl) rfl (hb hby d5_51) 1 (Nat.le_of_eq rfl) (by decide) (by decide) (by decide) (by decide) rfl rfl fun T14 X14 e14 => ?_
      by_cases hc54_15 : (fn6 i1) = (fn6 i5)
      · refine o_icmpYes 71 X14 hx (hb hby d5_54) (teq hc54_15).1 (by decide) (by decide) ?_
        rw [show (f5_x39 i0 i1 i2 i3 i4 i5 i6 i7) = (f5_x71 i0 i1 i2 i3 i4 i5 i6 i7) from by unfold f5_x39; simp only [if_pos hc42_11, if_pos hc54_15]]
        exact j71_12 T14 X14 e14
      · refine o_icmpNo 57 X14 hx rfl (hb hby d5_54) (feq hc54_15).1 ?_
        refine o_iloadN 58 X14 hx rfl (hb hby d5_57) rfl ?_
        refine o_callP (rv := (.int (fn6 i1))) 61 X14 hx rfl hZ hown (wd_20 hw) (wd_21 hw) (wd_2 hw) (wd_22 hw) (by decide) e14 (rm6 l Z a0 hw i1 h0) pd_lIrI [(.int i1)] [] rfl rfl (by rw [hml]; rfl) rfl (hb hby d5_58) 0 (Nat.le_of_eq rfl) (by decide) (by decide) (by decide) (by decide) rfl rfl fun T16 X16 e16 => ?_
        refine o_iload 63 X16 hx rfl (hb hby d5_61) rfl ?_
        refine o_callP (rv := (.int (fn6 i5))) 66 X16 hx rfl hZ hown (wd_20 hw) (wd_21 hw) (wd_2 hw) (wd_22 hw) (by decide) e16 (rm6 l Z a0 hw i5 h0) pd_lIrI [(.int i5)] [(.int (fn6 i1))] rfl rfl (by rw [hml]; rfl) rfl (hb hby d5_63) 1 (Nat.le_of_eq rfl) (by decide) (by decide) (by decide) (by decide) rfl rfl fun T17 X17 e17 => ?_
        refine o_isub 67 X17 hx rfl (hb hby d5_66) ?_
        refine o_callP (rv := (.int (fn4 ((fn6 i1) - (fn6 i5))))) 70 X17 hx rfl hZ hown (wd_13 hw) (wd_14 hw) (wd_2 hw) (wd_15 hw) (by decide) e17 (rm4 l Z a0 hw ((fn6 i1) - (fn6 i5)) h0) pd_lIrI [(.int ((fn6 i1) - (fn6 i5)))] [] rfl rfl (by rw [hml]; rfl) rfl (hb hby d5_67) 0 (Nat.le_of_eq rfl) (by decide) (by decide) (by decide) (by decide) rfl rfl fun T18 X18 e18 => ?_
        refine o_retI X18 hx hret hlk (hb hby d5_70) (by decide) (by decide) ?_
        exact ⟨show some (Value.int (fn4 ((fn6 i1) - (fn6 i5)))) = some (Value.int (f5_x39 i0 i1 i2 i3 i4 i5 i6 i7)) from by rw [show (f5_x39 i0 i1 i2 i3 i4 i5 i6 i7) = (fn4 ((fn6 i1) - (fn6 i5))) from by unfold f5_x39; simp only [if_pos hc42_11, if_neg hc54_15]], rfl, e18⟩
    · refine o_icmpYes 71 X10 hx (hb hby d5_42) (flt hc42_11).2.2.2 (by decide) (by decide) ?_
      rw [show (f5_x39 i0 i1 i2 i3 i4 i5 i6 i7) = (f5_x71 i0 i1 i2 i3 i4 i5 i6 i7) from by unfold f5_x39; simp only [if_neg hc42_11]]
      exact j71_12 T10 X10 e10
  intro T19 X19 e19
  refine o_iload 73 X19 hx rfl (hb hby d5_71) rfl ?_
  refine o_iconst 74 X19 hx rfl (hb hby d5_73) (2 : Int32) rfl ?_
  suffices j103_21 : ∀ (T' : State), Stand p l e ({ frames := 1, cells := 0, slots := 0, locals := 13 } : Room) s m #[(.int i0), (.int i1), (.int i2), (.int i3), (.int i4), (.int i5), (.int i6), (.int i7)] below meth c T' [] 0 0 → T'.heap = h0 → Go p.tables e below (EndE s ({ frames := 1, cells := 0, slots := 0, locals := 13 } : Room) (Pure (.int (f5_x103 i0 i1 i2 i3 i4 i5 i6 i7)) h0)) (T'.setTop (mkF m 103 #[.val (.int i0), .val (.int i1), .val (.int i2), .val (.int i3), .val (.int i4), .val (.int i5), .val (.int i6), .val (.int i7), .val (.int (fn3 i3 i7))] [])) by
    by_cases hc74_20 : (2 : Int32) < (fn3 i3 i7)
    · refine o_icmpNo 77 X19 hx rfl (hb hby d5_74) (tlt hc74_20).2.2.2 ?_
      refine o_iloadN 78 X19 hx rfl (hb hby d5_77) rfl ?_
      refine o_callP (rv := (.int (fn6 i2))) 81 X19 hx rfl hZ hown (wd_20 hw) (wd_21 hw) (wd_2 hw) (wd_22 hw) (by decide) e19 (rm6 l Z a0 hw i2 h0) pd_lIrI [(.int i2)] [] rfl rfl (by rw [hml]; rfl) rfl (hb hby d5_78) 0 (Nat.le_of_eq rfl) (by decide) (by decide) (by decide) (by decide) rfl rfl fun T22 X22 e22 => ?_
      refine o_iload 83 X22 hx rfl (hb hby d5_81) rfl ?_
      refine o_callP (rv := (.int (fn6 i6))) 86 X22 hx rfl hZ hown (wd_20 hw) (wd_21 hw) (wd_2 hw) (wd_22 hw) (by decide) e22 (rm6 l Z a0 hw i6 h0) pd_lIrI [(.int i6)] [(.int (fn6 i2))] rfl rfl (by rw [hml]; rfl) rfl (hb hby d5_83) 1 (Nat.le_of_eq rfl) (by decide) (by decide) (by decide) (by decide) rfl rfl fun T23 X23 e23 => ?_
      by_cases hc86_24 : (fn6 i2) = (fn6 i6)
      · refine o_icmpYes 103 X23 hx (hb hby d5_86) (teq hc86_24).1 (by decide) (by decide) ?_
        rw [show (f5_x71 i0 i1 i2 i3 i4 i5 i6 i7) = (f5_x103 i0 i1 i2 i3 i4 i5 i6 i7) from by unfold f5_x71; simp only [if_pos hc74_20, if_pos hc86_24]]
        exact j103_21 T23 X23 e23
      · refine o_icmpNo 89 X23 hx rfl (hb hby d5_86) (feq hc86_24).1 ?_
        refine o_iloadN 90 X23 hx rfl (hb hby d5_89) rfl ?_
        refine o_callP (rv := (.int (fn6 i2))) 93 X23 hx rfl hZ hown (wd_20 hw) (wd_21 hw) (wd_2 hw) (wd_22 hw) (by decide) e23 (rm6 l Z a0 hw i2 h0) pd_lIrI [(.int i2)] [] rfl rfl (by rw [hml]; rfl) rfl (hb hby d5_90) 0 (Nat.le_of_eq rfl) (by decide) (by decide) (by decide) (by decide) rfl rfl fun T25 X25 e25 => ?_
        refine o_iload 95 X25 hx rfl (hb hby d5_93) rfl ?_
        refine o_callP (rv := (.int (fn6 i6))) 98 X25 hx rfl hZ hown (wd_20 hw) (wd_21 hw) (wd_2 hw) (wd_22 hw) (by decide) e25 (rm6 l Z a0 hw i6 h0) pd_lIrI [(.int i6)] [(.int (fn6 i2))] rfl rfl (by rw [hml]; rfl) rfl (hb hby d5_95) 1 (Nat.le_of_eq rfl) (by decide) (by decide) (by decide) (by decide) rfl rfl fun T26 X26 e26 => ?_
        refine o_isub 99 X26 hx rfl (hb hby d5_98) ?_
        refine o_callP (rv := (.int (fn4 ((fn6 i2) - (fn6 i6))))) 102 X26 hx rfl hZ hown (wd_13 hw) (wd_14 hw) (wd_2 hw) (wd_15 hw) (by decide) e26 (rm4 l Z a0 hw ((fn6 i2) - (fn6 i6)) h0) pd_lIrI [(.int ((fn6 i2) - (fn6 i6)))] [] rfl rfl (by rw [hml]; rfl) rfl (hb hby d5_99) 0 (Nat.le_of_eq rfl) (by decide) (by decide) (by decide) (by decide) rfl rfl fun T27 X27 e27 => ?_
        refine o_retI X27 hx hret hlk (hb hby d5_102) (by decide) (by decide) ?_
        exact ⟨show some (Value.int (fn4 ((fn6 i2) - (fn6 i6)))) = some (Value.int (f5_x71 i0 i1 i2 i3 i4 i5 i6 i7)) from by rw [show (f5_x71 i0 i1 i2 i3 i4 i5 i6 i7) = (fn4 ((fn6 i2) - (fn6 i6))) from by unfold f5_x71; simp only [if_pos hc74_20, if_neg hc86_24]], rfl, e27⟩
    · refine o_icmpYes 103 X19 hx (hb hby d5_74) (flt hc74_20).2.2.2 (by decide) (by decide) ?_
      rw [show (f5_x71 i0 i1 i2 i3 i4 i5 i6 i7) = (f5_x103 i0 i1 i2 i3 i4 i5 i6 i7) from by unfold f5_x71; simp only [if_neg hc74_20]]
      exact j103_21 T19 X19 e19
  intro T28 X28 e28
  refine o_iloadN 104 X28 hx rfl (hb hby d5_103) rfl ?_
  refine o_iload 106 X28 hx rfl (hb hby d5_104) rfl ?_
  by_cases hc106_29 : i3 = i7
  · refine o_icmpYes 121 X28 hx (hb hby d5_106) (teq hc106_29).1 (by decide) (by decide) ?_
    refine o_iloadN 122 X28 hx rfl (hb hby d5_121) rfl ?_
    suffices j139_31 : Go p.tables e below (EndE s ({ frames := 1, cells := 0, slots := 0, locals := 13 } : Room) (Pure (.int (f5_x139 i0 i1 i2 i3 i4 i5 i6 i7)) h0)) (T28.setTop (mkF m 139 #[.val (.int i0), .val (.int i1), .val (.int i2), .val (.int i3), .val (.int i4), .val (.int i5), .val (.int i6), .val (.int i7), .val (.int (fn3 i3 i7))] [])) by
      by_cases hc122_30 : (0 : Int32) < i3
      · refine o_ifNo 125 X28 hx rfl (hb hby d5_122) (tlt hc122_30).2.2.2 ?_
        refine o_iloadN 126 X28 hx rfl (hb hby d5_125) rfl ?_
        refine o_iload 128 X28 hx rfl (hb hby d5_126) rfl ?_
        by_cases hc128_32 : i0 = i4
        · refine o_icmpYes 139 X28 hx (hb hby d5_128) (teq hc128_32).1 (by decide) (by decide) ?_
          rw [show (f5_x103 i0 i1 i2 i3 i4 i5 i6 i7) = (f5_x139 i0 i1 i2 i3 i4 i5 i6 i7) from by unfold f5_x103; simp only [if_pos hc106_29, if_pos hc122_30, if_pos hc128_32]]
          exact j139_31
        · refine o_icmpNo 131 X28 hx rfl (hb hby d5_128) (feq hc128_32).1 ?_
          refine o_iloadN 132 X28 hx rfl (hb hby d5_131) rfl ?_
          refine o_iload 134 X28 hx rfl (hb hby d5_132) rfl ?_
          refine o_isub 135 X28 hx rfl (hb hby d5_134) ?_
          refine o_callP (rv := (.int (fn4 (i0 - i4)))) 138 X28 hx rfl hZ hown (wd_13 hw) (wd_14 hw) (wd_2 hw) (wd_15 hw) (by decide) e28 (rm4 l Z a0 hw (i0 - i4) h0) pd_lIrI [(.int (i0 - i4))] [] rfl rfl (by rw [hml]; rfl) rfl (hb hby d5_135) 0 (Nat.le_of_eq rfl) (by decide) (by decide) (by decide) (by decide) rfl rfl fun T33 X33 e33 => ?_
          refine o_retI X33 hx hret hlk (hb hby d5_138) (by decide) (by decide) ?_
          exact ⟨show some (Value.int (fn4 (i0 - i4))) = some (Value.int (f5_x103 i0 i1 i2 i3 i4 i5 i6 i7)) from by rw [show (f5_x103 i0 i1 i2 i3 i4 i5 i6 i7) = (fn4 (i0 - i4)) from by unfold f5_x103; simp only [if_pos hc106_29, if_pos hc122_30, if_neg hc128_32]], rfl, e33⟩
      · refine o_ifYes 139 X28 hx (hb hby d5_122) (flt hc122_30).2.2.2 (by decide) (by decide) ?_
        rw [show (f5_x103 i0 i1 i2 i3 i4 i5 i6 i7) = (f5_x139 i0 i1 i2 i3 i4 i5 i6 i7) from by unfold f5_x103; simp only [if_pos hc106_29, if_neg hc122_30]]
        exact j139_31
    refine o_iloadN 140 X28 hx rfl (hb hby d5_139) rfl ?_
    refine o_iconst 141 X28 hx rfl (hb hby d5_140) (1 : Int32) rfl ?_
    suffices j158_35 : Go p.tables e below (EndE s ({ frames := 1, cells := 0, slots := 0, locals := 13 } : Room) (Pure (.int (f5_x158 i0 i1 i2 i3 i4 i5 i6 i7)) h0)) (T28.setTop (mkF m 158 #[.val (.int i0), .val (.int i1), .val (.int i2), .val (.int i3), .val (.int i4), .val (.int i5), .val (.int i6), .val (.int i7), .val (.int (fn3 i3 i7))] [])) by
      by_cases hc141_34 : (1 : Int32) < i3
      · refine o_icmpNo 144 X28 hx rfl (hb hby d5_141) (tlt hc141_34).2.2.2 ?_
        refine o_iloadN 145 X28 hx rfl (hb hby d5_144) rfl ?_
        refine o_iload 147 X28 hx rfl (hb hby d5_145) rfl ?_
        by_cases hc147_36 : i1 = i5
        · refine o_icmpYes 158 X28 hx (hb hby d5_147) (teq hc147_36).1 (by decide) (by decide) ?_
          rw [show (f5_x139 i0 i1 i2 i3 i4 i5 i6 i7) = (f5_x158 i0 i1 i2 i3 i4 i5 i6 i7) from by unfold f5_x139; simp only [if_pos hc141_34, if_pos hc147_36]]
          exact j158_35
        · refine o_icmpNo 150 X28 hx rfl (hb hby d5_147) (feq hc147_36).1 ?_
          refine o_iloadN 151 X28 hx rfl (hb hby d5_150) rfl ?_
          refine o_iload 153 X28 hx rfl (hb hby d5_151) rfl ?_
          refine o_isub 154 X28 hx rfl (hb hby d5_153) ?_
          refine o_callP (rv := (.int (fn4 (i1 - i5)))) 157 X28 hx rfl hZ hown (wd_13 hw) (wd_14 hw) (wd_2 hw) (wd_15 hw) (by decide) e28 (rm4 l Z a0 hw (i1 - i5) h0) pd_lIrI [(.int (i1 - i5))] [] rfl rfl (by rw [hml]; rfl) rfl (hb hby d5_154) 0 (Nat.le_of_eq rfl) (by decide) (by decide) (by decide) (by decide) rfl rfl fun T37 X37 e37 => ?_
          refine o_retI X37 hx hret hlk (hb hby d5_157) (by decide) (by decide) ?_
          exact ⟨show some (Value.int (fn4 (i1 - i5))) = some (Value.int (f5_x139 i0 i1 i2 i3 i4 i5 i6 i7)) from by rw [show (f5_x139 i0 i1 i2 i3 i4 i5 i6 i7) = (fn4 (i1 - i5)) from by unfold f5_x139; simp only [if_pos hc141_34, if_neg hc147_36]], rfl, e37⟩
      · refine o_icmpYes 158 X28 hx (hb hby d5_141) (flt hc141_34).2.2.2 (by decide) (by decide) ?_
        rw [show (f5_x139 i0 i1 i2 i3 i4 i5 i6 i7) = (f5_x158 i0 i1 i2 i3 i4 i5 i6 i7) from by unfold f5_x139; simp only [if_neg hc141_34]]
        exact j158_35
    refine o_iloadN 159 X28 hx rfl (hb hby d5_158) rfl ?_
    refine o_iconst 160 X28 hx rfl (hb hby d5_159) (2 : Int32) rfl ?_
    suffices j177_39 : Go p.tables e below (EndE s ({ frames := 1, cells := 0, slots := 0, locals := 13 } : Room) (Pure (.int (f5_x177 i0 i1 i2 i3 i4 i5 i6 i7)) h0)) (T28.setTop (mkF m 177 #[.val (.int i0), .val (.int i1), .val (.int i2), .val (.int i3), .val (.int i4), .val (.int i5), .val (.int i6), .val (.int i7), .val (.int (fn3 i3 i7))] [])) by
      by_cases hc160_38 : (2 : Int32) < i3
      · refine o_icmpNo 163 X28 hx rfl (hb hby d5_160) (tlt hc160_38).2.2.2 ?_
        refine o_iloadN 164 X28 hx rfl (hb hby d5_163) rfl ?_
        refine o_iload 166 X28 hx rfl (hb hby d5_164) rfl ?_
        by_cases hc166_40 : i2 = i6
        · refine o_icmpYes 177 X28 hx (hb hby d5_166) (teq hc166_40).1 (by decide) (by decide) ?_
          rw [show (f5_x158 i0 i1 i2 i3 i4 i5 i6 i7) = (f5_x177 i0 i1 i2 i3 i4 i5 i6 i7) from by unfold f5_x158; simp only [if_pos hc160_38, if_pos hc166_40]]
          exact j177_39
        · refine o_icmpNo 169 X28 hx rfl (hb hby d5_166) (feq hc166_40).1 ?_
          refine o_iloadN 170 X28 hx rfl (hb hby d5_169) rfl ?_
          refine o_iload 172 X28 hx rfl (hb hby d5_170) rfl ?_
          refine o_isub 173 X28 hx rfl (hb hby d5_172) ?_
          refine o_callP (rv := (.int (fn4 (i2 - i6)))) 176 X28 hx rfl hZ hown (wd_13 hw) (wd_14 hw) (wd_2 hw) (wd_15 hw) (by decide) e28 (rm4 l Z a0 hw (i2 - i6) h0) pd_lIrI [(.int (i2 - i6))] [] rfl rfl (by rw [hml]; rfl) rfl (hb hby d5_173) 0 (Nat.le_of_eq rfl) (by decide) (by decide) (by decide) (by decide) rfl rfl fun T41 X41 e41 => ?_
          refine o_retI X41 hx hret hlk (hb hby d5_176) (by decide) (by decide) ?_
          exact ⟨show some (Value.int (fn4 (i2 - i6))) = some (Value.int (f5_x158 i0 i1 i2 i3 i4 i5 i6 i7)) from by rw [show (f5_x158 i0 i1 i2 i3 i4 i5 i6 i7) = (fn4 (i2 - i6)) from by unfold f5_x158; simp only [if_pos hc160_38, if_neg hc166_40]], rfl, e41⟩
      · refine o_icmpYes 177 X28 hx (hb hby d5_160) (flt hc160_38).2.2.2 (by decide) (by decide) ?_
        rw [show (f5_x158 i0 i1 i2 i3 i4 i5 i6 i7) = (f5_x177 i0 i1 i2 i3 i4 i5 i6 i7) from by unfold f5_x158; simp only [if_neg hc160_38]]
        exact j177_39
    refine o_iconst 178 X28 hx rfl (hb hby d5_177) (0 : Int32) rfl ?_
    refine o_retI X28 hx hret hlk (hb hby d5_178) (by decide) (by decide) ?_
    exact ⟨show some (Value.int (0 : Int32)) = some (Value.int (f5_x177 i0 i1 i2 i3 i4 i5 i6 i7)) from by rw [show (f5_x177 i0 i1 i2 i3 i4 i5 i6 i7) = (0 : Int32) from by rfl], rfl, e28⟩
  · refine o_icmpNo 109 X28 hx rfl (hb hby d5_106) (feq hc106_29).1 ?_
    refine o_iloadN 110 X28 hx rfl (hb hby d5_109) rfl ?_
    refine o_iload 112 X28 hx rfl (hb hby d5_110) rfl ?_
    suffices j120_42 : Go p.tables e below (EndE s ({ frames := 1, cells := 0, slots := 0, locals := 13 } : Room) (Pure (.int (f5_x103 i0 i1 i2 i3 i4 i5 i6 i7)) h0)) (T28.setTop (mkF m 120 #[.val (.int i0), .val (.int i1), .val (.int i2), .val (.int i3), .val (.int i4), .val (.int i5), .val (.int i6), .val (.int i7), .val (.int (fn3 i3 i7))] [(.int (f5_120_s0 i3 i7))])) by
      by_cases hc112_43 : i3 < i7
      · refine o_icmpNo 115 X28 hx rfl (hb hby d5_112) (tlt hc112_43).2.1 ?_
        refine o_iconst 116 X28 hx rfl (hb hby d5_115) (-1 : Int32) rfl ?_
        refine o_goto 120 X28 hx (hb hby d5_116) (by decide) (by decide) ?_
        rw [show (f5_120_s0 i3 i7) = (-1 : Int32) from by unfold f5_120_s0; simp only [if_pos hc112_43]] at j120_42
        exact j120_42
      · refine o_icmpYes 119 X28 hx (hb hby d5_112) (flt hc112_43).2.1 (by decide) (by decide) ?_
        refine o_iconst 120 X28 hx rfl (hb hby d5_119) (1 : Int32) rfl ?_
        rw [show (f5_120_s0 i3 i7) = (1 : Int32) from by unfold f5_120_s0; simp only [if_neg hc112_43]] at j120_42
        exact j120_42
    refine o_retI X28 hx hret hlk (hb hby d5_120) (by decide) (by decide) ?_
    exact ⟨show some (Value.int (f5_120_s0 i3 i7)) = some (Value.int (f5_x103 i0 i1 i2 i3 i4 i5 i6 i7)) from by rw [show (f5_x103 i0 i1 i2 i3 i4 i5 i6 i7) = (f5_120_s0 i3 i7) from by unfold f5_x103; simp only [if_neg hc106_29]], rfl, e28⟩
/-- what compare says from place i on, k places left; c: the first difference by case alone -/
def own_cp (xs ys : List Int32) (la lb : Int32) : Nat → Nat → Int32 → Int32
  | 0, _, c => if la = lb then c else la - lb
  | k + 1, i, c => if (xs.getD i 0 &&& (255 : Int32)) = (ys.getD i 0 &&& (255 : Int32)) then own_cp xs ys la lb k (i + 1) c
      else if fn6 (xs.getD i 0 &&& (255 : Int32)) = fn6 (ys.getD i 0 &&& (255 : Int32)) then own_cp xs ys la lb k (i + 1) (if c = 0 then (xs.getD i 0 &&& (255 : Int32)) - (ys.getD i 0 &&& (255 : Int32)) else c)
      else fn6 (xs.getD i 0 &&& (255 : Int32)) - fn6 (ys.getD i 0 &&& (255 : Int32))
theorem own_lti {a b : Nat} (ha : a < 2147483648) (hb : b < 2147483648) : (Int32.ofNat a < Int32.ofNat b) ↔ a < b := by
  rw [Int32.lt_iff_toInt_lt, Int32.toInt_ofNat_of_lt (by omega), Int32.toInt_ofNat_of_lt (by omega)]; omega
theorem own_min {A B : Nat} (hA : A < 2147483648) (hB : B < 2147483648) : fn3 (Int32.ofNat A) (Int32.ofNat B) = Int32.ofNat (min A B) := by
  unfold fn3 f3_10_s0
  have e := own_lti (a := B) (b := A) hB hA
  by_cases q : B < A
  · rw [if_pos (e.mpr q), Nat.min_eq_right (by omega)]
  · rw [if_neg (fun z => q (e.mp z)), Nat.min_eq_left (by omega)]
theorem ef_2 (m : MethodId) (y0 : Addr) (y1 : Int32) (y2 : Addr) (y3 : Int32) : entryFrame m #[(.ref y0), (.int y1), (.ref y2), (.int y3)] 11 = mkF m 0 #[.val (.ref y0), .val (.int y1), .val (.ref y2), .val (.int y3), .unset, .unset, .unset, .unset, .unset, .unset, .unset] [] := by first | (simp [entryFrame, mkF, argsToLocals, Value.category]; done) | rfl
def f2_71_s0 (a : Int32) : Int32 := (if a < (65 : Int32) then a else (if (90 : Int32) < a then a else (a + (32 : Int32))))
def f2_97_s0 (b : Int32) : Int32 := (if b < (65 : Int32) then b else (if (90 : Int32) < b then b else (b + (32 : Int32))))
set_option maxRecDepth 65536 in
set_option maxHeartbeats 40000000 in
theorem rm2 (l : Launch) (Z : State) (a0 : Array Value) (hw : ∀ d ∈ tables_1, d.before a0 Z = true) (r0 : Addr) (r2 : Addr) (A B : Nat) (ka kb : ClassId) (xs ys : List Int32) (h0 : Heap) (hA : A ≤ 3) (hB : B ≤ 3) (Ax : Arv Z h0 r0 ka .byte (4 : Int32) (xs.map Value.int) (.int 0)) (Ay : Arv Z h0 r2 kb .byte (4 : Int32) (ys.map Value.int) (.int 0)) : MetP l (⟨"com/example/headword/headword/stardict/SortedIndex", "compare", "([BI[BI)I"⟩ : MethodName) prog_65_method_4_code 11 (some .int) [] ({ frames := 1, cells := 0, slots := 0, locals := 13 } : Room) Z #[(.ref r0), (.int (Int32.ofNat A)), (.ref r2), (.int (Int32.ofNat B))] h0 (Pure (.int (own_cp xs ys (Int32.ofNat A) (Int32.ofNat B) (min A B) 0 0)) h0) := by
  refine met_go pn_2 ?_
  intro p e s m below meth c s₁ hx hby hml hown hnm hret hlk hZ e0 X0
  rw [ef_2 m r0 (Int32.ofNat A) r2 (Int32.ofNat B)]
  refine o_iloadN 1 X0 hx rfl (hb hby d2_0) rfl ?_
  refine o_iloadN 2 X0 hx rfl (hb hby d2_1) rfl ?_
  refine o_callP (rv := (.int (fn3 (Int32.ofNat A) (Int32.ofNat B)))) 5 X0 hx rfl hZ hown (wd_9 hw) (wd_10 hw) (wd_11 hw) (wd_12 hw) (by decide) e0 (rm3 l Z a0 hw (Int32.ofNat A) (Int32.ofNat B) h0) pd_lIIrI [(.int (Int32.ofNat A)), (.int (Int32.ofNat B))] [] rfl rfl (by rw [hml]; rfl) rfl (hb hby d2_2) 0 (Nat.le_of_eq rfl) (by decide) (by decide) (by decide) (by decide) rfl rfl fun T1 X1 e1 => ?_
  rw [own_min (by omega) (by omega)]
  refine o_istore 7 X1 hx rfl (hb hby d2_5) #[.val (.ref r0), .val (.int (Int32.ofNat A)), .val (.ref r2), .val (.int (Int32.ofNat B)), .val (.int (Int32.ofNat (min A B))), .unset, .unset, .unset, .unset, .unset, .unset] rfl ?_
  refine o_iconst 8 X1 hx rfl (hb hby d2_7) (0 : Int32) rfl ?_
  refine o_istore 10 X1 hx rfl (hb hby d2_8) #[.val (.ref r0), .val (.int (Int32.ofNat A)), .val (.ref r2), .val (.int (Int32.ofNat B)), .val (.int (Int32.ofNat (min A B))), .val (.int (0 : Int32)), .unset, .unset, .unset, .unset, .unset] rfl ?_
  refine o_iconst 11 X1 hx rfl (hb hby d2_10) (0 : Int32) rfl ?_
  refine o_istore 13 X1 hx rfl (hb hby d2_11) #[.val (.ref r0), .val (.int (Int32.ofNat A)), .val (.ref r2), .val (.int (Int32.ofNat B)), .val (.int (Int32.ofNat (min A B))), .val (.int (0 : Int32)), .val (.int (0 : Int32)), .unset, .unset, .unset, .unset] rfl ?_
  suffices loop : ∀ (k i : Nat) (cs : Int32) (s7 s8 s9 s10 : Slot), One s7 → One s8 → One s9 → One s10 → i + k = min A B → own_cp xs ys (Int32.ofNat A) (Int32.ofNat B) k i cs = (own_cp xs ys (Int32.ofNat A) (Int32.ofNat B) (min A B) 0 0) → Go p.tables e below (EndE s ({ frames := 1, cells := 0, slots := 0, locals := 13 } : Room) (Pure (.int (own_cp xs ys (Int32.ofNat A) (Int32.ofNat B) (min A B) 0 0)) h0)) (T1.setTop (mkF m 13 #[.val (.ref r0), .val (.int (Int32.ofNat A)), .val (.ref r2), .val (.int (Int32.ofNat B)), .val (.int (Int32.ofNat (min A B))), .val (.int cs), .val (.int (Int32.ofNat i)), s7, s8, s9, s10] [])) by
    exact loop (min A B) 0 0 .unset .unset .unset .unset One.u One.u One.u One.u (Nat.zero_add _) rfl
  intro k
  induction k with
  | zero =>
    intro i cs s7 s8 s9 s10 hs7 hs8 hs9 hs10 hi hval
    have hi' : i = min A B := by omega
    subst hi'
    refine o_iload 15 X1 hx rfl (hb hby d2_13) rfl ?_
    refine o_iload 17 X1 hx rfl (hb hby d2_15) rfl ?_
    refine o_icmpYes 130 X1 hx (hb hby d2_17) (flt Int32.lt_irrefl).2.1 (by decide) (by decide) ?_
    refine o_iloadN 131 X1 hx rfl (hb hby d2_130) rfl ?_
    refine o_iloadN 132 X1 hx rfl (hb hby d2_131) rfl ?_
    by_cases he : (Int32.ofNat A) = (Int32.ofNat B)
    · refine o_icmpYes 141 X1 hx (hb hby d2_132) (teq he).1 (by decide) (by decide) ?_
      refine o_iload 143 X1 hx rfl (hb hby d2_141) rfl ?_
      refine o_retI X1 hx hret hlk (hb hby d2_143) (by decide) (by decide) ?_
      exact ⟨by rw [← hval, own_cp, if_pos he], rfl, e1⟩
    · refine o_icmpNo 135 X1 hx rfl (hb hby d2_132) (feq he).1 ?_
      refine o_iloadN 136 X1 hx rfl (hb hby d2_135) rfl ?_
      refine o_iloadN 137 X1 hx rfl (hb hby d2_136) rfl ?_
      refine o_isub 138 X1 hx rfl (hb hby d2_137) ?_
      refine o_goto 143 X1 hx (hb hby d2_138) (by decide) (by decide) ?_
      refine o_retI X1 hx hret hlk (hb hby d2_143) (by decide) (by decide) ?_
      exact ⟨by rw [← hval, own_cp, if_neg he], rfl, e1⟩
  | succ k ih =>
    intro i cs s7 s8 s9 s10 hs7 hs8 hs9 hs10 hi hval
    have hi4 : i < 4 := by omega
    have hi2 : i < 2147483648 := by omega
    refine o_iload 15 X1 hx rfl (hb hby d2_13) rfl ?_
    refine o_iload 17 X1 hx rfl (hb hby d2_15) rfl ?_
    refine o_icmpNo 20 X1 hx rfl (hb hby d2_17) (tlt (own_lt (by omega) (by omega))).2.1 ?_
    refine o_aloadN 21 X1 hx rfl (hb hby d2_20) rfl rfl ?_
    refine o_iload 23 X1 hx rfl (hb hby d2_21) rfl ?_
    refine o_baloadBX 24 X1 hx rfl hZ e1 Ax ⟨own_nn hi2, own_lt hi4 (by decide)⟩ (hb hby d2_23) (xs.getD i 0) (by rw [own_n32 hi2]) ?_
    refine o_sipush 27 X1 hx rfl (hb hby d2_24) (255 : Int32) rfl ?_
    refine o_iand 28 X1 hx rfl (hb hby d2_27) ?_
    obtain ⟨a, ha⟩ : ∃ a, (xs.getD i 0 &&& (255 : Int32)) = a := ⟨_, rfl⟩
    rw [ha]
    refine o_istore 30 X1 hx rfl (hb hby d2_28) #[.val (.ref r0), .val (.int (Int32.ofNat A)), .val (.ref r2), .val (.int (Int32.ofNat B)), .val (.int (Int32.ofNat (min A B))), .val (.int cs), .val (.int (Int32.ofNat i)), .val (.int a), s8, s9, s10] (XS.store1 rfl hs7 rfl) ?_
    refine o_aloadN 31 X1 hx rfl (hb hby d2_30) rfl rfl ?_
    refine o_iload 33 X1 hx rfl (hb hby d2_31) rfl ?_
    refine o_baloadBX 34 X1 hx rfl hZ e1 Ay ⟨own_nn hi2, own_lt hi4 (by decide)⟩ (hb hby d2_33) (ys.getD i 0) (by rw [own_n32 hi2]) ?_
    refine o_sipush 37 X1 hx rfl (hb hby d2_34) (255 : Int32) rfl ?_
    refine o_iand 38 X1 hx rfl (hb hby d2_37) ?_
    obtain ⟨b, hb2⟩ : ∃ b, (ys.getD i 0 &&& (255 : Int32)) = b := ⟨_, rfl⟩
    rw [hb2]
    refine o_istore 40 X1 hx rfl (hb hby d2_38) #[.val (.ref r0), .val (.int (Int32.ofNat A)), .val (.ref r2), .val (.int (Int32.ofNat B)), .val (.int (Int32.ofNat (min A B))), .val (.int cs), .val (.int (Int32.ofNat i)), .val (.int a), .val (.int b), s9, s10] (XS.store1 rfl hs8 rfl) ?_
    refine o_iload 42 X1 hx rfl (hb hby d2_40) rfl ?_
    refine o_iload 44 X1 hx rfl (hb hby d2_42) rfl ?_
    by_cases he : a = b
    · refine o_icmpYes 124 X1 hx (hb hby d2_44) (teq he).1 (by decide) (by decide) ?_
      refine o_iinc 127 X1 hx rfl (hb hby d2_124) (1 : Int32) rfl rfl #[.val (.ref r0), .val (.int (Int32.ofNat A)), .val (.ref r2), .val (.int (Int32.ofNat B)), .val (.int (Int32.ofNat (min A B))), .val (.int cs), .val (.int ((Int32.ofNat i) + (1 : Int32))), .val (.int a), .val (.int b), s9, s10] rfl ?_
      refine o_goto 13 X1 hx (hb hby d2_127) (by decide) (by decide) ?_
      rw [own_one]
      exact ih (i + 1) cs _ _ _ _ (One.val rfl) (One.val rfl) hs9 hs10 (by omega) (by rw [← hval, own_cp, ha, hb2, if_pos he])
    · refine o_icmpNo 47 X1 hx rfl (hb hby d2_44) (feq he).1 ?_
      refine o_iload 49 X1 hx rfl (hb hby d2_47) rfl ?_
      refine o_bipush 51 X1 hx rfl (hb hby d2_49) (65 : Int32) rfl ?_
      suffices j71_2 : Go p.tables e below (EndE s ({ frames := 1, cells := 0, slots := 0, locals := 13 } : Room) (Pure (.int (own_cp xs ys (Int32.ofNat A) (Int32.ofNat B) (min A B) 0 0)) h0)) (T1.setTop (mkF m 71 #[.val (.ref r0), .val (.int (Int32.ofNat A)), .val (.ref r2), .val (.int (Int32.ofNat B)), .val (.int (Int32.ofNat (min A B))), .val (.int cs), .val (.int (Int32.ofNat i)), .val (.int a), .val (.int b), s9, s10] [(.int (f2_71_s0 a))])) by
        by_cases hc51_3 : a < (65 : Int32)
        · refine o_icmpYes 69 X1 hx (hb hby d2_51) (tlt hc51_3).1 (by decide) (by decide) ?_
          refine o_iload 71 X1 hx rfl (hb hby d2_69) rfl ?_
          rw [show (f2_71_s0 a) = a from by unfold f2_71_s0; simp only [if_pos hc51_3]] at j71_2
          exact j71_2
        · refine o_icmpNo 54 X1 hx rfl (hb hby d2_51) (flt hc51_3).1 ?_
          refine o_iload 56 X1 hx rfl (hb hby d2_54) rfl ?_
          refine o_bipush 58 X1 hx rfl (hb hby d2_56) (90 : Int32) rfl ?_
          by_cases hc58_4 : (90 : Int32) < a
          · refine o_icmpYes 69 X1 hx (hb hby d2_58) (tlt hc58_4).2.2.1 (by decide) (by decide) ?_
            refine o_iload 71 X1 hx rfl (hb hby d2_69) rfl ?_
            rw [show (f2_71_s0 a) = a from by unfold f2_71_s0; simp only [if_neg hc51_3, if_pos hc58_4]] at j71_2
            exact j71_2
          · refine o_icmpNo 61 X1 hx rfl (hb hby d2_58) (flt hc58_4).2.2.1 ?_
            refine o_iload 63 X1 hx rfl (hb hby d2_61) rfl ?_
            refine o_bipush 65 X1 hx rfl (hb hby d2_63) (32 : Int32) rfl ?_
            refine o_iadd 66 X1 hx rfl (hb hby d2_65) ?_
            refine o_goto 71 X1 hx (hb hby d2_66) (by decide) (by decide) ?_
            rw [show (f2_71_s0 a) = (a + (32 : Int32)) from by unfold f2_71_s0; simp only [if_neg hc51_3, if_neg hc58_4]] at j71_2
            exact j71_2
      refine o_istore 73 X1 hx rfl (hb hby d2_71) #[.val (.ref r0), .val (.int (Int32.ofNat A)), .val (.ref r2), .val (.int (Int32.ofNat B)), .val (.int (Int32.ofNat (min A B))), .val (.int cs), .val (.int (Int32.ofNat i)), .val (.int a), .val (.int b), .val (.int (f2_71_s0 a)), s10] (XS.store1 rfl hs9 rfl) ?_
      refine o_iload 75 X1 hx rfl (hb hby d2_73) rfl ?_
      refine o_bipush 77 X1 hx rfl (hb hby d2_75) (65 : Int32) rfl ?_
      suffices j97_5 : Go p.tables e below (EndE s ({ frames := 1, cells := 0, slots := 0, locals := 13 } : Room) (Pure (.int (own_cp xs ys (Int32.ofNat A) (Int32.ofNat B) (min A B) 0 0)) h0)) (T1.setTop (mkF m 97 #[.val (.ref r0), .val (.int (Int32.ofNat A)), .val (.ref r2), .val (.int (Int32.ofNat B)), .val (.int (Int32.ofNat (min A B))), .val (.int cs), .val (.int (Int32.ofNat i)), .val (.int a), .val (.int b), .val (.int (f2_71_s0 a)), s10] [(.int (f2_97_s0 b))])) by
        by_cases hc77_6 : b < (65 : Int32)
        · refine o_icmpYes 95 X1 hx (hb hby d2_77) (tlt hc77_6).1 (by decide) (by decide) ?_
          refine o_iload 97 X1 hx rfl (hb hby d2_95) rfl ?_
          rw [show (f2_97_s0 b) = b from by unfold f2_97_s0; simp only [if_pos hc77_6]] at j97_5
          exact j97_5
        · refine o_icmpNo 80 X1 hx rfl (hb hby d2_77) (flt hc77_6).1 ?_
          refine o_iload 82 X1 hx rfl (hb hby d2_80) rfl ?_
          refine o_bipush 84 X1 hx rfl (hb hby d2_82) (90 : Int32) rfl ?_
          by_cases hc84_7 : (90 : Int32) < b
          · refine o_icmpYes 95 X1 hx (hb hby d2_84) (tlt hc84_7).2.2.1 (by decide) (by decide) ?_
            refine o_iload 97 X1 hx rfl (hb hby d2_95) rfl ?_
            rw [show (f2_97_s0 b) = b from by unfold f2_97_s0; simp only [if_neg hc77_6, if_pos hc84_7]] at j97_5
            exact j97_5
          · refine o_icmpNo 87 X1 hx rfl (hb hby d2_84) (flt hc84_7).2.2.1 ?_
            refine o_iload 89 X1 hx rfl (hb hby d2_87) rfl ?_
            refine o_bipush 91 X1 hx rfl (hb hby d2_89) (32 : Int32) rfl ?_
            refine o_iadd 92 X1 hx rfl (hb hby d2_91) ?_
            refine o_goto 97 X1 hx (hb hby d2_92) (by decide) (by decide) ?_
            rw [show (f2_97_s0 b) = (b + (32 : Int32)) from by unfold f2_97_s0; simp only [if_neg hc77_6, if_neg hc84_7]] at j97_5
            exact j97_5
      refine o_istore 99 X1 hx rfl (hb hby d2_97) #[.val (.ref r0), .val (.int (Int32.ofNat A)), .val (.ref r2), .val (.int (Int32.ofNat B)), .val (.int (Int32.ofNat (min A B))), .val (.int cs), .val (.int (Int32.ofNat i)), .val (.int a), .val (.int b), .val (.int (f2_71_s0 a)), .val (.int (f2_97_s0 b))] (XS.store1 rfl hs10 rfl) ?_
      rw [show (f2_71_s0 a) = fn6 a from rfl, show (f2_97_s0 b) = fn6 b from rfl]
      refine o_iload 101 X1 hx rfl (hb hby d2_99) rfl ?_
      refine o_iload 103 X1 hx rfl (hb hby d2_101) rfl ?_
      by_cases hf : fn6 a = fn6 b
      · refine o_icmpYes 112 X1 hx (hb hby d2_103) (teq hf).1 (by decide) (by decide) ?_
        refine o_iload 114 X1 hx rfl (hb hby d2_112) rfl ?_
        by_cases hc : cs = (0 : Int32)
        · refine o_ifNo 117 X1 hx rfl (hb hby d2_114) (teq hc).2 ?_
          refine o_iload 119 X1 hx rfl (hb hby d2_117) rfl ?_
          refine o_iload 121 X1 hx rfl (hb hby d2_119) rfl ?_
          refine o_isub 122 X1 hx rfl (hb hby d2_121) ?_
          refine o_istore 124 X1 hx rfl (hb hby d2_122) #[.val (.ref r0), .val (.int (Int32.ofNat A)), .val (.ref r2), .val (.int (Int32.ofNat B)), .val (.int (Int32.ofNat (min A B))), .val (.int (a - b)), .val (.int (Int32.ofNat i)), .val (.int a), .val (.int b), .val (.int (fn6 a)), .val (.int (fn6 b))] rfl ?_
          refine o_iinc 127 X1 hx rfl (hb hby d2_124) (1 : Int32) rfl rfl #[.val (.ref r0), .val (.int (Int32.ofNat A)), .val (.ref r2), .val (.int (Int32.ofNat B)), .val (.int (Int32.ofNat (min A B))), .val (.int (a - b)), .val (.int ((Int32.ofNat i) + (1 : Int32))), .val (.int a), .val (.int b), .val (.int (fn6 a)), .val (.int (fn6 b))] rfl ?_
          refine o_goto 13 X1 hx (hb hby d2_127) (by decide) (by decide) ?_
          rw [own_one]
          exact ih (i + 1) _ _ _ _ _ (One.val rfl) (One.val rfl) (One.val rfl) (One.val rfl) (by omega) (by rw [← hval, own_cp, ha, hb2, if_neg he, if_pos hf, if_pos hc])
        · refine o_ifYes 124 X1 hx (hb hby d2_114) (feq hc).2 (by decide) (by decide) ?_
          refine o_iinc 127 X1 hx rfl (hb hby d2_124) (1 : Int32) rfl rfl #[.val (.ref r0), .val (.int (Int32.ofNat A)), .val (.ref r2), .val (.int (Int32.ofNat B)), .val (.int (Int32.ofNat (min A B))), .val (.int cs), .val (.int ((Int32.ofNat i) + (1 : Int32))), .val (.int a), .val (.int b), .val (.int (fn6 a)), .val (.int (fn6 b))] rfl ?_
          refine o_goto 13 X1 hx (hb hby d2_127) (by decide) (by decide) ?_
          rw [own_one]
          exact ih (i + 1) _ _ _ _ _ (One.val rfl) (One.val rfl) (One.val rfl) (One.val rfl) (by omega) (by rw [← hval, own_cp, ha, hb2, if_neg he, if_pos hf, if_neg hc])
      · refine o_icmpNo 106 X1 hx rfl (hb hby d2_103) (feq hf).1 ?_
        refine o_iload 108 X1 hx rfl (hb hby d2_106) rfl ?_
        refine o_iload 110 X1 hx rfl (hb hby d2_108) rfl ?_
        refine o_isub 111 X1 hx rfl (hb hby d2_110) ?_
        refine o_retI X1 hx hret hlk (hb hby d2_111) (by decide) (by decide) ?_
        exact ⟨by rw [← hval, own_cp, ha, hb2, if_neg he, if_neg hf], rfl, e1⟩
theorem ef_0 (m : MethodId) (y0 : Int32) (y1 : Int32) (y2 : Int32) : entryFrame m #[(.int y0), (.int y1), (.int y2)] maxLocals = mkF m 0 #[.val (.int y0), .val (.int y1), .val (.int y2), .unset, .unset, .unset, .unset, .unset, .unset, .unset, .unset, .unset, .unset, .unset, .unset, .unset] [] := by first | (simp [entryFrame, mkF, argsToLocals, Value.category, maxLocals]; done) | rfl
def f0_14 (i0 : Int32) : Int32 := (((i0.toUInt32 >>> ((8 : Int32) &&& 31).toUInt32).toInt32) &&& (255 : Int32))
def f0_24 (i0 : Int32) : Int32 := (((i0.toUInt32 >>> ((16 : Int32) &&& 31).toUInt32).toInt32) &&& (255 : Int32))
def f0_34 (i0 : Int32) : Int32 := (((i0.toUInt32 >>> ((24 : Int32) &&& 31).toUInt32).toInt32) &&& (255 : Int32))
def f0_48 (i0 : Int32) (i1 : Int32) (i2 : Int32) : Int32 := (fn1 (i0 &&& (255 : Int32)) (i1 &&& (255 : Int32)) (i2 &&& (3 : Int32)))
def f0_65 (i0 : Int32) (i1 : Int32) (i2 : Int32) : Int32 := (fn1 (f0_14 i0) (((i1.toUInt32 >>> ((8 : Int32) &&& 31).toUInt32).toInt32) &&& (255 : Int32)) (((i2.toUInt32 >>> ((2 : Int32) &&& 31).toUInt32).toInt32) &&& (3 : Int32)))
def f0_85 (i0 : Int32) (i1 : Int32) (i2 : Int32) : Int32 := (fn1 (f0_24 i0) (((i1.toUInt32 >>> ((16 : Int32) &&& 31).toUInt32).toInt32) &&& (255 : Int32)) (((i2.toUInt32 >>> ((4 : Int32) &&& 31).toUInt32).toInt32) &&& (3 : Int32)))
def f0_98 (i1 : Int32) : Int32 := (((i1.toUInt32 >>> ((24 : Int32) &&& 31).toUInt32).toInt32) &&& (255 : Int32))
def f0_106 (i2 : Int32) : Int32 := (((i2.toUInt32 >>> ((6 : Int32) &&& 31).toUInt32).toInt32) &&& (3 : Int32))
def f0_114 (i2 : Int32) : Int32 := (((i2.toUInt32 >>> ((8 : Int32) &&& 31).toUInt32).toInt32) &&& (3 : Int32))
theorem own_2 (x : Int32) : ∃ A : Nat, A ≤ 3 ∧ (x &&& (3 : Int32)) = Int32.ofNat A := by
  have e1 : (x &&& (3 : Int32)).toInt = x.toInt % (2 ^ 2 : Nat) := c_mask x 3 2 (by decide) (by decide)
  refine ⟨(x &&& (3 : Int32)).toInt.toNat, by omega, ?_⟩
  apply Int32.toInt_inj.mp; rw [Int32.toInt_ofNat_of_lt (by omega)]; omega
theorem own_2A (i2 : Int32) : ∃ A : Nat, A ≤ 3 ∧ f0_106 i2 = Int32.ofNat A := own_2 _
theorem own_2B (i2 : Int32) : ∃ A : Nat, A ≤ 3 ∧ f0_114 i2 = Int32.ofNat A := own_2 _
def own_fd (xs ys : List Int32) : Nat → Nat → Int32
  | 0, _ => 0
  | k + 1, i => if fn6 (xs.getD i 0 &&& (255 : Int32)) = fn6 (ys.getD i 0 &&& (255 : Int32)) then own_fd xs ys k (i + 1) else fn6 (xs.getD i 0 &&& (255 : Int32)) - fn6 (ys.getD i 0 &&& (255 : Int32))
def own_rd (xs ys : List Int32) : Nat → Nat → Int32
  | 0, _ => 0
  | k + 1, i => if (xs.getD i 0 &&& (255 : Int32)) = (ys.getD i 0 &&& (255 : Int32)) then own_rd xs ys k (i + 1) else (xs.getD i 0 &&& (255 : Int32)) - (ys.getD i 0 &&& (255 : Int32))
theorem own_sne {x y : Int32} (h : ¬ x = y) : ¬ x - y = 0 := fun z => h (by
  have e := c_isub x y
  have r1 := rng32 x
  have r2 := rng32 y
  rw [z, show (0 : Int32).toInt = 0 from rfl] at e
  apply Int32.toInt_inj.mp
  omega)
theorem own_cpx (xs ys : List Int32) (la lb : Int32) : ∀ (k i : Nat) (c : Int32), own_cp xs ys la lb k i c = if own_fd xs ys k i = 0 then (if la = lb then (if c = 0 then own_rd xs ys k i else c) else la - lb) else own_fd xs ys k i
  | 0, i, c => by
    rw [own_cp, own_fd, own_rd, if_pos (rfl : (0 : Int32) = 0)]
    by_cases e : la = lb
    · rw [if_pos e, if_pos e]
      by_cases z : c = 0
      · rw [if_pos z, z]
      · rw [if_neg z]
    · rw [if_neg e, if_neg e]
  | k + 1, i, c => by
    rw [own_cp, own_fd, own_rd]
    by_cases e : (xs.getD i 0 &&& (255 : Int32)) = (ys.getD i 0 &&& (255 : Int32))
    · have f : fn6 (xs.getD i 0 &&& (255 : Int32)) = fn6 (ys.getD i 0 &&& (255 : Int32)) := by rw [e]
      simp only [if_pos e, if_pos f]
      exact own_cpx xs ys la lb k (i + 1) c
    · by_cases f : fn6 (xs.getD i 0 &&& (255 : Int32)) = fn6 (ys.getD i 0 &&& (255 : Int32))
      · simp only [if_neg e, if_pos f]
        rw [own_cpx xs ys la lb k (i + 1) _]
        by_cases z : c = 0
        · simp only [if_pos z, if_neg (own_sne e)]
        · simp only [if_neg z]
      · simp only [if_neg e, if_neg f, if_neg (own_sne f)]
theorem own_ref0 (xs ys : List Int32) (u0 u1 u2 v0 v1 v2 la lb : Int32) (hm : fn3 la lb = (0 : Int32)) (hl : la = lb → la = (0 : Int32)) : fn5 u0 u1 u2 la v0 v1 v2 lb = if own_fd xs ys 0 0 = 0 then (if la = lb then fn4 (own_rd xs ys 0 0) else f5_120_s0 la lb) else fn4 (own_fd xs ys 0 0) := by
  rw [show own_fd xs ys 0 0 = (0 : Int32) from by rw [own_fd], show own_rd xs ys 0 0 = (0 : Int32) from by rw [own_rd]]
  have d0 : ¬ (0 : Int32) < (0 : Int32) := by decide
  have d1 : ¬ (1 : Int32) < (0 : Int32) := by decide
  have d2 : ¬ (2 : Int32) < (0 : Int32) := by decide
  unfold fn5 f5_x39 f5_x71 f5_x103 f5_x139 f5_x158 f5_x177
  rw [hm]
  by_cases e : la = lb
  · have la' := hl e
    have l0 : ¬ (0 : Int32) < la := by rw [la']; exact d0
    have l1 : ¬ (1 : Int32) < la := by rw [la']; exact d1
    have l2 : ¬ (2 : Int32) < la := by rw [la']; exact d2
    (simp only [if_neg d0, if_neg d1, if_neg d2, if_pos e, if_true, if_neg l0, if_neg l1, if_neg l2]) <;> rfl
  · simp only [if_neg d0, if_neg d1, if_neg d2, if_neg e, if_true]
theorem own_ref1 (xs ys : List Int32) (u0 u1 u2 v0 v1 v2 la lb : Int32) (hm : fn3 la lb = (1 : Int32)) (hl : la = lb → la = (1 : Int32)) (gx0 : (xs.getD 0 0 &&& (255 : Int32)) = u0) (gy0 : (ys.getD 0 0 &&& (255 : Int32)) = v0) : fn5 u0 u1 u2 la v0 v1 v2 lb = if own_fd xs ys 1 0 = 0 then (if la = lb then fn4 (own_rd xs ys 1 0) else f5_120_s0 la lb) else fn4 (own_fd xs ys 1 0) := by
  rw [show own_fd xs ys 1 0 = (if fn6 u0 = fn6 v0 then (0 : Int32) else fn6 u0 - fn6 v0) from by rw [own_fd, own_fd, gx0, gy0], show own_rd xs ys 1 0 = (if u0 = v0 then (0 : Int32) else u0 - v0) from by rw [own_rd, own_rd, gx0, gy0]]
  have d0 : (0 : Int32) < (1 : Int32) := by decide
  have d1 : ¬ (1 : Int32) < (1 : Int32) := by decide
  have d2 : ¬ (2 : Int32) < (1 : Int32) := by decide
  unfold fn5 f5_x39 f5_x71 f5_x103 f5_x139 f5_x158 f5_x177
  rw [hm]
  by_cases f0 : fn6 u0 = fn6 v0
  · skip
    by_cases e : la = lb
    · have la' := hl e
      have l0 : (0 : Int32) < la := by rw [la']; exact d0
      have l1 : ¬ (1 : Int32) < la := by rw [la']; exact d1
      have l2 : ¬ (2 : Int32) < la := by rw [la']; exact d2
      by_cases e0 : u0 = v0
      · skip
        (simp only [if_pos d0, if_neg d1, if_neg d2, if_pos f0, if_pos e, if_true, if_pos l0, if_neg l1, if_neg l2, if_pos e0]) <;> rfl
      · simp only [if_pos d0, if_neg d1, if_neg d2, if_pos f0, if_pos e, if_true, if_pos l0, if_neg l1, if_neg l2, if_neg e0]
    · simp only [if_pos d0, if_neg d1, if_neg d2, if_pos f0, if_neg e, if_true]
  · simp only [if_pos d0, if_neg d1, if_neg d2, if_neg f0, if_neg (own_sne f0)]
theorem own_ref2 (xs ys : List Int32) (u0 u1 u2 v0 v1 v2 la lb : Int32) (hm : fn3 la lb = (2 : Int32)) (hl : la = lb → la = (2 : Int32)) (gx0 : (xs.getD 0 0 &&& (255 : Int32)) = u0) (gy0 : (ys.getD 0 0 &&& (255 : Int32)) = v0) (gx1 : (xs.getD (0 + 1) 0 &&& (255 : Int32)) = u1) (gy1 : (ys.getD (0 + 1) 0 &&& (255 : Int32)) = v1) : fn5 u0 u1 u2 la v0 v1 v2 lb = if own_fd xs ys 2 0 = 0 then (if la = lb then fn4 (own_rd xs ys 2 0) else f5_120_s0 la lb) else fn4 (own_fd xs ys 2 0) := by
  rw [show own_fd xs ys 2 0 = (if fn6 u0 = fn6 v0 then (if fn6 u1 = fn6 v1 then (0 : Int32) else fn6 u1 - fn6 v1) else fn6 u0 - fn6 v0) from by rw [own_fd, own_fd, own_fd, gx0, gy0, gx1, gy1], show own_rd xs ys 2 0 = (if u0 = v0 then (if u1 = v1 then (0 : Int32) else u1 - v1) else u0 - v0) from by rw [own_rd, own_rd, own_rd, gx0, gy0, gx1, gy1]]
  have d0 : (0 : Int32) < (2 : Int32) := by decide
  have d1 : (1 : Int32) < (2 : Int32) := by decide
  have d2 : ¬ (2 : Int32) < (2 : Int32) := by decide
  unfold fn5 f5_x39 f5_x71 f5_x103 f5_x139 f5_x158 f5_x177
  rw [hm]
  by_cases f0 : fn6 u0 = fn6 v0
  · skip
    by_cases f1 : fn6 u1 = fn6 v1
    · skip
      by_cases e : la = lb
      · have la' := hl e
        have l0 : (0 : Int32) < la := by rw [la']; exact d0
        have l1 : (1 : Int32) < la := by rw [la']; exact d1
        have l2 : ¬ (2 : Int32) < la := by rw [la']; exact d2
        by_cases e0 : u0 = v0
        · skip
          by_cases e1 : u1 = v1
          · skip
            (simp only [if_pos d0, if_pos d1, if_neg d2, if_pos f0, if_pos f1, if_pos e, if_true, if_pos l0, if_pos l1, if_neg l2, if_pos e0, if_pos e1]) <;> rfl
          · simp only [if_pos d0, if_pos d1, if_neg d2, if_pos f0, if_pos f1, if_pos e, if_true, if_pos l0, if_pos l1, if_neg l2, if_pos e0, if_neg e1]
        · simp only [if_pos d0, if_pos d1, if_neg d2, if_pos f0, if_pos f1, if_pos e, if_true, if_pos l0, if_pos l1, if_neg l2, if_neg e0]
      · simp only [if_pos d0, if_pos d1, if_neg d2, if_pos f0, if_pos f1, if_neg e, if_true]
    · simp only [if_pos d0, if_pos d1, if_neg d2, if_pos f0, if_neg f1, if_neg (own_sne f1)]
  · simp only [if_pos d0, if_pos d1, if_neg d2, if_neg f0, if_neg (own_sne f0)]
theorem own_ref3 (xs ys : List Int32) (u0 u1 u2 v0 v1 v2 la lb : Int32) (hm : fn3 la lb = (3 : Int32)) (hl : la = lb → la = (3 : Int32)) (gx0 : (xs.getD 0 0 &&& (255 : Int32)) = u0) (gy0 : (ys.getD 0 0 &&& (255 : Int32)) = v0) (gx1 : (xs.getD (0 + 1) 0 &&& (255 : Int32)) = u1) (gy1 : (ys.getD (0 + 1) 0 &&& (255 : Int32)) = v1) (gx2 : (xs.getD (0 + 1 + 1) 0 &&& (255 : Int32)) = u2) (gy2 : (ys.getD (0 + 1 + 1) 0 &&& (255 : Int32)) = v2) : fn5 u0 u1 u2 la v0 v1 v2 lb = if own_fd xs ys 3 0 = 0 then (if la = lb then fn4 (own_rd xs ys 3 0) else f5_120_s0 la lb) else fn4 (own_fd xs ys 3 0) := by
  rw [show own_fd xs ys 3 0 = (if fn6 u0 = fn6 v0 then (if fn6 u1 = fn6 v1 then (if fn6 u2 = fn6 v2 then (0 : Int32) else fn6 u2 - fn6 v2) else fn6 u1 - fn6 v1) else fn6 u0 - fn6 v0) from by rw [own_fd, own_fd, own_fd, own_fd, gx0, gy0, gx1, gy1, gx2, gy2], show own_rd xs ys 3 0 = (if u0 = v0 then (if u1 = v1 then (if u2 = v2 then (0 : Int32) else u2 - v2) else u1 - v1) else u0 - v0) from by rw [own_rd, own_rd, own_rd, own_rd, gx0, gy0, gx1, gy1, gx2, gy2]]
  have d0 : (0 : Int32) < (3 : Int32) := by decide
  have d1 : (1 : Int32) < (3 : Int32) := by decide
  have d2 : (2 : Int32) < (3 : Int32) := by decide
  unfold fn5 f5_x39 f5_x71 f5_x103 f5_x139 f5_x158 f5_x177
  rw [hm]
  by_cases f0 : fn6 u0 = fn6 v0
  · skip
    by_cases f1 : fn6 u1 = fn6 v1
    · skip
      by_cases f2 : fn6 u2 = fn6 v2
      · skip
        by_cases e : la = lb
        · have la' := hl e
          have l0 : (0 : Int32) < la := by rw [la']; exact d0
          have l1 : (1 : Int32) < la := by rw [la']; exact d1
          have l2 : (2 : Int32) < la := by rw [la']; exact d2
          by_cases e0 : u0 = v0
          · skip
            by_cases e1 : u1 = v1
            · skip
              by_cases e2 : u2 = v2
              · skip
                (simp only [if_pos d0, if_pos d1, if_pos d2, if_pos f0, if_pos f1, if_pos f2, if_pos e, if_true, if_pos l0, if_pos l1, if_pos l2, if_pos e0, if_pos e1, if_pos e2]) <;> rfl
              · simp only [if_pos d0, if_pos d1, if_pos d2, if_pos f0, if_pos f1, if_pos f2, if_pos e, if_true, if_pos l0, if_pos l1, if_pos l2, if_pos e0, if_pos e1, if_neg e2]
            · simp only [if_pos d0, if_pos d1, if_pos d2, if_pos f0, if_pos f1, if_pos f2, if_pos e, if_true, if_pos l0, if_pos l1, if_pos l2, if_pos e0, if_neg e1]
          · simp only [if_pos d0, if_pos d1, if_pos d2, if_pos f0, if_pos f1, if_pos f2, if_pos e, if_true, if_pos l0, if_pos l1, if_pos l2, if_neg e0]
        · simp only [if_pos d0, if_pos d1, if_pos d2, if_pos f0, if_pos f1, if_pos f2, if_neg e, if_true]
      · simp only [if_pos d0, if_pos d1, if_pos d2, if_pos f0, if_pos f1, if_neg f2, if_neg (own_sne f2)]
    · simp only [if_pos d0, if_pos d1, if_pos d2, if_pos f0, if_neg f1, if_neg (own_sne f1)]
  · simp only [if_pos d0, if_pos d1, if_pos d2, if_neg f0, if_neg (own_sne f0)]
theorem own_rb (x : Int32) (h : 0 ≤ x.toInt ∧ x.toInt < 256) : (nar .byte (x.toInt8.toInt32) &&& (255 : Int32)) = x := by
  have e1 : (nar .byte (x.toInt8.toInt32) &&& (255 : Int32)).toInt = (nar .byte (x.toInt8.toInt32)).toInt % (2 ^ 8 : Nat) := c_mask _ 255 8 (by decide) (by decide)
  have e2 := c_i2b x
  have e3 := c_i2b (x.toInt8.toInt32)
  have e4 : (nar .byte (x.toInt8.toInt32)).toInt = (x.toInt8.toInt32).toInt8.toInt32.toInt := rfl
  apply Int32.toInt_inj.mp
  omega
theorem own_255 (x : Int32) : 0 ≤ (x &&& (255 : Int32)).toInt ∧ (x &&& (255 : Int32)).toInt < 256 := by
  have e1 : (x &&& (255 : Int32)).toInt = x.toInt % (2 ^ 8 : Nat) := c_mask x 255 8 (by decide) (by decide)
  omega
theorem own_x32 (x : Int32) (h : 0 ≤ x.toInt ∧ x.toInt < 256) : 0 ≤ (x ^^^ (32 : Int32)).toInt ∧ (x ^^^ (32 : Int32)).toInt < 256 := by
  have q : (x ^^^ (32 : Int32)).toBitVec.toNat = x.toBitVec.toNat ^^^ 32 := by rw [Int32.toBitVec_xor, BitVec.toNat_xor]; rfl
  have hx : x.toBitVec.toNat < 256 := by
    have h' : 0 ≤ x.toBitVec.toInt ∧ x.toBitVec.toInt < 256 := h
    rw [BitVec.toInt_eq_toNat_cond] at h'
    have l := x.toBitVec.isLt
    split at h' <;> omega
  have hq : x.toBitVec.toNat ^^^ 32 < 2 ^ 8 := Nat.xor_lt_two_pow (n := 8) (by omega) (by decide)
  show 0 ≤ (x ^^^ (32 : Int32)).toBitVec.toInt ∧ (x ^^^ (32 : Int32)).toBitVec.toInt < 256
  rw [BitVec.toInt_eq_toNat_cond, q, if_pos (by omega)]
  omega
theorem own_pk (x y c : Int32) (hx : 0 ≤ x.toInt ∧ x.toInt < 256) (hy : 0 ≤ y.toInt ∧ y.toInt < 256) : 0 ≤ (fn1 x y c).toInt ∧ (fn1 x y c).toInt < 256 := by
  unfold fn1
  split
  · exact hx
  · split
    · exact own_x32 x hx
    · exact hy
theorem own_s4 : ∀ A B : Fin 4, ¬ (Int32.ofNat A.1) = (Int32.ofNat B.1) → fn4 ((Int32.ofNat A.1) - (Int32.ofNat B.1)) = f5_120_s0 (Int32.ofNat A.1) (Int32.ofNat B.1) := by decide +kernel
theorem own_s5 : ∀ A B : Fin 4, (Int32.ofNat A.1) = (Int32.ofNat B.1) → (Int32.ofNat A.1) = Int32.ofNat (min A.1 B.1) := by decide +kernel
set_option maxHeartbeats 4000000 in
theorem own_fin (u0 u1 u2 u3 v0 v1 v2 v3 : Int32) (A B : Nat) (hA : A ≤ 3) (hB : B ≤ 3) (i0 i1 i2 : Int32) (hu0 : (i0 &&& (255 : Int32)) = u0) (hu1 : f0_14 i0 = u1) (hu2 : f0_24 i0 = u2) (hv0 : f0_48 i0 i1 i2 = v0) (hv1 : f0_65 i0 i1 i2 = v1) (hv2 : f0_85 i0 i1 i2 = v2) : (fn4 (own_cp [(nar .byte (u0.toInt8.toInt32)), (nar .byte (u1.toInt8.toInt32)), (nar .byte (u2.toInt8.toInt32)), (nar .byte (u3.toInt8.toInt32))] [(nar .byte (v0.toInt8.toInt32)), (nar .byte (v1.toInt8.toInt32)), (nar .byte (v2.toInt8.toInt32)), (nar .byte (v3.toInt8.toInt32))] (Int32.ofNat A) (Int32.ofNat B) (min A B) 0 0)) = (fn5 u0 u1 u2 (Int32.ofNat A) v0 v1 v2 (Int32.ofNat B)) := by
  have ru0 : 0 ≤ u0.toInt ∧ u0.toInt < 256 := hu0 ▸ own_255 i0
  have ru1 : 0 ≤ u1.toInt ∧ u1.toInt < 256 := hu1 ▸ own_255 _
  have ru2 : 0 ≤ u2.toInt ∧ u2.toInt < 256 := hu2 ▸ own_255 _
  have rv0 : 0 ≤ v0.toInt ∧ v0.toInt < 256 := hv0 ▸ own_pk _ _ _ (own_255 _) (own_255 _)
  have rv1 : 0 ≤ v1.toInt ∧ v1.toInt < 256 := hv1 ▸ own_pk _ _ _ (own_255 _) (own_255 _)
  have rv2 : 0 ≤ v2.toInt ∧ v2.toInt < 256 := hv2 ▸ own_pk _ _ _ (own_255 _) (own_255 _)
  have hm := own_min (A := A) (B := B) (by omega) (by omega)
  have hl := own_s5 ⟨A, by omega⟩ ⟨B, by omega⟩
  have h4 := own_s4 ⟨A, by omega⟩ ⟨B, by omega⟩
  simp only at hl h4
  rw [own_cpx, if_pos (rfl : (0 : Int32) = 0)]
  generalize hla : Int32.ofNat A = la at *
  generalize hlb : Int32.ofNat B = lb at *
  have push : ∀ F R : Int32, fn4 (if F = 0 then (if la = lb then R else la - lb) else F) = if F = 0 then (if la = lb then fn4 R else f5_120_s0 la lb) else fn4 F := fun F R => by
    split
    · split
      · rfl
      · exact h4 ‹_›
    · rfl
  rw [push]
  have hc : min A B = 0 ∨ min A B = 1 ∨ min A B = 2 ∨ min A B = 3 := by omega
  rcases hc with h | h | h | h <;> rw [h] at hm hl ⊢
  · exact (own_ref0 [(nar .byte (u0.toInt8.toInt32)), (nar .byte (u1.toInt8.toInt32)), (nar .byte (u2.toInt8.toInt32)), (nar .byte (u3.toInt8.toInt32))] [(nar .byte (v0.toInt8.toInt32)), (nar .byte (v1.toInt8.toInt32)), (nar .byte (v2.toInt8.toInt32)), (nar .byte (v3.toInt8.toInt32))] u0 u1 u2 v0 v1 v2 la lb hm hl).symm
  · exact (own_ref1 [(nar .byte (u0.toInt8.toInt32)), (nar .byte (u1.toInt8.toInt32)), (nar .byte (u2.toInt8.toInt32)), (nar .byte (u3.toInt8.toInt32))] [(nar .byte (v0.toInt8.toInt32)), (nar .byte (v1.toInt8.toInt32)), (nar .byte (v2.toInt8.toInt32)), (nar .byte (v3.toInt8.toInt32))] u0 u1 u2 v0 v1 v2 la lb hm hl (own_rb u0 ru0) (own_rb v0 rv0)).symm
  · exact (own_ref2 [(nar .byte (u0.toInt8.toInt32)), (nar .byte (u1.toInt8.toInt32)), (nar .byte (u2.toInt8.toInt32)), (nar .byte (u3.toInt8.toInt32))] [(nar .byte (v0.toInt8.toInt32)), (nar .byte (v1.toInt8.toInt32)), (nar .byte (v2.toInt8.toInt32)), (nar .byte (v3.toInt8.toInt32))] u0 u1 u2 v0 v1 v2 la lb hm hl (own_rb u0 ru0) (own_rb v0 rv0) (own_rb u1 ru1) (own_rb v1 rv1)).symm
  · exact (own_ref3 [(nar .byte (u0.toInt8.toInt32)), (nar .byte (u1.toInt8.toInt32)), (nar .byte (u2.toInt8.toInt32)), (nar .byte (u3.toInt8.toInt32))] [(nar .byte (v0.toInt8.toInt32)), (nar .byte (v1.toInt8.toInt32)), (nar .byte (v2.toInt8.toInt32)), (nar .byte (v3.toInt8.toInt32))] u0 u1 u2 v0 v1 v2 la lb hm hl (own_rb u0 ru0) (own_rb v0 rv0) (own_rb u1 ru1) (own_rb v1 rv1) (own_rb u2 ru2) (own_rb v2 rv2)).symm
set_option maxRecDepth 65536 in
set_option maxHeartbeats 40000000 in
theorem rm0 (l : Launch) (Z : State) (a0 : Array Value) (hw : ∀ d ∈ tables_1, d.before a0 Z = true) (ws : List Jvm.Cond) (i0 : Int32) (i1 : Int32) (i2 : Int32) (h0 : Heap) (n0 : Nat) (Z0 : n0 ≤ h0.size) : MetP l x code maxLocals ret ws room_1 Z #[(.int i0), (.int i1), (.int i2)] h0 (fun v h L => v = some (.int (1 : Int32)) ∧ Fr n0 L) := by
  refine met_go pn_0 ?_
  intro p e s m below meth c s₁ hx hby hml hown hnm hret hlk hZ e0 X0
  have N0 := Fr.nil n0
  rw [ef_0 m i0 i1 i2]
  refine o_iloadN 1 X0 hx rfl (hb hby at_0) rfl ?_
  refine o_sipush 4 X0 hx rfl (hb hby at_1) (255 : Int32) rfl ?_
  refine o_iand 5 X0 hx rfl (hb hby at_4) ?_
  refine o_istoreN 6 X0 hx rfl (hb hby at_5) #[.val (.int i0), .val (.int i1), .val (.int i2), .val (.int (i0 &&& (255 : Int32))), .unset, .unset, .unset, .unset, .unset, .unset, .unset, .unset, .unset, .unset, .unset, .unset] rfl ?_
  refine o_iloadN 7 X0 hx rfl (hb hby at_6) rfl ?_
  refine o_bipush 9 X0 hx rfl (hb hby at_7) (8 : Int32) rfl ?_
  refine o_iushr 10 X0 hx rfl (hb hby at_9) ?_
  refine o_sipush 13 X0 hx rfl (hb hby at_10) (255 : Int32) rfl ?_
  refine o_iand 14 X0 hx rfl (hb hby at_13) ?_
  refine o_istore 16 X0 hx rfl (hb hby at_14) #[.val (.int i0), .val (.int i1), .val (.int i2), .val (.int (i0 &&& (255 : Int32))), .val (.int (f0_14 i0)), .unset, .unset, .unset, .unset, .unset, .unset, .unset, .unset, .unset, .unset, .unset] rfl ?_
  refine o_iloadN 17 X0 hx rfl (hb hby at_16) rfl ?_
  refine o_bipush 19 X0 hx rfl (hb hby at_17) (16 : Int32) rfl ?_
  refine o_iushr 20 X0 hx rfl (hb hby at_19) ?_
  refine o_sipush 23 X0 hx rfl (hb hby at_20) (255 : Int32) rfl ?_
  refine o_iand 24 X0 hx rfl (hb hby at_23) ?_
  refine o_istore 26 X0 hx rfl (hb hby at_24) #[.val (.int i0), .val (.int i1), .val (.int i2), .val (.int (i0 &&& (255 : Int32))), .val (.int (f0_14 i0)), .val (.int (f0_24 i0)), .unset, .unset, .unset, .unset, .unset, .unset, .unset, .unset, .unset, .unset] rfl ?_
  refine o_iloadN 27 X0 hx rfl (hb hby at_26) rfl ?_
  refine o_bipush 29 X0 hx rfl (hb hby at_27) (24 : Int32) rfl ?_
  refine o_iushr 30 X0 hx rfl (hb hby at_29) ?_
  refine o_sipush 33 X0 hx rfl (hb hby at_30) (255 : Int32) rfl ?_
  refine o_iand 34 X0 hx rfl (hb hby at_33) ?_
  refine o_istore 36 X0 hx rfl (hb hby at_34) #[.val (.int i0), .val (.int i1), .val (.int i2), .val (.int (i0 &&& (255 : Int32))), .val (.int (f0_14 i0)), .val (.int (f0_24 i0)), .val (.int (f0_34 i0)), .unset, .unset, .unset, .unset, .unset, .unset, .unset, .unset, .unset] rfl ?_
  refine o_iloadN 37 X0 hx rfl (hb hby at_36) rfl ?_
  refine o_iloadN 38 X0 hx rfl (hb hby at_37) rfl ?_
  refine o_sipush 41 X0 hx rfl (hb hby at_38) (255 : Int32) rfl ?_
  refine o_iand 42 X0 hx rfl (hb hby at_41) ?_
  refine o_iloadN 43 X0 hx rfl (hb hby at_42) rfl ?_
  refine o_iconst 44 X0 hx rfl (hb hby at_43) (3 : Int32) rfl ?_
  refine o_iand 45 X0 hx rfl (hb hby at_44) ?_
  refine o_callP (rv := (.int (fn1 (i0 &&& (255 : Int32)) (i1 &&& (255 : Int32)) (i2 &&& (3 : Int32))))) 48 X0 hx rfl hZ hown (wd_0 hw) (wd_1 hw) (wd_2 hw) (wd_3 hw) (by decide) e0 (rm1 l Z a0 hw (i0 &&& (255 : Int32)) (i1 &&& (255 : Int32)) (i2 &&& (3 : Int32)) h0) pd_lIIIrI [(.int (i0 &&& (255 : Int32))), (.int (i1 &&& (255 : Int32))), (.int (i2 &&& (3 : Int32)))] [] rfl rfl (by rw [hml]; rfl) rfl (hb hby at_45) 0 (Nat.le_of_eq rfl) (by decide) (by decide) (by decide) (by decide) rfl rfl fun T1 X1 e1 => ?_
  refine o_istore 50 X1 hx rfl (hb hby at_48) #[.val (.int i0), .val (.int i1), .val (.int i2), .val (.int (i0 &&& (255 : Int32))), .val (.int (f0_14 i0)), .val (.int (f0_24 i0)), .val (.int (f0_34 i0)), .val (.int (f0_48 i0 i1 i2)), .unset, .unset, .unset, .unset, .unset, .unset, .unset, .unset] rfl ?_
  refine o_iload 52 X1 hx rfl (hb hby at_50) rfl ?_
  refine o_iloadN 53 X1 hx rfl (hb hby at_52) rfl ?_
  refine o_bipush 55 X1 hx rfl (hb hby at_53) (8 : Int32) rfl ?_
  refine o_iushr 56 X1 hx rfl (hb hby at_55) ?_
  refine o_sipush 59 X1 hx rfl (hb hby at_56) (255 : Int32) rfl ?_
  refine o_iand 60 X1 hx rfl (hb hby at_59) ?_
  refine o_iloadN 61 X1 hx rfl (hb hby at_60) rfl ?_
  refine o_iconst 62 X1 hx rfl (hb hby at_61) (2 : Int32) rfl ?_
  refine o_iushr 63 X1 hx rfl (hb hby at_62) ?_
  refine o_iconst 64 X1 hx rfl (hb hby at_63) (3 : Int32) rfl ?_
  refine o_iand 65 X1 hx rfl (hb hby at_64) ?_
  refine o_callP (rv := (.int (f0_65 i0 i1 i2))) 68 X1 hx rfl hZ hown (wd_0 hw) (wd_1 hw) (wd_2 hw) (wd_3 hw) (by decide) e1 (rm1 l Z a0 hw (f0_14 i0) (((i1.toUInt32 >>> ((8 : Int32) &&& 31).toUInt32).toInt32) &&& (255 : Int32)) (((i2.toUInt32 >>> ((2 : Int32) &&& 31).toUInt32).toInt32) &&& (3 : Int32)) h0) pd_lIIIrI [(.int (f0_14 i0)), (.int (((i1.toUInt32 >>> ((8 : Int32) &&& 31).toUInt32).toInt32) &&& (255 : Int32))), (.int (((i2.toUInt32 >>> ((2 : Int32) &&& 31).toUInt32).toInt32) &&& (3 : Int32)))] [] rfl rfl (by rw [hml]; rfl) rfl (hb hby at_65) 0 (Nat.le_of_eq rfl) (by decide) (by decide) (by decide) (by decide) rfl rfl fun T2 X2 e2 => ?_
  refine o_istore 70 X2 hx rfl (hb hby at_68) #[.val (.int i0), .val (.int i1), .val (.int i2), .val (.int (i0 &&& (255 : Int32))), .val (.int (f0_14 i0)), .val (.int (f0_24 i0)), .val (.int (f0_34 i0)), .val (.int (f0_48 i0 i1 i2)), .val (.int (f0_65 i0 i1 i2)), .unset, .unset, .unset, .unset, .unset, .unset, .unset] rfl ?_
  refine o_iload 72 X2 hx rfl (hb hby at_70) rfl ?_
  refine o_iloadN 73 X2 hx rfl (hb hby at_72) rfl ?_
  refine o_bipush 75 X2 hx rfl (hb hby at_73) (16 : Int32) rfl ?_
  refine o_iushr 76 X2 hx rfl (hb hby at_75) ?_
  refine o_sipush 79 X2 hx rfl (hb hby at_76) (255 : Int32) rfl ?_
  refine o_iand 80 X2 hx rfl (hb hby at_79) ?_
  refine o_iloadN 81 X2 hx rfl (hb hby at_80) rfl ?_
  refine o_iconst 82 X2 hx rfl (hb hby at_81) (4 : Int32) rfl ?_
  refine o_iushr 83 X2 hx rfl (hb hby at_82) ?_
  refine o_iconst 84 X2 hx rfl (hb hby at_83) (3 : Int32) rfl ?_
  refine o_iand 85 X2 hx rfl (hb hby at_84) ?_
  refine o_callP (rv := (.int (f0_85 i0 i1 i2))) 88 X2 hx rfl hZ hown (wd_0 hw) (wd_1 hw) (wd_2 hw) (wd_3 hw) (by decide) e2 (rm1 l Z a0 hw (f0_24 i0) (((i1.toUInt32 >>> ((16 : Int32) &&& 31).toUInt32).toInt32) &&& (255 : Int32)) (((i2.toUInt32 >>> ((4 : Int32) &&& 31).toUInt32).toInt32) &&& (3 : Int32)) h0) pd_lIIIrI [(.int (f0_24 i0)), (.int (((i1.toUInt32 >>> ((16 : Int32) &&& 31).toUInt32).toInt32) &&& (255 : Int32))), (.int (((i2.toUInt32 >>> ((4 : Int32) &&& 31).toUInt32).toInt32) &&& (3 : Int32)))] [] rfl rfl (by rw [hml]; rfl) rfl (hb hby at_85) 0 (Nat.le_of_eq rfl) (by decide) (by decide) (by decide) (by decide) rfl rfl fun T3 X3 e3 => ?_
  refine o_istore 90 X3 hx rfl (hb hby at_88) #[.val (.int i0), .val (.int i1), .val (.int i2), .val (.int (i0 &&& (255 : Int32))), .val (.int (f0_14 i0)), .val (.int (f0_24 i0)), .val (.int (f0_34 i0)), .val (.int (f0_48 i0 i1 i2)), .val (.int (f0_65 i0 i1 i2)), .val (.int (f0_85 i0 i1 i2)), .unset, .unset, .unset, .unset, .unset, .unset] rfl ?_
  refine o_iloadN 91 X3 hx rfl (hb hby at_90) rfl ?_
  refine o_bipush 93 X3 hx rfl (hb hby at_91) (24 : Int32) rfl ?_
  refine o_iushr 94 X3 hx rfl (hb hby at_93) ?_
  refine o_sipush 97 X3 hx rfl (hb hby at_94) (255 : Int32) rfl ?_
  refine o_iand 98 X3 hx rfl (hb hby at_97) ?_
  refine o_istore 100 X3 hx rfl (hb hby at_98) #[.val (.int i0), .val (.int i1), .val (.int i2), .val (.int (i0 &&& (255 : Int32))), .val (.int (f0_14 i0)), .val (.int (f0_24 i0)), .val (.int (f0_34 i0)), .val (.int (f0_48 i0 i1 i2)), .val (.int (f0_65 i0 i1 i2)), .val (.int (f0_85 i0 i1 i2)), .val (.int (f0_98 i1)), .unset, .unset, .unset, .unset, .unset] rfl ?_
  refine o_iloadN 101 X3 hx rfl (hb hby at_100) rfl ?_
  refine o_bipush 103 X3 hx rfl (hb hby at_101) (6 : Int32) rfl ?_
  refine o_iushr 104 X3 hx rfl (hb hby at_103) ?_
  refine o_iconst 105 X3 hx rfl (hb hby at_104) (3 : Int32) rfl ?_
  refine o_iand 106 X3 hx rfl (hb hby at_105) ?_
  refine o_istore 108 X3 hx rfl (hb hby at_106) #[.val (.int i0), .val (.int i1), .val (.int i2), .val (.int (i0 &&& (255 : Int32))), .val (.int (f0_14 i0)), .val (.int (f0_24 i0)), .val (.int (f0_34 i0)), .val (.int (f0_48 i0 i1 i2)), .val (.int (f0_65 i0 i1 i2)), .val (.int (f0_85 i0 i1 i2)), .val (.int (f0_98 i1)), .val (.int (f0_106 i2)), .unset, .unset, .unset, .unset] rfl ?_
  refine o_iloadN 109 X3 hx rfl (hb hby at_108) rfl ?_
  refine o_bipush 111 X3 hx rfl (hb hby at_109) (8 : Int32) rfl ?_
  refine o_iushr 112 X3 hx rfl (hb hby at_111) ?_
  refine o_iconst 113 X3 hx rfl (hb hby at_112) (3 : Int32) rfl ?_
  refine o_iand 114 X3 hx rfl (hb hby at_113) ?_
  refine o_istore 116 X3 hx rfl (hb hby at_114) #[.val (.int i0), .val (.int i1), .val (.int i2), .val (.int (i0 &&& (255 : Int32))), .val (.int (f0_14 i0)), .val (.int (f0_24 i0)), .val (.int (f0_34 i0)), .val (.int (f0_48 i0 i1 i2)), .val (.int (f0_65 i0 i1 i2)), .val (.int (f0_85 i0 i1 i2)), .val (.int (f0_98 i1)), .val (.int (f0_106 i2)), .val (.int (f0_114 i2)), .unset, .unset, .unset] rfl ?_
  obtain ⟨u0, hu0⟩ : ∃ u0, (i0 &&& (255 : Int32)) = u0 := ⟨_, rfl⟩
  obtain ⟨u1, hu1⟩ : ∃ u1, (f0_14 i0) = u1 := ⟨_, rfl⟩
  obtain ⟨u2, hu2⟩ : ∃ u2, (f0_24 i0) = u2 := ⟨_, rfl⟩
  obtain ⟨u3, hu3⟩ : ∃ u3, (f0_34 i0) = u3 := ⟨_, rfl⟩
  obtain ⟨v0, hv0⟩ : ∃ v0, (f0_48 i0 i1 i2) = v0 := ⟨_, rfl⟩
  obtain ⟨v1, hv1⟩ : ∃ v1, (f0_65 i0 i1 i2) = v1 := ⟨_, rfl⟩
  obtain ⟨v2, hv2⟩ : ∃ v2, (f0_85 i0 i1 i2) = v2 := ⟨_, rfl⟩
  obtain ⟨v3, hv3⟩ : ∃ v3, (f0_98 i1) = v3 := ⟨_, rfl⟩
  rw [hu0, hu1, hu2, hu3, hv0, hv1, hv2, hv3]
  obtain ⟨A, hA, eA⟩ := own_2A i2
  obtain ⟨B, hB, eB⟩ := own_2B i2
  rw [eA, eB]
  refine o_iconst 117 X3 hx rfl (hb hby at_116) (4 : Int32) rfl ?_
  refine o_newarrI 119 X3 hx rfl hZ .byte .byte rfl rfl (wd_4 hw) e3 (hb hby at_117) (by decide) 4 (by decide) (by decide) (by decide) (by decide) [(0 : Int32), (0 : Int32), (0 : Int32), (0 : Int32)] rfl fun T4 h4 a4 k4 g4 X4 e4 E4 A4 => ?_
  have ge5 : n0 ≤ a4 := Nat.le_trans Z0 (Nat.le_of_eq g4.symm)
  have sz6 : n0 ≤ h4.size := Nat.le_trans Z0 E4.1
  refine o_dup 120 X4 hx rfl (hb hby at_119) rfl ?_
  refine o_iconst 121 X4 hx rfl (hb hby at_120) (0 : Int32) rfl ?_
  refine o_iloadN 122 X4 hx rfl (hb hby at_121) rfl ?_
  refine o_i2b 123 X4 hx rfl (hb hby at_122) ?_
  refine o_bastoreBX 124 X4 hx rfl hZ e4 A4 (by decide) (Nat.le_of_ble_eq_true rfl) [(nar .byte (u0.toInt8.toInt32)), (0 : Int32), (0 : Int32), (0 : Int32)] rfl N0 ge5 (hb hby at_123) fun T7 h7 L7 X7 N7 e7 W7 A7 => ?_
  have sz8 : n0 ≤ h7.size := Nat.le_trans sz6 (Keep.of_wr W7).1
  refine o_dup 125 X7 hx rfl (hb hby at_124) rfl ?_
  refine o_iconst 126 X7 hx rfl (hb hby at_125) (1 : Int32) rfl ?_
  refine o_iload 128 X7 hx rfl (hb hby at_126) rfl ?_
  refine o_i2b 129 X7 hx rfl (hb hby at_128) ?_
  refine o_bastoreBX 130 X7 hx rfl hZ e7 A7 (by decide) (Nat.le_of_ble_eq_true rfl) [(nar .byte (u0.toInt8.toInt32)), (nar .byte (u1.toInt8.toInt32)), (0 : Int32), (0 : Int32)] rfl N7 ge5 (hb hby at_129) fun T9 h9 L9 X9 N9 e9 W9 A9 => ?_
  have sz10 : n0 ≤ h9.size := Nat.le_trans sz8 (Keep.of_wr W9).1
  refine o_dup 131 X9 hx rfl (hb hby at_130) rfl ?_
  refine o_iconst 132 X9 hx rfl (hb hby at_131) (2 : Int32) rfl ?_
  refine o_iload 134 X9 hx rfl (hb hby at_132) rfl ?_
  refine o_i2b 135 X9 hx rfl (hb hby at_134) ?_
  refine o_bastoreBX 136 X9 hx rfl hZ e9 A9 (by decide) (Nat.le_of_ble_eq_true rfl) [(nar .byte (u0.toInt8.toInt32)), (nar .byte (u1.toInt8.toInt32)), (nar .byte (u2.toInt8.toInt32)), (0 : Int32)] rfl N9 ge5 (hb hby at_135) fun T11 h11 L11 X11 N11 e11 W11 A11 => ?_
  have sz12 : n0 ≤ h11.size := Nat.le_trans sz10 (Keep.of_wr W11).1
  refine o_dup 137 X11 hx rfl (hb hby at_136) rfl ?_
  refine o_iconst 138 X11 hx rfl (hb hby at_137) (3 : Int32) rfl ?_
  refine o_iload 140 X11 hx rfl (hb hby at_138) rfl ?_
  refine o_i2b 141 X11 hx rfl (hb hby at_140) ?_
  refine o_bastoreBX 142 X11 hx rfl hZ e11 A11 (by decide) (Nat.le_of_ble_eq_true rfl) [(nar .byte (u0.toInt8.toInt32)), (nar .byte (u1.toInt8.toInt32)), (nar .byte (u2.toInt8.toInt32)), (nar .byte (u3.toInt8.toInt32))] rfl N11 ge5 (hb hby at_141) fun T13 h13 L13 X13 N13 e13 W13 A13 => ?_
  have sz14 : n0 ≤ h13.size := Nat.le_trans sz12 (Keep.of_wr W13).1
  refine o_astore 144 X13 hx rfl (hb hby at_142) rfl #[.val (.int i0), .val (.int i1), .val (.int i2), .val (.int u0), .val (.int u1), .val (.int u2), .val (.int u3), .val (.int v0), .val (.int v1), .val (.int v2), .val (.int v3), .val (.int (Int32.ofNat A)), .val (.int (Int32.ofNat B)), .val (.ref a4), .unset, .unset] rfl ?_
  refine o_iconst 145 X13 hx rfl (hb hby at_144) (4 : Int32) rfl ?_
  refine o_newarrI 147 X13 hx rfl hZ .byte .byte rfl rfl (wd_4 hw) e13 (hb hby at_145) (by decide) 4 (by decide) (by decide) (by decide) (by decide) [(0 : Int32), (0 : Int32), (0 : Int32), (0 : Int32)] rfl fun T15 h15 a15 k15 g15 X15 e15 E15 A15 => ?_
  have ne16 : a4 ≠ a15 := Nat.ne_of_lt (Nat.lt_of_lt_of_eq A13.lt g15.symm)
  have ge17 : n0 ≤ a15 := Nat.le_trans sz14 (Nat.le_of_eq g15.symm)
  have F18 : Arv Z h15 a4 k4 .byte (4 : Int32) ([(nar .byte (u0.toInt8.toInt32)), (nar .byte (u1.toInt8.toInt32)), (nar .byte (u2.toInt8.toInt32)), (nar .byte (u3.toInt8.toInt32))].map Value.int) (.int 0) := A13.ext E15
  have sz19 : n0 ≤ h15.size := Nat.le_trans sz14 E15.1
  refine o_dup 148 X15 hx rfl (hb hby at_147) rfl ?_
  refine o_iconst 149 X15 hx rfl (hb hby at_148) (0 : Int32) rfl ?_
  refine o_iload 151 X15 hx rfl (hb hby at_149) rfl ?_
  refine o_i2b 152 X15 hx rfl (hb hby at_151) ?_
  refine o_bastoreBX 153 X15 hx rfl hZ e15 A15 (by decide) (Nat.le_of_ble_eq_true rfl) [(nar .byte (v0.toInt8.toInt32)), (0 : Int32), (0 : Int32), (0 : Int32)] rfl N13 ge17 (hb hby at_152) fun T20 h20 L20 X20 N20 e20 W20 A20 => ?_
  have F21 : Arv Z h20 a4 k4 .byte (4 : Int32) ([(nar .byte (u0.toInt8.toInt32)), (nar .byte (u1.toInt8.toInt32)), (nar .byte (u2.toInt8.toInt32)), (nar .byte (u3.toInt8.toInt32))].map Value.int) (.int 0) := F18.other W20 ne16
  have sz22 : n0 ≤ h20.size := Nat.le_trans sz19 (Keep.of_wr W20).1
  refine o_dup 154 X20 hx rfl (hb hby at_153) rfl ?_
  refine o_iconst 155 X20 hx rfl (hb hby at_154) (1 : Int32) rfl ?_
  refine o_iload 157 X20 hx rfl (hb hby at_155) rfl ?_
  refine o_i2b 158 X20 hx rfl (hb hby at_157) ?_
  refine o_bastoreBX 159 X20 hx rfl hZ e20 A20 (by decide) (Nat.le_of_ble_eq_true rfl) [(nar .byte (v0.toInt8.toInt32)), (nar .byte (v1.toInt8.toInt32)), (0 : Int32), (0 : Int32)] rfl N20 ge17 (hb hby at_158) fun T23 h23 L23 X23 N23 e23 W23 A23 => ?_
  have F24 : Arv Z h23 a4 k4 .byte (4 : Int32) ([(nar .byte (u0.toInt8.toInt32)), (nar .byte (u1.toInt8.toInt32)), (nar .byte (u2.toInt8.toInt32)), (nar .byte (u3.toInt8.toInt32))].map Value.int) (.int 0) := F21.other W23 ne16
  have sz25 : n0 ≤ h23.size := Nat.le_trans sz22 (Keep.of_wr W23).1
  refine o_dup 160 X23 hx rfl (hb hby at_159) rfl ?_
  refine o_iconst 161 X23 hx rfl (hb hby at_160) (2 : Int32) rfl ?_
  refine o_iload 163 X23 hx rfl (hb hby at_161) rfl ?_
  refine o_i2b 164 X23 hx rfl (hb hby at_163) ?_
  refine o_bastoreBX 165 X23 hx rfl hZ e23 A23 (by decide) (Nat.le_of_ble_eq_true rfl) [(nar .byte (v0.toInt8.toInt32)), (nar .byte (v1.toInt8.toInt32)), (nar .byte (v2.toInt8.toInt32)), (0 : Int32)] rfl N23 ge17 (hb hby at_164) fun T26 h26 L26 X26 N26 e26 W26 A26 => ?_
  have F27 : Arv Z h26 a4 k4 .byte (4 : Int32) ([(nar .byte (u0.toInt8.toInt32)), (nar .byte (u1.toInt8.toInt32)), (nar .byte (u2.toInt8.toInt32)), (nar .byte (u3.toInt8.toInt32))].map Value.int) (.int 0) := F24.other W26 ne16
  have sz28 : n0 ≤ h26.size := Nat.le_trans sz25 (Keep.of_wr W26).1
  refine o_dup 166 X26 hx rfl (hb hby at_165) rfl ?_
  refine o_iconst 167 X26 hx rfl (hb hby at_166) (3 : Int32) rfl ?_
  refine o_iload 169 X26 hx rfl (hb hby at_167) rfl ?_
  refine o_i2b 170 X26 hx rfl (hb hby at_169) ?_
  refine o_bastoreBX 171 X26 hx rfl hZ e26 A26 (by decide) (Nat.le_of_ble_eq_true rfl) [(nar .byte (v0.toInt8.toInt32)), (nar .byte (v1.toInt8.toInt32)), (nar .byte (v2.toInt8.toInt32)), (nar .byte (v3.toInt8.toInt32))] rfl N26 ge17 (hb hby at_170) fun T29 h29 L29 X29 N29 e29 W29 A29 => ?_
  have F30 : Arv Z h29 a4 k4 .byte (4 : Int32) ([(nar .byte (u0.toInt8.toInt32)), (nar .byte (u1.toInt8.toInt32)), (nar .byte (u2.toInt8.toInt32)), (nar .byte (u3.toInt8.toInt32))].map Value.int) (.int 0) := F27.other W29 ne16
  have sz31 : n0 ≤ h29.size := Nat.le_trans sz28 (Keep.of_wr W29).1
  refine o_astore 173 X29 hx rfl (hb hby at_171) rfl #[.val (.int i0), .val (.int i1), .val (.int i2), .val (.int u0), .val (.int u1), .val (.int u2), .val (.int u3), .val (.int v0), .val (.int v1), .val (.int v2), .val (.int v3), .val (.int (Int32.ofNat A)), .val (.int (Int32.ofNat B)), .val (.ref a4), .val (.ref a15), .unset] rfl ?_
  refine o_aload 175 X29 hx rfl (hb hby at_173) rfl rfl ?_
  refine o_iload 177 X29 hx rfl (hb hby at_175) rfl ?_
  refine o_aload 179 X29 hx rfl (hb hby at_177) rfl rfl ?_
  refine o_iload 181 X29 hx rfl (hb hby at_179) rfl ?_
  refine o_callP (rv := (.int (own_cp [(nar .byte (u0.toInt8.toInt32)), (nar .byte (u1.toInt8.toInt32)), (nar .byte (u2.toInt8.toInt32)), (nar .byte (u3.toInt8.toInt32))] [(nar .byte (v0.toInt8.toInt32)), (nar .byte (v1.toInt8.toInt32)), (nar .byte (v2.toInt8.toInt32)), (nar .byte (v3.toInt8.toInt32))] (Int32.ofNat A) (Int32.ofNat B) (min A B) 0 0))) 184 X29 hx rfl hZ hown (wd_5 hw) (wd_6 hw) (wd_7 hw) (wd_8 hw) (by decide) e29 (rm2 l Z a0 hw a4 a15 A B k4 k15 [(nar .byte (u0.toInt8.toInt32)), (nar .byte (u1.toInt8.toInt32)), (nar .byte (u2.toInt8.toInt32)), (nar .byte (u3.toInt8.toInt32))] [(nar .byte (v0.toInt8.toInt32)), (nar .byte (v1.toInt8.toInt32)), (nar .byte (v2.toInt8.toInt32)), (nar .byte (v3.toInt8.toInt32))] h29 hA hB F30 A29) pd_laBIaBIrI [(.ref a4), (.int (Int32.ofNat A)), (.ref a15), (.int (Int32.ofNat B))] [] rfl rfl (by rw [hml]; rfl) rfl (hb hby at_181) 0 (Nat.le_of_eq rfl) (by decide) (by decide) (by decide) (by decide) rfl rfl fun T32 X32 e32 => ?_
  refine o_istore 186 X32 hx rfl (hb hby at_184) #[.val (.int i0), .val (.int i1), .val (.int i2), .val (.int u0), .val (.int u1), .val (.int u2), .val (.int u3), .val (.int v0), .val (.int v1), .val (.int v2), .val (.int v3), .val (.int (Int32.ofNat A)), .val (.int (Int32.ofNat B)), .val (.ref a4), .val (.ref a15), .val (.int (own_cp [(nar .byte (u0.toInt8.toInt32)), (nar .byte (u1.toInt8.toInt32)), (nar .byte (u2.toInt8.toInt32)), (nar .byte (u3.toInt8.toInt32))] [(nar .byte (v0.toInt8.toInt32)), (nar .byte (v1.toInt8.toInt32)), (nar .byte (v2.toInt8.toInt32)), (nar .byte (v3.toInt8.toInt32))] (Int32.ofNat A) (Int32.ofNat B) (min A B) 0 0))] rfl ?_
  refine o_iload 188 X32 hx rfl (hb hby at_186) rfl ?_
  refine o_callP (rv := (.int (fn4 (own_cp [(nar .byte (u0.toInt8.toInt32)), (nar .byte (u1.toInt8.toInt32)), (nar .byte (u2.toInt8.toInt32)), (nar .byte (u3.toInt8.toInt32))] [(nar .byte (v0.toInt8.toInt32)), (nar .byte (v1.toInt8.toInt32)), (nar .byte (v2.toInt8.toInt32)), (nar .byte (v3.toInt8.toInt32))] (Int32.ofNat A) (Int32.ofNat B) (min A B) 0 0)))) 191 X32 hx rfl hZ hown (wd_13 hw) (wd_14 hw) (wd_2 hw) (wd_15 hw) (by decide) e32 (rm4 l Z a0 hw (own_cp [(nar .byte (u0.toInt8.toInt32)), (nar .byte (u1.toInt8.toInt32)), (nar .byte (u2.toInt8.toInt32)), (nar .byte (u3.toInt8.toInt32))] [(nar .byte (v0.toInt8.toInt32)), (nar .byte (v1.toInt8.toInt32)), (nar .byte (v2.toInt8.toInt32)), (nar .byte (v3.toInt8.toInt32))] (Int32.ofNat A) (Int32.ofNat B) (min A B) 0 0) h29) pd_lIrI [(.int (own_cp [(nar .byte (u0.toInt8.toInt32)), (nar .byte (u1.toInt8.toInt32)), (nar .byte (u2.toInt8.toInt32)), (nar .byte (u3.toInt8.toInt32))] [(nar .byte (v0.toInt8.toInt32)), (nar .byte (v1.toInt8.toInt32)), (nar .byte (v2.toInt8.toInt32)), (nar .byte (v3.toInt8.toInt32))] (Int32.ofNat A) (Int32.ofNat B) (min A B) 0 0))] [] rfl rfl (by rw [hml]; rfl) rfl (hb hby at_188) 0 (Nat.le_of_eq rfl) (by decide) (by decide) (by decide) (by decide) rfl rfl fun T33 X33 e33 => ?_
  refine o_iloadN 192 X33 hx rfl (hb hby at_191) rfl ?_
  refine o_iload 194 X33 hx rfl (hb hby at_192) rfl ?_
  refine o_iload 196 X33 hx rfl (hb hby at_194) rfl ?_
  refine o_iload 198 X33 hx rfl (hb hby at_196) rfl ?_
  refine o_iload 200 X33 hx rfl (hb hby at_198) rfl ?_
  refine o_iload 202 X33 hx rfl (hb hby at_200) rfl ?_
  refine o_iload 204 X33 hx rfl (hb hby at_202) rfl ?_
  refine o_iload 206 X33 hx rfl (hb hby at_204) rfl ?_
  refine o_callP (rv := (.int (fn5 u0 u1 u2 (Int32.ofNat A) v0 v1 v2 (Int32.ofNat B)))) 209 X33 hx rfl hZ hown (wd_16 hw) (wd_17 hw) (wd_2 hw) (wd_18 hw) (by decide) e33 (rm5 l Z a0 hw u0 u1 u2 (Int32.ofNat A) v0 v1 v2 (Int32.ofNat B) h29) pd_lIIIIIIIIrI [(.int u0), (.int u1), (.int u2), (.int (Int32.ofNat A)), (.int v0), (.int v1), (.int v2), (.int (Int32.ofNat B))] [(.int (fn4 (own_cp [(nar .byte (u0.toInt8.toInt32)), (nar .byte (u1.toInt8.toInt32)), (nar .byte (u2.toInt8.toInt32)), (nar .byte (u3.toInt8.toInt32))] [(nar .byte (v0.toInt8.toInt32)), (nar .byte (v1.toInt8.toInt32)), (nar .byte (v2.toInt8.toInt32)), (nar .byte (v3.toInt8.toInt32))] (Int32.ofNat A) (Int32.ofNat B) (min A B) 0 0)))] rfl rfl (by rw [hml]; rfl) rfl (hb hby at_206) 1 (Nat.le_of_eq rfl) (by decide) (by decide) (by decide) (by decide) rfl rfl fun T34 X34 e34 => ?_
  refine o_icmpNo 212 X34 hx rfl (hb hby at_209) (teq (own_fin u0 u1 u2 u3 v0 v1 v2 v3 A B hA hB i0 i1 i2 hu0 hu1 hu2 hv0 hv1 hv2)).2 ?_
  refine o_iconst 213 X34 hx rfl (hb hby at_212) (1 : Int32) rfl ?_
  refine o_goto 217 X34 hx (hb hby at_213) (by decide) (by decide) ?_
  refine o_retN X34 hx .boolean (by simp) hret hlk (hb hby at_217) (by decide) (by decide) ?_
  exact ⟨rfl, N29⟩
set_option maxRecDepth 65536 in
set_option maxHeartbeats 40000000 in
theorem comes_1 {Post : Tables → Env → Array Value → State → Outcome → State → Prop} (hpost : ∀ tb e args s v u, (limb_1_1.after args s (.returned v) u = true ∧ limb_1_2.after args s (.returned v) u = true ∧ True) → FrameEnd s (.returned v) u (Jvm.fieldLocs frame_1_writes args s ++ Jvm.arrayLocs frame_1_arrays args s ++ Jvm.staticLocs frame_1_statics s) 16 128 → Post tb e args s (.returned v) u) :
    ArmFor flags0 classFile x code maxLocals ret World_1 tables_1 room_1 Calls_1 rest_1 Pre_1 Post := by
  intro l hfl _ _ p e ha hc hk s m args below hf hA hF happ hP
  obtain ⟨hcalls, hrest, hpre⟩ := hP
  obtain ⟨-, -, -, hnamed, -, -, -, hat⟩ := (Spec.applies_iff hf).mp happ
  obtain ⟨hg, hn⟩ := and_e (Cond.before_iff.mp (show (Jvm.Cond.and given_1 narrow_1).before args s = true from hpre))
  obtain ⟨gc, g0⟩ := and_e hg
  obtain ⟨ga0, g1⟩ := and_e g0
  obtain ⟨ga1, g2⟩ := and_e g1
  obtain ⟨w0, w1, w2, rfl⟩ : ∃ w0 w1 w2 : Value, args = #[w0, w1, w2] := by
    have hs : args.size = 3 := by simpa [Cond.value, given_1] using gc
    obtain ⟨L⟩ := args
    match L, hs with
    | [w0, w1, w2], _ => exact ⟨w0, w1, w2, rfl⟩
  have hw := fun d (hd : d ∈ tables_1) => atoms_spec (ws := Jvm.Cond.code x code maxLocals ret :: tables_1) hat d (List.mem_cons_of_mem _ hd)
  obtain ⟨i0, ei0⟩ := is_v ga0
  obtain rfl : w0 = (.int i0) := Option.some.inj ei0
  obtain ⟨i1, ei1⟩ := is_v ga1
  obtain rfl : w1 = (.int i1) := Option.some.inj ei1
  obtain ⟨i2, ei2⟩ := is_v g2
  obtain rfl : w2 = (.int i2) := Option.some.inj ei2
  obtain ⟨n, o, h1, h2, h3, _, L, rfl, ⟨rfl, N⟩, hq⟩ := rm0 l s _ hw tables_1 i0 i1 i2 s.heap s.heap.size (Nat.le_refl _) p e ha hc hk s m _ below hf ((Spec.applies_iff_loose hf).mp happ).1 ⟨rfl, State.Warmed39.refl s, rfl⟩ trivial
  refine ⟨n, _, h1, h2, h3, hpost _ _ _ _ _ _ ⟨Cond.after_iff.mpr rfl, Cond.after_iff.mpr (eq_i res_at (Term.int_eval (1)) rfl), trivial⟩ ⟨hq.1, hq.2.1, (hq.2.2.sift fun y hy => Or.inr (N y hy)).mono (by decide) (by decide)⟩⟩
theorem main_1_1 : Claimed_1_1 := comes_1 fun _ _ _ _ _ _ h hF => ⟨h.1, hF⟩
theorem main_1_2 : Claimed_1_2 := comes_1 fun _ _ _ _ _ _ h hF => ⟨h.2.1, hF⟩
end Jvm.Pilot.@@N@@
namespace Jvm.Pilot.@@N@@
open Jvm Jvm.ClassFile Sem Op Lib Jvm.Free Jvm.Stand Jvm.Pilot.@@N@@.Jvm.D
/-! MADE BY PROGRAM (witnessworld.py) out of the Statement's table words and the real class files: 10 classes; the members and pool entries that the words name. The judged class is class 1, her method 1. -/
namespace start1
open Jvm.ClassFile
def u (s : String) : CpInfo := .utf8 (stringToUtf16 s)
/-- a pool by its gaps: so many unusable entries, then the entry; so many at the end -/
def gap : Nat → List CpInfo → List CpInfo
  | 0, r => r
  | n + 1, r => .unusable :: gap n r
def poolList (es : List (Nat × CpInfo)) (last : Nat) : List CpInfo := es.foldr (fun e r => gap e.1 (e.2 :: r)) (gap last [])
def pool (es : List (Nat × CpInfo)) (last : Nat) : Array CpInfo := ⟨poolList es last⟩
def fileOf (pool : Array CpInfo) (this : Nat) (attrs : Array Attribute := #[]) (ms : Array MethodInfo := #[]) (fl : Nat := 33) (sup : Nat := 0) (ifs : Array Nat := #[]) (fds : Array FieldInfo := #[]) : ClassFile where
  minorVersion := 0
  majorVersion := 65
  constantPool := pool
  accessFlags := fl
  thisClass := this
  superClass := sup
  interfaces := ifs
  fields := fds
  methods := ms
  attributes := attrs
def plain (name : String) (sup : Option ClassId) : Class where
  name := name
  kind := .ordinary
  loader := none
  accessFlags := 33
  super := sup
  interfaces := #[]
  cf := none
  fields := #[]
  methods := #[]
  instanceTypes := #[]
  staticTypes := #[]
  resolved := #[]
  callSites := []
  init := .initialized
  statics := none
  mirror := none

def pool0 : Array CpInfo := pool [(5, u "<init>"), (0, u "()V"), (1, .class_ 10), (1, u "java/lang/Object")] 113

def k0m0 : Method := { name := "<init>", desc := "()V", sig := { parameters := [], returnType := none }, accessFlags := 1, code := none }
/-- java/lang/Object -/
def k0 : Class := { plain "java/lang/Object" none with
  accessFlags := 33
  interfaces := #[]
  cf := some (fileOf pool0 8 #[] #[{ accessFlags := 1, nameIndex := 5, descriptorIndex := 6, attributes := #[] }] 33 0 #[] #[])
  fields := #[]
  methods := #[k0m0]
  instanceTypes := #[]
  staticTypes := #[]
  resolved := Array.replicate 124 none
  statics := none }

def pool1 : Array CpInfo := pool [(2, .class_ 4), (1, u "java/lang/Object"), (0, u "<init>"), (0, u "()V"), (0, .methodref 8 9), (0, .class_ 10), (0, .nameAndType 11 12), (0, u "com/example/headword/headword/stardict/SortedIndexComparePinLaw"), (0, u "pick"), (0, u "(III)I"), (0, .methodref 14 15), (0, .class_ 16), (0, .nameAndType 17 18), (0, u "com/example/headword/headword/stardict/SortedIndex"), (0, u "compare"), (0, u "([BI[BI)I"), (0, .methodref 8 20), (0, .nameAndType 21 22), (0, u "sign"), (0, u "(I)I"), (0, .methodref 8 24), (0, .nameAndType 25 26), (0, u "reference"), (0, u "(IIIIIIII)I"), (0, .methodref 28 29), (0, .class_ 30), (0, .nameAndType 31 32), (0, u "java/lang/Math"), (0, u "min"), (0, u "(II)I"), (0, .methodref 8 34), (0, .nameAndType 35 22), (0, u "fold"), (2, u "law"), (0, u "(III)Z")] 5

def k1m0 : Method := { name := "<init>", desc := "()V", sig := { parameters := [], returnType := none }, accessFlags := 1, code := none }
def k1c1 : Code := { maxStack := 9, maxLocals := 16, code := code, exceptionTable := #[], attributes := #[] }
def k1m1 : Method := { name := "law", desc := "(III)Z", sig := { parameters := [.int, .int, .int], returnType := some .boolean }, accessFlags := 9, code := some k1c1 }
def k1c2 : Code := { maxStack := 2, maxLocals := 3, code := method_3_code, exceptionTable := #[], attributes := #[] }
def k1m2 : Method := { name := "pick", desc := "(III)I", sig := { parameters := [.int, .int, .int], returnType := some .int }, accessFlags := 10, code := some k1c2 }
def k1c3 : Code := { maxStack := 2, maxLocals := 1, code := method_4_code, exceptionTable := #[], attributes := #[] }
def k1m3 : Method := { name := "fold", desc := "(I)I", sig := { parameters := [.int], returnType := some .int }, accessFlags := 10, code := some k1c3 }
def k1c4 : Code := { maxStack := 1, maxLocals := 1, code := method_5_code, exceptionTable := #[], attributes := #[] }
def k1m4 : Method := { name := "sign", desc := "(I)I", sig := { parameters := [.int], returnType := some .int }, accessFlags := 10, code := some k1c4 }
def k1c5 : Code := { maxStack := 2, maxLocals := 9, code := method_6_code, exceptionTable := #[], attributes := #[] }
def k1m5 : Method := { name := "reference", desc := "(IIIIIIII)I", sig := { parameters := [.int, .int, .int, .int, .int, .int, .int, .int], returnType := some .int }, accessFlags := 10, code := some k1c5 }
/-- com/example/headword/headword/stardict/SortedIndexComparePinLaw -/
def k1 : Class := { plain "com/example/headword/headword/stardict/SortedIndexComparePinLaw" (some 0) with
  accessFlags := 49
  interfaces := #[]
  cf := some (fileOf pool1 8 #[] #[{ accessFlags := 1, nameIndex := 5, descriptorIndex := 6, attributes := #[] }, { accessFlags := 9, nameIndex := 38, descriptorIndex := 39, attributes := #[] }, { accessFlags := 10, nameIndex := 11, descriptorIndex := 12, attributes := #[] }, { accessFlags := 10, nameIndex := 35, descriptorIndex := 22, attributes := #[] }, { accessFlags := 10, nameIndex := 21, descriptorIndex := 22, attributes := #[] }, { accessFlags := 10, nameIndex := 25, descriptorIndex := 26, attributes := #[] }] 49 2 #[] #[])
  fields := #[]
  methods := #[k1m0, k1m1, k1m2, k1m3, k1m4, k1m5]
  instanceTypes := #[]
  staticTypes := #[]
  resolved := Array.replicate 45 none
  statics := none }

def pool2 : Array CpInfo := pool [(2, .class_ 4), (1, u "java/lang/Object"), (3, .class_ 10), (1, u "com/example/headword/headword/stardict/SortedIndex"), (0, u "indices"), (0, u "[J"), (2, u "positions"), (2, u "headwords"), (0, u "[[B"), (5, .class_ 27), (1, u "java/lang/Math"), (4, u "min"), (14, u "compare"), (0, u "([BI[BI)I"), (37, .methodref 25 87), (0, .nameAndType 32 88), (0, u "(II)I"), (0, u "GAP"), (0, u "I"), (2, u "MOST_KEPT")] 16

def k2c0 : Code := { maxStack := 2, maxLocals := 11, code := prog_65_method_4_code, exceptionTable := #[], attributes := #[] }
def k2m0 : Method := { name := "compare", desc := "([BI[BI)I", sig := { parameters := [(.array .byte), .int, (.array .byte), .int], returnType := some .int }, accessFlags := 8, code := some k2c0 }
/-- com/example/headword/headword/stardict/SortedIndex -/
def k2 : Class := { plain "com/example/headword/headword/stardict/SortedIndex" (some 0) with
  accessFlags := 48
  interfaces := #[]
  cf := some (fileOf pool2 8 #[] #[{ accessFlags := 8, nameIndex := 47, descriptorIndex := 48, attributes := #[] }] 48 2 #[] #[{ accessFlags := 24, nameIndex := 89, descriptorIndex := 90, attributes := #[] }, { accessFlags := 24, nameIndex := 93, descriptorIndex := 90, attributes := #[] }, { accessFlags := 18, nameIndex := 11, descriptorIndex := 12, attributes := #[] }, { accessFlags := 18, nameIndex := 15, descriptorIndex := 12, attributes := #[] }, { accessFlags := 18, nameIndex := 18, descriptorIndex := 19, attributes := #[] }])
  fields := #[{ name := "GAP", type := .int, accessFlags := 24, slot := 0, constantValue := 0 }, { name := "MOST_KEPT", type := .int, accessFlags := 24, slot := 1, constantValue := 0 }, { name := "indices", type := (.array .long), accessFlags := 18, slot := 0, constantValue := 0 }, { name := "positions", type := (.array .long), accessFlags := 18, slot := 1, constantValue := 0 }, { name := "headwords", type := (.array (.array .byte)), accessFlags := 18, slot := 2, constantValue := 0 }]
  methods := #[k2m0]
  instanceTypes := #[(.array .long), (.array .long), (.array (.array .byte))]
  staticTypes := #[.int, .int]
  resolved := Array.replicate 110 none
  statics := none }

def pool3 : Array CpInfo := pool [(1, .class_ 2), (0, u "java/lang/Math"), (1, .class_ 6), (1, u "java/lang/Object"), (0, u "<init>"), (0, u "()V"), (89, .class_ 100), (1, u "java/lang/Math$RandomNumberGeneratorHolder"), (71, u "negativeZeroFloatBits"), (0, u "J"), (2, u "negativeZeroDoubleBits"), (24, u "min"), (43, u "$assertionsDisabled"), (0, u "Z"), (88, u "(II)I"), (2, u "twoToTheDoubleScaleDown"), (0, u "D"), (4, u "twoToTheDoubleScaleUp"), (9, u "E"), (3, u "PI"), (2, u "TAU"), (2, u "DEGREES_TO_RADIANS"), (0, u "RADIANS_TO_DEGREES")] 94

def k3m0 : Method := { name := "<init>", desc := "()V", sig := { parameters := [], returnType := none }, accessFlags := 2, code := none }
def k3c1 : Code := { maxStack := 2, maxLocals := 2, code := jdk_29_method_69_code, exceptionTable := #[], attributes := #[] }
def k3m1 : Method := { name := "min", desc := "(II)I", sig := { parameters := [.int, .int], returnType := some .int }, accessFlags := 9, code := some k3c1 }
/-- java/lang/Math -/
def k3 : Class := { plain "java/lang/Math" (some 0) with
  accessFlags := 49
  interfaces := #[]
  cf := some (fileOf pool3 1 #[.nestMembers #[98]] #[{ accessFlags := 2, nameIndex := 7, descriptorIndex := 8, attributes := #[] }, { accessFlags := 9, nameIndex := 201, descriptorIndex := 335, attributes := #[] }] 49 4 #[] #[{ accessFlags := 25, nameIndex := 354, descriptorIndex := 339, attributes := #[] }, { accessFlags := 25, nameIndex := 358, descriptorIndex := 339, attributes := #[] }, { accessFlags := 25, nameIndex := 361, descriptorIndex := 339, attributes := #[] }, { accessFlags := 26, nameIndex := 364, descriptorIndex := 339, attributes := #[] }, { accessFlags := 26, nameIndex := 365, descriptorIndex := 339, attributes := #[] }, { accessFlags := 26, nameIndex := 172, descriptorIndex := 173, attributes := #[] }, { accessFlags := 26, nameIndex := 176, descriptorIndex := 173, attributes := #[] }, { accessFlags := 8, nameIndex := 344, descriptorIndex := 339, attributes := #[] }, { accessFlags := 8, nameIndex := 338, descriptorIndex := 339, attributes := #[] }, { accessFlags := 4120, nameIndex := 245, descriptorIndex := 246, attributes := #[] }])
  fields := #[{ name := "E", type := .double, accessFlags := 25, slot := 0, constantValue := 0 }, { name := "PI", type := .double, accessFlags := 25, slot := 1, constantValue := 0 }, { name := "TAU", type := .double, accessFlags := 25, slot := 2, constantValue := 0 }, { name := "DEGREES_TO_RADIANS", type := .double, accessFlags := 26, slot := 3, constantValue := 0 }, { name := "RADIANS_TO_DEGREES", type := .double, accessFlags := 26, slot := 4, constantValue := 0 }, { name := "negativeZeroFloatBits", type := .long, accessFlags := 26, slot := 5, constantValue := 0 }, { name := "negativeZeroDoubleBits", type := .long, accessFlags := 26, slot := 6, constantValue := 0 }, { name := "twoToTheDoubleScaleUp", type := .double, accessFlags := 8, slot := 7, constantValue := 0 }, { name := "twoToTheDoubleScaleDown", type := .double, accessFlags := 8, slot := 8, constantValue := 0 }, { name := "$assertionsDisabled", type := .boolean, accessFlags := 4120, slot := 9, constantValue := 0 }]
  methods := #[k3m0, k3m1]
  instanceTypes := #[]
  staticTypes := #[.double, .double, .double, .double, .double, .long, .long, .double, .double, .boolean]
  resolved := Array.replicate 460 none
  statics := none }

def pool4 : Array CpInfo := pool [(1, u "java/lang/Cloneable"), (0, .class_ 1), (0, u "java/lang/Object"), (0, .class_ 3)] 3

/-- java/lang/Cloneable -/
def k4 : Class := { plain "java/lang/Cloneable" (some 0) with
  accessFlags := 1537
  interfaces := #[]
  cf := some (fileOf pool4 2 #[] #[] 1537 4 #[] #[])
  fields := #[]
  methods := #[]
  instanceTypes := #[]
  staticTypes := #[]
  resolved := Array.replicate 8 none
  statics := none }

def pool5 : Array CpInfo := pool [(1, u "java/io/Serializable"), (0, .class_ 1), (0, u "java/lang/Object"), (0, .class_ 3)] 3

/-- java/io/Serializable -/
def k5 : Class := { plain "java/io/Serializable" (some 0) with
  accessFlags := 1537
  interfaces := #[]
  cf := some (fileOf pool5 2 #[] #[] 1537 4 #[] #[])
  fields := #[]
  methods := #[]
  instanceTypes := #[]
  staticTypes := #[]
  resolved := Array.replicate 8 none
  statics := none }

/-- the primitive byte -/
def k6 : Class := { plain "byte" none with kind := .primitive 'B', accessFlags := 0x411 }
/-- [B -/
def k7 : Class := { plain "[B" (some 0) with kind := .array 6 .byte, interfaces := #[4, 5], accessFlags := 1041 }

/-- the primitive int -/
def k8 : Class := { plain "int" none with kind := .primitive 'I', accessFlags := 0x411 }
/-- [I -/
def k9 : Class := { plain "[I" (some 0) with kind := .array 8 .int, interfaces := #[4, 5], accessFlags := 1041 }

def heap : Heap := #[]
def classes : Array Class := #[k0, k1, k2, k3, k4, k5, k6, k7, k8, k9]
def interned : List (Array UInt16 × Addr) := []
def slotsUsed : Nat := 0
def theMethod : MethodId := ⟨1, 1⟩
def args0 : Array Value := #[.int 5, .int 5, .int 5]
def aboutOver (below : List Frame) : State where
  vm := { classes := classes, interned := interned.toArray }
  heap := heap
  slotsUsed := slotsUsed
  threads := #[{ frames := .invoking theMethod args0 :: below }]
def below0 : List Frame := [.native { method := ⟨0, 0⟩, args := #[] }]
def about1 : State := aboutOver below0
def p0 : Program := .bare "" "" ""
def e0 : Env := launch0.env 0 0 0
theorem w_frames : about1.frames = Frame.invoking theMethod args0 :: below0 := rfl
set_option maxRecDepth 65536 in
theorem w_args : argsFit about1.vm theMethod args0 = true := by decide +kernel
set_option maxRecDepth 65536 in
theorem w_heap : heapFits about1 = true := by decide +kernel
set_option maxRecDepth 65536 in
theorem w_runnable : about1.curStatus? = some .runnable := by decide +kernel
set_option maxRecDepth 65536 in
theorem w_alone : about1.alone = true := by decide +kernel
set_option maxRecDepth 65536 in
theorem w_named : about1.methodNamed? x = some theMethod := by decide +kernel
set_option maxRecDepth 65536 in
theorem w_hears : about1.hears theMethod below0 = true := by decide +kernel
set_option maxRecDepth 65536 in
theorem w_ripe : about1.ripe theMethod args0 below0 = true := by decide +kernel
theorem w_running : about1.status = .running := rfl
set_option maxRecDepth 65536 in
theorem w_room : about1.hasRoom e0.platform room_1 = true :=
  launch0.hasRoom_least _ room_1 (by decide +kernel) (by decide +kernel) (by decide +kernel) (by decide +kernel) (by decide +kernel) (by decide +kernel)
theorem allAtoms_all (ts : List Jvm.Cond) (a : Array Jvm.Value) (st : Jvm.State) : (allAtoms ts).before a st = ts.all (fun c => c.before a st) := by
  induction ts with
  | nil => rfl
  | cons c t ih =>
    show (Jvm.Cond.and c (allAtoms t)).before a st = _
    rw [Jvm.Cond.before_and, ih, List.all_cons]
def words1 : List Jvm.Cond := Jvm.Cond.code x code maxLocals ret :: tables_1
/-- a 'code' word, met by the world's own term for the bytes: nothing is compared byte by byte -/
theorem code_word {y : MethodName} {bytes : ByteArray} {mx : Nat} {rt : Option FieldType} {a : Array Value} {s : State} {m : MethodId} {meth : Method} {c : Code} (h1 : s.methodNamed? y = some m) (h2 : s.vm.method? m = some meth) (h3 : meth.code = some c) (h4 : c.code = bytes)
    (h5 : (c.maxLocals == mx && c.exceptionTable.isEmpty && decide (c.maxStack ≤ mostOperands) && decide (meth.sig.returnType = rt) && !meth.locks && decide (parseMethodDescriptor y.desc = some meth.sig)) = true) : (Jvm.Cond.code y bytes mx rt).before a s = true := by
  simp only [Bool.and_eq_true, beq_iff_eq, Bool.not_eq_true', decide_eq_true_eq] at h5
  obtain ⟨⟨⟨⟨⟨g1, g2⟩, g3⟩, g4⟩, g5⟩, g6⟩ := h5
  simp [Cond.before, Cond.holds, Cond.value, h1, h2, h3, h4, g1, g2, g3, g4, g5, g6]
def isCode : Jvm.Cond → Bool
  | .code _ _ _ _ => true
  | _ => false
theorem all_split {L : List Jvm.Cond} {P : Jvm.Cond → Bool} (h1 : L.all (fun c => isCode c || P c) = true) (h2 : ∀ c ∈ L.filter isCode, P c = true) : L.all P = true := by
  refine List.all_eq_true.mpr fun c hc => ?_
  have h := List.all_eq_true.mp h1 c hc
  rcases Bool.eq_false_or_eq_true (isCode c) with hi | hi
  · exact h2 c (List.mem_filter.mpr ⟨hc, hi⟩)
  · simpa [hi] using h
set_option maxRecDepth 65536 in
theorem w_c0 : (Jvm.Cond.code x code maxLocals ret).before args0 about1 = true := code_word (m := ⟨1, 1⟩) (meth := k1m1) (c := k1c1) (by decide +kernel) rfl rfl rfl (by decide +kernel)
set_option maxRecDepth 65536 in
theorem w_c1 : (Jvm.Cond.code ({ cls := "com/example/headword/headword/stardict/SortedIndexComparePinLaw", name := "pick", desc := "(III)I" } : Jvm.MethodName) method_3_code (3 : Nat) (Option.some Jvm.ClassFile.FieldType.int)).before args0 about1 = true := code_word (m := ⟨1, 2⟩) (meth := k1m2) (c := k1c2) (by decide +kernel) rfl rfl rfl (by decide +kernel)
set_option maxRecDepth 65536 in
theorem w_c2 : (Jvm.Cond.code ({ cls := "com/example/headword/headword/stardict/SortedIndex", name := "compare", desc := "([BI[BI)I" } : Jvm.MethodName) prog_65_method_4_code (11 : Nat) (Option.some Jvm.ClassFile.FieldType.int)).before args0 about1 = true := code_word (m := ⟨2, 0⟩) (meth := k2m0) (c := k2c0) (by decide +kernel) rfl rfl rfl (by decide +kernel)
set_option maxRecDepth 65536 in
theorem w_c3 : (Jvm.Cond.code ({ cls := "java/lang/Math", name := "min", desc := "(II)I" } : Jvm.MethodName) jdk_29_method_69_code (2 : Nat) (Option.some Jvm.ClassFile.FieldType.int)).before args0 about1 = true := code_word (m := ⟨3, 1⟩) (meth := k3m1) (c := k3c1) (by decide +kernel) rfl rfl rfl (by decide +kernel)
set_option maxRecDepth 65536 in
theorem w_c4 : (Jvm.Cond.code ({ cls := "com/example/headword/headword/stardict/SortedIndexComparePinLaw", name := "sign", desc := "(I)I" } : Jvm.MethodName) method_5_code (1 : Nat) (Option.some Jvm.ClassFile.FieldType.int)).before args0 about1 = true := code_word (m := ⟨1, 4⟩) (meth := k1m4) (c := k1c4) (by decide +kernel) rfl rfl rfl (by decide +kernel)
set_option maxRecDepth 65536 in
theorem w_c5 : (Jvm.Cond.code ({ cls := "com/example/headword/headword/stardict/SortedIndexComparePinLaw", name := "reference", desc := "(IIIIIIII)I" } : Jvm.MethodName) method_6_code (9 : Nat) (Option.some Jvm.ClassFile.FieldType.int)).before args0 about1 = true := code_word (m := ⟨1, 5⟩) (meth := k1m5) (c := k1c5) (by decide +kernel) rfl rfl rfl (by decide +kernel)
set_option maxRecDepth 65536 in
theorem w_c6 : (Jvm.Cond.code ({ cls := "com/example/headword/headword/stardict/SortedIndexComparePinLaw", name := "fold", desc := "(I)I" } : Jvm.MethodName) method_4_code (1 : Nat) (Option.some Jvm.ClassFile.FieldType.int)).before args0 about1 = true := code_word (m := ⟨1, 3⟩) (meth := k1m3) (c := k1c3) (by decide +kernel) rfl rfl rfl (by decide +kernel)
def codes1 : List Jvm.Cond := [Jvm.Cond.code x code maxLocals ret, Jvm.Cond.code ({ cls := "com/example/headword/headword/stardict/SortedIndexComparePinLaw", name := "pick", desc := "(III)I" } : Jvm.MethodName) method_3_code (3 : Nat) (Option.some Jvm.ClassFile.FieldType.int), Jvm.Cond.code ({ cls := "com/example/headword/headword/stardict/SortedIndex", name := "compare", desc := "([BI[BI)I" } : Jvm.MethodName) prog_65_method_4_code (11 : Nat) (Option.some Jvm.ClassFile.FieldType.int), Jvm.Cond.code ({ cls := "java/lang/Math", name := "min", desc := "(II)I" } : Jvm.MethodName) jdk_29_method_69_code (2 : Nat) (Option.some Jvm.ClassFile.FieldType.int), Jvm.Cond.code ({ cls := "com/example/headword/headword/stardict/SortedIndexComparePinLaw", name := "sign", desc := "(I)I" } : Jvm.MethodName) method_5_code (1 : Nat) (Option.some Jvm.ClassFile.FieldType.int), Jvm.Cond.code ({ cls := "com/example/headword/headword/stardict/SortedIndexComparePinLaw", name := "reference", desc := "(IIIIIIII)I" } : Jvm.MethodName) method_6_code (9 : Nat) (Option.some Jvm.ClassFile.FieldType.int), Jvm.Cond.code ({ cls := "com/example/headword/headword/stardict/SortedIndexComparePinLaw", name := "fold", desc := "(I)I" } : Jvm.MethodName) method_4_code (1 : Nat) (Option.some Jvm.ClassFile.FieldType.int)]
set_option maxRecDepth 65536 in
theorem codes_eq : words1.filter isCode = codes1 := rfl
theorem w_codes : ∀ c ∈ words1.filter isCode, c.before args0 about1 = true := by
  rw [codes_eq]
  intro c hc
  simp only [codes1, List.mem_cons, List.not_mem_nil, or_false] at hc
  rcases hc with rfl | rfl | rfl | rfl | rfl | rfl | rfl
  · exact w_c0
  · exact w_c1
  · exact w_c2
  · exact w_c3
  · exact w_c4
  · exact w_c5
  · exact w_c6
set_option maxRecDepth 65536 in
theorem w_t1 : words1.all (fun c => isCode c || c.before args0 about1) = true := by decide +kernel
theorem w_tables : (allAtoms (Jvm.Cond.code x code maxLocals ret :: tables_1)).before args0 about1 = true := by
  rw [allAtoms_all]
  show words1.all (fun c => c.before args0 about1) = true
  refine all_split ?_ w_codes
  rw [w_t1]
set_option maxRecDepth 65536 in
theorem w_case : (Jvm.Cond.and given_1 narrow_1).before args0 about1 = true := by decide +kernel
theorem w_applies : (headSpec (Jvm.Cond.code x code maxLocals ret :: tables_1) room_1).applies x e0.platform about1 = true :=
  (Spec.applies_iff w_frames).mpr ⟨w_running, w_runnable, w_alone, w_named, w_hears, w_ripe, w_room, w_tables⟩
theorem atStart : AtStart classFile x code maxLocals ret World_1 tables_1 room_1 Calls_1 rest_1 Pre_1 launch0 p0 e0 about1 theMethod args0 below0 :=
  ⟨lists_1, trivial, launch0.admits_env _ _ _, launch0.least_env, fairChoices_fair.cas, fairChoices_fair.clock, w_frames, w_args, w_heap, w_applies, trivial, trivial, w_case⟩
end start1
theorem witness_1 : WitnessClaimed_1 := ⟨start1.p0, start1.e0, start1.about1, start1.theMethod, start1.args0, start1.below0, start1.atStart⟩
end Jvm.Pilot.@@N@@
