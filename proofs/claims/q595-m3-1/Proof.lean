import JvmDerived
import JvmDerived.Pilot.@@N@@Statement
import JvmDerived.Pilot.@@N@@Code
set_option linter.unusedVariables false
set_option linter.unusedSimpArgs false
namespace Jvm.Pilot.@@N@@
open Jvm Jvm.ClassFile Sem Op Lib Jvm.Free Jvm.Stand Jvm.LawKit Jvm.RoadKit Bundle Jvm.Pilot.@@N@@.Jvm.D
/-- from S the run goes on below 'below', ends, and E holds of the end -/
def Go (tb : Tables) (e : Env) (below : List Frame) (E : State → Outcome → Prop) (S : State) : Prop := ∃ s₂ o, Steps tb e below S s₂ ∧ s₂.status = .running ∧ Ended s₂ below o ∧ E s₂ o
theorem Go.via {tb : Tables} {e : Env} {below : List Frame} {E : State → Outcome → Prop} {S S' : State} (k : ∀ t, Steps tb e below S' t → Steps tb e below S t) (h : Go tb e below E S') : Go tb e below E S := by
  obtain ⟨a, b, c, d⟩ := h; exact ⟨a, b, k _ c, d⟩
/-- a body's contract, short -/
abbrev MetP (l : Launch) (y : MethodName) (bytes : ByteArray) (maxL : Nat) (ret : Option FieldType) (ws : List Jvm.Cond) (rm : Room) (Z : State) (as' : Array Value) (h0 : Heap) (Q : Option Value → Heap → List Loc → Prop) : Prop :=
  MetFree l y (head1 (Jvm.Cond.code y bytes maxL ret :: ws) rm) (fun a U => a = as' ∧ Z.Warmed39 U.vm ∧ U.heap = h0) (fun _ _ _ _ _ => True) (fun _ U o U' => ∃ v L, o = .returned v ∧ Q v U'.heap L ∧ FrameEnd U o U' L rm.cells rm.slots)
/-- it returned r and wrote and made nothing -/
def Pure (r : Value) (h0 : Heap) (v : Option Value) (h : Heap) (L : List Loc) : Prop := v = some r ∧ L = [] ∧ h = h0
abbrev EndE (s : State) (rm : Room) (Q : Option Value → Heap → List Loc → Prop) : State → Outcome → Prop := fun s₂ o => ∃ v L, o = .returned v ∧ Q v s₂.heap L ∧ FrameEnd s o s₂ L rm.cells rm.slots
theorem met_go {l : Launch} {y : MethodName} {bytes : ByteArray} {maxL : Nat} {ret : Option FieldType} {ws : List Jvm.Cond} {rm : Room} {Z : State} {as' : Array Value} {h0 : Heap} {Q : Option Value → Heap → List Loc → Prop} (hpl : plainFor y = true)
    (body : ∀ (p : Program) (e : Env) (s : State) (m : MethodId) (below : List Frame) (meth : Method) (c : Code) (s₁ : State), p.tables.exec = Jvm.exec → c.code = bytes → c.maxLocals = maxL → s.vm.findClass y.cls = some m.cls → meth.name = y.name → meth.sig.returnType = ret → meth.locks = false → Z.Warmed39 s.vm → s₁.heap = h0 →
      Stand p l e rm s m as' below meth c s₁ [] 0 0 → Go p.tables e below (EndE s rm Q) (s₁.setTop (entryFrame m as' maxL))) : MetP l y bytes maxL ret ws rm Z as' h0 Q := by
  refine MetFree.of_bodySF hpl hisR ?_
  intro p e s m args below meth c s₁ Bd hml hP hK
  obtain ⟨rfl, hZ, hh⟩ := hP
  exact body p e s m below meth c s₁ Bd.exec Bd.bytes hml (findClass_of_methodNamed Bd.named) (name_of_methodNamed Bd.named Bd.method).1 Bd.returns Bd.notSynchronized hZ (by rw [← hh, Bd.state]; rfl) (Stand.of_body Bd)
abbrev EndW (s : State) (rm : Room) (Q : Option Value → Heap → List Loc → Prop) : State → Outcome → Prop := fun s₂ o => ∃ v L, o = .returned v ∧ Q v s₂.heap L ∧ ReturnedEndW s o s₂ L rm.cells rm.slots
theorem met_goW {l : Launch} {y : MethodName} {bytes : ByteArray} {maxL : Nat} {ret : Option FieldType} {ws : List Jvm.Cond} {rm : Room} {Z : State} {as' : Array Value} {h0 : Heap} {Q : Option Value → Heap → List Loc → Prop} (hpl : plainFor y = true)
    (body : ∀ (p : Program) (e : Env) (s : State) (m : MethodId) (below : List Frame) (meth : Method) (c : Code) (s₁ : State), p.tables.exec = Jvm.exec → c.code = bytes → c.maxLocals = maxL → s.vm.findClass y.cls = some m.cls → meth.name = y.name → meth.sig.returnType = ret → meth.locks = false → Z.Warmed39 s.vm → s₁.heap = h0 →
      Stand p l e rm s m as' below meth c s₁ [] 0 0 → Go p.tables e below (EndW s rm Q) (s₁.setTop (entryFrame m as' maxL))) : MetFree l y (head1 (Jvm.Cond.code y bytes maxL ret :: ws) rm) (fun a U => a = as' ∧ Z.Warmed39 U.vm ∧ U.heap = h0) (fun _ _ _ _ _ => True) (fun _ U o U' => ∃ v L, o = .returned v ∧ Q v U'.heap L ∧ ReturnedEndW U o U' L rm.cells rm.slots) := by
  refine MetFree.of_bodySF hpl hisR ?_
  intro p e s m args below meth c s₁ Bd hml hP hK
  obtain ⟨rfl, hZ, hh⟩ := hP
  exact body p e s m below meth c s₁ Bd.exec Bd.bytes hml (findClass_of_methodNamed Bd.named) (name_of_methodNamed Bd.named Bd.method).1 Bd.returns Bd.notSynchronized hZ (by rw [← hh, Bd.state]; rfl) (Stand.of_body Bd)
theorem met_goZ {l : Launch} {y : MethodName} {bytes : ByteArray} {maxL : Nat} {ret : Option FieldType} {ws : List Jvm.Cond} {rm : Room} {Z : State} {as' : Array Value} {Q : Option Value → Heap → List Loc → Prop} (hpl : plainFor y = true)
    (body : ∀ (p : Program) (e : Env) (s : State) (m : MethodId) (below : List Frame) (meth : Method) (c : Code) (s₁ : State), p.tables.exec = Jvm.exec → c.code = bytes → c.maxLocals = maxL → s.vm.findClass y.cls = some m.cls → meth.name = y.name → meth.sig.returnType = ret → meth.locks = false → s = Z → s₁.heap = Z.heap →
      Stand p l e rm s m as' below meth c s₁ [] 0 0 → Go p.tables e below (EndW s rm Q) (s₁.setTop (entryFrame m as' maxL))) : MetFree l y (head1 (Jvm.Cond.code y bytes maxL ret :: ws) rm) (fun a U => a = as' ∧ U = Z) (fun _ _ _ _ _ => True) (fun _ U o U' => ∃ v L, o = .returned v ∧ Q v U'.heap L ∧ ReturnedEndW U o U' L rm.cells rm.slots) := by
  refine MetFree.of_bodySF hpl hisR ?_
  intro p e s m args below meth c s₁ Bd hml hP hK
  obtain ⟨rfl, hZ⟩ := hP
  exact body p e s m below meth c s₁ Bd.exec Bd.bytes hml (findClass_of_methodNamed Bd.named) (name_of_methodNamed Bd.named Bd.method).1 Bd.returns Bd.notSynchronized hZ (by rw [← hZ, Bd.state]; rfl) (Stand.of_body Bd)
section OwnKit
variable {p : Program} {l : Launch} {e : Env} {R : Room} {s : State} {m : MethodId} {args : Array Value} {below : List Frame} {meth : Method} {c : Code} {T : State} {locs : List Loc} {cells slots : Nat} {E : State → Outcome → Prop} {Z : State} {a0 : Array Value} {h : Heap} {pc : Nat} {Ls Ls' : Array Slot} {st : List Value}
theorem o_iload (pc' : Nat) (X : Stand p l e R s m args below meth c T locs cells slots) (hx : p.tables.exec = Jvm.exec) (hpc : pc + 2 = pc') {k : Nat} {v : Int32} (hd : decode c.code pc = .ok (.iload k, 2)) (hl : Ls[k]? = some (.val (.int v))) (h : Go p.tables e below E (T.setTop (mkF m pc' Ls ((.int v) :: st)))) : Go p.tables e below E (T.setTop (mkF m pc Ls st)) := by
  subst hpc; exact Go.via (fun _ k => XS.iload X.here hx rfl hd hl k) h
theorem o_iloadN (pc' : Nat) (X : Stand p l e R s m args below meth c T locs cells slots) (hx : p.tables.exec = Jvm.exec) (hpc : pc + 1 = pc') {k : Fin 4} {v : Int32} (hd : decode c.code pc = .ok (.iload_n k, 1)) (hl : Ls[k.val]? = some (.val (.int v))) (h : Go p.tables e below E (T.setTop (mkF m pc' Ls ((.int v) :: st)))) : Go p.tables e below E (T.setTop (mkF m pc Ls st)) := by
  subst hpc; exact Go.via (fun _ k => XS.iloadN X.here hx rfl hd hl k) h
theorem o_aload (pc' : Nat) (X : Stand p l e R s m args below meth c T locs cells slots) (hx : p.tables.exec = Jvm.exec) (hpc : pc + 2 = pc') {k : Nat} {v : Value} (hd : decode c.code pc = .ok (.aload k, 2)) (hl : Ls[k]? = some (.val v)) (hv : v.isRef = true) (h : Go p.tables e below E (T.setTop (mkF m pc' Ls (v :: st)))) : Go p.tables e below E (T.setTop (mkF m pc Ls st)) := by
  subst hpc; exact Go.via (fun _ k => XS.aload X.here hx rfl hd hl hv k) h
theorem o_aloadN (pc' : Nat) (X : Stand p l e R s m args below meth c T locs cells slots) (hx : p.tables.exec = Jvm.exec) (hpc : pc + 1 = pc') {k : Fin 4} {v : Value} (hd : decode c.code pc = .ok (.aload_n k, 1)) (hl : Ls[k.val]? = some (.val v)) (hv : v.isRef = true) (h : Go p.tables e below E (T.setTop (mkF m pc' Ls (v :: st)))) : Go p.tables e below E (T.setTop (mkF m pc Ls st)) := by
  subst hpc; exact Go.via (fun _ k => XS.aloadN X.here hx rfl hd hl hv k) h
theorem o_istore (pc' : Nat) (X : Stand p l e R s m args below meth c T locs cells slots) (hx : p.tables.exec = Jvm.exec) (hpc : pc + 2 = pc') {k : Nat} {v : Int32} (hd : decode c.code pc = .ok (.istore k, 2)) (Ls' : Array Slot) (hl : storeLocals Ls k (.int v) = some Ls') (h : Go p.tables e below E (T.setTop (mkF m pc' Ls' st))) : Go p.tables e below E (T.setTop (mkF m pc Ls ((.int v) :: st))) := by
  subst hpc; exact Go.via (fun _ k => XS.istore X.here hx rfl hd rfl hl k) h
theorem o_istoreN (pc' : Nat) (X : Stand p l e R s m args below meth c T locs cells slots) (hx : p.tables.exec = Jvm.exec) (hpc : pc + 1 = pc') {k : Fin 4} {v : Int32} (hd : decode c.code pc = .ok (.istore_n k, 1)) (Ls' : Array Slot) (hl : storeLocals Ls k.val (.int v) = some Ls') (h : Go p.tables e below E (T.setTop (mkF m pc' Ls' st))) : Go p.tables e below E (T.setTop (mkF m pc Ls ((.int v) :: st))) := by
  subst hpc; exact Go.via (fun _ k => XS.istoreN X.here hx rfl hd rfl hl k) h
theorem o_astore (pc' : Nat) (X : Stand p l e R s m args below meth c T locs cells slots) (hx : p.tables.exec = Jvm.exec) (hpc : pc + 2 = pc') {k : Nat} {v : Value} (hd : decode c.code pc = .ok (.astore k, 2)) (hv : v.isRef = true) (Ls' : Array Slot) (hl : storeLocals Ls k v = some Ls') (h : Go p.tables e below E (T.setTop (mkF m pc' Ls' st))) : Go p.tables e below E (T.setTop (mkF m pc Ls (v :: st))) := by
  subst hpc; exact Go.via (fun _ k => XS.astore X.here hx rfl hd rfl hv hl k) h
theorem o_astoreN (pc' : Nat) (X : Stand p l e R s m args below meth c T locs cells slots) (hx : p.tables.exec = Jvm.exec) (hpc : pc + 1 = pc') {k : Fin 4} {v : Value} (hd : decode c.code pc = .ok (.astore_n k, 1)) (hv : v.isRef = true) (Ls' : Array Slot) (hl : storeLocals Ls k.val v = some Ls') (h : Go p.tables e below E (T.setTop (mkF m pc' Ls' st))) : Go p.tables e below E (T.setTop (mkF m pc Ls (v :: st))) := by
  subst hpc; exact Go.via (fun _ k => XS.astoreN X.here hx rfl hd rfl hv hl k) h
theorem o_iinc (pc' : Nat) (X : Stand p l e R s m args below meth c T locs cells slots) (hx : p.tables.exec = Jvm.exec) (hpc : pc + 3 = pc') {k : Nat} {cst : Int} {v : Int32} (hd : decode c.code pc = .ok (.iinc k cst, 3)) (w : Int32) (hw : Int32.ofInt cst = w) (hl : Ls[k]? = some (.val (.int v))) (Ls' : Array Slot) (hl' : storeLocals Ls k (.int (v + w)) = some Ls') (h : Go p.tables e below E (T.setTop (mkF m pc' Ls' st))) : Go p.tables e below E (T.setTop (mkF m pc Ls st)) := by
  subst hpc; exact Go.via (fun _ k => XS.iinc X.here hx rfl hd hl (by rw [hw]; exact hl') k) h
theorem o_iconst (pc' : Nat) (X : Stand p l e R s m args below meth c T locs cells slots) (hx : p.tables.exec = Jvm.exec) (hpc : pc + 1 = pc') {i : Int} (hd : decode c.code pc = .ok (.iconst i, 1)) (v : Int32) (hv : Int32.ofInt i = v) (h : Go p.tables e below E (T.setTop (mkF m pc' Ls (.int v :: st)))) : Go p.tables e below E (T.setTop (mkF m pc Ls st)) := by
  subst hpc; exact Go.via (fun _ k => XS.iconst X.here hx rfl hd (by rw [hv]; exact k)) h
theorem o_bipush (pc' : Nat) (X : Stand p l e R s m args below meth c T locs cells slots) (hx : p.tables.exec = Jvm.exec) (hpc : pc + 2 = pc') {i : Int} (hd : decode c.code pc = .ok (.bipush i, 2)) (v : Int32) (hv : (Int8.ofInt i).toInt32 = v) (h : Go p.tables e below E (T.setTop (mkF m pc' Ls (.int v :: st)))) : Go p.tables e below E (T.setTop (mkF m pc Ls st)) := by
  subst hpc; exact Go.via (fun _ k => XS.bipush X.here hx rfl hd (by rw [hv]; exact k)) h
theorem o_ldcInt (pc' : Nat) (X : Stand p l e R s m args below meth c T locs cells slots) (hx : p.tables.exec = Jvm.exec) (hpc : pc + 2 = pc') (hZ : Z.Warmed39 s.vm) {own : String} {index : Nat} (hown : s.vm.findClass own = some m.cls) {v : Int32} (w : (Jvm.Cond.constant own index v).before a0 Z = true) (hd : decode c.code pc = .ok (.ldc index, 2)) (h : Go p.tables e below E (T.setTop (mkF m pc' Ls (.int v :: st)))) : Go p.tables e below E (T.setTop (mkF m pc Ls st)) := by
  subst hpc; exact Go.via (fun _ k => X.ldcInt hx hown (mvT hZ w) (g := mkF m pc Ls st) rfl hd _ k) h
theorem o_iand (pc' : Nat) (X : Stand p l e R s m args below meth c T locs cells slots) (hx : p.tables.exec = Jvm.exec) (hpc : pc + 1 = pc') {x : Int32} {y : Int32} (hd : decode c.code pc = .ok (.iand, 1)) (h : Go p.tables e below E (T.setTop (mkF m pc' Ls (.int (x &&& y) :: st)))) : Go p.tables e below E (T.setTop (mkF m pc Ls (.int y :: .int x :: st))) := by
  subst hpc; exact Go.via (fun _ k => XS.iand X.here hx rfl hd rfl k) h
theorem o_irem (pc' : Nat) (X : Stand p l e R s m args below meth c T locs cells slots) (hx : p.tables.exec = Jvm.exec) (hpc : pc + 1 = pc') {x y : Int32} (hd : decode c.code pc = .ok (.irem, 1)) (hy : y ≠ 0) (h : Go p.tables e below E (T.setTop (mkF m pc' Ls (.int (x % y) :: st)))) : Go p.tables e below E (T.setTop (mkF m pc Ls (.int y :: .int x :: st))) := by
  subst hpc; exact Go.via (fun _ k => iremM (g := mkF m pc Ls (.int y :: .int x :: st)) X hx rfl hd rfl hy k) h
theorem o_i2b (pc' : Nat) (X : Stand p l e R s m args below meth c T locs cells slots) (hx : p.tables.exec = Jvm.exec) (hpc : pc + 1 = pc') {x : Int32} (hd : decode c.code pc = .ok (.i2b, 1)) (h : Go p.tables e below E (T.setTop (mkF m pc' Ls (.int (x.toInt8.toInt32) :: st)))) : Go p.tables e below E (T.setTop (mkF m pc Ls (.int x :: st))) := by
  subst hpc; exact Go.via (fun _ k => XS.i2b X.here hx rfl hd rfl k) h
theorem o_dup (pc' : Nat) (X : Stand p l e R s m args below meth c T locs cells slots) (hx : p.tables.exec = Jvm.exec) (hpc : pc + 1 = pc') {v : Value} (hd : decode c.code pc = .ok (.dup, 1)) (hv : v.category = 1) (h : Go p.tables e below E (T.setTop (mkF m pc' Ls (v :: v :: st)))) : Go p.tables e below E (T.setTop (mkF m pc Ls (v :: st))) := by
  subst hpc; exact Go.via (fun _ k => XS.dup X.here hx rfl hd rfl hv k) h
theorem o_goto (pc' : Nat) (X : Stand p l e R s m args below meth c T locs cells slots) (hx : p.tables.exec = Jvm.exec) {o : Int} (hd : decode c.code pc = .ok (.goto o, 3)) (ho : 0 ≤ (pc : Int) + o) (hp : ((pc : Int) + o).toNat = pc') (h : Go p.tables e below E (T.setTop (mkF m pc' Ls st))) : Go p.tables e below E (T.setTop (mkF m pc Ls st)) := by
  exact Go.via (fun _ k => XS.goto X.here hx rfl (pc0 := pc) (pc' := pc') rfl hd ho hp k) h
theorem o_ifYes (pc' : Nat) (X : Stand p l e R s m args below meth c T locs cells slots) (hx : p.tables.exec = Jvm.exec) {cd : ClassFile.Cond} {x : Int32} {o : Int} (hd : decode c.code pc = .ok (.ifCond cd o, 3)) (hc : if_icmp.holds cd x 0 = true) (ho : 0 ≤ (pc : Int) + o) (hp : ((pc : Int) + o).toNat = pc') (h : Go p.tables e below E (T.setTop (mkF m pc' Ls st))) : Go p.tables e below E (T.setTop (mkF m pc Ls (.int x :: st))) := by
  exact Go.via (fun _ k => XS.ifYes X.here hx rfl (pc0 := pc) (pc' := pc') rfl hd rfl ((if0 _ _).trans hc) ho hp k) h
theorem o_ifNo (pc' : Nat) (X : Stand p l e R s m args below meth c T locs cells slots) (hx : p.tables.exec = Jvm.exec) (hpc : pc + 3 = pc') {cd : ClassFile.Cond} {x : Int32} {o : Int} (hd : decode c.code pc = .ok (.ifCond cd o, 3)) (hc : if_icmp.holds cd x 0 = false) (h : Go p.tables e below E (T.setTop (mkF m pc' Ls st))) : Go p.tables e below E (T.setTop (mkF m pc Ls (.int x :: st))) := by
  subst hpc; exact Go.via (fun _ k => XS.ifNo X.here hx rfl hd rfl ((if0 _ _).trans hc) k) h
theorem o_icmpYes (pc' : Nat) (X : Stand p l e R s m args below meth c T locs cells slots) (hx : p.tables.exec = Jvm.exec) {cd : ClassFile.Cond} {x y : Int32} {o : Int} (hd : decode c.code pc = .ok (.if_icmp cd o, 3)) (hc : if_icmp.holds cd x y = true) (ho : 0 ≤ (pc : Int) + o) (hp : ((pc : Int) + o).toNat = pc') (h : Go p.tables e below E (T.setTop (mkF m pc' Ls st))) : Go p.tables e below E (T.setTop (mkF m pc Ls (.int y :: .int x :: st))) := by
  exact Go.via (fun _ k => XS.icmpYes X.here hx rfl (pc0 := pc) (pc' := pc') rfl hd rfl hc ho hp k) h
theorem o_icmpNo (pc' : Nat) (X : Stand p l e R s m args below meth c T locs cells slots) (hx : p.tables.exec = Jvm.exec) (hpc : pc + 3 = pc') {cd : ClassFile.Cond} {x y : Int32} {o : Int} (hd : decode c.code pc = .ok (.if_icmp cd o, 3)) (hc : if_icmp.holds cd x y = false) (h : Go p.tables e below E (T.setTop (mkF m pc' Ls st))) : Go p.tables e below E (T.setTop (mkF m pc Ls (.int y :: .int x :: st))) := by
  subst hpc; exact Go.via (fun _ k => XS.icmpNo X.here hx rfl hd rfl hc k) h
theorem o_out (X : Stand p l e R s m args below meth c T locs cells slots) (hx : p.tables.exec = Jvm.exec) {rm : Room} {Q : Option Value → Heap → List Loc → Prop} {v : Option Value} (hv : meth.sig.returnType = none → v = none) (hlk : meth.locks = false) {g : JFrame}
    (hst : ∀ fs, (∀ (f : JFrame) (acts : List Action), f.method = m → f.locked = none → f.entered = [] → (doReturn e (T.setTop f) acts v).1 = T.setFrames fs) → Steps p.tables e below (T.setTop g) (T.setFrames fs)) (hq : Q v T.heap locs) (hk : cells ≤ rm.cells) (hn : slots ≤ rm.slots) : Go p.tables e below (EndE s rm Q) (T.setTop g) := by
  obtain ⟨fs, hr, hrun, hended, hW, hsame⟩ := X.leave (v := v) hv hlk
  exact ⟨_, _, hst fs hr, hrun, hended, _, _, rfl, hq, ⟨_, rfl⟩, hW, hsame.mono hk hn⟩
theorem own_retI (X : Stand p l e R s m args below meth c T locs cells slots) (hx : p.tables.exec = Jvm.exec) {z : Int32} (hret : meth.sig.returnType = some .int) (hd : decode c.code pc = .ok (.ireturn, 1)) {fs : List Frame}
    (hl : ∀ (f : JFrame) (acts : List Action), f.method = m → f.locked = none → f.entered = [] → (doReturn e (T.setTop f) acts (some (.int z))).1 = T.setFrames fs) : Steps p.tables e below (T.setTop (mkF m pc Ls (.int z :: st))) (T.setFrames fs) :=
  retOut X hx hret rfl (Or.inl ⟨rfl, Or.inl rfl, z, rfl⟩) hd hl
theorem o_retI (X : Stand p l e R s m args below meth c T locs cells slots) (hx : p.tables.exec = Jvm.exec) {z : Int32} {rm : Room} {Q : Option Value → Heap → List Loc → Prop} (hret : meth.sig.returnType = some .int) (hlk : meth.locks = false) (hd : decode c.code pc = .ok (.ireturn, 1)) (hk : cells ≤ rm.cells) (hn : slots ≤ rm.slots) (hq : Q (some (.int z)) T.heap locs) : Go p.tables e below (EndE s rm Q) (T.setTop (mkF m pc Ls (.int z :: st))) :=
  o_out X hx (fun q => by rw [hret] at q; cases q) hlk (fun fs hr => own_retI X hx hret hd hr) hq hk hn
theorem o_retA (X : Stand p l e R s m args below meth c T locs cells slots) (hx : p.tables.exec = Jvm.exec) {z : Value} {t : FieldType} (ht : t.isReference = true) (hz : z.isRef = true) {rm : Room} {Q : Option Value → Heap → List Loc → Prop} (hret : meth.sig.returnType = some t) (hlk : meth.locks = false) (hd : decode c.code pc = .ok (.areturn, 1)) (hk : cells ≤ rm.cells) (hn : slots ≤ rm.slots) (hq : Q (some z) T.heap locs) : Go p.tables e below (EndE s rm Q) (T.setTop (mkF m pc Ls (z :: st))) :=
  o_out X hx (fun q => by rw [hret] at q; cases q) hlk (fun fs hr => retOut X hx hret (by cases t <;> first | (cases ht; done) | (cases z <;> first | rfl | (cases hz; done))) (Or.inr (Or.inr (Or.inr (Or.inr ⟨rfl, ht, hz⟩)))) hd hr) hq hk hn
theorem o_retN (X : Stand p l e R s m args below meth c T locs cells slots) (hx : p.tables.exec = Jvm.exec) {z : Int32} (t : FieldType) (ht : t = .boolean ∨ t = .byte ∨ t = .char ∨ t = .short) {rm : Room} {Q : Option Value → Heap → List Loc → Prop} (hret : meth.sig.returnType = some t) (hlk : meth.locks = false) (hd : decode c.code pc = .ok (.ireturn, 1)) (hk : cells ≤ rm.cells) (hn : slots ≤ rm.slots) (hq : Q (some (.int (nar t z))) T.heap locs) : Go p.tables e below (EndE s rm Q) (T.setTop (mkF m pc Ls (.int z :: st))) :=
  o_out X hx (fun q => by rw [hret] at q; cases q) hlk (fun fs hr => retN X hx hret ht hd hr) hq hk hn
theorem o_retV (X : Stand p l e R s m args below meth c T locs cells slots) (hx : p.tables.exec = Jvm.exec) {rm : Room} {Q : Option Value → Heap → List Loc → Prop} (hret : meth.sig.returnType = none) (hlk : meth.locks = false) (hd : decode c.code pc = .ok (.return_, 1)) (hk : cells ≤ rm.cells) (hn : slots ≤ rm.slots) (hq : Q none T.heap locs) : Go p.tables e below (EndE s rm Q) (T.setTop (mkF m pc Ls [])) :=
  o_out X hx (fun _ => rfl) hlk (fun fs hr => X.returnOut hx hret hd hr) hq hk hn
theorem o_getF (pc' : Nat) (X : Stand p l e R s m args below meth c T locs cells slots) (hx : p.tables.exec = Jvm.exec) (hpc : pc + 3 = pc') (hZ : Z.Warmed39 s.vm) {own R0 O n d : String} {index : Nat} (hown : s.vm.findClass own = some m.cls) (w : (Jvm.Cond.fieldLink own index R0 n d).before a0 Z = true) (via : Via Z R0 O n d) (eT : T.heap = h) {a : Addr} {v : Value} (F : Fld Z h a O n d v) (hd : decode c.code pc = .ok (.getfield index, 3))
    (k : ∀ (T' : State), Stand p l e R s m args below meth c T' locs cells slots → T'.heap = h → Go p.tables e below E (T'.setTop (mkF m pc' Ls (v :: st)))) : Go p.tables e below E (T.setTop (mkF m pc Ls (.ref a :: st))) := by
  subst hpc
  obtain ⟨T', X', e', st'⟩ := getF X hx hZ hown (host := "") (Or.inl w) via eT F (g := mkF m pc Ls (.ref a :: st)) rfl rfl hd
  exact Go.via st' (k T' X' e')
theorem o_putF (pc' : Nat) (X : Stand p l e R s m args below meth c T locs cells slots) (hx : p.tables.exec = Jvm.exec) (hpc : pc + 3 = pc') (hZ : Z.Warmed39 s.vm) {own R0 O n d C : String} {index kk : Nat} (ty : FieldType) (hown : s.vm.findClass own = some m.cls) (w : (Jvm.Cond.fieldLink own index R0 n d).before a0 Z = true) (via : Via Z R0 O n d) (eT : T.heap = h) {a : Addr} {v old : Value} (F : Fld Z h a O n d old) (X2 : Exa Z h a C)
    (L : (Jvm.Cond.lays C O n d).before a0 Z = true ∨ ((Jvm.Cond.laysFinal C O n d).before a0 Z = true ∧ own = O ∧ meth.name = "<init>")) (wi : (Jvm.Cond.instantiable C kk).before a0 Z = true) (hty : parseFieldDescriptor d = some ty) (hn : narrow ty v = v) (hf : fits ty v = true) {n0 : Nat} (N : Fr n0 locs) (ga : n0 ≤ a) (hd : decode c.code pc = .ok (.putfield index, 3))
    (k : ∀ (T' : State) (h' : Heap) (L' : List Loc), Stand p l e R s m args below meth c T' L' cells slots → Fr n0 L' → T'.heap = h' → Wr h h' a (Jvm.RoadKit.slotOf Z O n d) v → Go p.tables e below E (T'.setTop (mkF m pc' Ls st))) : Go p.tables e below E (T.setTop (mkF m pc Ls (v :: .ref a :: st))) := by
  subst hpc
  obtain ⟨T', h', X', e', W', st'⟩ := putF X hx hZ hown (host := "") (Or.inl w) via eT F X2 L wi hty hn hf (g := mkF m pc Ls (v :: .ref a :: st)) rfl rfl hd
  exact Go.via st' (k T' h' _ X' (Fr.snoc X' N ga) e' W')
theorem o_new (pc' : Nat) (X : Stand p l e R s m args below meth c T locs cells slots) (hx : p.tables.exec = Jvm.exec) (hpc : pc + 3 = pc') (hZ : Z.Warmed39 s.vm) {own C : String} {index n : Nat} (hown : s.vm.findClass own = some m.cls) (w : (Jvm.Cond.classLink own index C).before a0 Z = true) (wi : (Jvm.Cond.instantiable C n).before a0 Z = true) (wz : (Jvm.Cond.initialized C).before a0 Z = true) (eT : T.heap = h) (hd : decode c.code pc = .ok (.new index, 3)) (hc : cells + 1 ≤ R.cells) (hl : slots + n ≤ R.slots)
    (k : ∀ (T' : State) (h' : Heap) (a : Addr), a = h.size → Stand p l e R s m args below meth c T' locs (cells + 1) (slots + n) → T'.heap = h' → Ext h h' → Exa Z h' a C → (∀ {O nm d : String} {ty : FieldType}, Laid Z a0 C O nm d → parseFieldDescriptor d = some ty → Fld Z h' a O nm d (defaultValue ty)) → Go p.tables e below E (T'.setTop (mkF m pc' Ls (.ref a :: st)))) : Go p.tables e below E (T.setTop (mkF m pc Ls st)) := by
  subst hpc
  obtain ⟨T', h', X', e', E', A', D', -, st'⟩ := newO X hx hZ hown w wi wz eT (g := mkF m pc Ls st) rfl hd hc hl
  exact Go.via st' (k T' h' h.size rfl X' e' E' A' D')
theorem o_initO (pc' : Nat) (X : Stand p l e R s m args below meth c T locs cells slots) (hx : p.tables.exec = Jvm.exec) (hpc : pc + 3 = pc') (hZ : Z.Warmed39 s.vm) {own : String} {idx : Nat} (hown : s.vm.findClass own = some m.cls) (w1 : (Jvm.Cond.methodLink own idx Lib.objectInit).before a0 Z = true) (w2 : (Jvm.Cond.instanceMethod Lib.objectInit).before a0 Z = true) (w3 : (Jvm.Cond.code Lib.objectInit ⟨#[0xb1]⟩ 1 none).before a0 Z = true) (eT : T.heap = h) (hsize : Ls.size = c.maxLocals) {a : Addr} (hd : decode c.code pc = .ok (.invokespecial idx, 3)) (hf : 1 ≤ R.frames) (W : Nat) (hW : (st.map fun v => v.category).sum ≤ W) (hl : W + 12 ≤ R.locals)
    (k : ∀ (T' : State), Stand p l e R s m args below meth c T' locs cells slots → T'.heap = h → Go p.tables e below E (T'.setTop (mkF m pc' Ls st))) : Go p.tables e below E (T.setTop (mkF m pc Ls (.ref a :: st))) := by
  subst hpc
  obtain ⟨T', X', e', st'⟩ := initO X hx hZ hown w1 w2 w3 eT (g := mkF m pc Ls (.ref a :: st)) rfl hsize rfl hd hf (W := W) (by show 2 * 0 + _ ≤ _; rw [Nat.mul_zero, Nat.zero_add]; exact hW) hl
  exact Go.via st' (k T' X' e')
theorem o_callS (pc' : Nat) (X : Stand p l e R s m args below meth c T locs cells slots) (hx : p.tables.exec = Jvm.exec) (hpc : pc + 3 = pc') (hZ : Z.Warmed39 s.vm) {own : String} {index : Nat} {y : MethodName} {bytes : ByteArray} {maxL : Nat} {ret : Option FieldType} {rm : Room} {as' : Array Value} {Q : Option Value → Heap → List Loc → Prop} (hown : s.vm.findClass own = some m.cls) (w1 : (Jvm.Cond.methodLink own index y).before a0 Z = true) (w2 : (Jvm.Cond.static y).before a0 Z = true) (w3 : (Jvm.Cond.initialized y.cls).before a0 Z = true) (w4 : (Jvm.Cond.code y bytes maxL ret).before a0 Z = true) (hy : y.cls ≠ "java/lang/invoke/MethodHandle" ∧ y.cls ≠ "java/lang/invoke/VarHandle") (eT : T.heap = h)
    (hM : MetP l y bytes maxL ret [] rm Z as' h Q) {ps : List FieldType} {r : Option FieldType} (hdsc : parseMethodDescriptor y.desc = some ⟨ps, r⟩) (argsL rest : List Value) (hlen : argsL.length = ps.length) (has : argsL.toArray = as') (hsize : Ls.size = c.maxLocals) (hst : st = argsL.reverse ++ rest) (hd : decode c.code pc = .ok (.invokestatic index, 3)) (W : Nat) (hW : (rest.map fun v => v.category).sum ≤ W) (hf : rm.frames + 1 ≤ R.frames) (hlo : W + (maxL + 11) + rm.locals ≤ R.locals) (hc : cells + rm.cells ≤ R.cells) (hsl : slots + rm.slots ≤ R.slots)
    (k : ∀ (v : Option Value) (T' : State) (L : List Loc), Stand p l e R s m args below meth c T' (locs ++ L) (cells + rm.cells) (slots + rm.slots) → Q v T'.heap L → Go p.tables e below E (T'.setTop (mkF m pc' Ls (v.toList ++ rest)))) : Go p.tables e below E (T.setTop (mkF m pc Ls st)) := by
  subst hpc
  obtain ⟨v, _, ⟨T', L', c', s'⟩, -, X', ⟨L, hQ, h1, h2, h3⟩, st'⟩ := Jvm.LawKit.callS X hx (y := y) hown (mvT hZ w1) (mvT hZ w2) (mvT hZ w3) (mvT hZ w4) hy (backOf (W := W) hM hZ w4 w3 hf hlo) (g := mkF m pc Ls st) rfl hsize (argsL := argsL) (rest := rest) (lenOf hdsc hlen) hst (by show 2 * 0 + _ ≤ _; rw [Nat.mul_zero, Nat.zero_add]; exact hW) hd (fun _ _ => ⟨has, eT, hc, hsl⟩)
  dsimp only [Pt.U, Pt.locs, Pt.cells, Pt.slots] at X' h1 h2 h3 st' hQ
  subst h1 h2 h3
  exact Go.via st' (k v T' L X' hQ)
theorem o_callP (pc' : Nat) (X : Stand p l e R s m args below meth c T locs cells slots) (hx : p.tables.exec = Jvm.exec) (hpc : pc + 3 = pc') (hZ : Z.Warmed39 s.vm) {own : String} {index : Nat} {y : MethodName} {bytes : ByteArray} {maxL : Nat} {ret : Option FieldType} {rm : Room} {as' : Array Value} {rv : Value} (hown : s.vm.findClass own = some m.cls) (w1 : (Jvm.Cond.methodLink own index y).before a0 Z = true) (w2 : (Jvm.Cond.static y).before a0 Z = true) (w3 : (Jvm.Cond.initialized y.cls).before a0 Z = true) (w4 : (Jvm.Cond.code y bytes maxL ret).before a0 Z = true) (hy : y.cls ≠ "java/lang/invoke/MethodHandle" ∧ y.cls ≠ "java/lang/invoke/VarHandle") (eT : T.heap = h)
    (hM : MetP l y bytes maxL ret [] rm Z as' h (Pure rv h)) {ps : List FieldType} {r : Option FieldType} (hdsc : parseMethodDescriptor y.desc = some ⟨ps, r⟩) (argsL rest : List Value) (hlen : argsL.length = ps.length) (has : argsL.toArray = as') (hsize : Ls.size = c.maxLocals) (hst : st = argsL.reverse ++ rest) (hd : decode c.code pc = .ok (.invokestatic index, 3)) (W : Nat) (hW : (rest.map fun v => v.category).sum ≤ W) (hf : rm.frames + 1 ≤ R.frames) (hlo : W + (maxL + 11) + rm.locals ≤ R.locals) (hc : cells + rm.cells ≤ R.cells) (hsl : slots + rm.slots ≤ R.slots) (hc0 : rm.cells = 0) (hs0 : rm.slots = 0)
    (k : ∀ (T' : State), Stand p l e R s m args below meth c T' locs cells slots → T'.heap = h → Go p.tables e below E (T'.setTop (mkF m pc' Ls (rv :: rest)))) : Go p.tables e below E (T.setTop (mkF m pc Ls st)) := by
  refine o_callS pc' X hx hpc hZ hown w1 w2 w3 w4 hy eT hM hdsc argsL rest hlen has hsize hst hd W hW hf hlo hc hsl ?_
  intro v T' L X' hQ
  obtain ⟨rfl, rfl, e'⟩ := hQ
  rw [hc0, hs0, List.append_nil] at X'
  exact k T' X' e' 
theorem o_callI (pc' : Nat) (X : Stand p l e R s m args below meth c T locs cells slots) (hx : p.tables.exec = Jvm.exec) (hpc : pc + 3 = pc') (hZ : Z.Warmed39 s.vm) {own : String} {index : Nat} {y : MethodName} {bytes : ByteArray} {maxL : Nat} {rm : Room} {as' : Array Value} {Q : Option Value → Heap → List Loc → Prop} (hy1 : y.name = "<init>") (hown : s.vm.findClass own = some m.cls) (w1 : (Jvm.Cond.methodLink own index y).before a0 Z = true) (w2 : (Jvm.Cond.instanceMethod y).before a0 Z = true) (w3 : (Jvm.Cond.initialized y.cls).before a0 Z = true) (w4 : (Jvm.Cond.code y bytes maxL none).before a0 Z = true) (hy : y.cls ≠ "java/lang/invoke/MethodHandle" ∧ y.cls ≠ "java/lang/invoke/VarHandle") (eT : T.heap = h)
    (hM : MetP l y bytes maxL none [] rm Z as' h Q) {ps : List FieldType} {r : Option FieldType} (hdsc : parseMethodDescriptor y.desc = some ⟨ps, r⟩) (a : Addr) (argsL rest : List Value) (hlen : argsL.length = ps.length) (has : (.ref a :: argsL).toArray = as') (hsize : Ls.size = c.maxLocals) (hst : st = argsL.reverse ++ .ref a :: rest) (hd : decode c.code pc = .ok (.invokespecial index, 3)) (W : Nat) (hW : (rest.map fun v => v.category).sum ≤ W) (hf : rm.frames + 1 ≤ R.frames) (hlo : W + (maxL + 11) + rm.locals ≤ R.locals) (hc : cells + rm.cells ≤ R.cells) (hsl : slots + rm.slots ≤ R.slots)
    (k : ∀ (v : Option Value) (T' : State) (L : List Loc), Stand p l e R s m args below meth c T' (locs ++ L) (cells + rm.cells) (slots + rm.slots) → Q v T'.heap L → Go p.tables e below E (T'.setTop (mkF m pc' Ls (v.toList ++ rest)))) : Go p.tables e below E (T.setTop (mkF m pc Ls st)) := by
  subst hpc
  obtain ⟨v, _, ⟨T', L', c', s'⟩, -, X', ⟨L, hQ, h1, h2, h3⟩, st'⟩ := X.specialBack hx (y := y) hy1 hown (mvT hZ w1) (mvT hZ w2) (mvT hZ w4) hy (backOf (W := W) hM hZ w4 w3 hf hlo) (g := mkF m pc Ls st) rfl hsize (Steps.refl _) (a := a) (argsL := argsL) (rest := rest) (lenOf hdsc hlen) hst (by show 2 * 0 + _ ≤ _; rw [Nat.mul_zero, Nat.zero_add]; exact hW) hd (fun _ _ => ⟨has, eT, hc, hsl⟩)
  dsimp only [Pt.U, Pt.locs, Pt.cells, Pt.slots] at X' h1 h2 h3 st' hQ
  subst h1 h2 h3
  exact Go.via (fun _ q => st'.trans q) (k v T' L X' hQ)
theorem o_callV (pc' : Nat) (X : Stand p l e R s m args below meth c T locs cells slots) (hx : p.tables.exec = Jvm.exec) (hpc : pc + 3 = pc') (hZ : Z.Warmed39 s.vm) {own C : String} {index : Nat} {y : MethodName} {bytes : ByteArray} {maxL : Nat} {ret : Option FieldType} {rm : Room} {as' : Array Value} {Q : Option Value → Heap → List Loc → Prop} (hown : s.vm.findClass own = some m.cls) (w1 : (Jvm.Cond.methodLink own index y).before a0 Z = true) (w2 : (Jvm.Cond.declares y).before a0 Z = true) (wsel : (Jvm.Cond.selects C y y).before a0 Z = true) (w5 : (Jvm.Cond.instanceMethod y).before a0 Z = true) (w3 : (Jvm.Cond.initialized y.cls).before a0 Z = true) (w4 : (Jvm.Cond.code y bytes maxL ret).before a0 Z = true) (hy : y.cls ≠ "java/lang/invoke/MethodHandle" ∧ y.cls ≠ "java/lang/invoke/VarHandle") (eT : T.heap = h)
    (hM : MetP l y bytes maxL ret [] rm Z as' h Q) {ps : List FieldType} {r : Option FieldType} (hdsc : parseMethodDescriptor y.desc = some ⟨ps, r⟩) (argsL rest : List Value) (hlen : argsL.length = ps.length) {a : Addr} (X2 : Exa Z h a C) (has : (.ref a :: argsL).toArray = as') (hsize : Ls.size = c.maxLocals) (hst : st = argsL.reverse ++ .ref a :: rest) (hd : decode c.code pc = .ok (.invokevirtual index, 3)) (W : Nat) (hW : (rest.map fun v => v.category).sum ≤ W) (hf : rm.frames + 1 ≤ R.frames) (hlo : W + (maxL + 11) + rm.locals ≤ R.locals) (hc : cells + rm.cells ≤ R.cells) (hsl : slots + rm.slots ≤ R.slots)
    (k : ∀ (v : Option Value) (T' : State) (L : List Loc), Stand p l e R s m args below meth c T' (locs ++ L) (cells + rm.cells) (slots + rm.slots) → Q v T'.heap L → Go p.tables e below E (T'.setTop (mkF m pc' Ls (v.toList ++ rest)))) : Go p.tables e below E (T.setTop (mkF m pc Ls st)) := by
  subst hpc
  obtain ⟨cq, kq, qa, qb, qc⟩ := isOf hZ eT X2
  obtain ⟨v, _, ⟨T', L', c', s'⟩, -, X', ⟨L, hQ, h1, h2, h3⟩, st'⟩ := X.virtualBack hx (y := y) (z := y) hown (mvT hZ w1) (mvT hZ w2) (notFace_of_selects (args := #[]) (mvT hZ wsel)) (mvT hZ wsel) (mvT hZ w5) hy (backOf (W := W) hM hZ w4 w3 hf hlo) qa qc (g := mkF m pc Ls st) rfl hsize (Steps.refl _) (argsL := argsL) (rest := rest) (lenOf hdsc hlen) hst (by show 2 * 0 + _ ≤ _; rw [Nat.mul_zero, Nat.zero_add]; exact hW) hd (fun _ _ => ⟨has, eT, hc, hsl⟩)
  dsimp only [Pt.U, Pt.locs, Pt.cells, Pt.slots] at X' h1 h2 h3 st' hQ
  subst h1 h2 h3
  exact Go.via (fun _ q => st'.trans q) (k v T' L X' hQ)
theorem o_newarr (pc' : Nat) (X : Stand p l e R s m args below meth c T locs cells slots) (hx : p.tables.exec = Jvm.exec) (hpc : pc + 2 = pc') (hZ : Z.Warmed39 s.vm) (aty : ArrayType) (ty : FieldType) (hty : newarray.typeOf aty = ty) (w : (Jvm.Cond.arrayClass ty).before a0 Z = true) (eT : T.heap = h) {n : Int32} (hd : decode c.code pc = .ok (.newarray aty, 2)) (hn : ¬ n < 0) (cap : Nat) (hcap : n.toNatClampNeg ≤ cap) (hb : cap * 8 ≤ 536870912) (hc : cells + 1 ≤ R.cells) (hl : slots + cap ≤ R.slots)
    (k : ∀ (T' : State) (h' : Heap) (a : Addr) (cA : ClassId), a = h.size → Stand p l e R s m args below meth c T' locs (cells + 1) (slots + cap) → T'.heap = h' → Ext h h' → Arv Z h' a cA ty n [] (defaultValue ty) → Go p.tables e below E (T'.setTop (mkF m pc' Ls (.ref a :: st)))) : Go p.tables e below E (T.setTop (mkF m pc Ls (.int n :: st))) := by
  subst hpc; subst hty
  obtain ⟨T', h', cA, X', e', E', A', st'⟩ := newP X hx hZ w eT (g := mkF m pc Ls (.int n :: st)) rfl hd rfl hn hcap hb hc hl
  exact Go.via st' (k T' h' h.size cA rfl X' e' E' (Arv.new A' hn))
theorem o_alen (pc' : Nat) (X : Stand p l e R s m args below meth c T locs cells slots) (hx : p.tables.exec = Jvm.exec) (hpc : pc + 1 = pc') (hZ : Z.Warmed39 s.vm) (eT : T.heap = h) {a : Addr} {ka : ClassId} {ty : FieldType} {n : Int32} {vs : List Value} {dv : Value} (F : Arv Z h a ka ty n vs dv) (hd : decode c.code pc = .ok (.arraylength, 1)) (k : Go p.tables e below E (T.setTop (mkF m pc' Ls (.int n :: st)))) : Go p.tables e below E (T.setTop (mkF m pc Ls (.ref a :: st))) := by
  subst hpc
  obtain ⟨cl, A, -, S, M, -⟩ := F
  rw [← len_of S M] at k
  exact Go.via (fun _ q => X.arraylength hx (by rw [eT]; exact A.1) (State.isArrayOf_alike hZ.alike A.2.1) (g := mkF m pc Ls (.ref a :: st)) rfl rfl hd _ q) k
theorem o_baloadB (pc' : Nat) (X : Stand p l e R s m args below meth c T locs cells slots) (hx : p.tables.exec = Jvm.exec) (hpc : pc + 1 = pc') (hZ : Z.Warmed39 s.vm) (eT : T.heap = h) {a : Addr} {ka : ClassId} {n j : Int32} {vs : List Value} {dv : Value} (F : Arv Z h a ka .byte n vs dv) (hj : ¬ j < 0 ∧ j < n) (v : Value) (hv : vs.getD j.toNatClampNeg dv = v) (hd : decode c.code pc = .ok (.baload, 1)) (k : Go p.tables e below E (T.setTop (mkF m pc' Ls (v :: st)))) : Go p.tables e below E (T.setTop (mkF m pc Ls (.int j :: .ref a :: st))) := by
  subst hpc
  obtain ⟨cl, A, -, S, M, H, -⟩ := F
  have hin := inb_of S hj
  exact Go.via (fun _ q => X.baloadBytes hx (j := j) (v := v) (by rw [eT]; exact A.1) (State.isArrayOf_alike hZ.alike A.2.1) A.2.2 hin (H.at hin hv) (g := mkF m pc Ls (.int j :: .ref a :: st)) rfl rfl hd _ q) k
theorem o_baloadZ (pc' : Nat) (X : Stand p l e R s m args below meth c T locs cells slots) (hx : p.tables.exec = Jvm.exec) (hpc : pc + 1 = pc') (hZ : Z.Warmed39 s.vm) (eT : T.heap = h) {a : Addr} {ka : ClassId} {n j : Int32} {vs : List Value} {dv : Value} (F : Arv Z h a ka .boolean n vs dv) (hj : ¬ j < 0 ∧ j < n) (v : Value) (hv : vs.getD j.toNatClampNeg dv = v) (hd : decode c.code pc = .ok (.baload, 1)) (k : Go p.tables e below E (T.setTop (mkF m pc' Ls (v :: st)))) : Go p.tables e below E (T.setTop (mkF m pc Ls (.int j :: .ref a :: st))) := by
  subst hpc
  obtain ⟨cl, A, -, S, M, H, -⟩ := F
  have hin := inb_of S hj
  exact Go.via (fun _ q => X.baloadBooleans hx (j := j) (v := v) (by rw [eT]; exact A.1) (State.isArrayOf_alike hZ.alike A.2.1) A.2.2 hin (H.at hin hv) (g := mkF m pc Ls (.int j :: .ref a :: st)) rfl rfl hd _ q) k
theorem o_bastoreB (pc' : Nat) (X : Stand p l e R s m args below meth c T locs cells slots) (hx : p.tables.exec = Jvm.exec) (hpc : pc + 1 = pc') (hZ : Z.Warmed39 s.vm) (eT : T.heap = h) {a : Addr} {ka : ClassId} {n j : Int32} {x : Int32} {vs : List Value} {dv : Value} (F : Arv Z h a ka .byte n vs dv) (hj : ¬ j < 0 ∧ j < n) (i : Nat) (hi : j.toNatClampNeg = i) (hlt : i < vs.length) (vs' : List Value) (hvs : vs.set i (.int (nar .byte x)) = vs') {n0 : Nat} (N : Fr n0 locs) (ga : n0 ≤ a) (hd : decode c.code pc = .ok (.bastore, 1))
    (k : ∀ (T' : State) (h' : Heap) (L' : List Loc), Stand p l e R s m args below meth c T' L' cells slots → Fr n0 L' → T'.heap = h' → Wr h h' a j.toNatClampNeg (.int (nar .byte x)) → Arv Z h' a ka .byte n vs' dv → Go p.tables e below E (T'.setTop (mkF m pc' Ls st))) : Go p.tables e below E (T.setTop (mkF m pc Ls (.int x :: .int j :: .ref a :: st))) := by
  subst hpc; subst hvs
  obtain ⟨cl, A, q1, S, M, H, G⟩ := F
  have hin := inb_of S hj
  obtain ⟨T', h', X', e', W', st'⟩ := stB X hx hZ eT A hin (g := mkF m pc Ls (.int x :: .int j :: .ref a :: st)) rfl rfl hd
  exact Go.via st' (k T' h' _ X' (Fr.snoc X' N ga) e' W' (Arv.set A q1 S M H G (fits_nar_byte x) W' i hi hlt))
theorem o_bastoreZ (pc' : Nat) (X : Stand p l e R s m args below meth c T locs cells slots) (hx : p.tables.exec = Jvm.exec) (hpc : pc + 1 = pc') (hZ : Z.Warmed39 s.vm) (eT : T.heap = h) {a : Addr} {ka : ClassId} {n j : Int32} {x : Int32} {vs : List Value} {dv : Value} (F : Arv Z h a ka .boolean n vs dv) (hj : ¬ j < 0 ∧ j < n) (i : Nat) (hi : j.toNatClampNeg = i) (hlt : i < vs.length) (vs' : List Value) (hvs : vs.set i (.int (nar .boolean x)) = vs') {n0 : Nat} (N : Fr n0 locs) (ga : n0 ≤ a) (hd : decode c.code pc = .ok (.bastore, 1))
    (k : ∀ (T' : State) (h' : Heap) (L' : List Loc), Stand p l e R s m args below meth c T' L' cells slots → Fr n0 L' → T'.heap = h' → Wr h h' a j.toNatClampNeg (.int (nar .boolean x)) → Arv Z h' a ka .boolean n vs' dv → Go p.tables e below E (T'.setTop (mkF m pc' Ls st))) : Go p.tables e below E (T.setTop (mkF m pc Ls (.int x :: .int j :: .ref a :: st))) := by
  subst hpc; subst hvs
  obtain ⟨cl, A, q1, S, M, H, G⟩ := F
  have hin := inb_of S hj
  obtain ⟨T', h', X', e', W', st'⟩ := stZ X hx hZ eT A hin (g := mkF m pc Ls (.int x :: .int j :: .ref a :: st)) rfl rfl hd
  exact Go.via st' (k T' h' _ X' (Fr.snoc X' N ga) e' W' (Arv.set A q1 S M H G (fits_nar_bool x) W' i hi hlt))
theorem own_getI (xs : List Int32) (i : Nat) : (xs.map Value.int).getD i (.int 0) = .int (xs.getD i 0) := by
  simp only [List.getD_eq_getElem?_getD, List.getElem?_map]; cases xs[i]? <;> rfl
theorem o_baloadBX (pc' : Nat) (X : Stand p l e R s m args below meth c T locs cells slots) (hx : p.tables.exec = Jvm.exec) (hpc : pc + 1 = pc') (hZ : Z.Warmed39 s.vm) (eT : T.heap = h) {a : Addr} {ka : ClassId} {n j : Int32} {xs : List Int32} (F : Arv Z h a ka .byte n (xs.map Value.int) (.int 0)) (hj : ¬ j < 0 ∧ j < n) (hd : decode c.code pc = .ok (.baload, 1)) (v : Int32) (hv : xs.getD j.toNatClampNeg 0 = v) (k : Go p.tables e below E (T.setTop (mkF m pc' Ls (.int v :: st)))) : Go p.tables e below E (T.setTop (mkF m pc Ls (.int j :: .ref a :: st))) := by
  subst hv; exact o_baloadB pc' X hx hpc hZ eT F hj _ (own_getI xs _) hd k
theorem o_baloadZX (pc' : Nat) (X : Stand p l e R s m args below meth c T locs cells slots) (hx : p.tables.exec = Jvm.exec) (hpc : pc + 1 = pc') (hZ : Z.Warmed39 s.vm) (eT : T.heap = h) {a : Addr} {ka : ClassId} {n j : Int32} {xs : List Int32} (F : Arv Z h a ka .boolean n (xs.map Value.int) (.int 0)) (hj : ¬ j < 0 ∧ j < n) (hd : decode c.code pc = .ok (.baload, 1)) (v : Int32) (hv : xs.getD j.toNatClampNeg 0 = v) (k : Go p.tables e below E (T.setTop (mkF m pc' Ls (.int v :: st)))) : Go p.tables e below E (T.setTop (mkF m pc Ls (.int j :: .ref a :: st))) := by
  subst hv; exact o_baloadZ pc' X hx hpc hZ eT F hj _ (own_getI xs _) hd k
theorem o_bastoreBX (pc' : Nat) (X : Stand p l e R s m args below meth c T locs cells slots) (hx : p.tables.exec = Jvm.exec) (hpc : pc + 1 = pc') (hZ : Z.Warmed39 s.vm) (eT : T.heap = h) {a : Addr} {ka : ClassId} {n j : Int32} {x : Int32} {xs : List Int32} (F : Arv Z h a ka .byte n (xs.map Value.int) (.int 0)) (hj : ¬ j < 0 ∧ j < n) (hlt : j.toNatClampNeg < xs.length) (xs' : List Int32) (hxs : xs.set j.toNatClampNeg (nar .byte x) = xs') {n0 : Nat} (N : Fr n0 locs) (ga : n0 ≤ a) (hd : decode c.code pc = .ok (.bastore, 1))
    (k : ∀ (T' : State) (h' : Heap) (L' : List Loc), Stand p l e R s m args below meth c T' L' cells slots → Fr n0 L' → T'.heap = h' → Wr h h' a j.toNatClampNeg (.int (nar .byte x)) → Arv Z h' a ka .byte n (xs'.map Value.int) (.int 0) → Go p.tables e below E (T'.setTop (mkF m pc' Ls st))) : Go p.tables e below E (T.setTop (mkF m pc Ls (.int x :: .int j :: .ref a :: st))) := by
  subst hxs
  exact o_bastoreB pc' X hx hpc hZ eT F hj _ rfl (by rw [List.length_map]; exact hlt) _ (List.map_set.symm) N ga hd k
theorem o_bastoreZX (pc' : Nat) (X : Stand p l e R s m args below meth c T locs cells slots) (hx : p.tables.exec = Jvm.exec) (hpc : pc + 1 = pc') (hZ : Z.Warmed39 s.vm) (eT : T.heap = h) {a : Addr} {ka : ClassId} {n j : Int32} {x : Int32} {xs : List Int32} (F : Arv Z h a ka .boolean n (xs.map Value.int) (.int 0)) (hj : ¬ j < 0 ∧ j < n) (hlt : j.toNatClampNeg < xs.length) (xs' : List Int32) (hxs : xs.set j.toNatClampNeg (nar .boolean x) = xs') {n0 : Nat} (N : Fr n0 locs) (ga : n0 ≤ a) (hd : decode c.code pc = .ok (.bastore, 1))
    (k : ∀ (T' : State) (h' : Heap) (L' : List Loc), Stand p l e R s m args below meth c T' L' cells slots → Fr n0 L' → T'.heap = h' → Wr h h' a j.toNatClampNeg (.int (nar .boolean x)) → Arv Z h' a ka .boolean n (xs'.map Value.int) (.int 0) → Go p.tables e below E (T'.setTop (mkF m pc' Ls st))) : Go p.tables e below E (T.setTop (mkF m pc Ls (.int x :: .int j :: .ref a :: st))) := by
  subst hxs
  exact o_bastoreZ pc' X hx hpc hZ eT F hj _ rfl (by rw [List.length_map]; exact hlt) _ (List.map_set.symm) N ga hd k
theorem o_newarrI (pc' : Nat) (X : Stand p l e R s m args below meth c T locs cells slots) (hx : p.tables.exec = Jvm.exec) (hpc : pc + 2 = pc') (hZ : Z.Warmed39 s.vm) (aty : ArrayType) (ty : FieldType) (hty : newarray.typeOf aty = ty) (hdf : defaultValue ty = .int 0) (w : (Jvm.Cond.arrayClass ty).before a0 Z = true) (eT : T.heap = h) {n : Int32} (hd : decode c.code pc = .ok (.newarray aty, 2)) (hn : ¬ n < 0) (cap : Nat) (hcap : n.toNatClampNeg ≤ cap) (hb : cap * 8 ≤ 536870912) (hc : cells + 1 ≤ R.cells) (hl : slots + cap ≤ R.slots) (xs : List Int32) (hxs : List.replicate n.toNatClampNeg 0 = xs)
    (k : ∀ (T' : State) (h' : Heap) (a : Addr) (cA : ClassId), a = h.size → Stand p l e R s m args below meth c T' locs (cells + 1) (slots + cap) → T'.heap = h' → Ext h h' → Arv Z h' a cA ty n (xs.map Value.int) (.int 0) → Go p.tables e below E (T'.setTop (mkF m pc' Ls (.ref a :: st)))) : Go p.tables e below E (T.setTop (mkF m pc Ls (.int n :: st))) := by
  subst hxs
  refine o_newarr pc' X hx hpc hZ aty ty hty w eT hd hn cap hcap hb hc hl ?_
  intro T' h' a cA g X' e' E' A'
  rw [hdf] at A'
  refine k T' h' a cA g X' e' E' ?_
  rw [List.map_replicate]
  exact A'.pad (pad_rep [] _ _)
theorem o_callVP (pc' : Nat) (X : Stand p l e R s m args below meth c T locs cells slots) (hx : p.tables.exec = Jvm.exec) (hpc : pc + 3 = pc') (hZ : Z.Warmed39 s.vm) {own C : String} {index : Nat} {y : MethodName} {bytes : ByteArray} {maxL : Nat} {ret : Option FieldType} {rm : Room} {as' : Array Value} {rv : Value} (hown : s.vm.findClass own = some m.cls) (w1 : (Jvm.Cond.methodLink own index y).before a0 Z = true) (w2 : (Jvm.Cond.declares y).before a0 Z = true) (wsel : (Jvm.Cond.selects C y y).before a0 Z = true) (w5 : (Jvm.Cond.instanceMethod y).before a0 Z = true) (w3 : (Jvm.Cond.initialized y.cls).before a0 Z = true) (w4 : (Jvm.Cond.code y bytes maxL ret).before a0 Z = true) (hy : y.cls ≠ "java/lang/invoke/MethodHandle" ∧ y.cls ≠ "java/lang/invoke/VarHandle") (eT : T.heap = h)
    (hM : MetP l y bytes maxL ret [] rm Z as' h (Pure rv h)) {ps : List FieldType} {r : Option FieldType} (hdsc : parseMethodDescriptor y.desc = some ⟨ps, r⟩) (argsL rest : List Value) (hlen : argsL.length = ps.length) {a : Addr} (X2 : Exa Z h a C) (has : (.ref a :: argsL).toArray = as') (hsize : Ls.size = c.maxLocals) (hst : st = argsL.reverse ++ .ref a :: rest) (hd : decode c.code pc = .ok (.invokevirtual index, 3)) (W : Nat) (hW : (rest.map fun v => v.category).sum ≤ W) (hf : rm.frames + 1 ≤ R.frames) (hlo : W + (maxL + 11) + rm.locals ≤ R.locals) (hc : cells + rm.cells ≤ R.cells) (hsl : slots + rm.slots ≤ R.slots) (hc0 : rm.cells = 0) (hs0 : rm.slots = 0)
    (k : ∀ (T' : State), Stand p l e R s m args below meth c T' locs cells slots → T'.heap = h → Go p.tables e below E (T'.setTop (mkF m pc' Ls (rv :: rest)))) : Go p.tables e below E (T.setTop (mkF m pc Ls st)) := by
  refine o_callV pc' X hx hpc hZ hown w1 w2 wsel w5 w3 w4 hy eT hM hdsc argsL rest hlen X2 has hsize hst hd W hW hf hlo hc hsl ?_
  intro v T' L X' hQ
  obtain ⟨rfl, rfl, e'⟩ := hQ
  rw [hc0, hs0, List.append_nil] at X'
  exact k T' X' e' 
theorem o_callSw (pc' : Nat) (X : Stand p l e R s m args below meth c T locs cells slots) (hx : p.tables.exec = Jvm.exec) (hpc : pc + 3 = pc') (hZ : Z.Warmed39 s.vm) {own : String} {index : Nat} {y : MethodName} {bytes : ByteArray} {maxL : Nat} {ret : Option FieldType} {rm : Room} {as' : Array Value} {Q : Option Value → Heap → List Loc → Prop} (hown : s.vm.findClass own = some m.cls) (w1 : (Jvm.Cond.methodLink own index y).before a0 Z = true) (w2 : (Jvm.Cond.static y).before a0 Z = true) (w3 : (Jvm.Cond.initialized y.cls).before a0 Z = true) (w4 : (Jvm.Cond.code y bytes maxL ret).before a0 Z = true) (hy : y.cls ≠ "java/lang/invoke/MethodHandle" ∧ y.cls ≠ "java/lang/invoke/VarHandle") (eT : T.heap = h) {n0 : Nat} (N : Fr n0 locs)
    (hM : MetP l y bytes maxL ret [] rm Z as' h Q) {ps : List FieldType} {r : Option FieldType} (hdsc : parseMethodDescriptor y.desc = some ⟨ps, r⟩) (argsL rest : List Value) (hlen : argsL.length = ps.length) (has : argsL.toArray = as') (hsize : Ls.size = c.maxLocals) (hst : st = argsL.reverse ++ rest) (hd : decode c.code pc = .ok (.invokestatic index, 3)) (W : Nat) (hW : (rest.map fun v => v.category).sum ≤ W) (hf : rm.frames + 1 ≤ R.frames) (hlo : W + (maxL + 11) + rm.locals ≤ R.locals) (hc : cells + rm.cells ≤ R.cells) (hsl : slots + rm.slots ≤ R.slots)
    (k : ∀ (v : Option Value) (T' : State) (L L' : List Loc), Stand p l e R s m args below meth c T' L' (cells + rm.cells) (slots + rm.slots) → Q v T'.heap L → (Fr n0 L → Fr n0 L') → Go p.tables e below E (T'.setTop (mkF m pc' Ls (v.toList ++ rest)))) : Go p.tables e below E (T.setTop (mkF m pc Ls st)) :=
  o_callS pc' X hx hpc hZ hown w1 w2 w3 w4 hy eT hM hdsc argsL rest hlen has hsize hst hd W hW hf hlo hc hsl (fun v T' L X' hQ => k v T' L _ X' hQ (fun M => Fr.app N M))
theorem o_callIw (pc' : Nat) (X : Stand p l e R s m args below meth c T locs cells slots) (hx : p.tables.exec = Jvm.exec) (hpc : pc + 3 = pc') (hZ : Z.Warmed39 s.vm) {own : String} {index : Nat} {y : MethodName} {bytes : ByteArray} {maxL : Nat} {rm : Room} {as' : Array Value} {Q : Option Value → Heap → List Loc → Prop} (hy1 : y.name = "<init>") (hown : s.vm.findClass own = some m.cls) (w1 : (Jvm.Cond.methodLink own index y).before a0 Z = true) (w2 : (Jvm.Cond.instanceMethod y).before a0 Z = true) (w3 : (Jvm.Cond.initialized y.cls).before a0 Z = true) (w4 : (Jvm.Cond.code y bytes maxL none).before a0 Z = true) (hy : y.cls ≠ "java/lang/invoke/MethodHandle" ∧ y.cls ≠ "java/lang/invoke/VarHandle") (eT : T.heap = h) {n0 : Nat} (N : Fr n0 locs)
    (hM : MetP l y bytes maxL none [] rm Z as' h Q) {ps : List FieldType} {r : Option FieldType} (hdsc : parseMethodDescriptor y.desc = some ⟨ps, r⟩) (a : Addr) (argsL rest : List Value) (hlen : argsL.length = ps.length) (has : (.ref a :: argsL).toArray = as') (hsize : Ls.size = c.maxLocals) (hst : st = argsL.reverse ++ .ref a :: rest) (hd : decode c.code pc = .ok (.invokespecial index, 3)) (W : Nat) (hW : (rest.map fun v => v.category).sum ≤ W) (hf : rm.frames + 1 ≤ R.frames) (hlo : W + (maxL + 11) + rm.locals ≤ R.locals) (hc : cells + rm.cells ≤ R.cells) (hsl : slots + rm.slots ≤ R.slots)
    (k : ∀ (v : Option Value) (T' : State) (L L' : List Loc), Stand p l e R s m args below meth c T' L' (cells + rm.cells) (slots + rm.slots) → Q v T'.heap L → (Fr n0 L → Fr n0 L') → Go p.tables e below E (T'.setTop (mkF m pc' Ls (v.toList ++ rest)))) : Go p.tables e below E (T.setTop (mkF m pc Ls st)) :=
  o_callI pc' X hx hpc hZ hy1 hown w1 w2 w3 w4 hy eT hM hdsc a argsL rest hlen has hsize hst hd W hW hf hlo hc hsl (fun v T' L X' hQ => k v T' L _ X' hQ (fun M => Fr.app N M))
end OwnKit
theorem l_tlt {x y : Int64} (h : x < y) : lcmpW x y < 0 := (lw_lt x y).mpr h
theorem l_flt {x y : Int64} (h : ¬ x < y) : ¬ lcmpW x y < 0 := fun q => h ((lw_lt x y).mp q)
theorem l_tgt {x y : Int64} (h : y < x) : 0 < lcmpW x y := (lw_gt x y).mpr h
theorem l_fgt {x y : Int64} (h : ¬ y < x) : ¬ 0 < lcmpW x y := fun q => h ((lw_gt x y).mp q)
theorem l_teq {x y : Int64} (h : x = y) : lcmpW x y = 0 := (lw_eq x y).mpr h
theorem l_feq {x y : Int64} (h : ¬ x = y) : ¬ lcmpW x y = 0 := fun q => h ((lw_eq x y).mp q)
theorem wd_0 {Z : State} {a0 : Array Value} (hw : ∀ d ∈ tables_1, d.before a0 Z = true) : (Jvm.Cond.constant "com/example/whittle/whittle/model/BitsOfPinLaw" (7 : Nat) (2147483647 : Int32)).before a0 Z = true := hw _ (List.mem_of_getElem? (i := 0) rfl)
theorem wd_1 {Z : State} {a0 : Array Value} (hw : ∀ d ∈ tables_1, d.before a0 Z = true) : (Jvm.Cond.arrayClass Jvm.ClassFile.FieldType.boolean).before a0 Z = true := hw _ (List.mem_of_getElem? (i := 1) rfl)
theorem wd_2 {Z : State} {a0 : Array Value} (hw : ∀ d ∈ tables_1, d.before a0 Z = true) : (Jvm.Cond.methodLink "com/example/whittle/whittle/model/BitsOfPinLaw" (8 : Nat) ({ cls := "com/example/whittle/whittle/model/Bits", name := "of", desc := "([Z)Lcom/example/whittle/whittle/model/Bits;" } : Jvm.MethodName)).before a0 Z = true := hw _ (List.mem_of_getElem? (i := 2) rfl)
theorem wd_3 {Z : State} {a0 : Array Value} (hw : ∀ d ∈ tables_1, d.before a0 Z = true) : (Jvm.Cond.static ({ cls := "com/example/whittle/whittle/model/Bits", name := "of", desc := "([Z)Lcom/example/whittle/whittle/model/Bits;" } : Jvm.MethodName)).before a0 Z = true := hw _ (List.mem_of_getElem? (i := 3) rfl)
theorem wd_4 {Z : State} {a0 : Array Value} (hw : ∀ d ∈ tables_1, d.before a0 Z = true) : (Jvm.Cond.initialized "com/example/whittle/whittle/model/Bits").before a0 Z = true := hw _ (List.mem_of_getElem? (i := 4) rfl)
theorem wd_5 {Z : State} {a0 : Array Value} (hw : ∀ d ∈ tables_1, d.before a0 Z = true) : (Jvm.Cond.code ({ cls := "com/example/whittle/whittle/model/Bits", name := "of", desc := "([Z)Lcom/example/whittle/whittle/model/Bits;" } : Jvm.MethodName) prog_32_method_5_code (3 : Nat) (Option.some (Jvm.ClassFile.FieldType.object "com/example/whittle/whittle/model/Bits"))).before a0 Z = true := hw _ (List.mem_of_getElem? (i := 5) rfl)
theorem wd_6 {Z : State} {a0 : Array Value} (hw : ∀ d ∈ tables_1, d.before a0 Z = true) : (Jvm.Cond.arrayClass Jvm.ClassFile.FieldType.byte).before a0 Z = true := hw _ (List.mem_of_getElem? (i := 6) rfl)
theorem wd_7 {Z : State} {a0 : Array Value} (hw : ∀ d ∈ tables_1, d.before a0 Z = true) : (Jvm.Cond.classLink "com/example/whittle/whittle/model/Bits" (8 : Nat) "com/example/whittle/whittle/model/Bits").before a0 Z = true := hw _ (List.mem_of_getElem? (i := 7) rfl)
theorem wd_8 {Z : State} {a0 : Array Value} (hw : ∀ d ∈ tables_1, d.before a0 Z = true) : (Jvm.Cond.instantiable "com/example/whittle/whittle/model/Bits" (1 : Nat)).before a0 Z = true := hw _ (List.mem_of_getElem? (i := 8) rfl)
theorem wd_9 {Z : State} {a0 : Array Value} (hw : ∀ d ∈ tables_1, d.before a0 Z = true) : (Jvm.Cond.methodLink "com/example/whittle/whittle/model/Bits" (40 : Nat) ({ cls := "com/example/whittle/whittle/model/Bits", name := "<init>", desc := "([B)V" } : Jvm.MethodName)).before a0 Z = true := hw _ (List.mem_of_getElem? (i := 9) rfl)
theorem wd_10 {Z : State} {a0 : Array Value} (hw : ∀ d ∈ tables_1, d.before a0 Z = true) : (Jvm.Cond.instanceMethod ({ cls := "com/example/whittle/whittle/model/Bits", name := "<init>", desc := "([B)V" } : Jvm.MethodName)).before a0 Z = true := hw _ (List.mem_of_getElem? (i := 10) rfl)
theorem wd_11 {Z : State} {a0 : Array Value} (hw : ∀ d ∈ tables_1, d.before a0 Z = true) : (Jvm.Cond.code ({ cls := "com/example/whittle/whittle/model/Bits", name := "<init>", desc := "([B)V" } : Jvm.MethodName) prog_32_method_1_code (2 : Nat) (Option.none : Option Jvm.ClassFile.FieldType)).before a0 Z = true := hw _ (List.mem_of_getElem? (i := 11) rfl)
theorem wd_12 {Z : State} {a0 : Array Value} (hw : ∀ d ∈ tables_1, d.before a0 Z = true) : (Jvm.Cond.methodLink "com/example/whittle/whittle/model/Bits" (1 : Nat) ({ cls := "java/lang/Object", name := "<init>", desc := "()V" } : Jvm.MethodName)).before a0 Z = true := hw _ (List.mem_of_getElem? (i := 12) rfl)
theorem wd_13 {Z : State} {a0 : Array Value} (hw : ∀ d ∈ tables_1, d.before a0 Z = true) : (Jvm.Cond.instanceMethod ({ cls := "java/lang/Object", name := "<init>", desc := "()V" } : Jvm.MethodName)).before a0 Z = true := hw _ (List.mem_of_getElem? (i := 13) rfl)
theorem wd_14 {Z : State} {a0 : Array Value} (hw : ∀ d ∈ tables_1, d.before a0 Z = true) : (Jvm.Cond.code ({ cls := "java/lang/Object", name := "<init>", desc := "()V" } : Jvm.MethodName) object_method_1_code (1 : Nat) (Option.none : Option Jvm.ClassFile.FieldType)).before a0 Z = true := hw _ (List.mem_of_getElem? (i := 14) rfl)
theorem wd_15 {Z : State} {a0 : Array Value} (hw : ∀ d ∈ tables_1, d.before a0 Z = true) : (Jvm.Cond.fieldLink "com/example/whittle/whittle/model/Bits" (7 : Nat) "com/example/whittle/whittle/model/Bits" "values" "[B").before a0 Z = true := hw _ (List.mem_of_getElem? (i := 15) rfl)
theorem wd_16 {Z : State} {a0 : Array Value} (hw : ∀ d ∈ tables_1, d.before a0 Z = true) : (Jvm.Cond.laysFinal "com/example/whittle/whittle/model/Bits" "com/example/whittle/whittle/model/Bits" "values" "[B").before a0 Z = true := hw _ (List.mem_of_getElem? (i := 16) rfl)
theorem wd_17 {Z : State} {a0 : Array Value} (hw : ∀ d ∈ tables_1, d.before a0 Z = true) : (Jvm.Cond.methodLink "com/example/whittle/whittle/model/BitsOfPinLaw" (14 : Nat) ({ cls := "com/example/whittle/whittle/model/Bits", name := "length", desc := "()I" } : Jvm.MethodName)).before a0 Z = true := hw _ (List.mem_of_getElem? (i := 17) rfl)
theorem wd_18 {Z : State} {a0 : Array Value} (hw : ∀ d ∈ tables_1, d.before a0 Z = true) : (Jvm.Cond.declares ({ cls := "com/example/whittle/whittle/model/Bits", name := "length", desc := "()I" } : Jvm.MethodName)).before a0 Z = true := hw _ (List.mem_of_getElem? (i := 18) rfl)
theorem wd_19 {Z : State} {a0 : Array Value} (hw : ∀ d ∈ tables_1, d.before a0 Z = true) : (Jvm.Cond.instanceMethod ({ cls := "com/example/whittle/whittle/model/Bits", name := "length", desc := "()I" } : Jvm.MethodName)).before a0 Z = true := hw _ (List.mem_of_getElem? (i := 19) rfl)
theorem wd_20 {Z : State} {a0 : Array Value} (hw : ∀ d ∈ tables_1, d.before a0 Z = true) : (Jvm.Cond.selects "com/example/whittle/whittle/model/Bits" ({ cls := "com/example/whittle/whittle/model/Bits", name := "length", desc := "()I" } : Jvm.MethodName) ({ cls := "com/example/whittle/whittle/model/Bits", name := "length", desc := "()I" } : Jvm.MethodName)).before a0 Z = true := hw _ (List.mem_of_getElem? (i := 20) rfl)
theorem wd_21 {Z : State} {a0 : Array Value} (hw : ∀ d ∈ tables_1, d.before a0 Z = true) : (Jvm.Cond.code ({ cls := "com/example/whittle/whittle/model/Bits", name := "length", desc := "()I" } : Jvm.MethodName) prog_32_method_7_code (1 : Nat) (Option.some Jvm.ClassFile.FieldType.int)).before a0 Z = true := hw _ (List.mem_of_getElem? (i := 21) rfl)
theorem wd_22 {Z : State} {a0 : Array Value} (hw : ∀ d ∈ tables_1, d.before a0 Z = true) : (Jvm.Cond.methodLink "com/example/whittle/whittle/model/BitsOfPinLaw" (18 : Nat) ({ cls := "com/example/whittle/whittle/model/BitsOfPinLaw", name := "at", desc := "(Lcom/example/whittle/whittle/model/Bits;IIZ)Z" } : Jvm.MethodName)).before a0 Z = true := hw _ (List.mem_of_getElem? (i := 22) rfl)
theorem wd_23 {Z : State} {a0 : Array Value} (hw : ∀ d ∈ tables_1, d.before a0 Z = true) : (Jvm.Cond.static ({ cls := "com/example/whittle/whittle/model/BitsOfPinLaw", name := "at", desc := "(Lcom/example/whittle/whittle/model/Bits;IIZ)Z" } : Jvm.MethodName)).before a0 Z = true := hw _ (List.mem_of_getElem? (i := 23) rfl)
theorem wd_24 {Z : State} {a0 : Array Value} (hw : ∀ d ∈ tables_1, d.before a0 Z = true) : (Jvm.Cond.initialized "com/example/whittle/whittle/model/BitsOfPinLaw").before a0 Z = true := hw _ (List.mem_of_getElem? (i := 24) rfl)
theorem wd_25 {Z : State} {a0 : Array Value} (hw : ∀ d ∈ tables_1, d.before a0 Z = true) : (Jvm.Cond.code ({ cls := "com/example/whittle/whittle/model/BitsOfPinLaw", name := "at", desc := "(Lcom/example/whittle/whittle/model/Bits;IIZ)Z" } : Jvm.MethodName) method_3_code (4 : Nat) (Option.some Jvm.ClassFile.FieldType.boolean)).before a0 Z = true := hw _ (List.mem_of_getElem? (i := 25) rfl)
theorem wd_26 {Z : State} {a0 : Array Value} (hw : ∀ d ∈ tables_1, d.before a0 Z = true) : (Jvm.Cond.methodLink "com/example/whittle/whittle/model/BitsOfPinLaw" (24 : Nat) ({ cls := "com/example/whittle/whittle/model/Bits", name := "isKnown", desc := "(I)Z" } : Jvm.MethodName)).before a0 Z = true := hw _ (List.mem_of_getElem? (i := 26) rfl)
theorem wd_27 {Z : State} {a0 : Array Value} (hw : ∀ d ∈ tables_1, d.before a0 Z = true) : (Jvm.Cond.declares ({ cls := "com/example/whittle/whittle/model/Bits", name := "isKnown", desc := "(I)Z" } : Jvm.MethodName)).before a0 Z = true := hw _ (List.mem_of_getElem? (i := 27) rfl)
theorem wd_28 {Z : State} {a0 : Array Value} (hw : ∀ d ∈ tables_1, d.before a0 Z = true) : (Jvm.Cond.instanceMethod ({ cls := "com/example/whittle/whittle/model/Bits", name := "isKnown", desc := "(I)Z" } : Jvm.MethodName)).before a0 Z = true := hw _ (List.mem_of_getElem? (i := 28) rfl)
theorem wd_29 {Z : State} {a0 : Array Value} (hw : ∀ d ∈ tables_1, d.before a0 Z = true) : (Jvm.Cond.selects "com/example/whittle/whittle/model/Bits" ({ cls := "com/example/whittle/whittle/model/Bits", name := "isKnown", desc := "(I)Z" } : Jvm.MethodName) ({ cls := "com/example/whittle/whittle/model/Bits", name := "isKnown", desc := "(I)Z" } : Jvm.MethodName)).before a0 Z = true := hw _ (List.mem_of_getElem? (i := 29) rfl)
theorem wd_30 {Z : State} {a0 : Array Value} (hw : ∀ d ∈ tables_1, d.before a0 Z = true) : (Jvm.Cond.code ({ cls := "com/example/whittle/whittle/model/Bits", name := "isKnown", desc := "(I)Z" } : Jvm.MethodName) prog_32_method_8_code (2 : Nat) (Option.some Jvm.ClassFile.FieldType.boolean)).before a0 Z = true := hw _ (List.mem_of_getElem? (i := 30) rfl)
theorem wd_31 {Z : State} {a0 : Array Value} (hw : ∀ d ∈ tables_1, d.before a0 Z = true) : (Jvm.Cond.methodLink "com/example/whittle/whittle/model/BitsOfPinLaw" (28 : Nat) ({ cls := "com/example/whittle/whittle/model/Bits", name := "get", desc := "(I)Z" } : Jvm.MethodName)).before a0 Z = true := hw _ (List.mem_of_getElem? (i := 31) rfl)
theorem wd_32 {Z : State} {a0 : Array Value} (hw : ∀ d ∈ tables_1, d.before a0 Z = true) : (Jvm.Cond.declares ({ cls := "com/example/whittle/whittle/model/Bits", name := "get", desc := "(I)Z" } : Jvm.MethodName)).before a0 Z = true := hw _ (List.mem_of_getElem? (i := 32) rfl)
theorem wd_33 {Z : State} {a0 : Array Value} (hw : ∀ d ∈ tables_1, d.before a0 Z = true) : (Jvm.Cond.instanceMethod ({ cls := "com/example/whittle/whittle/model/Bits", name := "get", desc := "(I)Z" } : Jvm.MethodName)).before a0 Z = true := hw _ (List.mem_of_getElem? (i := 33) rfl)
theorem wd_34 {Z : State} {a0 : Array Value} (hw : ∀ d ∈ tables_1, d.before a0 Z = true) : (Jvm.Cond.selects "com/example/whittle/whittle/model/Bits" ({ cls := "com/example/whittle/whittle/model/Bits", name := "get", desc := "(I)Z" } : Jvm.MethodName) ({ cls := "com/example/whittle/whittle/model/Bits", name := "get", desc := "(I)Z" } : Jvm.MethodName)).before a0 Z = true := hw _ (List.mem_of_getElem? (i := 34) rfl)
theorem wd_35 {Z : State} {a0 : Array Value} (hw : ∀ d ∈ tables_1, d.before a0 Z = true) : (Jvm.Cond.code ({ cls := "com/example/whittle/whittle/model/Bits", name := "get", desc := "(I)Z" } : Jvm.MethodName) prog_32_method_9_code (2 : Nat) (Option.some Jvm.ClassFile.FieldType.boolean)).before a0 Z = true := hw _ (List.mem_of_getElem? (i := 35) rfl)
theorem wd_36 {Z : State} {a0 : Array Value} (hw : ∀ d ∈ tables_1, d.before a0 Z = true) : (Jvm.Cond.methodLink "com/example/whittle/whittle/model/Bits" (47 : Nat) ({ cls := "com/example/whittle/whittle/model/Bits", name := "isKnown", desc := "(I)Z" } : Jvm.MethodName)).before a0 Z = true := hw _ (List.mem_of_getElem? (i := 36) rfl)
theorem d1_0 : decode prog_32_method_5_code 0 = .ok (.aload_n 0, 1) := by decide +kernel
theorem d1_1 : decode prog_32_method_5_code 1 = .ok (.arraylength, 1) := by decide +kernel
theorem d1_10 : decode prog_32_method_5_code 10 = .ok (.if_icmp .ge 24, 3) := by decide +kernel
theorem d1_13 : decode prog_32_method_5_code 13 = .ok (.aload_n 1, 1) := by decide +kernel
theorem d1_14 : decode prog_32_method_5_code 14 = .ok (.iload_n 2, 1) := by decide +kernel
theorem d1_15 : decode prog_32_method_5_code 15 = .ok (.aload_n 0, 1) := by decide +kernel
theorem d1_16 : decode prog_32_method_5_code 16 = .ok (.iload_n 2, 1) := by decide +kernel
theorem d1_17 : decode prog_32_method_5_code 17 = .ok (.baload, 1) := by decide +kernel
theorem d1_18 : decode prog_32_method_5_code 18 = .ok (.ifCond .eq 7, 3) := by decide +kernel
theorem d1_2 : decode prog_32_method_5_code 2 = .ok (.newarray .byte, 2) := by decide +kernel
theorem d1_21 : decode prog_32_method_5_code 21 = .ok (.iconst 1, 1) := by decide +kernel
theorem d1_22 : decode prog_32_method_5_code 22 = .ok (.goto 4, 3) := by decide +kernel
theorem d1_25 : decode prog_32_method_5_code 25 = .ok (.iconst 0, 1) := by decide +kernel
theorem d1_26 : decode prog_32_method_5_code 26 = .ok (.i2b, 1) := by decide +kernel
theorem d1_27 : decode prog_32_method_5_code 27 = .ok (.bastore, 1) := by decide +kernel
theorem d1_28 : decode prog_32_method_5_code 28 = .ok (.iinc 2 1, 3) := by decide +kernel
theorem d1_31 : decode prog_32_method_5_code 31 = .ok (.goto (-24), 3) := by decide +kernel
theorem d1_34 : decode prog_32_method_5_code 34 = .ok (.new 8, 3) := by decide +kernel
theorem d1_37 : decode prog_32_method_5_code 37 = .ok (.dup, 1) := by decide +kernel
theorem d1_38 : decode prog_32_method_5_code 38 = .ok (.aload_n 1, 1) := by decide +kernel
theorem d1_39 : decode prog_32_method_5_code 39 = .ok (.invokespecial 40, 3) := by decide +kernel
theorem d1_4 : decode prog_32_method_5_code 4 = .ok (.astore_n 1, 1) := by decide +kernel
theorem d1_42 : decode prog_32_method_5_code 42 = .ok (.areturn, 1) := by decide +kernel
theorem d1_5 : decode prog_32_method_5_code 5 = .ok (.iconst 0, 1) := by decide +kernel
theorem d1_6 : decode prog_32_method_5_code 6 = .ok (.istore_n 2, 1) := by decide +kernel
theorem d1_7 : decode prog_32_method_5_code 7 = .ok (.iload_n 2, 1) := by decide +kernel
theorem d1_8 : decode prog_32_method_5_code 8 = .ok (.aload_n 0, 1) := by decide +kernel
theorem d1_9 : decode prog_32_method_5_code 9 = .ok (.arraylength, 1) := by decide +kernel
theorem d2_0 : decode prog_32_method_1_code 0 = .ok (.aload_n 0, 1) := by decide +kernel
theorem d2_1 : decode prog_32_method_1_code 1 = .ok (.invokespecial 1, 3) := by decide +kernel
theorem d2_4 : decode prog_32_method_1_code 4 = .ok (.aload_n 0, 1) := by decide +kernel
theorem d2_5 : decode prog_32_method_1_code 5 = .ok (.aload_n 1, 1) := by decide +kernel
theorem d2_6 : decode prog_32_method_1_code 6 = .ok (.putfield 7, 3) := by decide +kernel
theorem d2_9 : decode prog_32_method_1_code 9 = .ok (.return_, 1) := by decide +kernel
theorem d4_0 : decode prog_32_method_7_code 0 = .ok (.aload_n 0, 1) := by decide +kernel
theorem d4_1 : decode prog_32_method_7_code 1 = .ok (.getfield 7, 3) := by decide +kernel
theorem d4_4 : decode prog_32_method_7_code 4 = .ok (.arraylength, 1) := by decide +kernel
theorem d4_5 : decode prog_32_method_7_code 5 = .ok (.ireturn, 1) := by decide +kernel
theorem d5_0 : decode method_3_code 0 = .ok (.iload_n 2, 1) := by decide +kernel
theorem d5_1 : decode method_3_code 1 = .ok (.iload_n 1, 1) := by decide +kernel
theorem d5_12 : decode method_3_code 12 = .ok (.ifCond .eq 16, 3) := by decide +kernel
theorem d5_15 : decode method_3_code 15 = .ok (.aload_n 0, 1) := by decide +kernel
theorem d5_16 : decode method_3_code 16 = .ok (.iload_n 2, 1) := by decide +kernel
theorem d5_17 : decode method_3_code 17 = .ok (.invokevirtual 28, 3) := by decide +kernel
theorem d5_2 : decode method_3_code 2 = .ok (.if_icmp .lt 5, 3) := by decide +kernel
theorem d5_20 : decode method_3_code 20 = .ok (.iload_n 3, 1) := by decide +kernel
theorem d5_21 : decode method_3_code 21 = .ok (.if_icmp .ne 7, 3) := by decide +kernel
theorem d5_24 : decode method_3_code 24 = .ok (.iconst 1, 1) := by decide +kernel
theorem d5_25 : decode method_3_code 25 = .ok (.goto 4, 3) := by decide +kernel
theorem d5_28 : decode method_3_code 28 = .ok (.iconst 0, 1) := by decide +kernel
theorem d5_29 : decode method_3_code 29 = .ok (.ireturn, 1) := by decide +kernel
theorem d5_5 : decode method_3_code 5 = .ok (.iconst 1, 1) := by decide +kernel
theorem d5_6 : decode method_3_code 6 = .ok (.ireturn, 1) := by decide +kernel
theorem d5_7 : decode method_3_code 7 = .ok (.aload_n 0, 1) := by decide +kernel
theorem d5_8 : decode method_3_code 8 = .ok (.iload_n 2, 1) := by decide +kernel
theorem d5_9 : decode method_3_code 9 = .ok (.invokevirtual 24, 3) := by decide +kernel
theorem d6_0 : decode prog_32_method_8_code 0 = .ok (.aload_n 0, 1) := by decide +kernel
theorem d6_1 : decode prog_32_method_8_code 1 = .ok (.getfield 7, 3) := by decide +kernel
theorem d6_10 : decode prog_32_method_8_code 10 = .ok (.iconst 1, 1) := by decide +kernel
theorem d6_11 : decode prog_32_method_8_code 11 = .ok (.goto 4, 3) := by decide +kernel
theorem d6_14 : decode prog_32_method_8_code 14 = .ok (.iconst 0, 1) := by decide +kernel
theorem d6_15 : decode prog_32_method_8_code 15 = .ok (.ireturn, 1) := by decide +kernel
theorem d6_4 : decode prog_32_method_8_code 4 = .ok (.iload_n 1, 1) := by decide +kernel
theorem d6_5 : decode prog_32_method_8_code 5 = .ok (.baload, 1) := by decide +kernel
theorem d6_6 : decode prog_32_method_8_code 6 = .ok (.iconst 2, 1) := by decide +kernel
theorem d6_7 : decode prog_32_method_8_code 7 = .ok (.if_icmp .eq 7, 3) := by decide +kernel
theorem d7_0 : decode prog_32_method_9_code 0 = .ok (.aload_n 0, 1) := by decide +kernel
theorem d7_1 : decode prog_32_method_9_code 1 = .ok (.iload_n 1, 1) := by decide +kernel
theorem d7_2 : decode prog_32_method_9_code 2 = .ok (.invokevirtual 47, 3) := by decide +kernel
theorem d7_26 : decode prog_32_method_9_code 26 = .ok (.aload_n 0, 1) := by decide +kernel
theorem d7_27 : decode prog_32_method_9_code 27 = .ok (.getfield 7, 3) := by decide +kernel
theorem d7_30 : decode prog_32_method_9_code 30 = .ok (.iload_n 1, 1) := by decide +kernel
theorem d7_31 : decode prog_32_method_9_code 31 = .ok (.baload, 1) := by decide +kernel
theorem d7_32 : decode prog_32_method_9_code 32 = .ok (.iconst 1, 1) := by decide +kernel
theorem d7_33 : decode prog_32_method_9_code 33 = .ok (.if_icmp .ne 7, 3) := by decide +kernel
theorem d7_36 : decode prog_32_method_9_code 36 = .ok (.iconst 1, 1) := by decide +kernel
theorem d7_37 : decode prog_32_method_9_code 37 = .ok (.goto 4, 3) := by decide +kernel
theorem d7_40 : decode prog_32_method_9_code 40 = .ok (.iconst 0, 1) := by decide +kernel
theorem d7_41 : decode prog_32_method_9_code 41 = .ok (.ireturn, 1) := by decide +kernel
theorem d7_5 : decode prog_32_method_9_code 5 = .ok (.ifCond .ne 21, 3) := by decide +kernel
theorem pd_lrI : parseMethodDescriptor "()I" = some ⟨[], some .int⟩ := by decide +kernel
theorem pd_lIrZ : parseMethodDescriptor "(I)Z" = some ⟨[.int], some .boolean⟩ := by decide +kernel
theorem pd_lLcom_example_whittle_whittle_model_BitssIIZrZ : parseMethodDescriptor "(Lcom/example/whittle/whittle/model/Bits;IIZ)Z" = some ⟨[(.object "com/example/whittle/whittle/model/Bits"), .int, .int, .boolean], some .boolean⟩ := by decide +kernel
theorem pd_laBrV : parseMethodDescriptor "([B)V" = some ⟨[(.array .byte)], none⟩ := by decide +kernel
theorem pd_laZrLcom_example_whittle_whittle_model_Bitss : parseMethodDescriptor "([Z)Lcom/example/whittle/whittle/model/Bits;" = some ⟨[(.array .boolean)], some (.object "com/example/whittle/whittle/model/Bits")⟩ := by decide +kernel
theorem pn_0 : plainFor x = true := plainFor_of_name (show plainName "com/example/whittle/whittle/model/BitsOfPinLaw" = true by first | (simp [plainName, overriddenIn]; done) | decide +kernel)
theorem pn_1 : plainFor (⟨"com/example/whittle/whittle/model/Bits", "of", "([Z)Lcom/example/whittle/whittle/model/Bits;"⟩ : MethodName) = true := plainFor_of_name (show plainName "com/example/whittle/whittle/model/Bits" = true by first | (simp [plainName, overriddenIn]; done) | decide +kernel)
theorem pn_2 : plainFor (⟨"com/example/whittle/whittle/model/Bits", "<init>", "([B)V"⟩ : MethodName) = true := plainFor_of_name (show plainName "com/example/whittle/whittle/model/Bits" = true by first | (simp [plainName, overriddenIn]; done) | decide +kernel)
theorem pn_4 : plainFor (⟨"com/example/whittle/whittle/model/Bits", "length", "()I"⟩ : MethodName) = true := plainFor_of_name (show plainName "com/example/whittle/whittle/model/Bits" = true by first | (simp [plainName, overriddenIn]; done) | decide +kernel)
theorem pn_5 : plainFor (⟨"com/example/whittle/whittle/model/BitsOfPinLaw", "at", "(Lcom/example/whittle/whittle/model/Bits;IIZ)Z"⟩ : MethodName) = true := plainFor_of_name (show plainName "com/example/whittle/whittle/model/BitsOfPinLaw" = true by first | (simp [plainName, overriddenIn]; done) | decide +kernel)
theorem pn_6 : plainFor (⟨"com/example/whittle/whittle/model/Bits", "isKnown", "(I)Z"⟩ : MethodName) = true := plainFor_of_name (show plainName "com/example/whittle/whittle/model/Bits" = true by first | (simp [plainName, overriddenIn]; done) | decide +kernel)
theorem pn_7 : plainFor (⟨"com/example/whittle/whittle/model/Bits", "get", "(I)Z"⟩ : MethodName) = true := plainFor_of_name (show plainName "com/example/whittle/whittle/model/Bits" = true by first | (simp [plainName, overriddenIn]; done) | decide +kernel)
theorem own_lt {i n : Nat} (h : i < n) (hn : n < 2147483648) : Int32.ofNat i < Int32.ofNat n := by
  rw [Int32.lt_iff_toInt_lt, Int32.toInt_ofNat_of_lt (by omega), Int32.toInt_ofNat_of_lt (by omega)]
  omega
theorem own_nn {n : Nat} (hn : n < 2147483648) : ¬ Int32.ofNat n < 0 := by
  rw [Int32.lt_iff_toInt_lt, Int32.toInt_ofNat_of_lt (by omega), show (0 : Int32).toInt = 0 from rfl]
  omega
theorem own_n32 {n : Nat} (hn : n < 2147483648) : (Int32.ofNat n).toNatClampNeg = n := by
  rw [Int32.toNatClampNeg, Int32.toInt_ofNat_of_lt (by omega)]; rfl
theorem own_one (i : Nat) : Int32.ofNat i + (1 : Int32) = Int32.ofNat (i + 1) := (Int32.ofNat_add i 1).symm
theorem own_hd {xs ys : List Int32} {y : Int32} {i : Nat} (h : xs.drop i = y :: ys) : xs.getD i 0 = y := by
  have q : xs[i]? = some y := by have := congrArg (fun l => l[0]?) h; simpa [List.getElem?_drop] using this
  rw [List.getD_eq_getElem?_getD, q]; rfl
theorem own_tl {xs ys : List Int32} {y : Int32} {i : Nat} (h : xs.drop i = y :: ys) : xs.drop (i + 1) = ys := by
  have := congrArg (List.drop 1) h; simpa [List.drop_drop] using this
theorem own_mr (x y : Int32) (D : Int) (hy : y.toInt = D) (hD : 0 < D) : ∃ J : Nat, (J : Int) < D ∧ ((x &&& (2147483647 : Int32)) % y) = Int32.ofNat J := by
  have e1 : (x &&& (2147483647 : Int32)).toInt = x.toInt % (2 ^ 31 : Nat) := c_mask x 2147483647 31 (by decide) (by decide)
  have e2 := (c_irem (x &&& (2147483647 : Int32)) y D hy).1 (by rw [e1]; omega)
  have r2 := Int.emod_nonneg (x &&& (2147483647 : Int32)).toInt (b := D) (by omega)
  have r3 := Int.emod_lt_of_pos (x &&& (2147483647 : Int32)).toInt hD
  have r := rng32 ((x &&& (2147483647 : Int32)) % y)
  rw [← e2] at r2 r3
  refine ⟨((x &&& (2147483647 : Int32)) % y).toInt.toNat, by omega, ?_⟩
  apply Int32.toInt_inj.mp; rw [Int32.toInt_ofNat_of_lt (by omega)]; omega
theorem ef_2 (m : MethodId) (y0 : Addr) (y1 : Addr) : entryFrame m #[(.ref y0), (.ref y1)] 2 = mkF m 0 #[.val (.ref y0), .val (.ref y1)] [] := by first | (simp [entryFrame, mkF, argsToLocals, Value.category]; done) | rfl
def Qc2 (Z : State) (n0 : Nat) (h0 : Heap) (r0 : Addr) (r1 : Addr) (v : Option Value) (h : Heap) (L : List Loc) : Prop := v = none ∧ Fr n0 L ∧ Keep h0 h [r0] ∧ Exa Z h r0 "com/example/whittle/whittle/model/Bits" ∧ Fld Z h r0 "com/example/whittle/whittle/model/Bits" "values" "[B" (.ref r1)
set_option maxRecDepth 65536 in
set_option maxHeartbeats 40000000 in
theorem rm2 (l : Launch) (Z : State) (a0 : Array Value) (hw : ∀ d ∈ tables_1, d.before a0 Z = true) (r0 : Addr) (r1 : Addr) (h0 : Heap) (n0 : Nat) (Z0 : n0 ≤ h0.size) (ga : n0 ≤ r0) (E0 : Exa Z h0 r0 "com/example/whittle/whittle/model/Bits") (F_values : Fld Z h0 r0 "com/example/whittle/whittle/model/Bits" "values" "[B" .null) : MetP l (⟨"com/example/whittle/whittle/model/Bits", "<init>", "([B)V"⟩ : MethodName) prog_32_method_1_code 2 none [] ({ frames := 1, cells := 0, slots := 0, locals := 12 } : Room) Z #[(.ref r0), (.ref r1)] h0 (Qc2 Z n0 h0 r0 r1) := by
  refine met_go pn_2 ?_
  intro p e s m below meth c s₁ hx hby hml hown hnm hret hlk hZ e0 X0
  have N0 := Fr.nil n0
  have K0 : Keep h0 h0 [r0] := Keep.refl _ _
  rw [ef_2 m r0 r1]
  refine o_aloadN 1 X0 hx rfl (hb hby d2_0) rfl rfl ?_
  refine o_initO 4 X0 hx rfl hZ hown (wd_12 hw) (wd_13 hw) (wd_14 hw) e0 (by rw [hml]; rfl) (hb hby d2_1) (by decide) 0 (Nat.le_of_eq rfl) (by decide) fun T1 X1 e1 => ?_
  refine o_aloadN 5 X1 hx rfl (hb hby d2_4) rfl rfl ?_
  refine o_aloadN 6 X1 hx rfl (hb hby d2_5) rfl rfl ?_
  refine o_putF 9 X1 hx rfl hZ (.array .byte) hown (wd_15 hw) Via.refl e1 F_values E0 (Or.inr ⟨(wd_16 hw), rfl, hnm⟩) (wd_8 hw) (by decide) rfl rfl N0 ga (hb hby d2_6) fun T2 h2 L2 X2 N2 e2 W2 => ?_
  have F3 : Fld Z h2 r0 "com/example/whittle/whittle/model/Bits" "values" "[B" (.ref r1) := F_values.same W2
  have F4 : Exa Z h2 r0 "com/example/whittle/whittle/model/Bits" := E0.wr W2
  have sz5 : n0 ≤ h2.size := Nat.le_trans Z0 (Keep.of_wr W2).1
  have K6 : Keep h0 h2 [r0] := K0.wr W2 (Or.inl (by simp))
  refine o_retV X2 hx hret hlk (hb hby d2_9) (by decide) (by decide) ?_
  rw [e2]
  exact ⟨rfl, N2, K6, F4, F3⟩
theorem ef_4 (m : MethodId) (y0 : Addr) : entryFrame m #[(.ref y0)] 1 = mkF m 0 #[.val (.ref y0)] [] := by first | (simp [entryFrame, mkF, argsToLocals, Value.category]; done) | rfl
set_option maxRecDepth 65536 in
set_option maxHeartbeats 40000000 in
theorem rm4 (l : Launch) (Z : State) (a0 : Array Value) (hw : ∀ d ∈ tables_1, d.before a0 Z = true) (r0 : Addr) (b : Addr) (kb : ClassId) (n : Int32) (ys : List Int32) (h0 : Heap) (E0 : Exa Z h0 r0 "com/example/whittle/whittle/model/Bits") (F0 : Fld Z h0 r0 "com/example/whittle/whittle/model/Bits" "values" "[B" (.ref b)) (A0 : Arv Z h0 b kb .byte n (ys.map Value.int) (.int 0)) : MetP l (⟨"com/example/whittle/whittle/model/Bits", "length", "()I"⟩ : MethodName) prog_32_method_7_code 1 (some .int) [] ({ frames := 0, cells := 0, slots := 0, locals := 0 } : Room) Z #[(.ref r0)] h0 (Pure (.int n) h0) := by
  refine met_go pn_4 ?_
  intro p e s m below meth c s₁ hx hby hml hown hnm hret hlk hZ e0 X0
  rw [ef_4 m r0]
  refine o_aloadN 1 X0 hx rfl (hb hby d4_0) rfl rfl ?_
  refine o_getF 4 X0 hx rfl hZ hown (wd_15 hw) Via.refl e0 F0 (hb hby d4_1) fun T1 X1 e1 => ?_
  refine o_alen 5 X1 hx rfl hZ e1 A0 (hb hby d4_4) ?_
  refine o_retI X1 hx hret hlk (hb hby d4_5) (by decide) (by decide) ?_
  exact ⟨rfl, rfl, e1⟩
theorem ef_6 (m : MethodId) (y0 : Addr) (y1 : Int32) : entryFrame m #[(.ref y0), (.int y1)] 2 = mkF m 0 #[.val (.ref y0), .val (.int y1)] [] := by first | (simp [entryFrame, mkF, argsToLocals, Value.category]; done) | rfl
def f6_15_s0 (i1 : Int32) (ys : List Int32) : Int32 := (if (ys.getD i1.toNatClampNeg 0) = (2 : Int32) then (0 : Int32) else (1 : Int32))
def own_k6 (i1 : Int32) (ys : List Int32) : Int32 := nar .boolean (f6_15_s0 i1 ys)
set_option maxRecDepth 65536 in
set_option maxHeartbeats 40000000 in
theorem rm6 (l : Launch) (Z : State) (a0 : Array Value) (hw : ∀ d ∈ tables_1, d.before a0 Z = true) (r0 : Addr) (b : Addr) (kb : ClassId) (n : Int32) (ys : List Int32) (i1 : Int32) (h0 : Heap) (E0 : Exa Z h0 r0 "com/example/whittle/whittle/model/Bits") (F0 : Fld Z h0 r0 "com/example/whittle/whittle/model/Bits" "values" "[B" (.ref b)) (A0 : Arv Z h0 b kb .byte n (ys.map Value.int) (.int 0)) (hi : ¬ i1 < 0 ∧ i1 < n) : MetP l (⟨"com/example/whittle/whittle/model/Bits", "isKnown", "(I)Z"⟩ : MethodName) prog_32_method_8_code 2 (some .boolean) [] ({ frames := 0, cells := 0, slots := 0, locals := 0 } : Room) Z #[(.ref r0), (.int i1)] h0 (Pure (.int (own_k6 i1 ys)) h0) := by
  refine met_go pn_6 ?_
  intro p e s m below meth c s₁ hx hby hml hown hnm hret hlk hZ e0 X0
  rw [ef_6 m r0 i1]
  refine o_aloadN 1 X0 hx rfl (hb hby d6_0) rfl rfl ?_
  refine o_getF 4 X0 hx rfl hZ hown (wd_15 hw) Via.refl e0 F0 (hb hby d6_1) fun T1 X1 e1 => ?_
  refine o_iloadN 5 X1 hx rfl (hb hby d6_4) rfl ?_
  refine o_baloadBX 6 X1 hx rfl hZ e1 A0 hi (hb hby d6_5) (ys.getD i1.toNatClampNeg 0) rfl ?_
  refine o_iconst 7 X1 hx rfl (hb hby d6_6) (2 : Int32) rfl ?_
  suffices j15_2 : Go p.tables e below (EndE s ({ frames := 0, cells := 0, slots := 0, locals := 0 } : Room) (Pure (.int (own_k6 i1 ys)) h0)) (T1.setTop (mkF m 15 #[.val (.ref r0), .val (.int i1)] [(.int (f6_15_s0 i1 ys))])) by
    by_cases hc7_3 : (ys.getD i1.toNatClampNeg 0) = (2 : Int32)
    · refine o_icmpYes 14 X1 hx (hb hby d6_7) (teq hc7_3).1 (by decide) (by decide) ?_
      refine o_iconst 15 X1 hx rfl (hb hby d6_14) (0 : Int32) rfl ?_
      rw [show (f6_15_s0 i1 ys) = (0 : Int32) from by unfold f6_15_s0; simp only [if_pos hc7_3]] at j15_2
      exact j15_2
    · refine o_icmpNo 10 X1 hx rfl (hb hby d6_7) (feq hc7_3).1 ?_
      refine o_iconst 11 X1 hx rfl (hb hby d6_10) (1 : Int32) rfl ?_
      refine o_goto 15 X1 hx (hb hby d6_11) (by decide) (by decide) ?_
      rw [show (f6_15_s0 i1 ys) = (1 : Int32) from by unfold f6_15_s0; simp only [if_neg hc7_3]] at j15_2
      exact j15_2
  refine o_retN X1 hx .boolean (by simp) hret hlk (hb hby d6_15) (by decide) (by decide) ?_
  exact ⟨rfl, rfl, e1⟩
theorem own_kn {i1 : Int32} {ys : List Int32} (h : ¬ (ys.getD i1.toNatClampNeg 0) = (2 : Int32)) : ¬ (own_k6 i1 ys) = (0 : Int32) := by
  unfold own_k6 f6_15_s0; rw [if_neg h]; decide
theorem ef_7 (m : MethodId) (y0 : Addr) (y1 : Int32) : entryFrame m #[(.ref y0), (.int y1)] 2 = mkF m 0 #[.val (.ref y0), .val (.int y1)] [] := by first | (simp [entryFrame, mkF, argsToLocals, Value.category]; done) | rfl
def f7_41_s0 (i1 : Int32) (ys : List Int32) : Int32 := (if (ys.getD i1.toNatClampNeg 0) = (1 : Int32) then (1 : Int32) else (0 : Int32))
def own_g7 (i1 : Int32) (ys : List Int32) : Int32 := nar .boolean (f7_41_s0 i1 ys)
set_option maxRecDepth 65536 in
set_option maxHeartbeats 40000000 in
theorem rm7 (l : Launch) (Z : State) (a0 : Array Value) (hw : ∀ d ∈ tables_1, d.before a0 Z = true) (r0 : Addr) (b : Addr) (kb : ClassId) (n : Int32) (ys : List Int32) (i1 : Int32) (h0 : Heap) (E0 : Exa Z h0 r0 "com/example/whittle/whittle/model/Bits") (F0 : Fld Z h0 r0 "com/example/whittle/whittle/model/Bits" "values" "[B" (.ref b)) (A0 : Arv Z h0 b kb .byte n (ys.map Value.int) (.int 0)) (hi : ¬ i1 < 0 ∧ i1 < n) (h2 : ¬ (ys.getD i1.toNatClampNeg 0) = (2 : Int32)) : MetP l (⟨"com/example/whittle/whittle/model/Bits", "get", "(I)Z"⟩ : MethodName) prog_32_method_9_code 2 (some .boolean) [] ({ frames := 1, cells := 0, slots := 0, locals := 13 } : Room) Z #[(.ref r0), (.int i1)] h0 (Pure (.int (own_g7 i1 ys)) h0) := by
  refine met_go pn_7 ?_
  intro p e s m below meth c s₁ hx hby hml hown hnm hret hlk hZ e0 X0
  rw [ef_7 m r0 i1]
  refine o_aloadN 1 X0 hx rfl (hb hby d7_0) rfl rfl ?_
  refine o_iloadN 2 X0 hx rfl (hb hby d7_1) rfl ?_
  refine o_callVP (rv := (.int (own_k6 i1 ys))) 5 X0 hx rfl hZ hown (wd_36 hw) (wd_27 hw) (wd_29 hw) (wd_28 hw) (wd_4 hw) (wd_30 hw) (by decide) e0 (rm6 l Z a0 hw r0 b kb n ys i1 h0 E0 F0 A0 hi) pd_lIrZ [(.int i1)] [] rfl E0 rfl (by rw [hml]; rfl) rfl (hb hby d7_2) 0 (Nat.le_of_eq rfl) (by decide) (by decide) (by decide) (by decide) rfl rfl fun T1 X1 e1 => ?_
  refine o_ifYes 26 X1 hx (hb hby d7_5) (feq (own_kn h2)).2 (by decide) (by decide) ?_
  refine o_aloadN 27 X1 hx rfl (hb hby d7_26) rfl rfl ?_
  refine o_getF 30 X1 hx rfl hZ hown (wd_15 hw) Via.refl e1 F0 (hb hby d7_27) fun T2 X2 e2 => ?_
  refine o_iloadN 31 X2 hx rfl (hb hby d7_30) rfl ?_
  refine o_baloadBX 32 X2 hx rfl hZ e2 A0 hi (hb hby d7_31) (ys.getD i1.toNatClampNeg 0) rfl ?_
  refine o_iconst 33 X2 hx rfl (hb hby d7_32) (1 : Int32) rfl ?_
  suffices j41_3 : Go p.tables e below (EndE s ({ frames := 1, cells := 0, slots := 0, locals := 13 } : Room) (Pure (.int (own_g7 i1 ys)) h0)) (T2.setTop (mkF m 41 #[.val (.ref r0), .val (.int i1)] [(.int (f7_41_s0 i1 ys))])) by
    by_cases hc33_4 : (ys.getD i1.toNatClampNeg 0) = (1 : Int32)
    · refine o_icmpNo 36 X2 hx rfl (hb hby d7_33) (teq hc33_4).2 ?_
      refine o_iconst 37 X2 hx rfl (hb hby d7_36) (1 : Int32) rfl ?_
      refine o_goto 41 X2 hx (hb hby d7_37) (by decide) (by decide) ?_
      rw [show (f7_41_s0 i1 ys) = (1 : Int32) from by unfold f7_41_s0; simp only [if_pos hc33_4]] at j41_3
      exact j41_3
    · refine o_icmpYes 40 X2 hx (hb hby d7_33) (feq hc33_4).2 (by decide) (by decide) ?_
      refine o_iconst 41 X2 hx rfl (hb hby d7_40) (0 : Int32) rfl ?_
      rw [show (f7_41_s0 i1 ys) = (0 : Int32) from by unfold f7_41_s0; simp only [if_neg hc33_4]] at j41_3
      exact j41_3
  refine o_retN X2 hx .boolean (by simp) hret hlk (hb hby d7_41) (by decide) (by decide) ?_
  exact ⟨rfl, rfl, e2⟩
theorem ef_5 (m : MethodId) (y0 : Addr) (y1 : Int32) (y2 : Int32) (y3 : Int32) : entryFrame m #[(.ref y0), (.int y1), (.int y2), (.int y3)] 4 = mkF m 0 #[.val (.ref y0), .val (.int y1), .val (.int y2), .val (.int y3)] [] := by first | (simp [entryFrame, mkF, argsToLocals, Value.category]; done) | rfl
def f5_29_s0 (i2 : Int32) (i3 : Int32) (ys : List Int32) : Int32 := (if (own_g7 i2 ys) = i3 then (1 : Int32) else (0 : Int32))
def own_at (i2 i3 n : Int32) (ys : List Int32) : Int32 := if i2 < n then (nar .boolean (f5_29_s0 i2 i3 ys)) else 1
set_option maxRecDepth 65536 in
set_option maxHeartbeats 40000000 in
theorem rm5 (l : Launch) (Z : State) (a0 : Array Value) (hw : ∀ d ∈ tables_1, d.before a0 Z = true) (r0 : Addr) (b : Addr) (kb : ClassId) (n : Int32) (ys : List Int32) (i2 i3 : Int32) (h0 : Heap) (E0 : Exa Z h0 r0 "com/example/whittle/whittle/model/Bits") (F0 : Fld Z h0 r0 "com/example/whittle/whittle/model/Bits" "values" "[B" (.ref b)) (A0 : Arv Z h0 b kb .byte n (ys.map Value.int) (.int 0)) (h0' : ¬ i2 < 0) (h2 : i2 < n → ¬ (ys.getD i2.toNatClampNeg 0) = (2 : Int32)) : MetP l (⟨"com/example/whittle/whittle/model/BitsOfPinLaw", "at", "(Lcom/example/whittle/whittle/model/Bits;IIZ)Z"⟩ : MethodName) method_3_code 4 (some .boolean) [] ({ frames := 2, cells := 0, slots := 0, locals := 26 } : Room) Z #[(.ref r0), (.int n), (.int i2), (.int i3)] h0 (Pure (.int (own_at i2 i3 n ys)) h0) := by
  refine met_go pn_5 ?_
  intro p e s m below meth c s₁ hx hby hml hown hnm hret hlk hZ e0 X0
  rw [ef_5 m r0 n i2 i3]
  refine o_iloadN 1 X0 hx rfl (hb hby d5_0) rfl ?_
  refine o_iloadN 2 X0 hx rfl (hb hby d5_1) rfl ?_
  by_cases hlt : i2 < n
  · refine o_icmpYes 7 X0 hx (hb hby d5_2) (tlt hlt).1 (by decide) (by decide) ?_
    refine o_aloadN 8 X0 hx rfl (hb hby d5_7) rfl rfl ?_
    refine o_iloadN 9 X0 hx rfl (hb hby d5_8) rfl ?_
    refine o_callVP (rv := (.int (own_k6 i2 ys))) 12 X0 hx rfl hZ hown (wd_26 hw) (wd_27 hw) (wd_29 hw) (wd_28 hw) (wd_4 hw) (wd_30 hw) (by decide) e0 (rm6 l Z a0 hw r0 b kb n ys i2 h0 E0 F0 A0 ⟨h0', hlt⟩) pd_lIrZ [(.int i2)] [] rfl E0 rfl (by rw [hml]; rfl) rfl (hb hby d5_9) 0 (Nat.le_of_eq rfl) (by decide) (by decide) (by decide) (by decide) rfl rfl fun T1 X1 e1 => ?_
    refine o_ifNo 15 X1 hx rfl (hb hby d5_12) (feq (own_kn (h2 hlt))).1 ?_
    refine o_aloadN 16 X1 hx rfl (hb hby d5_15) rfl rfl ?_
    refine o_iloadN 17 X1 hx rfl (hb hby d5_16) rfl ?_
    refine o_callVP (rv := (.int (own_g7 i2 ys))) 20 X1 hx rfl hZ hown (wd_31 hw) (wd_32 hw) (wd_34 hw) (wd_33 hw) (wd_4 hw) (wd_35 hw) (by decide) e1 (rm7 l Z a0 hw r0 b kb n ys i2 h0 E0 F0 A0 ⟨h0', hlt⟩ (h2 hlt)) pd_lIrZ [(.int i2)] [] rfl E0 rfl (by rw [hml]; rfl) rfl (hb hby d5_17) 0 (Nat.le_of_eq rfl) (by decide) (by decide) (by decide) (by decide) rfl rfl fun T2 X2 e2 => ?_
    refine o_iloadN 21 X2 hx rfl (hb hby d5_20) rfl ?_
    suffices j29_3 : Go p.tables e below (EndE s ({ frames := 2, cells := 0, slots := 0, locals := 26 } : Room) (Pure (.int (own_at i2 i3 n ys)) h0)) (T2.setTop (mkF m 29 #[.val (.ref r0), .val (.int n), .val (.int i2), .val (.int i3)] [(.int (f5_29_s0 i2 i3 ys))])) by
      by_cases hc21_4 : (own_g7 i2 ys) = i3
      · refine o_icmpNo 24 X2 hx rfl (hb hby d5_21) (teq hc21_4).2 ?_
        refine o_iconst 25 X2 hx rfl (hb hby d5_24) (1 : Int32) rfl ?_
        refine o_goto 29 X2 hx (hb hby d5_25) (by decide) (by decide) ?_
        rw [show (f5_29_s0 i2 i3 ys) = (1 : Int32) from by unfold f5_29_s0; simp only [if_pos hc21_4]] at j29_3
        exact j29_3
      · refine o_icmpYes 28 X2 hx (hb hby d5_21) (feq hc21_4).2 (by decide) (by decide) ?_
        refine o_iconst 29 X2 hx rfl (hb hby d5_28) (0 : Int32) rfl ?_
        rw [show (f5_29_s0 i2 i3 ys) = (0 : Int32) from by unfold f5_29_s0; simp only [if_neg hc21_4]] at j29_3
        exact j29_3
    refine o_retN X2 hx .boolean (by simp) hret hlk (hb hby d5_29) (by decide) (by decide) ?_
    exact ⟨show some (Value.int (nar .boolean (f5_29_s0 i2 i3 ys))) = some (Value.int (own_at i2 i3 n ys)) from by rw [own_at, if_pos hlt], rfl, e2⟩
  · refine o_icmpNo 5 X0 hx rfl (hb hby d5_2) (flt hlt).1 ?_
    refine o_iconst 6 X0 hx rfl (hb hby d5_5) (1 : Int32) rfl ?_
    refine o_retN X0 hx .boolean (by simp) hret hlk (hb hby d5_6) (by decide) (by decide) ?_
    exact ⟨show some (Value.int (1 : Int32)) = some (Value.int (own_at i2 i3 n ys)) from by rw [own_at, if_neg hlt], rfl, e0⟩
def own_z (x : Int32) : Int32 := if x = (0 : Int32) then (0 : Int32) else (1 : Int32)
theorem ef_1 (m : MethodId) (y0 : Addr) : entryFrame m #[(.ref y0)] 3 = mkF m 0 #[.val (.ref y0), .unset, .unset] [] := by first | (simp [entryFrame, mkF, argsToLocals, Value.category]; done) | rfl
set_option maxRecDepth 65536 in
set_option maxHeartbeats 40000000 in
theorem rm1_0 (l : Launch) (Z : State) (a0 : Array Value) (hw : ∀ d ∈ tables_1, d.before a0 Z = true) (r0 : Addr) (ka : ClassId) (h0 : Heap) (n0 : Nat) (Z0 : n0 ≤ h0.size) (A0 : Arv Z h0 r0 ka .boolean (0 : Int32) (([] : List Int32).map Value.int) (.int 0)) : MetP l (⟨"com/example/whittle/whittle/model/Bits", "of", "([Z)Lcom/example/whittle/whittle/model/Bits;"⟩ : MethodName) prog_32_method_5_code 3 (some (.object "com/example/whittle/whittle/model/Bits")) [] ({ frames := 2, cells := 2, slots := 1, locals := 26 } : Room) Z #[(.ref r0)] h0 (fun v h L => ∃ (a b : Addr) (kb : ClassId), v = some (.ref a) ∧ Fr n0 L ∧ Keep h0 h [] ∧ n0 ≤ a ∧ n0 ≤ b ∧ Exa Z h a "com/example/whittle/whittle/model/Bits" ∧ Fld Z h a "com/example/whittle/whittle/model/Bits" "values" "[B" (.ref b) ∧ Arv Z h b kb .byte (0 : Int32) (([] : List Int32).map Value.int) (.int 0)) := by
  refine met_go pn_1 ?_
  intro p e s m below meth c s₁ hx hby hml hown hnm hret hlk hZ e0 X0
  have N0 := Fr.nil n0
  have K0 : Keep h0 h0 [] := Keep.refl _ _
  rw [ef_1 m r0]
  refine o_aloadN 1 X0 hx rfl (hb hby d1_0) rfl rfl ?_
  refine o_alen 2 X0 hx rfl hZ e0 A0 (hb hby d1_1) ?_
  refine o_newarrI 4 X0 hx rfl hZ .byte .byte rfl rfl (wd_6 hw) e0 (hb hby d1_2) (by decide) 0 (by decide) (by decide) (by decide) (by decide) ([] : List Int32) rfl fun T1 h1 a1 k1 g1 X1 e1 E1 A1 => ?_
  have gz2 : h0.size ≤ a1 := Nat.le_trans K0.1 (Nat.le_of_eq g1.symm)
  have ne3 : r0 ≠ a1 := Nat.ne_of_lt (Nat.lt_of_lt_of_eq A0.lt g1.symm)
  have ge4 : n0 ≤ a1 := Nat.le_trans Z0 (Nat.le_of_eq g1.symm)
  have F5 : Arv Z h1 r0 ka .boolean (0 : Int32) ((([] : List Int32)).map Value.int) (.int 0) := A0.ext E1
  have sz6 : n0 ≤ h1.size := Nat.le_trans Z0 E1.1
  have K7 : Keep h0 h1 [] := K0.ext E1
  refine o_astoreN 5 X1 hx rfl (hb hby d1_4) rfl #[.val (.ref r0), .val (.ref a1), .unset] rfl ?_
  refine o_iconst 6 X1 hx rfl (hb hby d1_5) (0 : Int32) rfl ?_
  refine o_istoreN 7 X1 hx rfl (hb hby d1_6) #[.val (.ref r0), .val (.ref a1), .val (.int (0 : Int32))] rfl ?_
  refine o_iloadN 8 X1 hx rfl (hb hby d1_7) rfl ?_
  refine o_aloadN 9 X1 hx rfl (hb hby d1_8) rfl rfl ?_
  refine o_alen 10 X1 hx rfl hZ e1 F5 (hb hby d1_9) ?_
  refine o_icmpYes 34 X1 hx (hb hby d1_10) (flt (show ¬ ((0 : Int32) < (0 : Int32)) by decide)).2.1 (by decide) (by decide) ?_
  refine o_new 37 X1 hx rfl hZ hown (wd_7 hw) (wd_8 hw) (wd_4 hw) e1 (hb hby d1_34) (by decide) (by decide) fun T8 h8 a8 g8 X8 e8 E8 A8 D8 => ?_
  have gz9 : h0.size ≤ a8 := Nat.le_trans K7.1 (Nat.le_of_eq g8.symm)
  have ne10 : r0 ≠ a8 := Nat.ne_of_lt (Nat.lt_of_lt_of_eq F5.lt g8.symm)
  have ne11 : a1 ≠ a8 := Nat.ne_of_lt (Nat.lt_of_lt_of_eq A1.lt g8.symm)
  have ge12 : n0 ≤ a8 := Nat.le_trans sz6 (Nat.le_of_eq g8.symm)
  have F13 : Arv Z h8 r0 ka .boolean (0 : Int32) ((([] : List Int32)).map Value.int) (.int 0) := F5.ext E8
  have F14 : Arv Z h8 a1 k1 .byte (0 : Int32) ((([] : List Int32)).map Value.int) (.int 0) := A1.ext E8
  have sz15 : n0 ≤ h8.size := Nat.le_trans sz6 E8.1
  have K16 : Keep h0 h8 [] := K7.ext E8
  have F17 : Fld Z h8 a8 "com/example/whittle/whittle/model/Bits" "values" "[B" .null := D8 (Or.inr (wd_16 hw)) (ty := (.array .byte)) (by decide)
  refine o_dup 38 X8 hx rfl (hb hby d1_37) rfl ?_
  refine o_aloadN 39 X8 hx rfl (hb hby d1_38) rfl rfl ?_
  refine o_callIw 42 X8 hx rfl hZ rfl hown (wd_9 hw) (wd_10 hw) (wd_4 hw) (wd_11 hw) (by decide) e8 N0 (rm2 l Z a0 hw a8 a1 h8 n0 sz15 ge12 A8 F17) pd_laBrV a8 [(.ref a1)] [(.ref a8)] rfl rfl (by rw [hml]; rfl) rfl (hb hby d1_39) 1 (Nat.le_of_eq rfl) (by decide) (by decide) (by decide) (by decide) fun v18 T18 L18 LL18 X18 Q18 NF18 => ?_
  obtain ⟨rfl, M18, K18, E18, F18_values⟩ := Q18
  have NN18 := NF18 M18
  have F19 : Arv Z T18.heap r0 ka .boolean (0 : Int32) ((([] : List Int32)).map Value.int) (.int 0) := F13.keep K18 (ninS ne10 nin0)
  have F20 : Arv Z T18.heap a1 k1 .byte (0 : Int32) ((([] : List Int32)).map Value.int) (.int 0) := F14.keep K18 (ninS ne11 nin0)
  have K21 : Keep h0 T18.heap [] := K16.trans K18 (allS (P := fun x => x ∈ [] ∨ h0.size ≤ x) (Or.inr gz9) all0)
  have sz22 : n0 ≤ T18.heap.size := Nat.le_trans sz15 K18.1
  show Go p.tables e below (EndE s ({ frames := 2, cells := 2, slots := 1, locals := 26 } : Room) (fun v h L => ∃ (a b : Addr) (kb : ClassId), v = some (.ref a) ∧ Fr n0 L ∧ Keep h0 h [] ∧ n0 ≤ a ∧ n0 ≤ b ∧ Exa Z h a "com/example/whittle/whittle/model/Bits" ∧ Fld Z h a "com/example/whittle/whittle/model/Bits" "values" "[B" (.ref b) ∧ Arv Z h b kb .byte (0 : Int32) (([] : List Int32).map Value.int) (.int 0))) (T18.setTop (mkF m 42 #[.val (.ref r0), .val (.ref a1), .val (.int (0 : Int32))] [(.ref a8)]))
  refine o_retA X18 hx rfl rfl hret hlk (hb hby d1_42) (by decide) (by decide) ?_
  exact ⟨a8, a1, k1, rfl, NN18, K21, ge12, ge4, E18, F18_values, F20⟩
def f1_26_s0 (x0 : Int32) : Int32 := (if x0 = (0 : Int32) then (0 : Int32) else (1 : Int32))
set_option maxRecDepth 65536 in
set_option maxHeartbeats 40000000 in
theorem rm1_1 (l : Launch) (Z : State) (a0 : Array Value) (hw : ∀ d ∈ tables_1, d.before a0 Z = true) (r0 : Addr) (ka : ClassId) (x0 : Int32) (h0 : Heap) (n0 : Nat) (Z0 : n0 ≤ h0.size) (A0 : Arv Z h0 r0 ka .boolean (1 : Int32) ([x0].map Value.int) (.int 0)) : MetP l (⟨"com/example/whittle/whittle/model/Bits", "of", "([Z)Lcom/example/whittle/whittle/model/Bits;"⟩ : MethodName) prog_32_method_5_code 3 (some (.object "com/example/whittle/whittle/model/Bits")) [] ({ frames := 2, cells := 2, slots := 2, locals := 26 } : Room) Z #[(.ref r0)] h0 (fun v h L => ∃ (a b : Addr) (kb : ClassId), v = some (.ref a) ∧ Fr n0 L ∧ Keep h0 h [] ∧ n0 ≤ a ∧ n0 ≤ b ∧ Exa Z h a "com/example/whittle/whittle/model/Bits" ∧ Fld Z h a "com/example/whittle/whittle/model/Bits" "values" "[B" (.ref b) ∧ Arv Z h b kb .byte (1 : Int32) ([(nar .byte ((own_z x0).toInt8.toInt32))].map Value.int) (.int 0)) := by
  refine met_go pn_1 ?_
  intro p e s m below meth c s₁ hx hby hml hown hnm hret hlk hZ e0 X0
  have N0 := Fr.nil n0
  have K0 : Keep h0 h0 [] := Keep.refl _ _
  rw [ef_1 m r0]
  refine o_aloadN 1 X0 hx rfl (hb hby d1_0) rfl rfl ?_
  refine o_alen 2 X0 hx rfl hZ e0 A0 (hb hby d1_1) ?_
  refine o_newarrI 4 X0 hx rfl hZ .byte .byte rfl rfl (wd_6 hw) e0 (hb hby d1_2) (by decide) 1 (by decide) (by decide) (by decide) (by decide) [(0 : Int32)] rfl fun T1 h1 a1 k1 g1 X1 e1 E1 A1 => ?_
  have gz2 : h0.size ≤ a1 := Nat.le_trans K0.1 (Nat.le_of_eq g1.symm)
  have ne3 : r0 ≠ a1 := Nat.ne_of_lt (Nat.lt_of_lt_of_eq A0.lt g1.symm)
  have ge4 : n0 ≤ a1 := Nat.le_trans Z0 (Nat.le_of_eq g1.symm)
  have F5 : Arv Z h1 r0 ka .boolean (1 : Int32) ([x0].map Value.int) (.int 0) := A0.ext E1
  have sz6 : n0 ≤ h1.size := Nat.le_trans Z0 E1.1
  have K7 : Keep h0 h1 [] := K0.ext E1
  refine o_astoreN 5 X1 hx rfl (hb hby d1_4) rfl #[.val (.ref r0), .val (.ref a1), .unset] rfl ?_
  refine o_iconst 6 X1 hx rfl (hb hby d1_5) (0 : Int32) rfl ?_
  refine o_istoreN 7 X1 hx rfl (hb hby d1_6) #[.val (.ref r0), .val (.ref a1), .val (.int (0 : Int32))] rfl ?_
  refine o_iloadN 8 X1 hx rfl (hb hby d1_7) rfl ?_
  refine o_aloadN 9 X1 hx rfl (hb hby d1_8) rfl rfl ?_
  refine o_alen 10 X1 hx rfl hZ e1 F5 (hb hby d1_9) ?_
  refine o_icmpNo 13 X1 hx rfl (hb hby d1_10) (tlt (show (0 : Int32) < (1 : Int32) by decide)).2.1 ?_
  refine o_aloadN 14 X1 hx rfl (hb hby d1_13) rfl rfl ?_
  refine o_iloadN 15 X1 hx rfl (hb hby d1_14) rfl ?_
  refine o_aloadN 16 X1 hx rfl (hb hby d1_15) rfl rfl ?_
  refine o_iloadN 17 X1 hx rfl (hb hby d1_16) rfl ?_
  refine o_baloadZX 18 X1 hx rfl hZ e1 F5 (by decide) (hb hby d1_17) x0 rfl ?_
  suffices j26_8 : Go p.tables e below (EndE s ({ frames := 2, cells := 2, slots := 2, locals := 26 } : Room) (fun v h L => ∃ (a b : Addr) (kb : ClassId), v = some (.ref a) ∧ Fr n0 L ∧ Keep h0 h [] ∧ n0 ≤ a ∧ n0 ≤ b ∧ Exa Z h a "com/example/whittle/whittle/model/Bits" ∧ Fld Z h a "com/example/whittle/whittle/model/Bits" "values" "[B" (.ref b) ∧ Arv Z h b kb .byte (1 : Int32) ([(nar .byte ((own_z x0).toInt8.toInt32))].map Value.int) (.int 0))) (T1.setTop (mkF m 26 #[.val (.ref r0), .val (.ref a1), .val (.int (0 : Int32))] [(.int (f1_26_s0 x0)), (.int (0 : Int32)), (.ref a1)])) by
    by_cases hc18_9 : x0 = (0 : Int32)
    · refine o_ifYes 25 X1 hx (hb hby d1_18) (teq hc18_9).1 (by decide) (by decide) ?_
      refine o_iconst 26 X1 hx rfl (hb hby d1_25) (0 : Int32) rfl ?_
      rw [show (f1_26_s0 x0) = (0 : Int32) from by unfold f1_26_s0; simp only [if_pos hc18_9]] at j26_8
      exact j26_8
    · refine o_ifNo 21 X1 hx rfl (hb hby d1_18) (feq hc18_9).1 ?_
      refine o_iconst 22 X1 hx rfl (hb hby d1_21) (1 : Int32) rfl ?_
      refine o_goto 26 X1 hx (hb hby d1_22) (by decide) (by decide) ?_
      rw [show (f1_26_s0 x0) = (1 : Int32) from by unfold f1_26_s0; simp only [if_neg hc18_9]] at j26_8
      exact j26_8
  refine o_i2b 27 X1 hx rfl (hb hby d1_26) ?_
  refine o_bastoreBX 28 X1 hx rfl hZ e1 A1 (by decide) (Nat.le_of_ble_eq_true rfl) [(nar .byte ((f1_26_s0 x0).toInt8.toInt32))] rfl N0 ge4 (hb hby d1_27) fun T10 h10 L10 X10 N10 e10 W10 A10 => ?_
  have F11 : Arv Z h10 r0 ka .boolean (1 : Int32) ([x0].map Value.int) (.int 0) := F5.other W10 ne3
  have sz12 : n0 ≤ h10.size := Nat.le_trans sz6 (Keep.of_wr W10).1
  have K13 : Keep h0 h10 [] := K7.wr W10 (Or.inr gz2)
  refine o_iinc 31 X10 hx rfl (hb hby d1_28) (1 : Int32) rfl rfl #[.val (.ref r0), .val (.ref a1), .val (.int (1 : Int32))] rfl ?_
  refine o_goto 7 X10 hx (hb hby d1_31) (by decide) (by decide) ?_
  refine o_iloadN 8 X10 hx rfl (hb hby d1_7) rfl ?_
  refine o_aloadN 9 X10 hx rfl (hb hby d1_8) rfl rfl ?_
  refine o_alen 10 X10 hx rfl hZ e10 F11 (hb hby d1_9) ?_
  refine o_icmpYes 34 X10 hx (hb hby d1_10) (flt (show ¬ ((1 : Int32) < (1 : Int32)) by decide)).2.1 (by decide) (by decide) ?_
  refine o_new 37 X10 hx rfl hZ hown (wd_7 hw) (wd_8 hw) (wd_4 hw) e10 (hb hby d1_34) (by decide) (by decide) fun T14 h14 a14 g14 X14 e14 E14 A14 D14 => ?_
  have gz15 : h0.size ≤ a14 := Nat.le_trans K13.1 (Nat.le_of_eq g14.symm)
  have ne16 : r0 ≠ a14 := Nat.ne_of_lt (Nat.lt_of_lt_of_eq F11.lt g14.symm)
  have ne17 : a1 ≠ a14 := Nat.ne_of_lt (Nat.lt_of_lt_of_eq A10.lt g14.symm)
  have ge18 : n0 ≤ a14 := Nat.le_trans sz12 (Nat.le_of_eq g14.symm)
  have F19 : Arv Z h14 r0 ka .boolean (1 : Int32) ([x0].map Value.int) (.int 0) := F11.ext E14
  have F20 : Arv Z h14 a1 k1 .byte (1 : Int32) ([(nar .byte ((f1_26_s0 x0).toInt8.toInt32))].map Value.int) (.int 0) := A10.ext E14
  have sz21 : n0 ≤ h14.size := Nat.le_trans sz12 E14.1
  have K22 : Keep h0 h14 [] := K13.ext E14
  have F23 : Fld Z h14 a14 "com/example/whittle/whittle/model/Bits" "values" "[B" .null := D14 (Or.inr (wd_16 hw)) (ty := (.array .byte)) (by decide)
  refine o_dup 38 X14 hx rfl (hb hby d1_37) rfl ?_
  refine o_aloadN 39 X14 hx rfl (hb hby d1_38) rfl rfl ?_
  refine o_callIw 42 X14 hx rfl hZ rfl hown (wd_9 hw) (wd_10 hw) (wd_4 hw) (wd_11 hw) (by decide) e14 N10 (rm2 l Z a0 hw a14 a1 h14 n0 sz21 ge18 A14 F23) pd_laBrV a14 [(.ref a1)] [(.ref a14)] rfl rfl (by rw [hml]; rfl) rfl (hb hby d1_39) 1 (Nat.le_of_eq rfl) (by decide) (by decide) (by decide) (by decide) fun v24 T24 L24 LL24 X24 Q24 NF24 => ?_
  obtain ⟨rfl, M24, K24, E24, F24_values⟩ := Q24
  have NN24 := NF24 M24
  have F25 : Arv Z T24.heap r0 ka .boolean (1 : Int32) ([x0].map Value.int) (.int 0) := F19.keep K24 (ninS ne16 nin0)
  have F26 : Arv Z T24.heap a1 k1 .byte (1 : Int32) ([(nar .byte ((f1_26_s0 x0).toInt8.toInt32))].map Value.int) (.int 0) := F20.keep K24 (ninS ne17 nin0)
  have K27 : Keep h0 T24.heap [] := K22.trans K24 (allS (P := fun x => x ∈ [] ∨ h0.size ≤ x) (Or.inr gz15) all0)
  have sz28 : n0 ≤ T24.heap.size := Nat.le_trans sz21 K24.1
  show Go p.tables e below (EndE s ({ frames := 2, cells := 2, slots := 2, locals := 26 } : Room) (fun v h L => ∃ (a b : Addr) (kb : ClassId), v = some (.ref a) ∧ Fr n0 L ∧ Keep h0 h [] ∧ n0 ≤ a ∧ n0 ≤ b ∧ Exa Z h a "com/example/whittle/whittle/model/Bits" ∧ Fld Z h a "com/example/whittle/whittle/model/Bits" "values" "[B" (.ref b) ∧ Arv Z h b kb .byte (1 : Int32) ([(nar .byte ((own_z x0).toInt8.toInt32))].map Value.int) (.int 0))) (T24.setTop (mkF m 42 #[.val (.ref r0), .val (.ref a1), .val (.int (1 : Int32))] [(.ref a14)]))
  refine o_retA X24 hx rfl rfl hret hlk (hb hby d1_42) (by decide) (by decide) ?_
  exact ⟨a14, a1, k1, rfl, NN24, K27, ge18, ge4, E24, F24_values, F26⟩
def f1_26_s0' (x0 : Int32) : Int32 := (if x0 = (0 : Int32) then (0 : Int32) else (1 : Int32))
def f1_26_s0'' (x1 : Int32) : Int32 := (if x1 = (0 : Int32) then (0 : Int32) else (1 : Int32))
set_option maxRecDepth 65536 in
set_option maxHeartbeats 40000000 in
theorem rm1_2 (l : Launch) (Z : State) (a0 : Array Value) (hw : ∀ d ∈ tables_1, d.before a0 Z = true) (r0 : Addr) (ka : ClassId) (x0 x1 : Int32) (h0 : Heap) (n0 : Nat) (Z0 : n0 ≤ h0.size) (A0 : Arv Z h0 r0 ka .boolean (2 : Int32) ([x0, x1].map Value.int) (.int 0)) : MetP l (⟨"com/example/whittle/whittle/model/Bits", "of", "([Z)Lcom/example/whittle/whittle/model/Bits;"⟩ : MethodName) prog_32_method_5_code 3 (some (.object "com/example/whittle/whittle/model/Bits")) [] ({ frames := 2, cells := 2, slots := 3, locals := 26 } : Room) Z #[(.ref r0)] h0 (fun v h L => ∃ (a b : Addr) (kb : ClassId), v = some (.ref a) ∧ Fr n0 L ∧ Keep h0 h [] ∧ n0 ≤ a ∧ n0 ≤ b ∧ Exa Z h a "com/example/whittle/whittle/model/Bits" ∧ Fld Z h a "com/example/whittle/whittle/model/Bits" "values" "[B" (.ref b) ∧ Arv Z h b kb .byte (2 : Int32) ([(nar .byte ((own_z x0).toInt8.toInt32)), (nar .byte ((own_z x1).toInt8.toInt32))].map Value.int) (.int 0)) := by
  refine met_go pn_1 ?_
  intro p e s m below meth c s₁ hx hby hml hown hnm hret hlk hZ e0 X0
  have N0 := Fr.nil n0
  have K0 : Keep h0 h0 [] := Keep.refl _ _
  rw [ef_1 m r0]
  refine o_aloadN 1 X0 hx rfl (hb hby d1_0) rfl rfl ?_
  refine o_alen 2 X0 hx rfl hZ e0 A0 (hb hby d1_1) ?_
  refine o_newarrI 4 X0 hx rfl hZ .byte .byte rfl rfl (wd_6 hw) e0 (hb hby d1_2) (by decide) 2 (by decide) (by decide) (by decide) (by decide) [(0 : Int32), (0 : Int32)] rfl fun T1 h1 a1 k1 g1 X1 e1 E1 A1 => ?_
  have gz2 : h0.size ≤ a1 := Nat.le_trans K0.1 (Nat.le_of_eq g1.symm)
  have ne3 : r0 ≠ a1 := Nat.ne_of_lt (Nat.lt_of_lt_of_eq A0.lt g1.symm)
  have ge4 : n0 ≤ a1 := Nat.le_trans Z0 (Nat.le_of_eq g1.symm)
  have F5 : Arv Z h1 r0 ka .boolean (2 : Int32) ([x0, x1].map Value.int) (.int 0) := A0.ext E1
  have sz6 : n0 ≤ h1.size := Nat.le_trans Z0 E1.1
  have K7 : Keep h0 h1 [] := K0.ext E1
  refine o_astoreN 5 X1 hx rfl (hb hby d1_4) rfl #[.val (.ref r0), .val (.ref a1), .unset] rfl ?_
  refine o_iconst 6 X1 hx rfl (hb hby d1_5) (0 : Int32) rfl ?_
  refine o_istoreN 7 X1 hx rfl (hb hby d1_6) #[.val (.ref r0), .val (.ref a1), .val (.int (0 : Int32))] rfl ?_
  refine o_iloadN 8 X1 hx rfl (hb hby d1_7) rfl ?_
  refine o_aloadN 9 X1 hx rfl (hb hby d1_8) rfl rfl ?_
  refine o_alen 10 X1 hx rfl hZ e1 F5 (hb hby d1_9) ?_
  refine o_icmpNo 13 X1 hx rfl (hb hby d1_10) (tlt (show (0 : Int32) < (2 : Int32) by decide)).2.1 ?_
  refine o_aloadN 14 X1 hx rfl (hb hby d1_13) rfl rfl ?_
  refine o_iloadN 15 X1 hx rfl (hb hby d1_14) rfl ?_
  refine o_aloadN 16 X1 hx rfl (hb hby d1_15) rfl rfl ?_
  refine o_iloadN 17 X1 hx rfl (hb hby d1_16) rfl ?_
  refine o_baloadZX 18 X1 hx rfl hZ e1 F5 (by decide) (hb hby d1_17) x0 rfl ?_
  suffices j26_8 : Go p.tables e below (EndE s ({ frames := 2, cells := 2, slots := 3, locals := 26 } : Room) (fun v h L => ∃ (a b : Addr) (kb : ClassId), v = some (.ref a) ∧ Fr n0 L ∧ Keep h0 h [] ∧ n0 ≤ a ∧ n0 ≤ b ∧ Exa Z h a "com/example/whittle/whittle/model/Bits" ∧ Fld Z h a "com/example/whittle/whittle/model/Bits" "values" "[B" (.ref b) ∧ Arv Z h b kb .byte (2 : Int32) ([(nar .byte ((own_z x0).toInt8.toInt32)), (nar .byte ((own_z x1).toInt8.toInt32))].map Value.int) (.int 0))) (T1.setTop (mkF m 26 #[.val (.ref r0), .val (.ref a1), .val (.int (0 : Int32))] [(.int (f1_26_s0' x0)), (.int (0 : Int32)), (.ref a1)])) by
    by_cases hc18_9 : x0 = (0 : Int32)
    · refine o_ifYes 25 X1 hx (hb hby d1_18) (teq hc18_9).1 (by decide) (by decide) ?_
      refine o_iconst 26 X1 hx rfl (hb hby d1_25) (0 : Int32) rfl ?_
      rw [show (f1_26_s0' x0) = (0 : Int32) from by unfold f1_26_s0'; simp only [if_pos hc18_9]] at j26_8
      exact j26_8
    · refine o_ifNo 21 X1 hx rfl (hb hby d1_18) (feq hc18_9).1 ?_
      refine o_iconst 22 X1 hx rfl (hb hby d1_21) (1 : Int32) rfl ?_
      refine o_goto 26 X1 hx (hb hby d1_22) (by decide) (by decide) ?_
      rw [show (f1_26_s0' x0) = (1 : Int32) from by unfold f1_26_s0'; simp only [if_neg hc18_9]] at j26_8
      exact j26_8
  refine o_i2b 27 X1 hx rfl (hb hby d1_26) ?_
  refine o_bastoreBX 28 X1 hx rfl hZ e1 A1 (by decide) (Nat.le_of_ble_eq_true rfl) [(nar .byte ((f1_26_s0' x0).toInt8.toInt32)), (0 : Int32)] rfl N0 ge4 (hb hby d1_27) fun T10 h10 L10 X10 N10 e10 W10 A10 => ?_
  have F11 : Arv Z h10 r0 ka .boolean (2 : Int32) ([x0, x1].map Value.int) (.int 0) := F5.other W10 ne3
  have sz12 : n0 ≤ h10.size := Nat.le_trans sz6 (Keep.of_wr W10).1
  have K13 : Keep h0 h10 [] := K7.wr W10 (Or.inr gz2)
  refine o_iinc 31 X10 hx rfl (hb hby d1_28) (1 : Int32) rfl rfl #[.val (.ref r0), .val (.ref a1), .val (.int (1 : Int32))] rfl ?_
  refine o_goto 7 X10 hx (hb hby d1_31) (by decide) (by decide) ?_
  refine o_iloadN 8 X10 hx rfl (hb hby d1_7) rfl ?_
  refine o_aloadN 9 X10 hx rfl (hb hby d1_8) rfl rfl ?_
  refine o_alen 10 X10 hx rfl hZ e10 F11 (hb hby d1_9) ?_
  refine o_icmpNo 13 X10 hx rfl (hb hby d1_10) (tlt (show (1 : Int32) < (2 : Int32) by decide)).2.1 ?_
  refine o_aloadN 14 X10 hx rfl (hb hby d1_13) rfl rfl ?_
  refine o_iloadN 15 X10 hx rfl (hb hby d1_14) rfl ?_
  refine o_aloadN 16 X10 hx rfl (hb hby d1_15) rfl rfl ?_
  refine o_iloadN 17 X10 hx rfl (hb hby d1_16) rfl ?_
  refine o_baloadZX 18 X10 hx rfl hZ e10 F11 (by decide) (hb hby d1_17) x1 rfl ?_
  suffices j26_14 : Go p.tables e below (EndE s ({ frames := 2, cells := 2, slots := 3, locals := 26 } : Room) (fun v h L => ∃ (a b : Addr) (kb : ClassId), v = some (.ref a) ∧ Fr n0 L ∧ Keep h0 h [] ∧ n0 ≤ a ∧ n0 ≤ b ∧ Exa Z h a "com/example/whittle/whittle/model/Bits" ∧ Fld Z h a "com/example/whittle/whittle/model/Bits" "values" "[B" (.ref b) ∧ Arv Z h b kb .byte (2 : Int32) ([(nar .byte ((own_z x0).toInt8.toInt32)), (nar .byte ((own_z x1).toInt8.toInt32))].map Value.int) (.int 0))) (T10.setTop (mkF m 26 #[.val (.ref r0), .val (.ref a1), .val (.int (1 : Int32))] [(.int (f1_26_s0'' x1)), (.int (1 : Int32)), (.ref a1)])) by
    by_cases hc18_15 : x1 = (0 : Int32)
    · refine o_ifYes 25 X10 hx (hb hby d1_18) (teq hc18_15).1 (by decide) (by decide) ?_
      refine o_iconst 26 X10 hx rfl (hb hby d1_25) (0 : Int32) rfl ?_
      rw [show (f1_26_s0'' x1) = (0 : Int32) from by unfold f1_26_s0''; simp only [if_pos hc18_15]] at j26_14
      exact j26_14
    · refine o_ifNo 21 X10 hx rfl (hb hby d1_18) (feq hc18_15).1 ?_
      refine o_iconst 22 X10 hx rfl (hb hby d1_21) (1 : Int32) rfl ?_
      refine o_goto 26 X10 hx (hb hby d1_22) (by decide) (by decide) ?_
      rw [show (f1_26_s0'' x1) = (1 : Int32) from by unfold f1_26_s0''; simp only [if_neg hc18_15]] at j26_14
      exact j26_14
  refine o_i2b 27 X10 hx rfl (hb hby d1_26) ?_
  refine o_bastoreBX 28 X10 hx rfl hZ e10 A10 (by decide) (Nat.le_of_ble_eq_true rfl) [(nar .byte ((f1_26_s0' x0).toInt8.toInt32)), (nar .byte ((f1_26_s0'' x1).toInt8.toInt32))] rfl N10 ge4 (hb hby d1_27) fun T16 h16 L16 X16 N16 e16 W16 A16 => ?_
  have F17 : Arv Z h16 r0 ka .boolean (2 : Int32) ([x0, x1].map Value.int) (.int 0) := F11.other W16 ne3
  have sz18 : n0 ≤ h16.size := Nat.le_trans sz12 (Keep.of_wr W16).1
  have K19 : Keep h0 h16 [] := K13.wr W16 (Or.inr gz2)
  refine o_iinc 31 X16 hx rfl (hb hby d1_28) (1 : Int32) rfl rfl #[.val (.ref r0), .val (.ref a1), .val (.int (2 : Int32))] rfl ?_
  refine o_goto 7 X16 hx (hb hby d1_31) (by decide) (by decide) ?_
  refine o_iloadN 8 X16 hx rfl (hb hby d1_7) rfl ?_
  refine o_aloadN 9 X16 hx rfl (hb hby d1_8) rfl rfl ?_
  refine o_alen 10 X16 hx rfl hZ e16 F17 (hb hby d1_9) ?_
  refine o_icmpYes 34 X16 hx (hb hby d1_10) (flt (show ¬ ((2 : Int32) < (2 : Int32)) by decide)).2.1 (by decide) (by decide) ?_
  refine o_new 37 X16 hx rfl hZ hown (wd_7 hw) (wd_8 hw) (wd_4 hw) e16 (hb hby d1_34) (by decide) (by decide) fun T20 h20 a20 g20 X20 e20 E20 A20 D20 => ?_
  have gz21 : h0.size ≤ a20 := Nat.le_trans K19.1 (Nat.le_of_eq g20.symm)
  have ne22 : r0 ≠ a20 := Nat.ne_of_lt (Nat.lt_of_lt_of_eq F17.lt g20.symm)
  have ne23 : a1 ≠ a20 := Nat.ne_of_lt (Nat.lt_of_lt_of_eq A16.lt g20.symm)
  have ge24 : n0 ≤ a20 := Nat.le_trans sz18 (Nat.le_of_eq g20.symm)
  have F25 : Arv Z h20 r0 ka .boolean (2 : Int32) ([x0, x1].map Value.int) (.int 0) := F17.ext E20
  have F26 : Arv Z h20 a1 k1 .byte (2 : Int32) ([(nar .byte ((f1_26_s0' x0).toInt8.toInt32)), (nar .byte ((f1_26_s0'' x1).toInt8.toInt32))].map Value.int) (.int 0) := A16.ext E20
  have sz27 : n0 ≤ h20.size := Nat.le_trans sz18 E20.1
  have K28 : Keep h0 h20 [] := K19.ext E20
  have F29 : Fld Z h20 a20 "com/example/whittle/whittle/model/Bits" "values" "[B" .null := D20 (Or.inr (wd_16 hw)) (ty := (.array .byte)) (by decide)
  refine o_dup 38 X20 hx rfl (hb hby d1_37) rfl ?_
  refine o_aloadN 39 X20 hx rfl (hb hby d1_38) rfl rfl ?_
  refine o_callIw 42 X20 hx rfl hZ rfl hown (wd_9 hw) (wd_10 hw) (wd_4 hw) (wd_11 hw) (by decide) e20 N16 (rm2 l Z a0 hw a20 a1 h20 n0 sz27 ge24 A20 F29) pd_laBrV a20 [(.ref a1)] [(.ref a20)] rfl rfl (by rw [hml]; rfl) rfl (hb hby d1_39) 1 (Nat.le_of_eq rfl) (by decide) (by decide) (by decide) (by decide) fun v30 T30 L30 LL30 X30 Q30 NF30 => ?_
  obtain ⟨rfl, M30, K30, E30, F30_values⟩ := Q30
  have NN30 := NF30 M30
  have F31 : Arv Z T30.heap r0 ka .boolean (2 : Int32) ([x0, x1].map Value.int) (.int 0) := F25.keep K30 (ninS ne22 nin0)
  have F32 : Arv Z T30.heap a1 k1 .byte (2 : Int32) ([(nar .byte ((f1_26_s0' x0).toInt8.toInt32)), (nar .byte ((f1_26_s0'' x1).toInt8.toInt32))].map Value.int) (.int 0) := F26.keep K30 (ninS ne23 nin0)
  have K33 : Keep h0 T30.heap [] := K28.trans K30 (allS (P := fun x => x ∈ [] ∨ h0.size ≤ x) (Or.inr gz21) all0)
  have sz34 : n0 ≤ T30.heap.size := Nat.le_trans sz27 K30.1
  show Go p.tables e below (EndE s ({ frames := 2, cells := 2, slots := 3, locals := 26 } : Room) (fun v h L => ∃ (a b : Addr) (kb : ClassId), v = some (.ref a) ∧ Fr n0 L ∧ Keep h0 h [] ∧ n0 ≤ a ∧ n0 ≤ b ∧ Exa Z h a "com/example/whittle/whittle/model/Bits" ∧ Fld Z h a "com/example/whittle/whittle/model/Bits" "values" "[B" (.ref b) ∧ Arv Z h b kb .byte (2 : Int32) ([(nar .byte ((own_z x0).toInt8.toInt32)), (nar .byte ((own_z x1).toInt8.toInt32))].map Value.int) (.int 0))) (T30.setTop (mkF m 42 #[.val (.ref r0), .val (.ref a1), .val (.int (2 : Int32))] [(.ref a20)]))
  refine o_retA X30 hx rfl rfl hret hlk (hb hby d1_42) (by decide) (by decide) ?_
  exact ⟨a20, a1, k1, rfl, NN30, K33, ge24, ge4, E30, F30_values, F32⟩
def f1_26_s0''' (x0 : Int32) : Int32 := (if x0 = (0 : Int32) then (0 : Int32) else (1 : Int32))
def f1_26_s0'''' (x1 : Int32) : Int32 := (if x1 = (0 : Int32) then (0 : Int32) else (1 : Int32))
def f1_26_s0''''' (x2 : Int32) : Int32 := (if x2 = (0 : Int32) then (0 : Int32) else (1 : Int32))
set_option maxRecDepth 65536 in
set_option maxHeartbeats 40000000 in
theorem rm1_3 (l : Launch) (Z : State) (a0 : Array Value) (hw : ∀ d ∈ tables_1, d.before a0 Z = true) (r0 : Addr) (ka : ClassId) (x0 x1 x2 : Int32) (h0 : Heap) (n0 : Nat) (Z0 : n0 ≤ h0.size) (A0 : Arv Z h0 r0 ka .boolean (3 : Int32) ([x0, x1, x2].map Value.int) (.int 0)) : MetP l (⟨"com/example/whittle/whittle/model/Bits", "of", "([Z)Lcom/example/whittle/whittle/model/Bits;"⟩ : MethodName) prog_32_method_5_code 3 (some (.object "com/example/whittle/whittle/model/Bits")) [] ({ frames := 2, cells := 2, slots := 4, locals := 26 } : Room) Z #[(.ref r0)] h0 (fun v h L => ∃ (a b : Addr) (kb : ClassId), v = some (.ref a) ∧ Fr n0 L ∧ Keep h0 h [] ∧ n0 ≤ a ∧ n0 ≤ b ∧ Exa Z h a "com/example/whittle/whittle/model/Bits" ∧ Fld Z h a "com/example/whittle/whittle/model/Bits" "values" "[B" (.ref b) ∧ Arv Z h b kb .byte (3 : Int32) ([(nar .byte ((own_z x0).toInt8.toInt32)), (nar .byte ((own_z x1).toInt8.toInt32)), (nar .byte ((own_z x2).toInt8.toInt32))].map Value.int) (.int 0)) := by
  refine met_go pn_1 ?_
  intro p e s m below meth c s₁ hx hby hml hown hnm hret hlk hZ e0 X0
  have N0 := Fr.nil n0
  have K0 : Keep h0 h0 [] := Keep.refl _ _
  rw [ef_1 m r0]
  refine o_aloadN 1 X0 hx rfl (hb hby d1_0) rfl rfl ?_
  refine o_alen 2 X0 hx rfl hZ e0 A0 (hb hby d1_1) ?_
  refine o_newarrI 4 X0 hx rfl hZ .byte .byte rfl rfl (wd_6 hw) e0 (hb hby d1_2) (by decide) 3 (by decide) (by decide) (by decide) (by decide) [(0 : Int32), (0 : Int32), (0 : Int32)] rfl fun T1 h1 a1 k1 g1 X1 e1 E1 A1 => ?_
  have gz2 : h0.size ≤ a1 := Nat.le_trans K0.1 (Nat.le_of_eq g1.symm)
  have ne3 : r0 ≠ a1 := Nat.ne_of_lt (Nat.lt_of_lt_of_eq A0.lt g1.symm)
  have ge4 : n0 ≤ a1 := Nat.le_trans Z0 (Nat.le_of_eq g1.symm)
  have F5 : Arv Z h1 r0 ka .boolean (3 : Int32) ([x0, x1, x2].map Value.int) (.int 0) := A0.ext E1
  have sz6 : n0 ≤ h1.size := Nat.le_trans Z0 E1.1
  have K7 : Keep h0 h1 [] := K0.ext E1
  refine o_astoreN 5 X1 hx rfl (hb hby d1_4) rfl #[.val (.ref r0), .val (.ref a1), .unset] rfl ?_
  refine o_iconst 6 X1 hx rfl (hb hby d1_5) (0 : Int32) rfl ?_
  refine o_istoreN 7 X1 hx rfl (hb hby d1_6) #[.val (.ref r0), .val (.ref a1), .val (.int (0 : Int32))] rfl ?_
  refine o_iloadN 8 X1 hx rfl (hb hby d1_7) rfl ?_
  refine o_aloadN 9 X1 hx rfl (hb hby d1_8) rfl rfl ?_
  refine o_alen 10 X1 hx rfl hZ e1 F5 (hb hby d1_9) ?_
  refine o_icmpNo 13 X1 hx rfl (hb hby d1_10) (tlt (show (0 : Int32) < (3 : Int32) by decide)).2.1 ?_
  refine o_aloadN 14 X1 hx rfl (hb hby d1_13) rfl rfl ?_
  refine o_iloadN 15 X1 hx rfl (hb hby d1_14) rfl ?_
  refine o_aloadN 16 X1 hx rfl (hb hby d1_15) rfl rfl ?_
  refine o_iloadN 17 X1 hx rfl (hb hby d1_16) rfl ?_
  refine o_baloadZX 18 X1 hx rfl hZ e1 F5 (by decide) (hb hby d1_17) x0 rfl ?_
  suffices j26_8 : Go p.tables e below (EndE s ({ frames := 2, cells := 2, slots := 4, locals := 26 } : Room) (fun v h L => ∃ (a b : Addr) (kb : ClassId), v = some (.ref a) ∧ Fr n0 L ∧ Keep h0 h [] ∧ n0 ≤ a ∧ n0 ≤ b ∧ Exa Z h a "com/example/whittle/whittle/model/Bits" ∧ Fld Z h a "com/example/whittle/whittle/model/Bits" "values" "[B" (.ref b) ∧ Arv Z h b kb .byte (3 : Int32) ([(nar .byte ((own_z x0).toInt8.toInt32)), (nar .byte ((own_z x1).toInt8.toInt32)), (nar .byte ((own_z x2).toInt8.toInt32))].map Value.int) (.int 0))) (T1.setTop (mkF m 26 #[.val (.ref r0), .val (.ref a1), .val (.int (0 : Int32))] [(.int (f1_26_s0''' x0)), (.int (0 : Int32)), (.ref a1)])) by
    by_cases hc18_9 : x0 = (0 : Int32)
    · refine o_ifYes 25 X1 hx (hb hby d1_18) (teq hc18_9).1 (by decide) (by decide) ?_
      refine o_iconst 26 X1 hx rfl (hb hby d1_25) (0 : Int32) rfl ?_
      rw [show (f1_26_s0''' x0) = (0 : Int32) from by unfold f1_26_s0'''; simp only [if_pos hc18_9]] at j26_8
      exact j26_8
    · refine o_ifNo 21 X1 hx rfl (hb hby d1_18) (feq hc18_9).1 ?_
      refine o_iconst 22 X1 hx rfl (hb hby d1_21) (1 : Int32) rfl ?_
      refine o_goto 26 X1 hx (hb hby d1_22) (by decide) (by decide) ?_
      rw [show (f1_26_s0''' x0) = (1 : Int32) from by unfold f1_26_s0'''; simp only [if_neg hc18_9]] at j26_8
      exact j26_8
  refine o_i2b 27 X1 hx rfl (hb hby d1_26) ?_
  refine o_bastoreBX 28 X1 hx rfl hZ e1 A1 (by decide) (Nat.le_of_ble_eq_true rfl) [(nar .byte ((f1_26_s0''' x0).toInt8.toInt32)), (0 : Int32), (0 : Int32)] rfl N0 ge4 (hb hby d1_27) fun T10 h10 L10 X10 N10 e10 W10 A10 => ?_
  have F11 : Arv Z h10 r0 ka .boolean (3 : Int32) ([x0, x1, x2].map Value.int) (.int 0) := F5.other W10 ne3
  have sz12 : n0 ≤ h10.size := Nat.le_trans sz6 (Keep.of_wr W10).1
  have K13 : Keep h0 h10 [] := K7.wr W10 (Or.inr gz2)
  refine o_iinc 31 X10 hx rfl (hb hby d1_28) (1 : Int32) rfl rfl #[.val (.ref r0), .val (.ref a1), .val (.int (1 : Int32))] rfl ?_
  refine o_goto 7 X10 hx (hb hby d1_31) (by decide) (by decide) ?_
  refine o_iloadN 8 X10 hx rfl (hb hby d1_7) rfl ?_
  refine o_aloadN 9 X10 hx rfl (hb hby d1_8) rfl rfl ?_
  refine o_alen 10 X10 hx rfl hZ e10 F11 (hb hby d1_9) ?_
  refine o_icmpNo 13 X10 hx rfl (hb hby d1_10) (tlt (show (1 : Int32) < (3 : Int32) by decide)).2.1 ?_
  refine o_aloadN 14 X10 hx rfl (hb hby d1_13) rfl rfl ?_
  refine o_iloadN 15 X10 hx rfl (hb hby d1_14) rfl ?_
  refine o_aloadN 16 X10 hx rfl (hb hby d1_15) rfl rfl ?_
  refine o_iloadN 17 X10 hx rfl (hb hby d1_16) rfl ?_
  refine o_baloadZX 18 X10 hx rfl hZ e10 F11 (by decide) (hb hby d1_17) x1 rfl ?_
  suffices j26_14 : Go p.tables e below (EndE s ({ frames := 2, cells := 2, slots := 4, locals := 26 } : Room) (fun v h L => ∃ (a b : Addr) (kb : ClassId), v = some (.ref a) ∧ Fr n0 L ∧ Keep h0 h [] ∧ n0 ≤ a ∧ n0 ≤ b ∧ Exa Z h a "com/example/whittle/whittle/model/Bits" ∧ Fld Z h a "com/example/whittle/whittle/model/Bits" "values" "[B" (.ref b) ∧ Arv Z h b kb .byte (3 : Int32) ([(nar .byte ((own_z x0).toInt8.toInt32)), (nar .byte ((own_z x1).toInt8.toInt32)), (nar .byte ((own_z x2).toInt8.toInt32))].map Value.int) (.int 0))) (T10.setTop (mkF m 26 #[.val (.ref r0), .val (.ref a1), .val (.int (1 : Int32))] [(.int (f1_26_s0'''' x1)), (.int (1 : Int32)), (.ref a1)])) by
    by_cases hc18_15 : x1 = (0 : Int32)
    · refine o_ifYes 25 X10 hx (hb hby d1_18) (teq hc18_15).1 (by decide) (by decide) ?_
      refine o_iconst 26 X10 hx rfl (hb hby d1_25) (0 : Int32) rfl ?_
      rw [show (f1_26_s0'''' x1) = (0 : Int32) from by unfold f1_26_s0''''; simp only [if_pos hc18_15]] at j26_14
      exact j26_14
    · refine o_ifNo 21 X10 hx rfl (hb hby d1_18) (feq hc18_15).1 ?_
      refine o_iconst 22 X10 hx rfl (hb hby d1_21) (1 : Int32) rfl ?_
      refine o_goto 26 X10 hx (hb hby d1_22) (by decide) (by decide) ?_
      rw [show (f1_26_s0'''' x1) = (1 : Int32) from by unfold f1_26_s0''''; simp only [if_neg hc18_15]] at j26_14
      exact j26_14
  refine o_i2b 27 X10 hx rfl (hb hby d1_26) ?_
  refine o_bastoreBX 28 X10 hx rfl hZ e10 A10 (by decide) (Nat.le_of_ble_eq_true rfl) [(nar .byte ((f1_26_s0''' x0).toInt8.toInt32)), (nar .byte ((f1_26_s0'''' x1).toInt8.toInt32)), (0 : Int32)] rfl N10 ge4 (hb hby d1_27) fun T16 h16 L16 X16 N16 e16 W16 A16 => ?_
  have F17 : Arv Z h16 r0 ka .boolean (3 : Int32) ([x0, x1, x2].map Value.int) (.int 0) := F11.other W16 ne3
  have sz18 : n0 ≤ h16.size := Nat.le_trans sz12 (Keep.of_wr W16).1
  have K19 : Keep h0 h16 [] := K13.wr W16 (Or.inr gz2)
  refine o_iinc 31 X16 hx rfl (hb hby d1_28) (1 : Int32) rfl rfl #[.val (.ref r0), .val (.ref a1), .val (.int (2 : Int32))] rfl ?_
  refine o_goto 7 X16 hx (hb hby d1_31) (by decide) (by decide) ?_
  refine o_iloadN 8 X16 hx rfl (hb hby d1_7) rfl ?_
  refine o_aloadN 9 X16 hx rfl (hb hby d1_8) rfl rfl ?_
  refine o_alen 10 X16 hx rfl hZ e16 F17 (hb hby d1_9) ?_
  refine o_icmpNo 13 X16 hx rfl (hb hby d1_10) (tlt (show (2 : Int32) < (3 : Int32) by decide)).2.1 ?_
  refine o_aloadN 14 X16 hx rfl (hb hby d1_13) rfl rfl ?_
  refine o_iloadN 15 X16 hx rfl (hb hby d1_14) rfl ?_
  refine o_aloadN 16 X16 hx rfl (hb hby d1_15) rfl rfl ?_
  refine o_iloadN 17 X16 hx rfl (hb hby d1_16) rfl ?_
  refine o_baloadZX 18 X16 hx rfl hZ e16 F17 (by decide) (hb hby d1_17) x2 rfl ?_
  suffices j26_20 : Go p.tables e below (EndE s ({ frames := 2, cells := 2, slots := 4, locals := 26 } : Room) (fun v h L => ∃ (a b : Addr) (kb : ClassId), v = some (.ref a) ∧ Fr n0 L ∧ Keep h0 h [] ∧ n0 ≤ a ∧ n0 ≤ b ∧ Exa Z h a "com/example/whittle/whittle/model/Bits" ∧ Fld Z h a "com/example/whittle/whittle/model/Bits" "values" "[B" (.ref b) ∧ Arv Z h b kb .byte (3 : Int32) ([(nar .byte ((own_z x0).toInt8.toInt32)), (nar .byte ((own_z x1).toInt8.toInt32)), (nar .byte ((own_z x2).toInt8.toInt32))].map Value.int) (.int 0))) (T16.setTop (mkF m 26 #[.val (.ref r0), .val (.ref a1), .val (.int (2 : Int32))] [(.int (f1_26_s0''''' x2)), (.int (2 : Int32)), (.ref a1)])) by
    by_cases hc18_21 : x2 = (0 : Int32)
    · refine o_ifYes 25 X16 hx (hb hby d1_18) (teq hc18_21).1 (by decide) (by decide) ?_
      refine o_iconst 26 X16 hx rfl (hb hby d1_25) (0 : Int32) rfl ?_
      rw [show (f1_26_s0''''' x2) = (0 : Int32) from by unfold f1_26_s0'''''; simp only [if_pos hc18_21]] at j26_20
      exact j26_20
    · refine o_ifNo 21 X16 hx rfl (hb hby d1_18) (feq hc18_21).1 ?_
      refine o_iconst 22 X16 hx rfl (hb hby d1_21) (1 : Int32) rfl ?_
      refine o_goto 26 X16 hx (hb hby d1_22) (by decide) (by decide) ?_
      rw [show (f1_26_s0''''' x2) = (1 : Int32) from by unfold f1_26_s0'''''; simp only [if_neg hc18_21]] at j26_20
      exact j26_20
  refine o_i2b 27 X16 hx rfl (hb hby d1_26) ?_
  refine o_bastoreBX 28 X16 hx rfl hZ e16 A16 (by decide) (Nat.le_of_ble_eq_true rfl) [(nar .byte ((f1_26_s0''' x0).toInt8.toInt32)), (nar .byte ((f1_26_s0'''' x1).toInt8.toInt32)), (nar .byte ((f1_26_s0''''' x2).toInt8.toInt32))] rfl N16 ge4 (hb hby d1_27) fun T22 h22 L22 X22 N22 e22 W22 A22 => ?_
  have F23 : Arv Z h22 r0 ka .boolean (3 : Int32) ([x0, x1, x2].map Value.int) (.int 0) := F17.other W22 ne3
  have sz24 : n0 ≤ h22.size := Nat.le_trans sz18 (Keep.of_wr W22).1
  have K25 : Keep h0 h22 [] := K19.wr W22 (Or.inr gz2)
  refine o_iinc 31 X22 hx rfl (hb hby d1_28) (1 : Int32) rfl rfl #[.val (.ref r0), .val (.ref a1), .val (.int (3 : Int32))] rfl ?_
  refine o_goto 7 X22 hx (hb hby d1_31) (by decide) (by decide) ?_
  refine o_iloadN 8 X22 hx rfl (hb hby d1_7) rfl ?_
  refine o_aloadN 9 X22 hx rfl (hb hby d1_8) rfl rfl ?_
  refine o_alen 10 X22 hx rfl hZ e22 F23 (hb hby d1_9) ?_
  refine o_icmpYes 34 X22 hx (hb hby d1_10) (flt (show ¬ ((3 : Int32) < (3 : Int32)) by decide)).2.1 (by decide) (by decide) ?_
  refine o_new 37 X22 hx rfl hZ hown (wd_7 hw) (wd_8 hw) (wd_4 hw) e22 (hb hby d1_34) (by decide) (by decide) fun T26 h26 a26 g26 X26 e26 E26 A26 D26 => ?_
  have gz27 : h0.size ≤ a26 := Nat.le_trans K25.1 (Nat.le_of_eq g26.symm)
  have ne28 : r0 ≠ a26 := Nat.ne_of_lt (Nat.lt_of_lt_of_eq F23.lt g26.symm)
  have ne29 : a1 ≠ a26 := Nat.ne_of_lt (Nat.lt_of_lt_of_eq A22.lt g26.symm)
  have ge30 : n0 ≤ a26 := Nat.le_trans sz24 (Nat.le_of_eq g26.symm)
  have F31 : Arv Z h26 r0 ka .boolean (3 : Int32) ([x0, x1, x2].map Value.int) (.int 0) := F23.ext E26
  have F32 : Arv Z h26 a1 k1 .byte (3 : Int32) ([(nar .byte ((f1_26_s0''' x0).toInt8.toInt32)), (nar .byte ((f1_26_s0'''' x1).toInt8.toInt32)), (nar .byte ((f1_26_s0''''' x2).toInt8.toInt32))].map Value.int) (.int 0) := A22.ext E26
  have sz33 : n0 ≤ h26.size := Nat.le_trans sz24 E26.1
  have K34 : Keep h0 h26 [] := K25.ext E26
  have F35 : Fld Z h26 a26 "com/example/whittle/whittle/model/Bits" "values" "[B" .null := D26 (Or.inr (wd_16 hw)) (ty := (.array .byte)) (by decide)
  refine o_dup 38 X26 hx rfl (hb hby d1_37) rfl ?_
  refine o_aloadN 39 X26 hx rfl (hb hby d1_38) rfl rfl ?_
  refine o_callIw 42 X26 hx rfl hZ rfl hown (wd_9 hw) (wd_10 hw) (wd_4 hw) (wd_11 hw) (by decide) e26 N22 (rm2 l Z a0 hw a26 a1 h26 n0 sz33 ge30 A26 F35) pd_laBrV a26 [(.ref a1)] [(.ref a26)] rfl rfl (by rw [hml]; rfl) rfl (hb hby d1_39) 1 (Nat.le_of_eq rfl) (by decide) (by decide) (by decide) (by decide) fun v36 T36 L36 LL36 X36 Q36 NF36 => ?_
  obtain ⟨rfl, M36, K36, E36, F36_values⟩ := Q36
  have NN36 := NF36 M36
  have F37 : Arv Z T36.heap r0 ka .boolean (3 : Int32) ([x0, x1, x2].map Value.int) (.int 0) := F31.keep K36 (ninS ne28 nin0)
  have F38 : Arv Z T36.heap a1 k1 .byte (3 : Int32) ([(nar .byte ((f1_26_s0''' x0).toInt8.toInt32)), (nar .byte ((f1_26_s0'''' x1).toInt8.toInt32)), (nar .byte ((f1_26_s0''''' x2).toInt8.toInt32))].map Value.int) (.int 0) := F32.keep K36 (ninS ne29 nin0)
  have K39 : Keep h0 T36.heap [] := K34.trans K36 (allS (P := fun x => x ∈ [] ∨ h0.size ≤ x) (Or.inr gz27) all0)
  have sz40 : n0 ≤ T36.heap.size := Nat.le_trans sz33 K36.1
  show Go p.tables e below (EndE s ({ frames := 2, cells := 2, slots := 4, locals := 26 } : Room) (fun v h L => ∃ (a b : Addr) (kb : ClassId), v = some (.ref a) ∧ Fr n0 L ∧ Keep h0 h [] ∧ n0 ≤ a ∧ n0 ≤ b ∧ Exa Z h a "com/example/whittle/whittle/model/Bits" ∧ Fld Z h a "com/example/whittle/whittle/model/Bits" "values" "[B" (.ref b) ∧ Arv Z h b kb .byte (3 : Int32) ([(nar .byte ((own_z x0).toInt8.toInt32)), (nar .byte ((own_z x1).toInt8.toInt32)), (nar .byte ((own_z x2).toInt8.toInt32))].map Value.int) (.int 0))) (T36.setTop (mkF m 42 #[.val (.ref r0), .val (.ref a1), .val (.int (3 : Int32))] [(.ref a26)]))
  refine o_retA X36 hx rfl rfl hret hlk (hb hby d1_42) (by decide) (by decide) ?_
  exact ⟨a26, a1, k1, rfl, NN36, K39, ge30, ge4, E36, F36_values, F38⟩
def f1_26_s0'''''' (x0 : Int32) : Int32 := (if x0 = (0 : Int32) then (0 : Int32) else (1 : Int32))
def f1_26_s0''''''' (x1 : Int32) : Int32 := (if x1 = (0 : Int32) then (0 : Int32) else (1 : Int32))
def f1_26_s0'''''''' (x2 : Int32) : Int32 := (if x2 = (0 : Int32) then (0 : Int32) else (1 : Int32))
def f1_26_s0''''''''' (x3 : Int32) : Int32 := (if x3 = (0 : Int32) then (0 : Int32) else (1 : Int32))
set_option maxRecDepth 65536 in
set_option maxHeartbeats 40000000 in
theorem rm1_4 (l : Launch) (Z : State) (a0 : Array Value) (hw : ∀ d ∈ tables_1, d.before a0 Z = true) (r0 : Addr) (ka : ClassId) (x0 x1 x2 x3 : Int32) (h0 : Heap) (n0 : Nat) (Z0 : n0 ≤ h0.size) (A0 : Arv Z h0 r0 ka .boolean (4 : Int32) ([x0, x1, x2, x3].map Value.int) (.int 0)) : MetP l (⟨"com/example/whittle/whittle/model/Bits", "of", "([Z)Lcom/example/whittle/whittle/model/Bits;"⟩ : MethodName) prog_32_method_5_code 3 (some (.object "com/example/whittle/whittle/model/Bits")) [] ({ frames := 2, cells := 2, slots := 5, locals := 26 } : Room) Z #[(.ref r0)] h0 (fun v h L => ∃ (a b : Addr) (kb : ClassId), v = some (.ref a) ∧ Fr n0 L ∧ Keep h0 h [] ∧ n0 ≤ a ∧ n0 ≤ b ∧ Exa Z h a "com/example/whittle/whittle/model/Bits" ∧ Fld Z h a "com/example/whittle/whittle/model/Bits" "values" "[B" (.ref b) ∧ Arv Z h b kb .byte (4 : Int32) ([(nar .byte ((own_z x0).toInt8.toInt32)), (nar .byte ((own_z x1).toInt8.toInt32)), (nar .byte ((own_z x2).toInt8.toInt32)), (nar .byte ((own_z x3).toInt8.toInt32))].map Value.int) (.int 0)) := by
  refine met_go pn_1 ?_
  intro p e s m below meth c s₁ hx hby hml hown hnm hret hlk hZ e0 X0
  have N0 := Fr.nil n0
  have K0 : Keep h0 h0 [] := Keep.refl _ _
  rw [ef_1 m r0]
  refine o_aloadN 1 X0 hx rfl (hb hby d1_0) rfl rfl ?_
  refine o_alen 2 X0 hx rfl hZ e0 A0 (hb hby d1_1) ?_
  refine o_newarrI 4 X0 hx rfl hZ .byte .byte rfl rfl (wd_6 hw) e0 (hb hby d1_2) (by decide) 4 (by decide) (by decide) (by decide) (by decide) [(0 : Int32), (0 : Int32), (0 : Int32), (0 : Int32)] rfl fun T1 h1 a1 k1 g1 X1 e1 E1 A1 => ?_
  have gz2 : h0.size ≤ a1 := Nat.le_trans K0.1 (Nat.le_of_eq g1.symm)
  have ne3 : r0 ≠ a1 := Nat.ne_of_lt (Nat.lt_of_lt_of_eq A0.lt g1.symm)
  have ge4 : n0 ≤ a1 := Nat.le_trans Z0 (Nat.le_of_eq g1.symm)
  have F5 : Arv Z h1 r0 ka .boolean (4 : Int32) ([x0, x1, x2, x3].map Value.int) (.int 0) := A0.ext E1
  have sz6 : n0 ≤ h1.size := Nat.le_trans Z0 E1.1
  have K7 : Keep h0 h1 [] := K0.ext E1
  refine o_astoreN 5 X1 hx rfl (hb hby d1_4) rfl #[.val (.ref r0), .val (.ref a1), .unset] rfl ?_
  refine o_iconst 6 X1 hx rfl (hb hby d1_5) (0 : Int32) rfl ?_
  refine o_istoreN 7 X1 hx rfl (hb hby d1_6) #[.val (.ref r0), .val (.ref a1), .val (.int (0 : Int32))] rfl ?_
  refine o_iloadN 8 X1 hx rfl (hb hby d1_7) rfl ?_
  refine o_aloadN 9 X1 hx rfl (hb hby d1_8) rfl rfl ?_
  refine o_alen 10 X1 hx rfl hZ e1 F5 (hb hby d1_9) ?_
  refine o_icmpNo 13 X1 hx rfl (hb hby d1_10) (tlt (show (0 : Int32) < (4 : Int32) by decide)).2.1 ?_
  refine o_aloadN 14 X1 hx rfl (hb hby d1_13) rfl rfl ?_
  refine o_iloadN 15 X1 hx rfl (hb hby d1_14) rfl ?_
  refine o_aloadN 16 X1 hx rfl (hb hby d1_15) rfl rfl ?_
  refine o_iloadN 17 X1 hx rfl (hb hby d1_16) rfl ?_
  refine o_baloadZX 18 X1 hx rfl hZ e1 F5 (by decide) (hb hby d1_17) x0 rfl ?_
  suffices j26_8 : Go p.tables e below (EndE s ({ frames := 2, cells := 2, slots := 5, locals := 26 } : Room) (fun v h L => ∃ (a b : Addr) (kb : ClassId), v = some (.ref a) ∧ Fr n0 L ∧ Keep h0 h [] ∧ n0 ≤ a ∧ n0 ≤ b ∧ Exa Z h a "com/example/whittle/whittle/model/Bits" ∧ Fld Z h a "com/example/whittle/whittle/model/Bits" "values" "[B" (.ref b) ∧ Arv Z h b kb .byte (4 : Int32) ([(nar .byte ((own_z x0).toInt8.toInt32)), (nar .byte ((own_z x1).toInt8.toInt32)), (nar .byte ((own_z x2).toInt8.toInt32)), (nar .byte ((own_z x3).toInt8.toInt32))].map Value.int) (.int 0))) (T1.setTop (mkF m 26 #[.val (.ref r0), .val (.ref a1), .val (.int (0 : Int32))] [(.int (f1_26_s0'''''' x0)), (.int (0 : Int32)), (.ref a1)])) by
    by_cases hc18_9 : x0 = (0 : Int32)
    · refine o_ifYes 25 X1 hx (hb hby d1_18) (teq hc18_9).1 (by decide) (by decide) ?_
      refine o_iconst 26 X1 hx rfl (hb hby d1_25) (0 : Int32) rfl ?_
      rw [show (f1_26_s0'''''' x0) = (0 : Int32) from by unfold f1_26_s0''''''; simp only [if_pos hc18_9]] at j26_8
      exact j26_8
    · refine o_ifNo 21 X1 hx rfl (hb hby d1_18) (feq hc18_9).1 ?_
      refine o_iconst 22 X1 hx rfl (hb hby d1_21) (1 : Int32) rfl ?_
      refine o_goto 26 X1 hx (hb hby d1_22) (by decide) (by decide) ?_
      rw [show (f1_26_s0'''''' x0) = (1 : Int32) from by unfold f1_26_s0''''''; simp only [if_neg hc18_9]] at j26_8
      exact j26_8
  refine o_i2b 27 X1 hx rfl (hb hby d1_26) ?_
  refine o_bastoreBX 28 X1 hx rfl hZ e1 A1 (by decide) (Nat.le_of_ble_eq_true rfl) [(nar .byte ((f1_26_s0'''''' x0).toInt8.toInt32)), (0 : Int32), (0 : Int32), (0 : Int32)] rfl N0 ge4 (hb hby d1_27) fun T10 h10 L10 X10 N10 e10 W10 A10 => ?_
  have F11 : Arv Z h10 r0 ka .boolean (4 : Int32) ([x0, x1, x2, x3].map Value.int) (.int 0) := F5.other W10 ne3
  have sz12 : n0 ≤ h10.size := Nat.le_trans sz6 (Keep.of_wr W10).1
  have K13 : Keep h0 h10 [] := K7.wr W10 (Or.inr gz2)
  refine o_iinc 31 X10 hx rfl (hb hby d1_28) (1 : Int32) rfl rfl #[.val (.ref r0), .val (.ref a1), .val (.int (1 : Int32))] rfl ?_
  refine o_goto 7 X10 hx (hb hby d1_31) (by decide) (by decide) ?_
  refine o_iloadN 8 X10 hx rfl (hb hby d1_7) rfl ?_
  refine o_aloadN 9 X10 hx rfl (hb hby d1_8) rfl rfl ?_
  refine o_alen 10 X10 hx rfl hZ e10 F11 (hb hby d1_9) ?_
  refine o_icmpNo 13 X10 hx rfl (hb hby d1_10) (tlt (show (1 : Int32) < (4 : Int32) by decide)).2.1 ?_
  refine o_aloadN 14 X10 hx rfl (hb hby d1_13) rfl rfl ?_
  refine o_iloadN 15 X10 hx rfl (hb hby d1_14) rfl ?_
  refine o_aloadN 16 X10 hx rfl (hb hby d1_15) rfl rfl ?_
  refine o_iloadN 17 X10 hx rfl (hb hby d1_16) rfl ?_
  refine o_baloadZX 18 X10 hx rfl hZ e10 F11 (by decide) (hb hby d1_17) x1 rfl ?_
  suffices j26_14 : Go p.tables e below (EndE s ({ frames := 2, cells := 2, slots := 5, locals := 26 } : Room) (fun v h L => ∃ (a b : Addr) (kb : ClassId), v = some (.ref a) ∧ Fr n0 L ∧ Keep h0 h [] ∧ n0 ≤ a ∧ n0 ≤ b ∧ Exa Z h a "com/example/whittle/whittle/model/Bits" ∧ Fld Z h a "com/example/whittle/whittle/model/Bits" "values" "[B" (.ref b) ∧ Arv Z h b kb .byte (4 : Int32) ([(nar .byte ((own_z x0).toInt8.toInt32)), (nar .byte ((own_z x1).toInt8.toInt32)), (nar .byte ((own_z x2).toInt8.toInt32)), (nar .byte ((own_z x3).toInt8.toInt32))].map Value.int) (.int 0))) (T10.setTop (mkF m 26 #[.val (.ref r0), .val (.ref a1), .val (.int (1 : Int32))] [(.int (f1_26_s0''''''' x1)), (.int (1 : Int32)), (.ref a1)])) by
    by_cases hc18_15 : x1 = (0 : Int32)
    · refine o_ifYes 25 X10 hx (hb hby d1_18) (teq hc18_15).1 (by decide) (by decide) ?_
      refine o_iconst 26 X10 hx rfl (hb hby d1_25) (0 : Int32) rfl ?_
      rw [show (f1_26_s0''''''' x1) = (0 : Int32) from by unfold f1_26_s0'''''''; simp only [if_pos hc18_15]] at j26_14
      exact j26_14
    · refine o_ifNo 21 X10 hx rfl (hb hby d1_18) (feq hc18_15).1 ?_
      refine o_iconst 22 X10 hx rfl (hb hby d1_21) (1 : Int32) rfl ?_
      refine o_goto 26 X10 hx (hb hby d1_22) (by decide) (by decide) ?_
      rw [show (f1_26_s0''''''' x1) = (1 : Int32) from by unfold f1_26_s0'''''''; simp only [if_neg hc18_15]] at j26_14
      exact j26_14
  refine o_i2b 27 X10 hx rfl (hb hby d1_26) ?_
  refine o_bastoreBX 28 X10 hx rfl hZ e10 A10 (by decide) (Nat.le_of_ble_eq_true rfl) [(nar .byte ((f1_26_s0'''''' x0).toInt8.toInt32)), (nar .byte ((f1_26_s0''''''' x1).toInt8.toInt32)), (0 : Int32), (0 : Int32)] rfl N10 ge4 (hb hby d1_27) fun T16 h16 L16 X16 N16 e16 W16 A16 => ?_
  have F17 : Arv Z h16 r0 ka .boolean (4 : Int32) ([x0, x1, x2, x3].map Value.int) (.int 0) := F11.other W16 ne3
  have sz18 : n0 ≤ h16.size := Nat.le_trans sz12 (Keep.of_wr W16).1
  have K19 : Keep h0 h16 [] := K13.wr W16 (Or.inr gz2)
  refine o_iinc 31 X16 hx rfl (hb hby d1_28) (1 : Int32) rfl rfl #[.val (.ref r0), .val (.ref a1), .val (.int (2 : Int32))] rfl ?_
  refine o_goto 7 X16 hx (hb hby d1_31) (by decide) (by decide) ?_
  refine o_iloadN 8 X16 hx rfl (hb hby d1_7) rfl ?_
  refine o_aloadN 9 X16 hx rfl (hb hby d1_8) rfl rfl ?_
  refine o_alen 10 X16 hx rfl hZ e16 F17 (hb hby d1_9) ?_
  refine o_icmpNo 13 X16 hx rfl (hb hby d1_10) (tlt (show (2 : Int32) < (4 : Int32) by decide)).2.1 ?_
  refine o_aloadN 14 X16 hx rfl (hb hby d1_13) rfl rfl ?_
  refine o_iloadN 15 X16 hx rfl (hb hby d1_14) rfl ?_
  refine o_aloadN 16 X16 hx rfl (hb hby d1_15) rfl rfl ?_
  refine o_iloadN 17 X16 hx rfl (hb hby d1_16) rfl ?_
  refine o_baloadZX 18 X16 hx rfl hZ e16 F17 (by decide) (hb hby d1_17) x2 rfl ?_
  suffices j26_20 : Go p.tables e below (EndE s ({ frames := 2, cells := 2, slots := 5, locals := 26 } : Room) (fun v h L => ∃ (a b : Addr) (kb : ClassId), v = some (.ref a) ∧ Fr n0 L ∧ Keep h0 h [] ∧ n0 ≤ a ∧ n0 ≤ b ∧ Exa Z h a "com/example/whittle/whittle/model/Bits" ∧ Fld Z h a "com/example/whittle/whittle/model/Bits" "values" "[B" (.ref b) ∧ Arv Z h b kb .byte (4 : Int32) ([(nar .byte ((own_z x0).toInt8.toInt32)), (nar .byte ((own_z x1).toInt8.toInt32)), (nar .byte ((own_z x2).toInt8.toInt32)), (nar .byte ((own_z x3).toInt8.toInt32))].map Value.int) (.int 0))) (T16.setTop (mkF m 26 #[.val (.ref r0), .val (.ref a1), .val (.int (2 : Int32))] [(.int (f1_26_s0'''''''' x2)), (.int (2 : Int32)), (.ref a1)])) by
    by_cases hc18_21 : x2 = (0 : Int32)
    · refine o_ifYes 25 X16 hx (hb hby d1_18) (teq hc18_21).1 (by decide) (by decide) ?_
      refine o_iconst 26 X16 hx rfl (hb hby d1_25) (0 : Int32) rfl ?_
      rw [show (f1_26_s0'''''''' x2) = (0 : Int32) from by unfold f1_26_s0''''''''; simp only [if_pos hc18_21]] at j26_20
      exact j26_20
    · refine o_ifNo 21 X16 hx rfl (hb hby d1_18) (feq hc18_21).1 ?_
      refine o_iconst 22 X16 hx rfl (hb hby d1_21) (1 : Int32) rfl ?_
      refine o_goto 26 X16 hx (hb hby d1_22) (by decide) (by decide) ?_
      rw [show (f1_26_s0'''''''' x2) = (1 : Int32) from by unfold f1_26_s0''''''''; simp only [if_neg hc18_21]] at j26_20
      exact j26_20
  refine o_i2b 27 X16 hx rfl (hb hby d1_26) ?_
  refine o_bastoreBX 28 X16 hx rfl hZ e16 A16 (by decide) (Nat.le_of_ble_eq_true rfl) [(nar .byte ((f1_26_s0'''''' x0).toInt8.toInt32)), (nar .byte ((f1_26_s0''''''' x1).toInt8.toInt32)), (nar .byte ((f1_26_s0'''''''' x2).toInt8.toInt32)), (0 : Int32)] rfl N16 ge4 (hb hby d1_27) fun T22 h22 L22 X22 N22 e22 W22 A22 => ?_
  have F23 : Arv Z h22 r0 ka .boolean (4 : Int32) ([x0, x1, x2, x3].map Value.int) (.int 0) := F17.other W22 ne3
  have sz24 : n0 ≤ h22.size := Nat.le_trans sz18 (Keep.of_wr W22).1
  have K25 : Keep h0 h22 [] := K19.wr W22 (Or.inr gz2)
  refine o_iinc 31 X22 hx rfl (hb hby d1_28) (1 : Int32) rfl rfl #[.val (.ref r0), .val (.ref a1), .val (.int (3 : Int32))] rfl ?_
  refine o_goto 7 X22 hx (hb hby d1_31) (by decide) (by decide) ?_
  refine o_iloadN 8 X22 hx rfl (hb hby d1_7) rfl ?_
  refine o_aloadN 9 X22 hx rfl (hb hby d1_8) rfl rfl ?_
  refine o_alen 10 X22 hx rfl hZ e22 F23 (hb hby d1_9) ?_
  refine o_icmpNo 13 X22 hx rfl (hb hby d1_10) (tlt (show (3 : Int32) < (4 : Int32) by decide)).2.1 ?_
  refine o_aloadN 14 X22 hx rfl (hb hby d1_13) rfl rfl ?_
  refine o_iloadN 15 X22 hx rfl (hb hby d1_14) rfl ?_
  refine o_aloadN 16 X22 hx rfl (hb hby d1_15) rfl rfl ?_
  refine o_iloadN 17 X22 hx rfl (hb hby d1_16) rfl ?_
  refine o_baloadZX 18 X22 hx rfl hZ e22 F23 (by decide) (hb hby d1_17) x3 rfl ?_
  suffices j26_26 : Go p.tables e below (EndE s ({ frames := 2, cells := 2, slots := 5, locals := 26 } : Room) (fun v h L => ∃ (a b : Addr) (kb : ClassId), v = some (.ref a) ∧ Fr n0 L ∧ Keep h0 h [] ∧ n0 ≤ a ∧ n0 ≤ b ∧ Exa Z h a "com/example/whittle/whittle/model/Bits" ∧ Fld Z h a "com/example/whittle/whittle/model/Bits" "values" "[B" (.ref b) ∧ Arv Z h b kb .byte (4 : Int32) ([(nar .byte ((own_z x0).toInt8.toInt32)), (nar .byte ((own_z x1).toInt8.toInt32)), (nar .byte ((own_z x2).toInt8.toInt32)), (nar .byte ((own_z x3).toInt8.toInt32))].map Value.int) (.int 0))) (T22.setTop (mkF m 26 #[.val (.ref r0), .val (.ref a1), .val (.int (3 : Int32))] [(.int (f1_26_s0''''''''' x3)), (.int (3 : Int32)), (.ref a1)])) by
    by_cases hc18_27 : x3 = (0 : Int32)
    · refine o_ifYes 25 X22 hx (hb hby d1_18) (teq hc18_27).1 (by decide) (by decide) ?_
      refine o_iconst 26 X22 hx rfl (hb hby d1_25) (0 : Int32) rfl ?_
      rw [show (f1_26_s0''''''''' x3) = (0 : Int32) from by unfold f1_26_s0'''''''''; simp only [if_pos hc18_27]] at j26_26
      exact j26_26
    · refine o_ifNo 21 X22 hx rfl (hb hby d1_18) (feq hc18_27).1 ?_
      refine o_iconst 22 X22 hx rfl (hb hby d1_21) (1 : Int32) rfl ?_
      refine o_goto 26 X22 hx (hb hby d1_22) (by decide) (by decide) ?_
      rw [show (f1_26_s0''''''''' x3) = (1 : Int32) from by unfold f1_26_s0'''''''''; simp only [if_neg hc18_27]] at j26_26
      exact j26_26
  refine o_i2b 27 X22 hx rfl (hb hby d1_26) ?_
  refine o_bastoreBX 28 X22 hx rfl hZ e22 A22 (by decide) (Nat.le_of_ble_eq_true rfl) [(nar .byte ((f1_26_s0'''''' x0).toInt8.toInt32)), (nar .byte ((f1_26_s0''''''' x1).toInt8.toInt32)), (nar .byte ((f1_26_s0'''''''' x2).toInt8.toInt32)), (nar .byte ((f1_26_s0''''''''' x3).toInt8.toInt32))] rfl N22 ge4 (hb hby d1_27) fun T28 h28 L28 X28 N28 e28 W28 A28 => ?_
  have F29 : Arv Z h28 r0 ka .boolean (4 : Int32) ([x0, x1, x2, x3].map Value.int) (.int 0) := F23.other W28 ne3
  have sz30 : n0 ≤ h28.size := Nat.le_trans sz24 (Keep.of_wr W28).1
  have K31 : Keep h0 h28 [] := K25.wr W28 (Or.inr gz2)
  refine o_iinc 31 X28 hx rfl (hb hby d1_28) (1 : Int32) rfl rfl #[.val (.ref r0), .val (.ref a1), .val (.int (4 : Int32))] rfl ?_
  refine o_goto 7 X28 hx (hb hby d1_31) (by decide) (by decide) ?_
  refine o_iloadN 8 X28 hx rfl (hb hby d1_7) rfl ?_
  refine o_aloadN 9 X28 hx rfl (hb hby d1_8) rfl rfl ?_
  refine o_alen 10 X28 hx rfl hZ e28 F29 (hb hby d1_9) ?_
  refine o_icmpYes 34 X28 hx (hb hby d1_10) (flt (show ¬ ((4 : Int32) < (4 : Int32)) by decide)).2.1 (by decide) (by decide) ?_
  refine o_new 37 X28 hx rfl hZ hown (wd_7 hw) (wd_8 hw) (wd_4 hw) e28 (hb hby d1_34) (by decide) (by decide) fun T32 h32 a32 g32 X32 e32 E32 A32 D32 => ?_
  have gz33 : h0.size ≤ a32 := Nat.le_trans K31.1 (Nat.le_of_eq g32.symm)
  have ne34 : r0 ≠ a32 := Nat.ne_of_lt (Nat.lt_of_lt_of_eq F29.lt g32.symm)
  have ne35 : a1 ≠ a32 := Nat.ne_of_lt (Nat.lt_of_lt_of_eq A28.lt g32.symm)
  have ge36 : n0 ≤ a32 := Nat.le_trans sz30 (Nat.le_of_eq g32.symm)
  have F37 : Arv Z h32 r0 ka .boolean (4 : Int32) ([x0, x1, x2, x3].map Value.int) (.int 0) := F29.ext E32
  have F38 : Arv Z h32 a1 k1 .byte (4 : Int32) ([(nar .byte ((f1_26_s0'''''' x0).toInt8.toInt32)), (nar .byte ((f1_26_s0''''''' x1).toInt8.toInt32)), (nar .byte ((f1_26_s0'''''''' x2).toInt8.toInt32)), (nar .byte ((f1_26_s0''''''''' x3).toInt8.toInt32))].map Value.int) (.int 0) := A28.ext E32
  have sz39 : n0 ≤ h32.size := Nat.le_trans sz30 E32.1
  have K40 : Keep h0 h32 [] := K31.ext E32
  have F41 : Fld Z h32 a32 "com/example/whittle/whittle/model/Bits" "values" "[B" .null := D32 (Or.inr (wd_16 hw)) (ty := (.array .byte)) (by decide)
  refine o_dup 38 X32 hx rfl (hb hby d1_37) rfl ?_
  refine o_aloadN 39 X32 hx rfl (hb hby d1_38) rfl rfl ?_
  refine o_callIw 42 X32 hx rfl hZ rfl hown (wd_9 hw) (wd_10 hw) (wd_4 hw) (wd_11 hw) (by decide) e32 N28 (rm2 l Z a0 hw a32 a1 h32 n0 sz39 ge36 A32 F41) pd_laBrV a32 [(.ref a1)] [(.ref a32)] rfl rfl (by rw [hml]; rfl) rfl (hb hby d1_39) 1 (Nat.le_of_eq rfl) (by decide) (by decide) (by decide) (by decide) fun v42 T42 L42 LL42 X42 Q42 NF42 => ?_
  obtain ⟨rfl, M42, K42, E42, F42_values⟩ := Q42
  have NN42 := NF42 M42
  have F43 : Arv Z T42.heap r0 ka .boolean (4 : Int32) ([x0, x1, x2, x3].map Value.int) (.int 0) := F37.keep K42 (ninS ne34 nin0)
  have F44 : Arv Z T42.heap a1 k1 .byte (4 : Int32) ([(nar .byte ((f1_26_s0'''''' x0).toInt8.toInt32)), (nar .byte ((f1_26_s0''''''' x1).toInt8.toInt32)), (nar .byte ((f1_26_s0'''''''' x2).toInt8.toInt32)), (nar .byte ((f1_26_s0''''''''' x3).toInt8.toInt32))].map Value.int) (.int 0) := F38.keep K42 (ninS ne35 nin0)
  have K45 : Keep h0 T42.heap [] := K40.trans K42 (allS (P := fun x => x ∈ [] ∨ h0.size ≤ x) (Or.inr gz33) all0)
  have sz46 : n0 ≤ T42.heap.size := Nat.le_trans sz39 K42.1
  show Go p.tables e below (EndE s ({ frames := 2, cells := 2, slots := 5, locals := 26 } : Room) (fun v h L => ∃ (a b : Addr) (kb : ClassId), v = some (.ref a) ∧ Fr n0 L ∧ Keep h0 h [] ∧ n0 ≤ a ∧ n0 ≤ b ∧ Exa Z h a "com/example/whittle/whittle/model/Bits" ∧ Fld Z h a "com/example/whittle/whittle/model/Bits" "values" "[B" (.ref b) ∧ Arv Z h b kb .byte (4 : Int32) ([(nar .byte ((own_z x0).toInt8.toInt32)), (nar .byte ((own_z x1).toInt8.toInt32)), (nar .byte ((own_z x2).toInt8.toInt32)), (nar .byte ((own_z x3).toInt8.toInt32))].map Value.int) (.int 0))) (T42.setTop (mkF m 42 #[.val (.ref r0), .val (.ref a1), .val (.int (4 : Int32))] [(.ref a32)]))
  refine o_retA X42 hx rfl rfl hret hlk (hb hby d1_42) (by decide) (by decide) ?_
  exact ⟨a32, a1, k1, rfl, NN42, K45, ge36, ge4, E42, F42_values, F44⟩
theorem ef_0 (m : MethodId) (y0 : Int32) (y1 : Int32) : entryFrame m #[(.int y0), (.int y1)] maxLocals = mkF m 0 #[.val (.int y0), .val (.int y1), .unset, .unset, .unset, .unset, .unset, .unset, .unset] [] := by first | (simp [entryFrame, mkF, argsToLocals, Value.category, maxLocals]; done) | rfl
def f0_6 (i0 : Int32) : Int32 := ((i0 &&& (2147483647 : Int32)) % (5 : Int32))
def f0_18_s0 (i1 : Int32) : Int32 := (if (i1 &&& (1 : Int32)) = (0 : Int32) then (0 : Int32) else (1 : Int32))
def f0_30_s0 (i1 : Int32) : Int32 := (if (i1 &&& (2 : Int32)) = (0 : Int32) then (0 : Int32) else (1 : Int32))
def f0_43_s0 (i1 : Int32) : Int32 := (if (i1 &&& (4 : Int32)) = (0 : Int32) then (0 : Int32) else (1 : Int32))
def f0_57_s0 (i1 : Int32) : Int32 := (if (i1 &&& (8 : Int32)) = (0 : Int32) then (0 : Int32) else (1 : Int32))
theorem own_cases (i0 : Int32) : f0_6 i0 = 0 ∨ f0_6 i0 = 1 ∨ f0_6 i0 = 2 ∨ f0_6 i0 = 3 ∨ f0_6 i0 = 4 := by
  obtain ⟨J, h1, h2⟩ := own_mr i0 5 5 rfl (by decide)
  have h2' : f0_6 i0 = Int32.ofNat J := h2
  rw [h2']
  match J, h1 with
  | 0, _ => exact Or.inl rfl
  | 1, _ => exact Or.inr (Or.inl rfl)
  | 2, _ => exact Or.inr (Or.inr (Or.inl rfl))
  | 3, _ => exact Or.inr (Or.inr (Or.inr (Or.inl rfl)))
  | 4, _ => exact Or.inr (Or.inr (Or.inr (Or.inr rfl)))
  | J + 5, h => exact absurd h (by omega)
theorem own_ag {j b n : Int32} {ys : List Int32} (hlt : j < n) (hy : ys.getD j.toNatClampNeg 0 = b) (hb : b = 0 ∨ b = 1) : ¬ own_at j b n ys = (0 : Int32) := by
  unfold own_at
  rw [if_pos hlt]
  unfold f5_29_s0 own_g7 f7_41_s0
  rw [hy]
  rcases hb with h | h <;> rw [h] <;> decide
theorem own_b0 (i1 : Int32) : f0_18_s0 i1 = 0 ∨ f0_18_s0 i1 = 1 := by unfold f0_18_s0; split <;> simp
theorem own_b1 (i1 : Int32) : f0_30_s0 i1 = 0 ∨ f0_30_s0 i1 = 1 := by unfold f0_30_s0; split <;> simp
theorem own_b2 (i1 : Int32) : f0_43_s0 i1 = 0 ∨ f0_43_s0 i1 = 1 := by unfold f0_43_s0; split <;> simp
theorem own_b3 (i1 : Int32) : f0_57_s0 i1 = 0 ∨ f0_57_s0 i1 = 1 := by unfold f0_57_s0; split <;> simp
theorem own_a_0_0 (i1 : Int32) : ¬ own_at (0 : Int32) (f0_18_s0 i1) (0 : Int32) ([] : List Int32) = (0 : Int32) := by unfold own_at; rw [if_neg (by decide)]; decide
theorem own_a_0_1 (i1 : Int32) : ¬ own_at (1 : Int32) (f0_30_s0 i1) (0 : Int32) ([] : List Int32) = (0 : Int32) := by unfold own_at; rw [if_neg (by decide)]; decide
theorem own_a_0_2 (i1 : Int32) : ¬ own_at (2 : Int32) (f0_43_s0 i1) (0 : Int32) ([] : List Int32) = (0 : Int32) := by unfold own_at; rw [if_neg (by decide)]; decide
theorem own_a_0_3 (i1 : Int32) : ¬ own_at (3 : Int32) (f0_57_s0 i1) (0 : Int32) ([] : List Int32) = (0 : Int32) := by unfold own_at; rw [if_neg (by decide)]; decide
theorem own_y_1_0 (i1 : Int32) : ([(nar .byte ((own_z (nar .boolean (f0_18_s0 i1))).toInt8.toInt32))] : List Int32).getD (0 : Int32).toNatClampNeg 0 = f0_18_s0 i1 := by
  show (nar .byte ((own_z (nar .boolean (f0_18_s0 i1))).toInt8.toInt32)) = f0_18_s0 i1
  rcases own_b0 i1 with h | h <;> rw [h] <;> decide
theorem own_h2_1_0 (i1 : Int32) : ¬ ([(nar .byte ((own_z (nar .boolean (f0_18_s0 i1))).toInt8.toInt32))] : List Int32).getD (0 : Int32).toNatClampNeg 0 = (2 : Int32) := by
  rw [own_y_1_0]; rcases own_b0 i1 with h | h <;> rw [h] <;> decide
theorem own_a_1_0 (i1 : Int32) : ¬ own_at (0 : Int32) (f0_18_s0 i1) (1 : Int32) [(nar .byte ((own_z (nar .boolean (f0_18_s0 i1))).toInt8.toInt32))] = (0 : Int32) := own_ag (by decide) (own_y_1_0 i1) (own_b0 i1)
theorem own_a_1_1 (i1 : Int32) : ¬ own_at (1 : Int32) (f0_30_s0 i1) (1 : Int32) [(nar .byte ((own_z (nar .boolean (f0_18_s0 i1))).toInt8.toInt32))] = (0 : Int32) := by unfold own_at; rw [if_neg (by decide)]; decide
theorem own_a_1_2 (i1 : Int32) : ¬ own_at (2 : Int32) (f0_43_s0 i1) (1 : Int32) [(nar .byte ((own_z (nar .boolean (f0_18_s0 i1))).toInt8.toInt32))] = (0 : Int32) := by unfold own_at; rw [if_neg (by decide)]; decide
theorem own_a_1_3 (i1 : Int32) : ¬ own_at (3 : Int32) (f0_57_s0 i1) (1 : Int32) [(nar .byte ((own_z (nar .boolean (f0_18_s0 i1))).toInt8.toInt32))] = (0 : Int32) := by unfold own_at; rw [if_neg (by decide)]; decide
theorem own_y_2_0 (i1 : Int32) : ([(nar .byte ((own_z (nar .boolean (f0_18_s0 i1))).toInt8.toInt32)), (nar .byte ((own_z (nar .boolean (f0_30_s0 i1))).toInt8.toInt32))] : List Int32).getD (0 : Int32).toNatClampNeg 0 = f0_18_s0 i1 := by
  show (nar .byte ((own_z (nar .boolean (f0_18_s0 i1))).toInt8.toInt32)) = f0_18_s0 i1
  rcases own_b0 i1 with h | h <;> rw [h] <;> decide
theorem own_h2_2_0 (i1 : Int32) : ¬ ([(nar .byte ((own_z (nar .boolean (f0_18_s0 i1))).toInt8.toInt32)), (nar .byte ((own_z (nar .boolean (f0_30_s0 i1))).toInt8.toInt32))] : List Int32).getD (0 : Int32).toNatClampNeg 0 = (2 : Int32) := by
  rw [own_y_2_0]; rcases own_b0 i1 with h | h <;> rw [h] <;> decide
theorem own_a_2_0 (i1 : Int32) : ¬ own_at (0 : Int32) (f0_18_s0 i1) (2 : Int32) [(nar .byte ((own_z (nar .boolean (f0_18_s0 i1))).toInt8.toInt32)), (nar .byte ((own_z (nar .boolean (f0_30_s0 i1))).toInt8.toInt32))] = (0 : Int32) := own_ag (by decide) (own_y_2_0 i1) (own_b0 i1)
theorem own_y_2_1 (i1 : Int32) : ([(nar .byte ((own_z (nar .boolean (f0_18_s0 i1))).toInt8.toInt32)), (nar .byte ((own_z (nar .boolean (f0_30_s0 i1))).toInt8.toInt32))] : List Int32).getD (1 : Int32).toNatClampNeg 0 = f0_30_s0 i1 := by
  show (nar .byte ((own_z (nar .boolean (f0_30_s0 i1))).toInt8.toInt32)) = f0_30_s0 i1
  rcases own_b1 i1 with h | h <;> rw [h] <;> decide
theorem own_h2_2_1 (i1 : Int32) : ¬ ([(nar .byte ((own_z (nar .boolean (f0_18_s0 i1))).toInt8.toInt32)), (nar .byte ((own_z (nar .boolean (f0_30_s0 i1))).toInt8.toInt32))] : List Int32).getD (1 : Int32).toNatClampNeg 0 = (2 : Int32) := by
  rw [own_y_2_1]; rcases own_b1 i1 with h | h <;> rw [h] <;> decide
theorem own_a_2_1 (i1 : Int32) : ¬ own_at (1 : Int32) (f0_30_s0 i1) (2 : Int32) [(nar .byte ((own_z (nar .boolean (f0_18_s0 i1))).toInt8.toInt32)), (nar .byte ((own_z (nar .boolean (f0_30_s0 i1))).toInt8.toInt32))] = (0 : Int32) := own_ag (by decide) (own_y_2_1 i1) (own_b1 i1)
theorem own_a_2_2 (i1 : Int32) : ¬ own_at (2 : Int32) (f0_43_s0 i1) (2 : Int32) [(nar .byte ((own_z (nar .boolean (f0_18_s0 i1))).toInt8.toInt32)), (nar .byte ((own_z (nar .boolean (f0_30_s0 i1))).toInt8.toInt32))] = (0 : Int32) := by unfold own_at; rw [if_neg (by decide)]; decide
theorem own_a_2_3 (i1 : Int32) : ¬ own_at (3 : Int32) (f0_57_s0 i1) (2 : Int32) [(nar .byte ((own_z (nar .boolean (f0_18_s0 i1))).toInt8.toInt32)), (nar .byte ((own_z (nar .boolean (f0_30_s0 i1))).toInt8.toInt32))] = (0 : Int32) := by unfold own_at; rw [if_neg (by decide)]; decide
theorem own_y_3_0 (i1 : Int32) : ([(nar .byte ((own_z (nar .boolean (f0_18_s0 i1))).toInt8.toInt32)), (nar .byte ((own_z (nar .boolean (f0_30_s0 i1))).toInt8.toInt32)), (nar .byte ((own_z (nar .boolean (f0_43_s0 i1))).toInt8.toInt32))] : List Int32).getD (0 : Int32).toNatClampNeg 0 = f0_18_s0 i1 := by
  show (nar .byte ((own_z (nar .boolean (f0_18_s0 i1))).toInt8.toInt32)) = f0_18_s0 i1
  rcases own_b0 i1 with h | h <;> rw [h] <;> decide
theorem own_h2_3_0 (i1 : Int32) : ¬ ([(nar .byte ((own_z (nar .boolean (f0_18_s0 i1))).toInt8.toInt32)), (nar .byte ((own_z (nar .boolean (f0_30_s0 i1))).toInt8.toInt32)), (nar .byte ((own_z (nar .boolean (f0_43_s0 i1))).toInt8.toInt32))] : List Int32).getD (0 : Int32).toNatClampNeg 0 = (2 : Int32) := by
  rw [own_y_3_0]; rcases own_b0 i1 with h | h <;> rw [h] <;> decide
theorem own_a_3_0 (i1 : Int32) : ¬ own_at (0 : Int32) (f0_18_s0 i1) (3 : Int32) [(nar .byte ((own_z (nar .boolean (f0_18_s0 i1))).toInt8.toInt32)), (nar .byte ((own_z (nar .boolean (f0_30_s0 i1))).toInt8.toInt32)), (nar .byte ((own_z (nar .boolean (f0_43_s0 i1))).toInt8.toInt32))] = (0 : Int32) := own_ag (by decide) (own_y_3_0 i1) (own_b0 i1)
theorem own_y_3_1 (i1 : Int32) : ([(nar .byte ((own_z (nar .boolean (f0_18_s0 i1))).toInt8.toInt32)), (nar .byte ((own_z (nar .boolean (f0_30_s0 i1))).toInt8.toInt32)), (nar .byte ((own_z (nar .boolean (f0_43_s0 i1))).toInt8.toInt32))] : List Int32).getD (1 : Int32).toNatClampNeg 0 = f0_30_s0 i1 := by
  show (nar .byte ((own_z (nar .boolean (f0_30_s0 i1))).toInt8.toInt32)) = f0_30_s0 i1
  rcases own_b1 i1 with h | h <;> rw [h] <;> decide
theorem own_h2_3_1 (i1 : Int32) : ¬ ([(nar .byte ((own_z (nar .boolean (f0_18_s0 i1))).toInt8.toInt32)), (nar .byte ((own_z (nar .boolean (f0_30_s0 i1))).toInt8.toInt32)), (nar .byte ((own_z (nar .boolean (f0_43_s0 i1))).toInt8.toInt32))] : List Int32).getD (1 : Int32).toNatClampNeg 0 = (2 : Int32) := by
  rw [own_y_3_1]; rcases own_b1 i1 with h | h <;> rw [h] <;> decide
theorem own_a_3_1 (i1 : Int32) : ¬ own_at (1 : Int32) (f0_30_s0 i1) (3 : Int32) [(nar .byte ((own_z (nar .boolean (f0_18_s0 i1))).toInt8.toInt32)), (nar .byte ((own_z (nar .boolean (f0_30_s0 i1))).toInt8.toInt32)), (nar .byte ((own_z (nar .boolean (f0_43_s0 i1))).toInt8.toInt32))] = (0 : Int32) := own_ag (by decide) (own_y_3_1 i1) (own_b1 i1)
theorem own_y_3_2 (i1 : Int32) : ([(nar .byte ((own_z (nar .boolean (f0_18_s0 i1))).toInt8.toInt32)), (nar .byte ((own_z (nar .boolean (f0_30_s0 i1))).toInt8.toInt32)), (nar .byte ((own_z (nar .boolean (f0_43_s0 i1))).toInt8.toInt32))] : List Int32).getD (2 : Int32).toNatClampNeg 0 = f0_43_s0 i1 := by
  show (nar .byte ((own_z (nar .boolean (f0_43_s0 i1))).toInt8.toInt32)) = f0_43_s0 i1
  rcases own_b2 i1 with h | h <;> rw [h] <;> decide
theorem own_h2_3_2 (i1 : Int32) : ¬ ([(nar .byte ((own_z (nar .boolean (f0_18_s0 i1))).toInt8.toInt32)), (nar .byte ((own_z (nar .boolean (f0_30_s0 i1))).toInt8.toInt32)), (nar .byte ((own_z (nar .boolean (f0_43_s0 i1))).toInt8.toInt32))] : List Int32).getD (2 : Int32).toNatClampNeg 0 = (2 : Int32) := by
  rw [own_y_3_2]; rcases own_b2 i1 with h | h <;> rw [h] <;> decide
theorem own_a_3_2 (i1 : Int32) : ¬ own_at (2 : Int32) (f0_43_s0 i1) (3 : Int32) [(nar .byte ((own_z (nar .boolean (f0_18_s0 i1))).toInt8.toInt32)), (nar .byte ((own_z (nar .boolean (f0_30_s0 i1))).toInt8.toInt32)), (nar .byte ((own_z (nar .boolean (f0_43_s0 i1))).toInt8.toInt32))] = (0 : Int32) := own_ag (by decide) (own_y_3_2 i1) (own_b2 i1)
theorem own_a_3_3 (i1 : Int32) : ¬ own_at (3 : Int32) (f0_57_s0 i1) (3 : Int32) [(nar .byte ((own_z (nar .boolean (f0_18_s0 i1))).toInt8.toInt32)), (nar .byte ((own_z (nar .boolean (f0_30_s0 i1))).toInt8.toInt32)), (nar .byte ((own_z (nar .boolean (f0_43_s0 i1))).toInt8.toInt32))] = (0 : Int32) := by unfold own_at; rw [if_neg (by decide)]; decide
theorem own_y_4_0 (i1 : Int32) : ([(nar .byte ((own_z (nar .boolean (f0_18_s0 i1))).toInt8.toInt32)), (nar .byte ((own_z (nar .boolean (f0_30_s0 i1))).toInt8.toInt32)), (nar .byte ((own_z (nar .boolean (f0_43_s0 i1))).toInt8.toInt32)), (nar .byte ((own_z (nar .boolean (f0_57_s0 i1))).toInt8.toInt32))] : List Int32).getD (0 : Int32).toNatClampNeg 0 = f0_18_s0 i1 := by
  show (nar .byte ((own_z (nar .boolean (f0_18_s0 i1))).toInt8.toInt32)) = f0_18_s0 i1
  rcases own_b0 i1 with h | h <;> rw [h] <;> decide
theorem own_h2_4_0 (i1 : Int32) : ¬ ([(nar .byte ((own_z (nar .boolean (f0_18_s0 i1))).toInt8.toInt32)), (nar .byte ((own_z (nar .boolean (f0_30_s0 i1))).toInt8.toInt32)), (nar .byte ((own_z (nar .boolean (f0_43_s0 i1))).toInt8.toInt32)), (nar .byte ((own_z (nar .boolean (f0_57_s0 i1))).toInt8.toInt32))] : List Int32).getD (0 : Int32).toNatClampNeg 0 = (2 : Int32) := by
  rw [own_y_4_0]; rcases own_b0 i1 with h | h <;> rw [h] <;> decide
theorem own_a_4_0 (i1 : Int32) : ¬ own_at (0 : Int32) (f0_18_s0 i1) (4 : Int32) [(nar .byte ((own_z (nar .boolean (f0_18_s0 i1))).toInt8.toInt32)), (nar .byte ((own_z (nar .boolean (f0_30_s0 i1))).toInt8.toInt32)), (nar .byte ((own_z (nar .boolean (f0_43_s0 i1))).toInt8.toInt32)), (nar .byte ((own_z (nar .boolean (f0_57_s0 i1))).toInt8.toInt32))] = (0 : Int32) := own_ag (by decide) (own_y_4_0 i1) (own_b0 i1)
theorem own_y_4_1 (i1 : Int32) : ([(nar .byte ((own_z (nar .boolean (f0_18_s0 i1))).toInt8.toInt32)), (nar .byte ((own_z (nar .boolean (f0_30_s0 i1))).toInt8.toInt32)), (nar .byte ((own_z (nar .boolean (f0_43_s0 i1))).toInt8.toInt32)), (nar .byte ((own_z (nar .boolean (f0_57_s0 i1))).toInt8.toInt32))] : List Int32).getD (1 : Int32).toNatClampNeg 0 = f0_30_s0 i1 := by
  show (nar .byte ((own_z (nar .boolean (f0_30_s0 i1))).toInt8.toInt32)) = f0_30_s0 i1
  rcases own_b1 i1 with h | h <;> rw [h] <;> decide
theorem own_h2_4_1 (i1 : Int32) : ¬ ([(nar .byte ((own_z (nar .boolean (f0_18_s0 i1))).toInt8.toInt32)), (nar .byte ((own_z (nar .boolean (f0_30_s0 i1))).toInt8.toInt32)), (nar .byte ((own_z (nar .boolean (f0_43_s0 i1))).toInt8.toInt32)), (nar .byte ((own_z (nar .boolean (f0_57_s0 i1))).toInt8.toInt32))] : List Int32).getD (1 : Int32).toNatClampNeg 0 = (2 : Int32) := by
  rw [own_y_4_1]; rcases own_b1 i1 with h | h <;> rw [h] <;> decide
theorem own_a_4_1 (i1 : Int32) : ¬ own_at (1 : Int32) (f0_30_s0 i1) (4 : Int32) [(nar .byte ((own_z (nar .boolean (f0_18_s0 i1))).toInt8.toInt32)), (nar .byte ((own_z (nar .boolean (f0_30_s0 i1))).toInt8.toInt32)), (nar .byte ((own_z (nar .boolean (f0_43_s0 i1))).toInt8.toInt32)), (nar .byte ((own_z (nar .boolean (f0_57_s0 i1))).toInt8.toInt32))] = (0 : Int32) := own_ag (by decide) (own_y_4_1 i1) (own_b1 i1)
theorem own_y_4_2 (i1 : Int32) : ([(nar .byte ((own_z (nar .boolean (f0_18_s0 i1))).toInt8.toInt32)), (nar .byte ((own_z (nar .boolean (f0_30_s0 i1))).toInt8.toInt32)), (nar .byte ((own_z (nar .boolean (f0_43_s0 i1))).toInt8.toInt32)), (nar .byte ((own_z (nar .boolean (f0_57_s0 i1))).toInt8.toInt32))] : List Int32).getD (2 : Int32).toNatClampNeg 0 = f0_43_s0 i1 := by
  show (nar .byte ((own_z (nar .boolean (f0_43_s0 i1))).toInt8.toInt32)) = f0_43_s0 i1
  rcases own_b2 i1 with h | h <;> rw [h] <;> decide
theorem own_h2_4_2 (i1 : Int32) : ¬ ([(nar .byte ((own_z (nar .boolean (f0_18_s0 i1))).toInt8.toInt32)), (nar .byte ((own_z (nar .boolean (f0_30_s0 i1))).toInt8.toInt32)), (nar .byte ((own_z (nar .boolean (f0_43_s0 i1))).toInt8.toInt32)), (nar .byte ((own_z (nar .boolean (f0_57_s0 i1))).toInt8.toInt32))] : List Int32).getD (2 : Int32).toNatClampNeg 0 = (2 : Int32) := by
  rw [own_y_4_2]; rcases own_b2 i1 with h | h <;> rw [h] <;> decide
theorem own_a_4_2 (i1 : Int32) : ¬ own_at (2 : Int32) (f0_43_s0 i1) (4 : Int32) [(nar .byte ((own_z (nar .boolean (f0_18_s0 i1))).toInt8.toInt32)), (nar .byte ((own_z (nar .boolean (f0_30_s0 i1))).toInt8.toInt32)), (nar .byte ((own_z (nar .boolean (f0_43_s0 i1))).toInt8.toInt32)), (nar .byte ((own_z (nar .boolean (f0_57_s0 i1))).toInt8.toInt32))] = (0 : Int32) := own_ag (by decide) (own_y_4_2 i1) (own_b2 i1)
theorem own_y_4_3 (i1 : Int32) : ([(nar .byte ((own_z (nar .boolean (f0_18_s0 i1))).toInt8.toInt32)), (nar .byte ((own_z (nar .boolean (f0_30_s0 i1))).toInt8.toInt32)), (nar .byte ((own_z (nar .boolean (f0_43_s0 i1))).toInt8.toInt32)), (nar .byte ((own_z (nar .boolean (f0_57_s0 i1))).toInt8.toInt32))] : List Int32).getD (3 : Int32).toNatClampNeg 0 = f0_57_s0 i1 := by
  show (nar .byte ((own_z (nar .boolean (f0_57_s0 i1))).toInt8.toInt32)) = f0_57_s0 i1
  rcases own_b3 i1 with h | h <;> rw [h] <;> decide
theorem own_h2_4_3 (i1 : Int32) : ¬ ([(nar .byte ((own_z (nar .boolean (f0_18_s0 i1))).toInt8.toInt32)), (nar .byte ((own_z (nar .boolean (f0_30_s0 i1))).toInt8.toInt32)), (nar .byte ((own_z (nar .boolean (f0_43_s0 i1))).toInt8.toInt32)), (nar .byte ((own_z (nar .boolean (f0_57_s0 i1))).toInt8.toInt32))] : List Int32).getD (3 : Int32).toNatClampNeg 0 = (2 : Int32) := by
  rw [own_y_4_3]; rcases own_b3 i1 with h | h <;> rw [h] <;> decide
theorem own_a_4_3 (i1 : Int32) : ¬ own_at (3 : Int32) (f0_57_s0 i1) (4 : Int32) [(nar .byte ((own_z (nar .boolean (f0_18_s0 i1))).toInt8.toInt32)), (nar .byte ((own_z (nar .boolean (f0_30_s0 i1))).toInt8.toInt32)), (nar .byte ((own_z (nar .boolean (f0_43_s0 i1))).toInt8.toInt32)), (nar .byte ((own_z (nar .boolean (f0_57_s0 i1))).toInt8.toInt32))] = (0 : Int32) := own_ag (by decide) (own_y_4_3 i1) (own_b3 i1)
set_option maxRecDepth 65536 in
set_option maxHeartbeats 40000000 in
theorem rm0 (l : Launch) (Z : State) (a0 : Array Value) (hw : ∀ d ∈ tables_1, d.before a0 Z = true) (ws : List Jvm.Cond) (i0 : Int32) (i1 : Int32) (h0 : Heap) (n0 : Nat) (Z0 : n0 ≤ h0.size) : MetP l x code maxLocals ret ws room_1 Z #[(.int i0), (.int i1)] h0 (fun v h L => v = some (.int (1 : Int32)) ∧ Fr n0 L) := by
  refine met_go pn_0 ?_
  intro p e s m below meth c s₁ hx hby hml hown hnm hret hlk hZ e0 X0
  have N0 := Fr.nil n0
  rw [ef_0 m i0 i1]
  refine o_iloadN 1 X0 hx rfl (hb hby at_0) rfl ?_
  refine o_ldcInt 3 X0 hx rfl hZ hown (wd_0 hw) (hb hby at_1) ?_
  refine o_iand 4 X0 hx rfl (hb hby at_3) ?_
  refine o_iconst 5 X0 hx rfl (hb hby at_4) (5 : Int32) rfl ?_
  refine o_irem 6 X0 hx rfl (hb hby at_5) (by decide) ?_
  refine o_istoreN 7 X0 hx rfl (hb hby at_6) #[.val (.int i0), .val (.int i1), .val (.int (f0_6 i0)), .unset, .unset, .unset, .unset, .unset, .unset] rfl ?_
  refine o_iloadN 8 X0 hx rfl (hb hby at_7) rfl ?_
  refine o_iconst 9 X0 hx rfl (hb hby at_8) (1 : Int32) rfl ?_
  refine o_iand 10 X0 hx rfl (hb hby at_9) ?_
  suffices j18_1 : Go p.tables e below (EndE s room_1 (fun v h L => v = some (.int (1 : Int32)) ∧ Fr n0 L)) (s₁.setTop (mkF m 18 #[.val (.int i0), .val (.int i1), .val (.int (f0_6 i0)), .unset, .unset, .unset, .unset, .unset, .unset] [(.int (f0_18_s0 i1))])) by
    by_cases hc10_2 : (i1 &&& (1 : Int32)) = (0 : Int32)
    · refine o_ifYes 17 X0 hx (hb hby at_10) (teq hc10_2).1 (by decide) (by decide) ?_
      refine o_iconst 18 X0 hx rfl (hb hby at_17) (0 : Int32) rfl ?_
      rw [show (f0_18_s0 i1) = (0 : Int32) from by unfold f0_18_s0; simp only [if_pos hc10_2]] at j18_1
      exact j18_1
    · refine o_ifNo 13 X0 hx rfl (hb hby at_10) (feq hc10_2).1 ?_
      refine o_iconst 14 X0 hx rfl (hb hby at_13) (1 : Int32) rfl ?_
      refine o_goto 18 X0 hx (hb hby at_14) (by decide) (by decide) ?_
      rw [show (f0_18_s0 i1) = (1 : Int32) from by unfold f0_18_s0; simp only [if_neg hc10_2]] at j18_1
      exact j18_1
  refine o_istoreN 19 X0 hx rfl (hb hby at_18) #[.val (.int i0), .val (.int i1), .val (.int (f0_6 i0)), .val (.int (f0_18_s0 i1)), .unset, .unset, .unset, .unset, .unset] rfl ?_
  refine o_iloadN 20 X0 hx rfl (hb hby at_19) rfl ?_
  refine o_iconst 21 X0 hx rfl (hb hby at_20) (2 : Int32) rfl ?_
  refine o_iand 22 X0 hx rfl (hb hby at_21) ?_
  suffices j30_3 : Go p.tables e below (EndE s room_1 (fun v h L => v = some (.int (1 : Int32)) ∧ Fr n0 L)) (s₁.setTop (mkF m 30 #[.val (.int i0), .val (.int i1), .val (.int (f0_6 i0)), .val (.int (f0_18_s0 i1)), .unset, .unset, .unset, .unset, .unset] [(.int (f0_30_s0 i1))])) by
    by_cases hc22_4 : (i1 &&& (2 : Int32)) = (0 : Int32)
    · refine o_ifYes 29 X0 hx (hb hby at_22) (teq hc22_4).1 (by decide) (by decide) ?_
      refine o_iconst 30 X0 hx rfl (hb hby at_29) (0 : Int32) rfl ?_
      rw [show (f0_30_s0 i1) = (0 : Int32) from by unfold f0_30_s0; simp only [if_pos hc22_4]] at j30_3
      exact j30_3
    · refine o_ifNo 25 X0 hx rfl (hb hby at_22) (feq hc22_4).1 ?_
      refine o_iconst 26 X0 hx rfl (hb hby at_25) (1 : Int32) rfl ?_
      refine o_goto 30 X0 hx (hb hby at_26) (by decide) (by decide) ?_
      rw [show (f0_30_s0 i1) = (1 : Int32) from by unfold f0_30_s0; simp only [if_neg hc22_4]] at j30_3
      exact j30_3
  refine o_istore 32 X0 hx rfl (hb hby at_30) #[.val (.int i0), .val (.int i1), .val (.int (f0_6 i0)), .val (.int (f0_18_s0 i1)), .val (.int (f0_30_s0 i1)), .unset, .unset, .unset, .unset] rfl ?_
  refine o_iloadN 33 X0 hx rfl (hb hby at_32) rfl ?_
  refine o_iconst 34 X0 hx rfl (hb hby at_33) (4 : Int32) rfl ?_
  refine o_iand 35 X0 hx rfl (hb hby at_34) ?_
  suffices j43_5 : Go p.tables e below (EndE s room_1 (fun v h L => v = some (.int (1 : Int32)) ∧ Fr n0 L)) (s₁.setTop (mkF m 43 #[.val (.int i0), .val (.int i1), .val (.int (f0_6 i0)), .val (.int (f0_18_s0 i1)), .val (.int (f0_30_s0 i1)), .unset, .unset, .unset, .unset] [(.int (f0_43_s0 i1))])) by
    by_cases hc35_6 : (i1 &&& (4 : Int32)) = (0 : Int32)
    · refine o_ifYes 42 X0 hx (hb hby at_35) (teq hc35_6).1 (by decide) (by decide) ?_
      refine o_iconst 43 X0 hx rfl (hb hby at_42) (0 : Int32) rfl ?_
      rw [show (f0_43_s0 i1) = (0 : Int32) from by unfold f0_43_s0; simp only [if_pos hc35_6]] at j43_5
      exact j43_5
    · refine o_ifNo 38 X0 hx rfl (hb hby at_35) (feq hc35_6).1 ?_
      refine o_iconst 39 X0 hx rfl (hb hby at_38) (1 : Int32) rfl ?_
      refine o_goto 43 X0 hx (hb hby at_39) (by decide) (by decide) ?_
      rw [show (f0_43_s0 i1) = (1 : Int32) from by unfold f0_43_s0; simp only [if_neg hc35_6]] at j43_5
      exact j43_5
  refine o_istore 45 X0 hx rfl (hb hby at_43) #[.val (.int i0), .val (.int i1), .val (.int (f0_6 i0)), .val (.int (f0_18_s0 i1)), .val (.int (f0_30_s0 i1)), .val (.int (f0_43_s0 i1)), .unset, .unset, .unset] rfl ?_
  refine o_iloadN 46 X0 hx rfl (hb hby at_45) rfl ?_
  refine o_bipush 48 X0 hx rfl (hb hby at_46) (8 : Int32) rfl ?_
  refine o_iand 49 X0 hx rfl (hb hby at_48) ?_
  suffices j57_7 : Go p.tables e below (EndE s room_1 (fun v h L => v = some (.int (1 : Int32)) ∧ Fr n0 L)) (s₁.setTop (mkF m 57 #[.val (.int i0), .val (.int i1), .val (.int (f0_6 i0)), .val (.int (f0_18_s0 i1)), .val (.int (f0_30_s0 i1)), .val (.int (f0_43_s0 i1)), .unset, .unset, .unset] [(.int (f0_57_s0 i1))])) by
    by_cases hc49_8 : (i1 &&& (8 : Int32)) = (0 : Int32)
    · refine o_ifYes 56 X0 hx (hb hby at_49) (teq hc49_8).1 (by decide) (by decide) ?_
      refine o_iconst 57 X0 hx rfl (hb hby at_56) (0 : Int32) rfl ?_
      rw [show (f0_57_s0 i1) = (0 : Int32) from by unfold f0_57_s0; simp only [if_pos hc49_8]] at j57_7
      exact j57_7
    · refine o_ifNo 52 X0 hx rfl (hb hby at_49) (feq hc49_8).1 ?_
      refine o_iconst 53 X0 hx rfl (hb hby at_52) (1 : Int32) rfl ?_
      refine o_goto 57 X0 hx (hb hby at_53) (by decide) (by decide) ?_
      rw [show (f0_57_s0 i1) = (1 : Int32) from by unfold f0_57_s0; simp only [if_neg hc49_8]] at j57_7
      exact j57_7
  refine o_istore 59 X0 hx rfl (hb hby at_57) #[.val (.int i0), .val (.int i1), .val (.int (f0_6 i0)), .val (.int (f0_18_s0 i1)), .val (.int (f0_30_s0 i1)), .val (.int (f0_43_s0 i1)), .val (.int (f0_57_s0 i1)), .unset, .unset] rfl ?_
  have hcase := own_cases i0
  generalize (f0_6 i0) = n at hcase ⊢
  rcases hcase with rfl | rfl | rfl | rfl | rfl
  · refine o_iloadN 60 X0 hx rfl (hb hby at_59) rfl ?_
    refine o_newarrI 62 X0 hx rfl hZ .boolean .boolean rfl rfl (wd_1 hw) e0 (hb hby at_60) (by decide) 0 (by decide) (by decide) (by decide) (by decide) ([] : List Int32) rfl fun T9 h9 a9 k9 g9 X9 e9 E9 A9 => ?_
    have ge10 : n0 ≤ a9 := Nat.le_trans Z0 (Nat.le_of_eq g9.symm)
    have sz11 : n0 ≤ h9.size := Nat.le_trans Z0 E9.1
    refine o_astore 64 X9 hx rfl (hb hby at_62) rfl #[.val (.int i0), .val (.int i1), .val (.int (0 : Int32)), .val (.int (f0_18_s0 i1)), .val (.int (f0_30_s0 i1)), .val (.int (f0_43_s0 i1)), .val (.int (f0_57_s0 i1)), .val (.ref a9), .unset] rfl ?_
    refine o_iloadN 65 X9 hx rfl (hb hby at_64) rfl ?_
    refine o_ifYes 73 X9 hx (hb hby at_65) (flt (show ¬ ((0 : Int32) < (0 : Int32)) by decide)).2.2.2 (by decide) (by decide) ?_
    refine o_iloadN 74 X9 hx rfl (hb hby at_73) rfl ?_
    refine o_iconst 75 X9 hx rfl (hb hby at_74) (1 : Int32) rfl ?_
    refine o_icmpYes 84 X9 hx (hb hby at_75) (flt (show ¬ ((1 : Int32) < (0 : Int32)) by decide)).2.2.2 (by decide) (by decide) ?_
    refine o_iloadN 85 X9 hx rfl (hb hby at_84) rfl ?_
    refine o_iconst 86 X9 hx rfl (hb hby at_85) (2 : Int32) rfl ?_
    refine o_icmpYes 95 X9 hx (hb hby at_86) (flt (show ¬ ((2 : Int32) < (0 : Int32)) by decide)).2.2.2 (by decide) (by decide) ?_
    refine o_iloadN 96 X9 hx rfl (hb hby at_95) rfl ?_
    refine o_iconst 97 X9 hx rfl (hb hby at_96) (3 : Int32) rfl ?_
    refine o_icmpYes 106 X9 hx (hb hby at_97) (flt (show ¬ ((3 : Int32) < (0 : Int32)) by decide)).2.2.2 (by decide) (by decide) ?_
    refine o_aload 108 X9 hx rfl (hb hby at_106) rfl rfl ?_
    refine o_callSw 111 X9 hx rfl hZ hown (wd_2 hw) (wd_3 hw) (wd_4 hw) (wd_5 hw) (by decide) e9 N0 (rm1_0 l Z a0 hw a9 k9 h9 n0 sz11 A9) pd_laZrLcom_example_whittle_whittle_model_Bitss [(.ref a9)] [] rfl rfl (by rw [hml]; rfl) rfl (hb hby at_108) 0 (Nat.le_of_eq rfl) (by decide) (by decide) (by decide) (by decide) fun v12 T12 L12 LL12 X12 Q12 NF12 => ?_
    obtain ⟨a12, b12, k12, rfl, M12, K12, ga12, gb12, E12, F12, A12⟩ := Q12
    have NN12 := NF12 M12
    have sz13 : n0 ≤ T12.heap.size := Nat.le_trans sz11 K12.1
    show Go p.tables e below (EndE s room_1 (fun v h L => v = some (.int (1 : Int32)) ∧ Fr n0 L)) (T12.setTop (mkF m 111 #[.val (.int i0), .val (.int i1), .val (.int (0 : Int32)), .val (.int (f0_18_s0 i1)), .val (.int (f0_30_s0 i1)), .val (.int (f0_43_s0 i1)), .val (.int (f0_57_s0 i1)), .val (.ref a9), .unset] [(.ref a12)]))
    refine o_astore 113 X12 hx rfl (hb hby at_111) rfl #[.val (.int i0), .val (.int i1), .val (.int (0 : Int32)), .val (.int (f0_18_s0 i1)), .val (.int (f0_30_s0 i1)), .val (.int (f0_43_s0 i1)), .val (.int (f0_57_s0 i1)), .val (.ref a9), .val (.ref a12)] rfl ?_
    refine o_aload 115 X12 hx rfl (hb hby at_113) rfl rfl ?_
    refine o_callVP (rv := (.int (0 : Int32))) 118 X12 hx rfl hZ hown (wd_17 hw) (wd_18 hw) (wd_20 hw) (wd_19 hw) (wd_4 hw) (wd_21 hw) (by decide) rfl (rm4 l Z a0 hw a12 b12 k12 (0 : Int32) ([] : List Int32) T12.heap E12 F12 A12) pd_lrI [] [] rfl E12 rfl (by rw [hml]; rfl) rfl (hb hby at_115) 0 (Nat.le_of_eq rfl) (by decide) (by decide) (by decide) (by decide) rfl rfl fun T14 X14 e14 => ?_
    refine o_iloadN 119 X14 hx rfl (hb hby at_118) rfl ?_
    refine o_icmpYes 124 X14 hx (hb hby at_119) (teq rfl).1 (by decide) (by decide) ?_
    refine o_aload 126 X14 hx rfl (hb hby at_124) rfl rfl ?_
    refine o_iloadN 127 X14 hx rfl (hb hby at_126) rfl ?_
    refine o_iconst 128 X14 hx rfl (hb hby at_127) (0 : Int32) rfl ?_
    refine o_iloadN 129 X14 hx rfl (hb hby at_128) rfl ?_
    refine o_callP (rv := (.int (own_at (0 : Int32) (f0_18_s0 i1) (0 : Int32) ([] : List Int32)))) 132 X14 hx rfl hZ hown (wd_22 hw) (wd_23 hw) (wd_24 hw) (wd_25 hw) (by decide) e14 (rm5 l Z a0 hw a12 b12 k12 (0 : Int32) ([] : List Int32) (0 : Int32) (f0_18_s0 i1) T12.heap E12 F12 A12 (by decide) (by intro; exact absurd ‹_› (by decide))) pd_lLcom_example_whittle_whittle_model_BitssIIZrZ [(.ref a12), (.int (0 : Int32)), (.int (0 : Int32)), (.int (f0_18_s0 i1))] [] rfl rfl (by rw [hml]; rfl) rfl (hb hby at_129) 0 (Nat.le_of_eq rfl) (by decide) (by decide) (by decide) (by decide) rfl rfl fun T15 X15 e15 => ?_
    refine o_ifNo 135 X15 hx rfl (hb hby at_132) (feq (own_a_0_0 i1)).1 ?_
    refine o_aload 137 X15 hx rfl (hb hby at_135) rfl rfl ?_
    refine o_iloadN 138 X15 hx rfl (hb hby at_137) rfl ?_
    refine o_iconst 139 X15 hx rfl (hb hby at_138) (1 : Int32) rfl ?_
    refine o_iload 141 X15 hx rfl (hb hby at_139) rfl ?_
    refine o_callP (rv := (.int (own_at (1 : Int32) (f0_30_s0 i1) (0 : Int32) ([] : List Int32)))) 144 X15 hx rfl hZ hown (wd_22 hw) (wd_23 hw) (wd_24 hw) (wd_25 hw) (by decide) e15 (rm5 l Z a0 hw a12 b12 k12 (0 : Int32) ([] : List Int32) (1 : Int32) (f0_30_s0 i1) T12.heap E12 F12 A12 (by decide) (by intro; exact absurd ‹_› (by decide))) pd_lLcom_example_whittle_whittle_model_BitssIIZrZ [(.ref a12), (.int (0 : Int32)), (.int (1 : Int32)), (.int (f0_30_s0 i1))] [] rfl rfl (by rw [hml]; rfl) rfl (hb hby at_141) 0 (Nat.le_of_eq rfl) (by decide) (by decide) (by decide) (by decide) rfl rfl fun T16 X16 e16 => ?_
    refine o_ifNo 147 X16 hx rfl (hb hby at_144) (feq (own_a_0_1 i1)).1 ?_
    refine o_aload 149 X16 hx rfl (hb hby at_147) rfl rfl ?_
    refine o_iloadN 150 X16 hx rfl (hb hby at_149) rfl ?_
    refine o_iconst 151 X16 hx rfl (hb hby at_150) (2 : Int32) rfl ?_
    refine o_iload 153 X16 hx rfl (hb hby at_151) rfl ?_
    refine o_callP (rv := (.int (own_at (2 : Int32) (f0_43_s0 i1) (0 : Int32) ([] : List Int32)))) 156 X16 hx rfl hZ hown (wd_22 hw) (wd_23 hw) (wd_24 hw) (wd_25 hw) (by decide) e16 (rm5 l Z a0 hw a12 b12 k12 (0 : Int32) ([] : List Int32) (2 : Int32) (f0_43_s0 i1) T12.heap E12 F12 A12 (by decide) (by intro; exact absurd ‹_› (by decide))) pd_lLcom_example_whittle_whittle_model_BitssIIZrZ [(.ref a12), (.int (0 : Int32)), (.int (2 : Int32)), (.int (f0_43_s0 i1))] [] rfl rfl (by rw [hml]; rfl) rfl (hb hby at_153) 0 (Nat.le_of_eq rfl) (by decide) (by decide) (by decide) (by decide) rfl rfl fun T17 X17 e17 => ?_
    refine o_ifNo 159 X17 hx rfl (hb hby at_156) (feq (own_a_0_2 i1)).1 ?_
    refine o_aload 161 X17 hx rfl (hb hby at_159) rfl rfl ?_
    refine o_iloadN 162 X17 hx rfl (hb hby at_161) rfl ?_
    refine o_iconst 163 X17 hx rfl (hb hby at_162) (3 : Int32) rfl ?_
    refine o_iload 165 X17 hx rfl (hb hby at_163) rfl ?_
    refine o_callP (rv := (.int (own_at (3 : Int32) (f0_57_s0 i1) (0 : Int32) ([] : List Int32)))) 168 X17 hx rfl hZ hown (wd_22 hw) (wd_23 hw) (wd_24 hw) (wd_25 hw) (by decide) e17 (rm5 l Z a0 hw a12 b12 k12 (0 : Int32) ([] : List Int32) (3 : Int32) (f0_57_s0 i1) T12.heap E12 F12 A12 (by decide) (by intro; exact absurd ‹_› (by decide))) pd_lLcom_example_whittle_whittle_model_BitssIIZrZ [(.ref a12), (.int (0 : Int32)), (.int (3 : Int32)), (.int (f0_57_s0 i1))] [] rfl rfl (by rw [hml]; rfl) rfl (hb hby at_165) 0 (Nat.le_of_eq rfl) (by decide) (by decide) (by decide) (by decide) rfl rfl fun T18 X18 e18 => ?_
    refine o_ifNo 171 X18 hx rfl (hb hby at_168) (feq (own_a_0_3 i1)).1 ?_
    refine o_iconst 172 X18 hx rfl (hb hby at_171) (1 : Int32) rfl ?_
    refine o_goto 176 X18 hx (hb hby at_172) (by decide) (by decide) ?_
    refine o_retN X18 hx .boolean (by simp) hret hlk (hb hby at_176) (by decide) (by decide) ?_
    exact ⟨rfl, NN12⟩
  · refine o_iloadN 60 X0 hx rfl (hb hby at_59) rfl ?_
    refine o_newarrI 62 X0 hx rfl hZ .boolean .boolean rfl rfl (wd_1 hw) e0 (hb hby at_60) (by decide) 1 (by decide) (by decide) (by decide) (by decide) [(0 : Int32)] rfl fun T19 h19 a19 k19 g19 X19 e19 E19 A19 => ?_
    have ge20 : n0 ≤ a19 := Nat.le_trans Z0 (Nat.le_of_eq g19.symm)
    have sz21 : n0 ≤ h19.size := Nat.le_trans Z0 E19.1
    refine o_astore 64 X19 hx rfl (hb hby at_62) rfl #[.val (.int i0), .val (.int i1), .val (.int (1 : Int32)), .val (.int (f0_18_s0 i1)), .val (.int (f0_30_s0 i1)), .val (.int (f0_43_s0 i1)), .val (.int (f0_57_s0 i1)), .val (.ref a19), .unset] rfl ?_
    refine o_iloadN 65 X19 hx rfl (hb hby at_64) rfl ?_
    refine o_ifNo 68 X19 hx rfl (hb hby at_65) (tlt (show (0 : Int32) < (1 : Int32) by decide)).2.2.2 ?_
    refine o_aload 70 X19 hx rfl (hb hby at_68) rfl rfl ?_
    refine o_iconst 71 X19 hx rfl (hb hby at_70) (0 : Int32) rfl ?_
    refine o_iloadN 72 X19 hx rfl (hb hby at_71) rfl ?_
    refine o_bastoreZX 73 X19 hx rfl hZ e19 A19 (by decide) (Nat.le_of_ble_eq_true rfl) [(nar .boolean (f0_18_s0 i1))] rfl N0 ge20 (hb hby at_72) fun T22 h22 L22 X22 N22 e22 W22 A22 => ?_
    have sz23 : n0 ≤ h22.size := Nat.le_trans sz21 (Keep.of_wr W22).1
    refine o_iloadN 74 X22 hx rfl (hb hby at_73) rfl ?_
    refine o_iconst 75 X22 hx rfl (hb hby at_74) (1 : Int32) rfl ?_
    refine o_icmpYes 84 X22 hx (hb hby at_75) (flt (show ¬ ((1 : Int32) < (1 : Int32)) by decide)).2.2.2 (by decide) (by decide) ?_
    refine o_iloadN 85 X22 hx rfl (hb hby at_84) rfl ?_
    refine o_iconst 86 X22 hx rfl (hb hby at_85) (2 : Int32) rfl ?_
    refine o_icmpYes 95 X22 hx (hb hby at_86) (flt (show ¬ ((2 : Int32) < (1 : Int32)) by decide)).2.2.2 (by decide) (by decide) ?_
    refine o_iloadN 96 X22 hx rfl (hb hby at_95) rfl ?_
    refine o_iconst 97 X22 hx rfl (hb hby at_96) (3 : Int32) rfl ?_
    refine o_icmpYes 106 X22 hx (hb hby at_97) (flt (show ¬ ((3 : Int32) < (1 : Int32)) by decide)).2.2.2 (by decide) (by decide) ?_
    refine o_aload 108 X22 hx rfl (hb hby at_106) rfl rfl ?_
    refine o_callSw 111 X22 hx rfl hZ hown (wd_2 hw) (wd_3 hw) (wd_4 hw) (wd_5 hw) (by decide) e22 N22 (rm1_1 l Z a0 hw a19 k19 (nar .boolean (f0_18_s0 i1)) h22 n0 sz23 A22) pd_laZrLcom_example_whittle_whittle_model_Bitss [(.ref a19)] [] rfl rfl (by rw [hml]; rfl) rfl (hb hby at_108) 0 (Nat.le_of_eq rfl) (by decide) (by decide) (by decide) (by decide) fun v24 T24 L24 LL24 X24 Q24 NF24 => ?_
    obtain ⟨a24, b24, k24, rfl, M24, K24, ga24, gb24, E24, F24, A24⟩ := Q24
    have NN24 := NF24 M24
    have sz25 : n0 ≤ T24.heap.size := Nat.le_trans sz23 K24.1
    show Go p.tables e below (EndE s room_1 (fun v h L => v = some (.int (1 : Int32)) ∧ Fr n0 L)) (T24.setTop (mkF m 111 #[.val (.int i0), .val (.int i1), .val (.int (1 : Int32)), .val (.int (f0_18_s0 i1)), .val (.int (f0_30_s0 i1)), .val (.int (f0_43_s0 i1)), .val (.int (f0_57_s0 i1)), .val (.ref a19), .unset] [(.ref a24)]))
    refine o_astore 113 X24 hx rfl (hb hby at_111) rfl #[.val (.int i0), .val (.int i1), .val (.int (1 : Int32)), .val (.int (f0_18_s0 i1)), .val (.int (f0_30_s0 i1)), .val (.int (f0_43_s0 i1)), .val (.int (f0_57_s0 i1)), .val (.ref a19), .val (.ref a24)] rfl ?_
    refine o_aload 115 X24 hx rfl (hb hby at_113) rfl rfl ?_
    refine o_callVP (rv := (.int (1 : Int32))) 118 X24 hx rfl hZ hown (wd_17 hw) (wd_18 hw) (wd_20 hw) (wd_19 hw) (wd_4 hw) (wd_21 hw) (by decide) rfl (rm4 l Z a0 hw a24 b24 k24 (1 : Int32) [(nar .byte ((own_z (nar .boolean (f0_18_s0 i1))).toInt8.toInt32))] T24.heap E24 F24 A24) pd_lrI [] [] rfl E24 rfl (by rw [hml]; rfl) rfl (hb hby at_115) 0 (Nat.le_of_eq rfl) (by decide) (by decide) (by decide) (by decide) rfl rfl fun T26 X26 e26 => ?_
    refine o_iloadN 119 X26 hx rfl (hb hby at_118) rfl ?_
    refine o_icmpYes 124 X26 hx (hb hby at_119) (teq rfl).1 (by decide) (by decide) ?_
    refine o_aload 126 X26 hx rfl (hb hby at_124) rfl rfl ?_
    refine o_iloadN 127 X26 hx rfl (hb hby at_126) rfl ?_
    refine o_iconst 128 X26 hx rfl (hb hby at_127) (0 : Int32) rfl ?_
    refine o_iloadN 129 X26 hx rfl (hb hby at_128) rfl ?_
    refine o_callP (rv := (.int (own_at (0 : Int32) (f0_18_s0 i1) (1 : Int32) [(nar .byte ((own_z (nar .boolean (f0_18_s0 i1))).toInt8.toInt32))]))) 132 X26 hx rfl hZ hown (wd_22 hw) (wd_23 hw) (wd_24 hw) (wd_25 hw) (by decide) e26 (rm5 l Z a0 hw a24 b24 k24 (1 : Int32) [(nar .byte ((own_z (nar .boolean (f0_18_s0 i1))).toInt8.toInt32))] (0 : Int32) (f0_18_s0 i1) T24.heap E24 F24 A24 (by decide) (by intro; exact own_h2_1_0 i1)) pd_lLcom_example_whittle_whittle_model_BitssIIZrZ [(.ref a24), (.int (1 : Int32)), (.int (0 : Int32)), (.int (f0_18_s0 i1))] [] rfl rfl (by rw [hml]; rfl) rfl (hb hby at_129) 0 (Nat.le_of_eq rfl) (by decide) (by decide) (by decide) (by decide) rfl rfl fun T27 X27 e27 => ?_
    refine o_ifNo 135 X27 hx rfl (hb hby at_132) (feq (own_a_1_0 i1)).1 ?_
    refine o_aload 137 X27 hx rfl (hb hby at_135) rfl rfl ?_
    refine o_iloadN 138 X27 hx rfl (hb hby at_137) rfl ?_
    refine o_iconst 139 X27 hx rfl (hb hby at_138) (1 : Int32) rfl ?_
    refine o_iload 141 X27 hx rfl (hb hby at_139) rfl ?_
    refine o_callP (rv := (.int (own_at (1 : Int32) (f0_30_s0 i1) (1 : Int32) [(nar .byte ((own_z (nar .boolean (f0_18_s0 i1))).toInt8.toInt32))]))) 144 X27 hx rfl hZ hown (wd_22 hw) (wd_23 hw) (wd_24 hw) (wd_25 hw) (by decide) e27 (rm5 l Z a0 hw a24 b24 k24 (1 : Int32) [(nar .byte ((own_z (nar .boolean (f0_18_s0 i1))).toInt8.toInt32))] (1 : Int32) (f0_30_s0 i1) T24.heap E24 F24 A24 (by decide) (by intro; exact absurd ‹_› (by decide))) pd_lLcom_example_whittle_whittle_model_BitssIIZrZ [(.ref a24), (.int (1 : Int32)), (.int (1 : Int32)), (.int (f0_30_s0 i1))] [] rfl rfl (by rw [hml]; rfl) rfl (hb hby at_141) 0 (Nat.le_of_eq rfl) (by decide) (by decide) (by decide) (by decide) rfl rfl fun T28 X28 e28 => ?_
    refine o_ifNo 147 X28 hx rfl (hb hby at_144) (feq (own_a_1_1 i1)).1 ?_
    refine o_aload 149 X28 hx rfl (hb hby at_147) rfl rfl ?_
    refine o_iloadN 150 X28 hx rfl (hb hby at_149) rfl ?_
    refine o_iconst 151 X28 hx rfl (hb hby at_150) (2 : Int32) rfl ?_
    refine o_iload 153 X28 hx rfl (hb hby at_151) rfl ?_
    refine o_callP (rv := (.int (own_at (2 : Int32) (f0_43_s0 i1) (1 : Int32) [(nar .byte ((own_z (nar .boolean (f0_18_s0 i1))).toInt8.toInt32))]))) 156 X28 hx rfl hZ hown (wd_22 hw) (wd_23 hw) (wd_24 hw) (wd_25 hw) (by decide) e28 (rm5 l Z a0 hw a24 b24 k24 (1 : Int32) [(nar .byte ((own_z (nar .boolean (f0_18_s0 i1))).toInt8.toInt32))] (2 : Int32) (f0_43_s0 i1) T24.heap E24 F24 A24 (by decide) (by intro; exact absurd ‹_› (by decide))) pd_lLcom_example_whittle_whittle_model_BitssIIZrZ [(.ref a24), (.int (1 : Int32)), (.int (2 : Int32)), (.int (f0_43_s0 i1))] [] rfl rfl (by rw [hml]; rfl) rfl (hb hby at_153) 0 (Nat.le_of_eq rfl) (by decide) (by decide) (by decide) (by decide) rfl rfl fun T29 X29 e29 => ?_
    refine o_ifNo 159 X29 hx rfl (hb hby at_156) (feq (own_a_1_2 i1)).1 ?_
    refine o_aload 161 X29 hx rfl (hb hby at_159) rfl rfl ?_
    refine o_iloadN 162 X29 hx rfl (hb hby at_161) rfl ?_
    refine o_iconst 163 X29 hx rfl (hb hby at_162) (3 : Int32) rfl ?_
    refine o_iload 165 X29 hx rfl (hb hby at_163) rfl ?_
    refine o_callP (rv := (.int (own_at (3 : Int32) (f0_57_s0 i1) (1 : Int32) [(nar .byte ((own_z (nar .boolean (f0_18_s0 i1))).toInt8.toInt32))]))) 168 X29 hx rfl hZ hown (wd_22 hw) (wd_23 hw) (wd_24 hw) (wd_25 hw) (by decide) e29 (rm5 l Z a0 hw a24 b24 k24 (1 : Int32) [(nar .byte ((own_z (nar .boolean (f0_18_s0 i1))).toInt8.toInt32))] (3 : Int32) (f0_57_s0 i1) T24.heap E24 F24 A24 (by decide) (by intro; exact absurd ‹_› (by decide))) pd_lLcom_example_whittle_whittle_model_BitssIIZrZ [(.ref a24), (.int (1 : Int32)), (.int (3 : Int32)), (.int (f0_57_s0 i1))] [] rfl rfl (by rw [hml]; rfl) rfl (hb hby at_165) 0 (Nat.le_of_eq rfl) (by decide) (by decide) (by decide) (by decide) rfl rfl fun T30 X30 e30 => ?_
    refine o_ifNo 171 X30 hx rfl (hb hby at_168) (feq (own_a_1_3 i1)).1 ?_
    refine o_iconst 172 X30 hx rfl (hb hby at_171) (1 : Int32) rfl ?_
    refine o_goto 176 X30 hx (hb hby at_172) (by decide) (by decide) ?_
    refine o_retN X30 hx .boolean (by simp) hret hlk (hb hby at_176) (by decide) (by decide) ?_
    exact ⟨rfl, NN24⟩
  · refine o_iloadN 60 X0 hx rfl (hb hby at_59) rfl ?_
    refine o_newarrI 62 X0 hx rfl hZ .boolean .boolean rfl rfl (wd_1 hw) e0 (hb hby at_60) (by decide) 2 (by decide) (by decide) (by decide) (by decide) [(0 : Int32), (0 : Int32)] rfl fun T31 h31 a31 k31 g31 X31 e31 E31 A31 => ?_
    have ge32 : n0 ≤ a31 := Nat.le_trans Z0 (Nat.le_of_eq g31.symm)
    have sz33 : n0 ≤ h31.size := Nat.le_trans Z0 E31.1
    refine o_astore 64 X31 hx rfl (hb hby at_62) rfl #[.val (.int i0), .val (.int i1), .val (.int (2 : Int32)), .val (.int (f0_18_s0 i1)), .val (.int (f0_30_s0 i1)), .val (.int (f0_43_s0 i1)), .val (.int (f0_57_s0 i1)), .val (.ref a31), .unset] rfl ?_
    refine o_iloadN 65 X31 hx rfl (hb hby at_64) rfl ?_
    refine o_ifNo 68 X31 hx rfl (hb hby at_65) (tlt (show (0 : Int32) < (2 : Int32) by decide)).2.2.2 ?_
    refine o_aload 70 X31 hx rfl (hb hby at_68) rfl rfl ?_
    refine o_iconst 71 X31 hx rfl (hb hby at_70) (0 : Int32) rfl ?_
    refine o_iloadN 72 X31 hx rfl (hb hby at_71) rfl ?_
    refine o_bastoreZX 73 X31 hx rfl hZ e31 A31 (by decide) (Nat.le_of_ble_eq_true rfl) [(nar .boolean (f0_18_s0 i1)), (0 : Int32)] rfl N0 ge32 (hb hby at_72) fun T34 h34 L34 X34 N34 e34 W34 A34 => ?_
    have sz35 : n0 ≤ h34.size := Nat.le_trans sz33 (Keep.of_wr W34).1
    refine o_iloadN 74 X34 hx rfl (hb hby at_73) rfl ?_
    refine o_iconst 75 X34 hx rfl (hb hby at_74) (1 : Int32) rfl ?_
    refine o_icmpNo 78 X34 hx rfl (hb hby at_75) (tlt (show (1 : Int32) < (2 : Int32) by decide)).2.2.2 ?_
    refine o_aload 80 X34 hx rfl (hb hby at_78) rfl rfl ?_
    refine o_iconst 81 X34 hx rfl (hb hby at_80) (1 : Int32) rfl ?_
    refine o_iload 83 X34 hx rfl (hb hby at_81) rfl ?_
    refine o_bastoreZX 84 X34 hx rfl hZ e34 A34 (by decide) (Nat.le_of_ble_eq_true rfl) [(nar .boolean (f0_18_s0 i1)), (nar .boolean (f0_30_s0 i1))] rfl N34 ge32 (hb hby at_83) fun T36 h36 L36 X36 N36 e36 W36 A36 => ?_
    have sz37 : n0 ≤ h36.size := Nat.le_trans sz35 (Keep.of_wr W36).1
    refine o_iloadN 85 X36 hx rfl (hb hby at_84) rfl ?_
    refine o_iconst 86 X36 hx rfl (hb hby at_85) (2 : Int32) rfl ?_
    refine o_icmpYes 95 X36 hx (hb hby at_86) (flt (show ¬ ((2 : Int32) < (2 : Int32)) by decide)).2.2.2 (by decide) (by decide) ?_
    refine o_iloadN 96 X36 hx rfl (hb hby at_95) rfl ?_
    refine o_iconst 97 X36 hx rfl (hb hby at_96) (3 : Int32) rfl ?_
    refine o_icmpYes 106 X36 hx (hb hby at_97) (flt (show ¬ ((3 : Int32) < (2 : Int32)) by decide)).2.2.2 (by decide) (by decide) ?_
    refine o_aload 108 X36 hx rfl (hb hby at_106) rfl rfl ?_
    refine o_callSw 111 X36 hx rfl hZ hown (wd_2 hw) (wd_3 hw) (wd_4 hw) (wd_5 hw) (by decide) e36 N36 (rm1_2 l Z a0 hw a31 k31 (nar .boolean (f0_18_s0 i1)) (nar .boolean (f0_30_s0 i1)) h36 n0 sz37 A36) pd_laZrLcom_example_whittle_whittle_model_Bitss [(.ref a31)] [] rfl rfl (by rw [hml]; rfl) rfl (hb hby at_108) 0 (Nat.le_of_eq rfl) (by decide) (by decide) (by decide) (by decide) fun v38 T38 L38 LL38 X38 Q38 NF38 => ?_
    obtain ⟨a38, b38, k38, rfl, M38, K38, ga38, gb38, E38, F38, A38⟩ := Q38
    have NN38 := NF38 M38
    have sz39 : n0 ≤ T38.heap.size := Nat.le_trans sz37 K38.1
    show Go p.tables e below (EndE s room_1 (fun v h L => v = some (.int (1 : Int32)) ∧ Fr n0 L)) (T38.setTop (mkF m 111 #[.val (.int i0), .val (.int i1), .val (.int (2 : Int32)), .val (.int (f0_18_s0 i1)), .val (.int (f0_30_s0 i1)), .val (.int (f0_43_s0 i1)), .val (.int (f0_57_s0 i1)), .val (.ref a31), .unset] [(.ref a38)]))
    refine o_astore 113 X38 hx rfl (hb hby at_111) rfl #[.val (.int i0), .val (.int i1), .val (.int (2 : Int32)), .val (.int (f0_18_s0 i1)), .val (.int (f0_30_s0 i1)), .val (.int (f0_43_s0 i1)), .val (.int (f0_57_s0 i1)), .val (.ref a31), .val (.ref a38)] rfl ?_
    refine o_aload 115 X38 hx rfl (hb hby at_113) rfl rfl ?_
    refine o_callVP (rv := (.int (2 : Int32))) 118 X38 hx rfl hZ hown (wd_17 hw) (wd_18 hw) (wd_20 hw) (wd_19 hw) (wd_4 hw) (wd_21 hw) (by decide) rfl (rm4 l Z a0 hw a38 b38 k38 (2 : Int32) [(nar .byte ((own_z (nar .boolean (f0_18_s0 i1))).toInt8.toInt32)), (nar .byte ((own_z (nar .boolean (f0_30_s0 i1))).toInt8.toInt32))] T38.heap E38 F38 A38) pd_lrI [] [] rfl E38 rfl (by rw [hml]; rfl) rfl (hb hby at_115) 0 (Nat.le_of_eq rfl) (by decide) (by decide) (by decide) (by decide) rfl rfl fun T40 X40 e40 => ?_
    refine o_iloadN 119 X40 hx rfl (hb hby at_118) rfl ?_
    refine o_icmpYes 124 X40 hx (hb hby at_119) (teq rfl).1 (by decide) (by decide) ?_
    refine o_aload 126 X40 hx rfl (hb hby at_124) rfl rfl ?_
    refine o_iloadN 127 X40 hx rfl (hb hby at_126) rfl ?_
    refine o_iconst 128 X40 hx rfl (hb hby at_127) (0 : Int32) rfl ?_
    refine o_iloadN 129 X40 hx rfl (hb hby at_128) rfl ?_
    refine o_callP (rv := (.int (own_at (0 : Int32) (f0_18_s0 i1) (2 : Int32) [(nar .byte ((own_z (nar .boolean (f0_18_s0 i1))).toInt8.toInt32)), (nar .byte ((own_z (nar .boolean (f0_30_s0 i1))).toInt8.toInt32))]))) 132 X40 hx rfl hZ hown (wd_22 hw) (wd_23 hw) (wd_24 hw) (wd_25 hw) (by decide) e40 (rm5 l Z a0 hw a38 b38 k38 (2 : Int32) [(nar .byte ((own_z (nar .boolean (f0_18_s0 i1))).toInt8.toInt32)), (nar .byte ((own_z (nar .boolean (f0_30_s0 i1))).toInt8.toInt32))] (0 : Int32) (f0_18_s0 i1) T38.heap E38 F38 A38 (by decide) (by intro; exact own_h2_2_0 i1)) pd_lLcom_example_whittle_whittle_model_BitssIIZrZ [(.ref a38), (.int (2 : Int32)), (.int (0 : Int32)), (.int (f0_18_s0 i1))] [] rfl rfl (by rw [hml]; rfl) rfl (hb hby at_129) 0 (Nat.le_of_eq rfl) (by decide) (by decide) (by decide) (by decide) rfl rfl fun T41 X41 e41 => ?_
    refine o_ifNo 135 X41 hx rfl (hb hby at_132) (feq (own_a_2_0 i1)).1 ?_
    refine o_aload 137 X41 hx rfl (hb hby at_135) rfl rfl ?_
    refine o_iloadN 138 X41 hx rfl (hb hby at_137) rfl ?_
    refine o_iconst 139 X41 hx rfl (hb hby at_138) (1 : Int32) rfl ?_
    refine o_iload 141 X41 hx rfl (hb hby at_139) rfl ?_
    refine o_callP (rv := (.int (own_at (1 : Int32) (f0_30_s0 i1) (2 : Int32) [(nar .byte ((own_z (nar .boolean (f0_18_s0 i1))).toInt8.toInt32)), (nar .byte ((own_z (nar .boolean (f0_30_s0 i1))).toInt8.toInt32))]))) 144 X41 hx rfl hZ hown (wd_22 hw) (wd_23 hw) (wd_24 hw) (wd_25 hw) (by decide) e41 (rm5 l Z a0 hw a38 b38 k38 (2 : Int32) [(nar .byte ((own_z (nar .boolean (f0_18_s0 i1))).toInt8.toInt32)), (nar .byte ((own_z (nar .boolean (f0_30_s0 i1))).toInt8.toInt32))] (1 : Int32) (f0_30_s0 i1) T38.heap E38 F38 A38 (by decide) (by intro; exact own_h2_2_1 i1)) pd_lLcom_example_whittle_whittle_model_BitssIIZrZ [(.ref a38), (.int (2 : Int32)), (.int (1 : Int32)), (.int (f0_30_s0 i1))] [] rfl rfl (by rw [hml]; rfl) rfl (hb hby at_141) 0 (Nat.le_of_eq rfl) (by decide) (by decide) (by decide) (by decide) rfl rfl fun T42 X42 e42 => ?_
    refine o_ifNo 147 X42 hx rfl (hb hby at_144) (feq (own_a_2_1 i1)).1 ?_
    refine o_aload 149 X42 hx rfl (hb hby at_147) rfl rfl ?_
    refine o_iloadN 150 X42 hx rfl (hb hby at_149) rfl ?_
    refine o_iconst 151 X42 hx rfl (hb hby at_150) (2 : Int32) rfl ?_
    refine o_iload 153 X42 hx rfl (hb hby at_151) rfl ?_
    refine o_callP (rv := (.int (own_at (2 : Int32) (f0_43_s0 i1) (2 : Int32) [(nar .byte ((own_z (nar .boolean (f0_18_s0 i1))).toInt8.toInt32)), (nar .byte ((own_z (nar .boolean (f0_30_s0 i1))).toInt8.toInt32))]))) 156 X42 hx rfl hZ hown (wd_22 hw) (wd_23 hw) (wd_24 hw) (wd_25 hw) (by decide) e42 (rm5 l Z a0 hw a38 b38 k38 (2 : Int32) [(nar .byte ((own_z (nar .boolean (f0_18_s0 i1))).toInt8.toInt32)), (nar .byte ((own_z (nar .boolean (f0_30_s0 i1))).toInt8.toInt32))] (2 : Int32) (f0_43_s0 i1) T38.heap E38 F38 A38 (by decide) (by intro; exact absurd ‹_› (by decide))) pd_lLcom_example_whittle_whittle_model_BitssIIZrZ [(.ref a38), (.int (2 : Int32)), (.int (2 : Int32)), (.int (f0_43_s0 i1))] [] rfl rfl (by rw [hml]; rfl) rfl (hb hby at_153) 0 (Nat.le_of_eq rfl) (by decide) (by decide) (by decide) (by decide) rfl rfl fun T43 X43 e43 => ?_
    refine o_ifNo 159 X43 hx rfl (hb hby at_156) (feq (own_a_2_2 i1)).1 ?_
    refine o_aload 161 X43 hx rfl (hb hby at_159) rfl rfl ?_
    refine o_iloadN 162 X43 hx rfl (hb hby at_161) rfl ?_
    refine o_iconst 163 X43 hx rfl (hb hby at_162) (3 : Int32) rfl ?_
    refine o_iload 165 X43 hx rfl (hb hby at_163) rfl ?_
    refine o_callP (rv := (.int (own_at (3 : Int32) (f0_57_s0 i1) (2 : Int32) [(nar .byte ((own_z (nar .boolean (f0_18_s0 i1))).toInt8.toInt32)), (nar .byte ((own_z (nar .boolean (f0_30_s0 i1))).toInt8.toInt32))]))) 168 X43 hx rfl hZ hown (wd_22 hw) (wd_23 hw) (wd_24 hw) (wd_25 hw) (by decide) e43 (rm5 l Z a0 hw a38 b38 k38 (2 : Int32) [(nar .byte ((own_z (nar .boolean (f0_18_s0 i1))).toInt8.toInt32)), (nar .byte ((own_z (nar .boolean (f0_30_s0 i1))).toInt8.toInt32))] (3 : Int32) (f0_57_s0 i1) T38.heap E38 F38 A38 (by decide) (by intro; exact absurd ‹_› (by decide))) pd_lLcom_example_whittle_whittle_model_BitssIIZrZ [(.ref a38), (.int (2 : Int32)), (.int (3 : Int32)), (.int (f0_57_s0 i1))] [] rfl rfl (by rw [hml]; rfl) rfl (hb hby at_165) 0 (Nat.le_of_eq rfl) (by decide) (by decide) (by decide) (by decide) rfl rfl fun T44 X44 e44 => ?_
    refine o_ifNo 171 X44 hx rfl (hb hby at_168) (feq (own_a_2_3 i1)).1 ?_
    refine o_iconst 172 X44 hx rfl (hb hby at_171) (1 : Int32) rfl ?_
    refine o_goto 176 X44 hx (hb hby at_172) (by decide) (by decide) ?_
    refine o_retN X44 hx .boolean (by simp) hret hlk (hb hby at_176) (by decide) (by decide) ?_
    exact ⟨rfl, NN38⟩
  · refine o_iloadN 60 X0 hx rfl (hb hby at_59) rfl ?_
    refine o_newarrI 62 X0 hx rfl hZ .boolean .boolean rfl rfl (wd_1 hw) e0 (hb hby at_60) (by decide) 3 (by decide) (by decide) (by decide) (by decide) [(0 : Int32), (0 : Int32), (0 : Int32)] rfl fun T45 h45 a45 k45 g45 X45 e45 E45 A45 => ?_
    have ge46 : n0 ≤ a45 := Nat.le_trans Z0 (Nat.le_of_eq g45.symm)
    have sz47 : n0 ≤ h45.size := Nat.le_trans Z0 E45.1
    refine o_astore 64 X45 hx rfl (hb hby at_62) rfl #[.val (.int i0), .val (.int i1), .val (.int (3 : Int32)), .val (.int (f0_18_s0 i1)), .val (.int (f0_30_s0 i1)), .val (.int (f0_43_s0 i1)), .val (.int (f0_57_s0 i1)), .val (.ref a45), .unset] rfl ?_
    refine o_iloadN 65 X45 hx rfl (hb hby at_64) rfl ?_
    refine o_ifNo 68 X45 hx rfl (hb hby at_65) (tlt (show (0 : Int32) < (3 : Int32) by decide)).2.2.2 ?_
    refine o_aload 70 X45 hx rfl (hb hby at_68) rfl rfl ?_
    refine o_iconst 71 X45 hx rfl (hb hby at_70) (0 : Int32) rfl ?_
    refine o_iloadN 72 X45 hx rfl (hb hby at_71) rfl ?_
    refine o_bastoreZX 73 X45 hx rfl hZ e45 A45 (by decide) (Nat.le_of_ble_eq_true rfl) [(nar .boolean (f0_18_s0 i1)), (0 : Int32), (0 : Int32)] rfl N0 ge46 (hb hby at_72) fun T48 h48 L48 X48 N48 e48 W48 A48 => ?_
    have sz49 : n0 ≤ h48.size := Nat.le_trans sz47 (Keep.of_wr W48).1
    refine o_iloadN 74 X48 hx rfl (hb hby at_73) rfl ?_
    refine o_iconst 75 X48 hx rfl (hb hby at_74) (1 : Int32) rfl ?_
    refine o_icmpNo 78 X48 hx rfl (hb hby at_75) (tlt (show (1 : Int32) < (3 : Int32) by decide)).2.2.2 ?_
    refine o_aload 80 X48 hx rfl (hb hby at_78) rfl rfl ?_
    refine o_iconst 81 X48 hx rfl (hb hby at_80) (1 : Int32) rfl ?_
    refine o_iload 83 X48 hx rfl (hb hby at_81) rfl ?_
    refine o_bastoreZX 84 X48 hx rfl hZ e48 A48 (by decide) (Nat.le_of_ble_eq_true rfl) [(nar .boolean (f0_18_s0 i1)), (nar .boolean (f0_30_s0 i1)), (0 : Int32)] rfl N48 ge46 (hb hby at_83) fun T50 h50 L50 X50 N50 e50 W50 A50 => ?_
    have sz51 : n0 ≤ h50.size := Nat.le_trans sz49 (Keep.of_wr W50).1
    refine o_iloadN 85 X50 hx rfl (hb hby at_84) rfl ?_
    refine o_iconst 86 X50 hx rfl (hb hby at_85) (2 : Int32) rfl ?_
    refine o_icmpNo 89 X50 hx rfl (hb hby at_86) (tlt (show (2 : Int32) < (3 : Int32) by decide)).2.2.2 ?_
    refine o_aload 91 X50 hx rfl (hb hby at_89) rfl rfl ?_
    refine o_iconst 92 X50 hx rfl (hb hby at_91) (2 : Int32) rfl ?_
    refine o_iload 94 X50 hx rfl (hb hby at_92) rfl ?_
    refine o_bastoreZX 95 X50 hx rfl hZ e50 A50 (by decide) (Nat.le_of_ble_eq_true rfl) [(nar .boolean (f0_18_s0 i1)), (nar .boolean (f0_30_s0 i1)), (nar .boolean (f0_43_s0 i1))] rfl N50 ge46 (hb hby at_94) fun T52 h52 L52 X52 N52 e52 W52 A52 => ?_
    have sz53 : n0 ≤ h52.size := Nat.le_trans sz51 (Keep.of_wr W52).1
    refine o_iloadN 96 X52 hx rfl (hb hby at_95) rfl ?_
    refine o_iconst 97 X52 hx rfl (hb hby at_96) (3 : Int32) rfl ?_
    refine o_icmpYes 106 X52 hx (hb hby at_97) (flt (show ¬ ((3 : Int32) < (3 : Int32)) by decide)).2.2.2 (by decide) (by decide) ?_
    refine o_aload 108 X52 hx rfl (hb hby at_106) rfl rfl ?_
    refine o_callSw 111 X52 hx rfl hZ hown (wd_2 hw) (wd_3 hw) (wd_4 hw) (wd_5 hw) (by decide) e52 N52 (rm1_3 l Z a0 hw a45 k45 (nar .boolean (f0_18_s0 i1)) (nar .boolean (f0_30_s0 i1)) (nar .boolean (f0_43_s0 i1)) h52 n0 sz53 A52) pd_laZrLcom_example_whittle_whittle_model_Bitss [(.ref a45)] [] rfl rfl (by rw [hml]; rfl) rfl (hb hby at_108) 0 (Nat.le_of_eq rfl) (by decide) (by decide) (by decide) (by decide) fun v54 T54 L54 LL54 X54 Q54 NF54 => ?_
    obtain ⟨a54, b54, k54, rfl, M54, K54, ga54, gb54, E54, F54, A54⟩ := Q54
    have NN54 := NF54 M54
    have sz55 : n0 ≤ T54.heap.size := Nat.le_trans sz53 K54.1
    show Go p.tables e below (EndE s room_1 (fun v h L => v = some (.int (1 : Int32)) ∧ Fr n0 L)) (T54.setTop (mkF m 111 #[.val (.int i0), .val (.int i1), .val (.int (3 : Int32)), .val (.int (f0_18_s0 i1)), .val (.int (f0_30_s0 i1)), .val (.int (f0_43_s0 i1)), .val (.int (f0_57_s0 i1)), .val (.ref a45), .unset] [(.ref a54)]))
    refine o_astore 113 X54 hx rfl (hb hby at_111) rfl #[.val (.int i0), .val (.int i1), .val (.int (3 : Int32)), .val (.int (f0_18_s0 i1)), .val (.int (f0_30_s0 i1)), .val (.int (f0_43_s0 i1)), .val (.int (f0_57_s0 i1)), .val (.ref a45), .val (.ref a54)] rfl ?_
    refine o_aload 115 X54 hx rfl (hb hby at_113) rfl rfl ?_
    refine o_callVP (rv := (.int (3 : Int32))) 118 X54 hx rfl hZ hown (wd_17 hw) (wd_18 hw) (wd_20 hw) (wd_19 hw) (wd_4 hw) (wd_21 hw) (by decide) rfl (rm4 l Z a0 hw a54 b54 k54 (3 : Int32) [(nar .byte ((own_z (nar .boolean (f0_18_s0 i1))).toInt8.toInt32)), (nar .byte ((own_z (nar .boolean (f0_30_s0 i1))).toInt8.toInt32)), (nar .byte ((own_z (nar .boolean (f0_43_s0 i1))).toInt8.toInt32))] T54.heap E54 F54 A54) pd_lrI [] [] rfl E54 rfl (by rw [hml]; rfl) rfl (hb hby at_115) 0 (Nat.le_of_eq rfl) (by decide) (by decide) (by decide) (by decide) rfl rfl fun T56 X56 e56 => ?_
    refine o_iloadN 119 X56 hx rfl (hb hby at_118) rfl ?_
    refine o_icmpYes 124 X56 hx (hb hby at_119) (teq rfl).1 (by decide) (by decide) ?_
    refine o_aload 126 X56 hx rfl (hb hby at_124) rfl rfl ?_
    refine o_iloadN 127 X56 hx rfl (hb hby at_126) rfl ?_
    refine o_iconst 128 X56 hx rfl (hb hby at_127) (0 : Int32) rfl ?_
    refine o_iloadN 129 X56 hx rfl (hb hby at_128) rfl ?_
    refine o_callP (rv := (.int (own_at (0 : Int32) (f0_18_s0 i1) (3 : Int32) [(nar .byte ((own_z (nar .boolean (f0_18_s0 i1))).toInt8.toInt32)), (nar .byte ((own_z (nar .boolean (f0_30_s0 i1))).toInt8.toInt32)), (nar .byte ((own_z (nar .boolean (f0_43_s0 i1))).toInt8.toInt32))]))) 132 X56 hx rfl hZ hown (wd_22 hw) (wd_23 hw) (wd_24 hw) (wd_25 hw) (by decide) e56 (rm5 l Z a0 hw a54 b54 k54 (3 : Int32) [(nar .byte ((own_z (nar .boolean (f0_18_s0 i1))).toInt8.toInt32)), (nar .byte ((own_z (nar .boolean (f0_30_s0 i1))).toInt8.toInt32)), (nar .byte ((own_z (nar .boolean (f0_43_s0 i1))).toInt8.toInt32))] (0 : Int32) (f0_18_s0 i1) T54.heap E54 F54 A54 (by decide) (by intro; exact own_h2_3_0 i1)) pd_lLcom_example_whittle_whittle_model_BitssIIZrZ [(.ref a54), (.int (3 : Int32)), (.int (0 : Int32)), (.int (f0_18_s0 i1))] [] rfl rfl (by rw [hml]; rfl) rfl (hb hby at_129) 0 (Nat.le_of_eq rfl) (by decide) (by decide) (by decide) (by decide) rfl rfl fun T57 X57 e57 => ?_
    refine o_ifNo 135 X57 hx rfl (hb hby at_132) (feq (own_a_3_0 i1)).1 ?_
    refine o_aload 137 X57 hx rfl (hb hby at_135) rfl rfl ?_
    refine o_iloadN 138 X57 hx rfl (hb hby at_137) rfl ?_
    refine o_iconst 139 X57 hx rfl (hb hby at_138) (1 : Int32) rfl ?_
    refine o_iload 141 X57 hx rfl (hb hby at_139) rfl ?_
    refine o_callP (rv := (.int (own_at (1 : Int32) (f0_30_s0 i1) (3 : Int32) [(nar .byte ((own_z (nar .boolean (f0_18_s0 i1))).toInt8.toInt32)), (nar .byte ((own_z (nar .boolean (f0_30_s0 i1))).toInt8.toInt32)), (nar .byte ((own_z (nar .boolean (f0_43_s0 i1))).toInt8.toInt32))]))) 144 X57 hx rfl hZ hown (wd_22 hw) (wd_23 hw) (wd_24 hw) (wd_25 hw) (by decide) e57 (rm5 l Z a0 hw a54 b54 k54 (3 : Int32) [(nar .byte ((own_z (nar .boolean (f0_18_s0 i1))).toInt8.toInt32)), (nar .byte ((own_z (nar .boolean (f0_30_s0 i1))).toInt8.toInt32)), (nar .byte ((own_z (nar .boolean (f0_43_s0 i1))).toInt8.toInt32))] (1 : Int32) (f0_30_s0 i1) T54.heap E54 F54 A54 (by decide) (by intro; exact own_h2_3_1 i1)) pd_lLcom_example_whittle_whittle_model_BitssIIZrZ [(.ref a54), (.int (3 : Int32)), (.int (1 : Int32)), (.int (f0_30_s0 i1))] [] rfl rfl (by rw [hml]; rfl) rfl (hb hby at_141) 0 (Nat.le_of_eq rfl) (by decide) (by decide) (by decide) (by decide) rfl rfl fun T58 X58 e58 => ?_
    refine o_ifNo 147 X58 hx rfl (hb hby at_144) (feq (own_a_3_1 i1)).1 ?_
    refine o_aload 149 X58 hx rfl (hb hby at_147) rfl rfl ?_
    refine o_iloadN 150 X58 hx rfl (hb hby at_149) rfl ?_
    refine o_iconst 151 X58 hx rfl (hb hby at_150) (2 : Int32) rfl ?_
    refine o_iload 153 X58 hx rfl (hb hby at_151) rfl ?_
    refine o_callP (rv := (.int (own_at (2 : Int32) (f0_43_s0 i1) (3 : Int32) [(nar .byte ((own_z (nar .boolean (f0_18_s0 i1))).toInt8.toInt32)), (nar .byte ((own_z (nar .boolean (f0_30_s0 i1))).toInt8.toInt32)), (nar .byte ((own_z (nar .boolean (f0_43_s0 i1))).toInt8.toInt32))]))) 156 X58 hx rfl hZ hown (wd_22 hw) (wd_23 hw) (wd_24 hw) (wd_25 hw) (by decide) e58 (rm5 l Z a0 hw a54 b54 k54 (3 : Int32) [(nar .byte ((own_z (nar .boolean (f0_18_s0 i1))).toInt8.toInt32)), (nar .byte ((own_z (nar .boolean (f0_30_s0 i1))).toInt8.toInt32)), (nar .byte ((own_z (nar .boolean (f0_43_s0 i1))).toInt8.toInt32))] (2 : Int32) (f0_43_s0 i1) T54.heap E54 F54 A54 (by decide) (by intro; exact own_h2_3_2 i1)) pd_lLcom_example_whittle_whittle_model_BitssIIZrZ [(.ref a54), (.int (3 : Int32)), (.int (2 : Int32)), (.int (f0_43_s0 i1))] [] rfl rfl (by rw [hml]; rfl) rfl (hb hby at_153) 0 (Nat.le_of_eq rfl) (by decide) (by decide) (by decide) (by decide) rfl rfl fun T59 X59 e59 => ?_
    refine o_ifNo 159 X59 hx rfl (hb hby at_156) (feq (own_a_3_2 i1)).1 ?_
    refine o_aload 161 X59 hx rfl (hb hby at_159) rfl rfl ?_
    refine o_iloadN 162 X59 hx rfl (hb hby at_161) rfl ?_
    refine o_iconst 163 X59 hx rfl (hb hby at_162) (3 : Int32) rfl ?_
    refine o_iload 165 X59 hx rfl (hb hby at_163) rfl ?_
    refine o_callP (rv := (.int (own_at (3 : Int32) (f0_57_s0 i1) (3 : Int32) [(nar .byte ((own_z (nar .boolean (f0_18_s0 i1))).toInt8.toInt32)), (nar .byte ((own_z (nar .boolean (f0_30_s0 i1))).toInt8.toInt32)), (nar .byte ((own_z (nar .boolean (f0_43_s0 i1))).toInt8.toInt32))]))) 168 X59 hx rfl hZ hown (wd_22 hw) (wd_23 hw) (wd_24 hw) (wd_25 hw) (by decide) e59 (rm5 l Z a0 hw a54 b54 k54 (3 : Int32) [(nar .byte ((own_z (nar .boolean (f0_18_s0 i1))).toInt8.toInt32)), (nar .byte ((own_z (nar .boolean (f0_30_s0 i1))).toInt8.toInt32)), (nar .byte ((own_z (nar .boolean (f0_43_s0 i1))).toInt8.toInt32))] (3 : Int32) (f0_57_s0 i1) T54.heap E54 F54 A54 (by decide) (by intro; exact absurd ‹_› (by decide))) pd_lLcom_example_whittle_whittle_model_BitssIIZrZ [(.ref a54), (.int (3 : Int32)), (.int (3 : Int32)), (.int (f0_57_s0 i1))] [] rfl rfl (by rw [hml]; rfl) rfl (hb hby at_165) 0 (Nat.le_of_eq rfl) (by decide) (by decide) (by decide) (by decide) rfl rfl fun T60 X60 e60 => ?_
    refine o_ifNo 171 X60 hx rfl (hb hby at_168) (feq (own_a_3_3 i1)).1 ?_
    refine o_iconst 172 X60 hx rfl (hb hby at_171) (1 : Int32) rfl ?_
    refine o_goto 176 X60 hx (hb hby at_172) (by decide) (by decide) ?_
    refine o_retN X60 hx .boolean (by simp) hret hlk (hb hby at_176) (by decide) (by decide) ?_
    exact ⟨rfl, NN54⟩
  · refine o_iloadN 60 X0 hx rfl (hb hby at_59) rfl ?_
    refine o_newarrI 62 X0 hx rfl hZ .boolean .boolean rfl rfl (wd_1 hw) e0 (hb hby at_60) (by decide) 4 (by decide) (by decide) (by decide) (by decide) [(0 : Int32), (0 : Int32), (0 : Int32), (0 : Int32)] rfl fun T61 h61 a61 k61 g61 X61 e61 E61 A61 => ?_
    have ge62 : n0 ≤ a61 := Nat.le_trans Z0 (Nat.le_of_eq g61.symm)
    have sz63 : n0 ≤ h61.size := Nat.le_trans Z0 E61.1
    refine o_astore 64 X61 hx rfl (hb hby at_62) rfl #[.val (.int i0), .val (.int i1), .val (.int (4 : Int32)), .val (.int (f0_18_s0 i1)), .val (.int (f0_30_s0 i1)), .val (.int (f0_43_s0 i1)), .val (.int (f0_57_s0 i1)), .val (.ref a61), .unset] rfl ?_
    refine o_iloadN 65 X61 hx rfl (hb hby at_64) rfl ?_
    refine o_ifNo 68 X61 hx rfl (hb hby at_65) (tlt (show (0 : Int32) < (4 : Int32) by decide)).2.2.2 ?_
    refine o_aload 70 X61 hx rfl (hb hby at_68) rfl rfl ?_
    refine o_iconst 71 X61 hx rfl (hb hby at_70) (0 : Int32) rfl ?_
    refine o_iloadN 72 X61 hx rfl (hb hby at_71) rfl ?_
    refine o_bastoreZX 73 X61 hx rfl hZ e61 A61 (by decide) (Nat.le_of_ble_eq_true rfl) [(nar .boolean (f0_18_s0 i1)), (0 : Int32), (0 : Int32), (0 : Int32)] rfl N0 ge62 (hb hby at_72) fun T64 h64 L64 X64 N64 e64 W64 A64 => ?_
    have sz65 : n0 ≤ h64.size := Nat.le_trans sz63 (Keep.of_wr W64).1
    refine o_iloadN 74 X64 hx rfl (hb hby at_73) rfl ?_
    refine o_iconst 75 X64 hx rfl (hb hby at_74) (1 : Int32) rfl ?_
    refine o_icmpNo 78 X64 hx rfl (hb hby at_75) (tlt (show (1 : Int32) < (4 : Int32) by decide)).2.2.2 ?_
    refine o_aload 80 X64 hx rfl (hb hby at_78) rfl rfl ?_
    refine o_iconst 81 X64 hx rfl (hb hby at_80) (1 : Int32) rfl ?_
    refine o_iload 83 X64 hx rfl (hb hby at_81) rfl ?_
    refine o_bastoreZX 84 X64 hx rfl hZ e64 A64 (by decide) (Nat.le_of_ble_eq_true rfl) [(nar .boolean (f0_18_s0 i1)), (nar .boolean (f0_30_s0 i1)), (0 : Int32), (0 : Int32)] rfl N64 ge62 (hb hby at_83) fun T66 h66 L66 X66 N66 e66 W66 A66 => ?_
    have sz67 : n0 ≤ h66.size := Nat.le_trans sz65 (Keep.of_wr W66).1
    refine o_iloadN 85 X66 hx rfl (hb hby at_84) rfl ?_
    refine o_iconst 86 X66 hx rfl (hb hby at_85) (2 : Int32) rfl ?_
    refine o_icmpNo 89 X66 hx rfl (hb hby at_86) (tlt (show (2 : Int32) < (4 : Int32) by decide)).2.2.2 ?_
    refine o_aload 91 X66 hx rfl (hb hby at_89) rfl rfl ?_
    refine o_iconst 92 X66 hx rfl (hb hby at_91) (2 : Int32) rfl ?_
    refine o_iload 94 X66 hx rfl (hb hby at_92) rfl ?_
    refine o_bastoreZX 95 X66 hx rfl hZ e66 A66 (by decide) (Nat.le_of_ble_eq_true rfl) [(nar .boolean (f0_18_s0 i1)), (nar .boolean (f0_30_s0 i1)), (nar .boolean (f0_43_s0 i1)), (0 : Int32)] rfl N66 ge62 (hb hby at_94) fun T68 h68 L68 X68 N68 e68 W68 A68 => ?_
    have sz69 : n0 ≤ h68.size := Nat.le_trans sz67 (Keep.of_wr W68).1
    refine o_iloadN 96 X68 hx rfl (hb hby at_95) rfl ?_
    refine o_iconst 97 X68 hx rfl (hb hby at_96) (3 : Int32) rfl ?_
    refine o_icmpNo 100 X68 hx rfl (hb hby at_97) (tlt (show (3 : Int32) < (4 : Int32) by decide)).2.2.2 ?_
    refine o_aload 102 X68 hx rfl (hb hby at_100) rfl rfl ?_
    refine o_iconst 103 X68 hx rfl (hb hby at_102) (3 : Int32) rfl ?_
    refine o_iload 105 X68 hx rfl (hb hby at_103) rfl ?_
    refine o_bastoreZX 106 X68 hx rfl hZ e68 A68 (by decide) (Nat.le_of_ble_eq_true rfl) [(nar .boolean (f0_18_s0 i1)), (nar .boolean (f0_30_s0 i1)), (nar .boolean (f0_43_s0 i1)), (nar .boolean (f0_57_s0 i1))] rfl N68 ge62 (hb hby at_105) fun T70 h70 L70 X70 N70 e70 W70 A70 => ?_
    have sz71 : n0 ≤ h70.size := Nat.le_trans sz69 (Keep.of_wr W70).1
    refine o_aload 108 X70 hx rfl (hb hby at_106) rfl rfl ?_
    refine o_callSw 111 X70 hx rfl hZ hown (wd_2 hw) (wd_3 hw) (wd_4 hw) (wd_5 hw) (by decide) e70 N70 (rm1_4 l Z a0 hw a61 k61 (nar .boolean (f0_18_s0 i1)) (nar .boolean (f0_30_s0 i1)) (nar .boolean (f0_43_s0 i1)) (nar .boolean (f0_57_s0 i1)) h70 n0 sz71 A70) pd_laZrLcom_example_whittle_whittle_model_Bitss [(.ref a61)] [] rfl rfl (by rw [hml]; rfl) rfl (hb hby at_108) 0 (Nat.le_of_eq rfl) (by decide) (by decide) (by decide) (by decide) fun v72 T72 L72 LL72 X72 Q72 NF72 => ?_
    obtain ⟨a72, b72, k72, rfl, M72, K72, ga72, gb72, E72, F72, A72⟩ := Q72
    have NN72 := NF72 M72
    have sz73 : n0 ≤ T72.heap.size := Nat.le_trans sz71 K72.1
    show Go p.tables e below (EndE s room_1 (fun v h L => v = some (.int (1 : Int32)) ∧ Fr n0 L)) (T72.setTop (mkF m 111 #[.val (.int i0), .val (.int i1), .val (.int (4 : Int32)), .val (.int (f0_18_s0 i1)), .val (.int (f0_30_s0 i1)), .val (.int (f0_43_s0 i1)), .val (.int (f0_57_s0 i1)), .val (.ref a61), .unset] [(.ref a72)]))
    refine o_astore 113 X72 hx rfl (hb hby at_111) rfl #[.val (.int i0), .val (.int i1), .val (.int (4 : Int32)), .val (.int (f0_18_s0 i1)), .val (.int (f0_30_s0 i1)), .val (.int (f0_43_s0 i1)), .val (.int (f0_57_s0 i1)), .val (.ref a61), .val (.ref a72)] rfl ?_
    refine o_aload 115 X72 hx rfl (hb hby at_113) rfl rfl ?_
    refine o_callVP (rv := (.int (4 : Int32))) 118 X72 hx rfl hZ hown (wd_17 hw) (wd_18 hw) (wd_20 hw) (wd_19 hw) (wd_4 hw) (wd_21 hw) (by decide) rfl (rm4 l Z a0 hw a72 b72 k72 (4 : Int32) [(nar .byte ((own_z (nar .boolean (f0_18_s0 i1))).toInt8.toInt32)), (nar .byte ((own_z (nar .boolean (f0_30_s0 i1))).toInt8.toInt32)), (nar .byte ((own_z (nar .boolean (f0_43_s0 i1))).toInt8.toInt32)), (nar .byte ((own_z (nar .boolean (f0_57_s0 i1))).toInt8.toInt32))] T72.heap E72 F72 A72) pd_lrI [] [] rfl E72 rfl (by rw [hml]; rfl) rfl (hb hby at_115) 0 (Nat.le_of_eq rfl) (by decide) (by decide) (by decide) (by decide) rfl rfl fun T74 X74 e74 => ?_
    refine o_iloadN 119 X74 hx rfl (hb hby at_118) rfl ?_
    refine o_icmpYes 124 X74 hx (hb hby at_119) (teq rfl).1 (by decide) (by decide) ?_
    refine o_aload 126 X74 hx rfl (hb hby at_124) rfl rfl ?_
    refine o_iloadN 127 X74 hx rfl (hb hby at_126) rfl ?_
    refine o_iconst 128 X74 hx rfl (hb hby at_127) (0 : Int32) rfl ?_
    refine o_iloadN 129 X74 hx rfl (hb hby at_128) rfl ?_
    refine o_callP (rv := (.int (own_at (0 : Int32) (f0_18_s0 i1) (4 : Int32) [(nar .byte ((own_z (nar .boolean (f0_18_s0 i1))).toInt8.toInt32)), (nar .byte ((own_z (nar .boolean (f0_30_s0 i1))).toInt8.toInt32)), (nar .byte ((own_z (nar .boolean (f0_43_s0 i1))).toInt8.toInt32)), (nar .byte ((own_z (nar .boolean (f0_57_s0 i1))).toInt8.toInt32))]))) 132 X74 hx rfl hZ hown (wd_22 hw) (wd_23 hw) (wd_24 hw) (wd_25 hw) (by decide) e74 (rm5 l Z a0 hw a72 b72 k72 (4 : Int32) [(nar .byte ((own_z (nar .boolean (f0_18_s0 i1))).toInt8.toInt32)), (nar .byte ((own_z (nar .boolean (f0_30_s0 i1))).toInt8.toInt32)), (nar .byte ((own_z (nar .boolean (f0_43_s0 i1))).toInt8.toInt32)), (nar .byte ((own_z (nar .boolean (f0_57_s0 i1))).toInt8.toInt32))] (0 : Int32) (f0_18_s0 i1) T72.heap E72 F72 A72 (by decide) (by intro; exact own_h2_4_0 i1)) pd_lLcom_example_whittle_whittle_model_BitssIIZrZ [(.ref a72), (.int (4 : Int32)), (.int (0 : Int32)), (.int (f0_18_s0 i1))] [] rfl rfl (by rw [hml]; rfl) rfl (hb hby at_129) 0 (Nat.le_of_eq rfl) (by decide) (by decide) (by decide) (by decide) rfl rfl fun T75 X75 e75 => ?_
    refine o_ifNo 135 X75 hx rfl (hb hby at_132) (feq (own_a_4_0 i1)).1 ?_
    refine o_aload 137 X75 hx rfl (hb hby at_135) rfl rfl ?_
    refine o_iloadN 138 X75 hx rfl (hb hby at_137) rfl ?_
    refine o_iconst 139 X75 hx rfl (hb hby at_138) (1 : Int32) rfl ?_
    refine o_iload 141 X75 hx rfl (hb hby at_139) rfl ?_
    refine o_callP (rv := (.int (own_at (1 : Int32) (f0_30_s0 i1) (4 : Int32) [(nar .byte ((own_z (nar .boolean (f0_18_s0 i1))).toInt8.toInt32)), (nar .byte ((own_z (nar .boolean (f0_30_s0 i1))).toInt8.toInt32)), (nar .byte ((own_z (nar .boolean (f0_43_s0 i1))).toInt8.toInt32)), (nar .byte ((own_z (nar .boolean (f0_57_s0 i1))).toInt8.toInt32))]))) 144 X75 hx rfl hZ hown (wd_22 hw) (wd_23 hw) (wd_24 hw) (wd_25 hw) (by decide) e75 (rm5 l Z a0 hw a72 b72 k72 (4 : Int32) [(nar .byte ((own_z (nar .boolean (f0_18_s0 i1))).toInt8.toInt32)), (nar .byte ((own_z (nar .boolean (f0_30_s0 i1))).toInt8.toInt32)), (nar .byte ((own_z (nar .boolean (f0_43_s0 i1))).toInt8.toInt32)), (nar .byte ((own_z (nar .boolean (f0_57_s0 i1))).toInt8.toInt32))] (1 : Int32) (f0_30_s0 i1) T72.heap E72 F72 A72 (by decide) (by intro; exact own_h2_4_1 i1)) pd_lLcom_example_whittle_whittle_model_BitssIIZrZ [(.ref a72), (.int (4 : Int32)), (.int (1 : Int32)), (.int (f0_30_s0 i1))] [] rfl rfl (by rw [hml]; rfl) rfl (hb hby at_141) 0 (Nat.le_of_eq rfl) (by decide) (by decide) (by decide) (by decide) rfl rfl fun T76 X76 e76 => ?_
    refine o_ifNo 147 X76 hx rfl (hb hby at_144) (feq (own_a_4_1 i1)).1 ?_
    refine o_aload 149 X76 hx rfl (hb hby at_147) rfl rfl ?_
    refine o_iloadN 150 X76 hx rfl (hb hby at_149) rfl ?_
    refine o_iconst 151 X76 hx rfl (hb hby at_150) (2 : Int32) rfl ?_
    refine o_iload 153 X76 hx rfl (hb hby at_151) rfl ?_
    refine o_callP (rv := (.int (own_at (2 : Int32) (f0_43_s0 i1) (4 : Int32) [(nar .byte ((own_z (nar .boolean (f0_18_s0 i1))).toInt8.toInt32)), (nar .byte ((own_z (nar .boolean (f0_30_s0 i1))).toInt8.toInt32)), (nar .byte ((own_z (nar .boolean (f0_43_s0 i1))).toInt8.toInt32)), (nar .byte ((own_z (nar .boolean (f0_57_s0 i1))).toInt8.toInt32))]))) 156 X76 hx rfl hZ hown (wd_22 hw) (wd_23 hw) (wd_24 hw) (wd_25 hw) (by decide) e76 (rm5 l Z a0 hw a72 b72 k72 (4 : Int32) [(nar .byte ((own_z (nar .boolean (f0_18_s0 i1))).toInt8.toInt32)), (nar .byte ((own_z (nar .boolean (f0_30_s0 i1))).toInt8.toInt32)), (nar .byte ((own_z (nar .boolean (f0_43_s0 i1))).toInt8.toInt32)), (nar .byte ((own_z (nar .boolean (f0_57_s0 i1))).toInt8.toInt32))] (2 : Int32) (f0_43_s0 i1) T72.heap E72 F72 A72 (by decide) (by intro; exact own_h2_4_2 i1)) pd_lLcom_example_whittle_whittle_model_BitssIIZrZ [(.ref a72), (.int (4 : Int32)), (.int (2 : Int32)), (.int (f0_43_s0 i1))] [] rfl rfl (by rw [hml]; rfl) rfl (hb hby at_153) 0 (Nat.le_of_eq rfl) (by decide) (by decide) (by decide) (by decide) rfl rfl fun T77 X77 e77 => ?_
    refine o_ifNo 159 X77 hx rfl (hb hby at_156) (feq (own_a_4_2 i1)).1 ?_
    refine o_aload 161 X77 hx rfl (hb hby at_159) rfl rfl ?_
    refine o_iloadN 162 X77 hx rfl (hb hby at_161) rfl ?_
    refine o_iconst 163 X77 hx rfl (hb hby at_162) (3 : Int32) rfl ?_
    refine o_iload 165 X77 hx rfl (hb hby at_163) rfl ?_
    refine o_callP (rv := (.int (own_at (3 : Int32) (f0_57_s0 i1) (4 : Int32) [(nar .byte ((own_z (nar .boolean (f0_18_s0 i1))).toInt8.toInt32)), (nar .byte ((own_z (nar .boolean (f0_30_s0 i1))).toInt8.toInt32)), (nar .byte ((own_z (nar .boolean (f0_43_s0 i1))).toInt8.toInt32)), (nar .byte ((own_z (nar .boolean (f0_57_s0 i1))).toInt8.toInt32))]))) 168 X77 hx rfl hZ hown (wd_22 hw) (wd_23 hw) (wd_24 hw) (wd_25 hw) (by decide) e77 (rm5 l Z a0 hw a72 b72 k72 (4 : Int32) [(nar .byte ((own_z (nar .boolean (f0_18_s0 i1))).toInt8.toInt32)), (nar .byte ((own_z (nar .boolean (f0_30_s0 i1))).toInt8.toInt32)), (nar .byte ((own_z (nar .boolean (f0_43_s0 i1))).toInt8.toInt32)), (nar .byte ((own_z (nar .boolean (f0_57_s0 i1))).toInt8.toInt32))] (3 : Int32) (f0_57_s0 i1) T72.heap E72 F72 A72 (by decide) (by intro; exact own_h2_4_3 i1)) pd_lLcom_example_whittle_whittle_model_BitssIIZrZ [(.ref a72), (.int (4 : Int32)), (.int (3 : Int32)), (.int (f0_57_s0 i1))] [] rfl rfl (by rw [hml]; rfl) rfl (hb hby at_165) 0 (Nat.le_of_eq rfl) (by decide) (by decide) (by decide) (by decide) rfl rfl fun T78 X78 e78 => ?_
    refine o_ifNo 171 X78 hx rfl (hb hby at_168) (feq (own_a_4_3 i1)).1 ?_
    refine o_iconst 172 X78 hx rfl (hb hby at_171) (1 : Int32) rfl ?_
    refine o_goto 176 X78 hx (hb hby at_172) (by decide) (by decide) ?_
    refine o_retN X78 hx .boolean (by simp) hret hlk (hb hby at_176) (by decide) (by decide) ?_
    exact ⟨rfl, NN72⟩
set_option maxRecDepth 65536 in
set_option maxHeartbeats 40000000 in
theorem comes_1 {Post : Tables → Env → Array Value → State → Outcome → State → Prop} (hpost : ∀ tb e args s v u, (limb_1_1.after args s (.returned v) u = true ∧ limb_1_2.after args s (.returned v) u = true ∧ True) → FrameEnd s (.returned v) u (Jvm.fieldLocs frame_1_writes args s ++ Jvm.arrayLocs frame_1_arrays args s ++ Jvm.staticLocs frame_1_statics s) 16 128 → Post tb e args s (.returned v) u) :
    ArmFor flags0 classFile x code maxLocals ret World_1 tables_1 room_1 Calls_1 rest_1 Pre_1 Post := by
  intro l hfl _ _ p e ha hc hk s m args below hf hA hF happ hP
  obtain ⟨hcalls, hrest, hpre⟩ := hP
  obtain ⟨-, -, -, hnamed, -, -, -, hat⟩ := (Spec.applies_iff hf).mp happ
  obtain ⟨hg, hn⟩ := and_e (Cond.before_iff.mp (show (Jvm.Cond.and given_1 narrow_1).before args s = true from hpre))
  obtain ⟨gc, g0⟩ := and_e hg
  obtain ⟨ga0, g1⟩ := and_e g0
  obtain ⟨w0, w1, rfl⟩ : ∃ w0 w1 : Value, args = #[w0, w1] := by
    have hs : args.size = 2 := by simpa [Cond.value, given_1] using gc
    obtain ⟨L⟩ := args
    match L, hs with
    | [w0, w1], _ => exact ⟨w0, w1, rfl⟩
  have hw := fun d (hd : d ∈ tables_1) => atoms_spec (ws := Jvm.Cond.code x code maxLocals ret :: tables_1) hat d (List.mem_cons_of_mem _ hd)
  obtain ⟨i0, ei0⟩ := is_v ga0
  obtain rfl : w0 = (.int i0) := Option.some.inj ei0
  obtain ⟨i1, ei1⟩ := is_v g1
  obtain rfl : w1 = (.int i1) := Option.some.inj ei1
  obtain ⟨n, o, h1, h2, h3, _, L, rfl, ⟨rfl, N⟩, hq⟩ := rm0 l s _ hw tables_1 i0 i1 s.heap s.heap.size (Nat.le_refl _) p e ha hc hk s m _ below hf ((Spec.applies_iff_loose hf).mp happ).1 ⟨rfl, State.Warmed39.refl s, rfl⟩ trivial
  refine ⟨n, _, h1, h2, h3, hpost _ _ _ _ _ _ ⟨Cond.after_iff.mpr rfl, Cond.after_iff.mpr (eq_i res_at (Term.int_eval (1)) rfl), trivial⟩ ⟨hq.1, hq.2.1, (hq.2.2.sift fun y hy => Or.inr (N y hy)).mono (by decide) (by decide)⟩⟩
theorem main_1_1 : Claimed_1_1 := comes_1 fun _ _ _ _ _ _ h hF => ⟨h.1, hF⟩
theorem main_1_2 : Claimed_1_2 := comes_1 fun _ _ _ _ _ _ h hF => ⟨h.2.1, hF⟩
end Jvm.Pilot.@@N@@
namespace Jvm.Pilot.@@N@@
open Jvm Jvm.ClassFile Sem Op Lib Jvm.Free Jvm.Stand Jvm.Pilot.@@N@@.Jvm.D
/-! MADE BY PROGRAM (witnessworld.py) out of the Statement's table words and the real class files: 11 classes; the members and pool entries that the words name. The judged class is class 1, her method 1. -/
namespace start1
open Jvm.ClassFile
def u (s : String) : CpInfo := .utf8 (stringToUtf16 s)
/-- a pool by its gaps: so many unusable entries, then the entry; so many at the end -/
def gap : Nat → List CpInfo → List CpInfo
  | 0, r => r
  | n + 1, r => .unusable :: gap n r
def poolList (es : List (Nat × CpInfo)) (last : Nat) : List CpInfo := es.foldr (fun e r => gap e.1 (e.2 :: r)) (gap last [])
def pool (es : List (Nat × CpInfo)) (last : Nat) : Array CpInfo := ⟨poolList es last⟩
def fileOf (pool : Array CpInfo) (this : Nat) (attrs : Array Attribute := #[]) (ms : Array MethodInfo := #[]) (fl : Nat := 33) (sup : Nat := 0) (ifs : Array Nat := #[]) (fds : Array FieldInfo := #[]) : ClassFile where
  minorVersion := 0
  majorVersion := 65
  constantPool := pool
  accessFlags := fl
  thisClass := this
  superClass := sup
  interfaces := ifs
  fields := fds
  methods := ms
  attributes := attrs
def plain (name : String) (sup : Option ClassId) : Class where
  name := name
  kind := .ordinary
  loader := none
  accessFlags := 33
  super := sup
  interfaces := #[]
  cf := none
  fields := #[]
  methods := #[]
  instanceTypes := #[]
  staticTypes := #[]
  resolved := #[]
  callSites := []
  init := .initialized
  statics := none
  mirror := none

def pool0 : Array CpInfo := pool [(5, u "<init>"), (0, u "()V"), (1, .class_ 10), (1, u "java/lang/Object")] 113

def k0c0 : Code := { maxStack := 0, maxLocals := 1, code := object_method_1_code, exceptionTable := #[], attributes := #[] }
def k0m0 : Method := { name := "<init>", desc := "()V", sig := { parameters := [], returnType := none }, accessFlags := 1, code := some k0c0 }
/-- java/lang/Object -/
def k0 : Class := { plain "java/lang/Object" none with
  accessFlags := 33
  interfaces := #[]
  cf := some (fileOf pool0 8 #[] #[{ accessFlags := 1, nameIndex := 5, descriptorIndex := 6, attributes := #[] }] 33 0 #[] #[])
  fields := #[]
  methods := #[k0m0]
  instanceTypes := #[]
  staticTypes := #[]
  resolved := Array.replicate 124 none
  statics := none }

def pool1 : Array CpInfo := pool [(2, .class_ 4), (1, u "java/lang/Object"), (0, u "<init>"), (0, u "()V"), (0, .integer 2147483647), (0, .methodref 9 10), (0, .class_ 11), (0, .nameAndType 12 13), (0, u "com/example/whittle/whittle/model/Bits"), (0, u "of"), (0, u "([Z)Lcom/example/whittle/whittle/model/Bits;"), (0, .methodref 9 15), (0, .nameAndType 16 17), (0, u "length"), (0, u "()I"), (0, .methodref 19 20), (0, .class_ 21), (0, .nameAndType 22 23), (0, u "com/example/whittle/whittle/model/BitsOfPinLaw"), (0, u "at"), (0, u "(Lcom/example/whittle/whittle/model/Bits;IIZ)Z"), (0, .methodref 9 25), (0, .nameAndType 26 27), (0, u "isKnown"), (0, u "(I)Z"), (0, .methodref 9 29), (0, .nameAndType 30 27), (0, u "get"), (2, u "law"), (0, u "(II)Z")] 5

def k1m0 : Method := { name := "<init>", desc := "()V", sig := { parameters := [], returnType := none }, accessFlags := 1, code := none }
def k1c1 : Code := { maxStack := 4, maxLocals := 9, code := code, exceptionTable := #[], attributes := #[] }
def k1m1 : Method := { name := "law", desc := "(II)Z", sig := { parameters := [.int, .int], returnType := some .boolean }, accessFlags := 9, code := some k1c1 }
def k1c2 : Code := { maxStack := 2, maxLocals := 4, code := method_3_code, exceptionTable := #[], attributes := #[] }
def k1m2 : Method := { name := "at", desc := "(Lcom/example/whittle/whittle/model/Bits;IIZ)Z", sig := { parameters := [(.object "com/example/whittle/whittle/model/Bits"), .int, .int, .boolean], returnType := some .boolean }, accessFlags := 10, code := some k1c2 }
/-- com/example/whittle/whittle/model/BitsOfPinLaw -/
def k1 : Class := { plain "com/example/whittle/whittle/model/BitsOfPinLaw" (some 0) with
  accessFlags := 49
  interfaces := #[]
  cf := some (fileOf pool1 19 #[] #[{ accessFlags := 1, nameIndex := 5, descriptorIndex := 6, attributes := #[] }, { accessFlags := 9, nameIndex := 33, descriptorIndex := 34, attributes := #[] }, { accessFlags := 10, nameIndex := 22, descriptorIndex := 23, attributes := #[] }] 49 2 #[] #[])
  fields := #[]
  methods := #[k1m0, k1m1, k1m2]
  instanceTypes := #[]
  staticTypes := #[]
  resolved := Array.replicate 40 none
  statics := none }

def pool2 : Array CpInfo := pool [(1, .methodref 2 3), (0, .class_ 4), (0, .nameAndType 5 6), (0, u "java/lang/Object"), (0, u "<init>"), (0, u "()V"), (0, .fieldref 8 9), (0, .class_ 10), (0, .nameAndType 11 12), (0, u "com/example/whittle/whittle/model/Bits"), (0, u "values"), (0, u "[B"), (8, u "length"), (0, u "()I"), (17, .methodref 8 41), (0, .nameAndType 5 42), (0, u "([B)V"), (2, u "get"), (0, u "(I)Z"), (0, .methodref 8 48), (0, .nameAndType 49 46), (0, u "isKnown"), (33, u "UNKNOWN"), (0, u "B"), (8, u "of"), (0, u "([Z)Lcom/example/whittle/whittle/model/Bits;")] 24

def k2c0 : Code := { maxStack := 2, maxLocals := 2, code := prog_32_method_1_code, exceptionTable := #[], attributes := #[] }
def k2m0 : Method := { name := "<init>", desc := "([B)V", sig := { parameters := [(.array .byte)], returnType := none }, accessFlags := 2, code := some k2c0 }
def k2c1 : Code := { maxStack := 4, maxLocals := 3, code := prog_32_method_5_code, exceptionTable := #[], attributes := #[] }
def k2m1 : Method := { name := "of", desc := "([Z)Lcom/example/whittle/whittle/model/Bits;", sig := { parameters := [(.array .boolean)], returnType := some (.object "com/example/whittle/whittle/model/Bits") }, accessFlags := 137, code := some k2c1 }
def k2c2 : Code := { maxStack := 1, maxLocals := 1, code := prog_32_method_7_code, exceptionTable := #[], attributes := #[] }
def k2m2 : Method := { name := "length", desc := "()I", sig := { parameters := [], returnType := some .int }, accessFlags := 1, code := some k2c2 }
def k2c3 : Code := { maxStack := 2, maxLocals := 2, code := prog_32_method_8_code, exceptionTable := #[], attributes := #[] }
def k2m3 : Method := { name := "isKnown", desc := "(I)Z", sig := { parameters := [.int], returnType := some .boolean }, accessFlags := 1, code := some k2c3 }
def k2c4 : Code := { maxStack := 4, maxLocals := 2, code := prog_32_method_9_code, exceptionTable := #[], attributes := #[] }
def k2m4 : Method := { name := "get", desc := "(I)Z", sig := { parameters := [.int], returnType := some .boolean }, accessFlags := 1, code := some k2c4 }
/-- com/example/whittle/whittle/model/Bits -/
def k2 : Class := { plain "com/example/whittle/whittle/model/Bits" (some 0) with
  accessFlags := 49
  interfaces := #[]
  cf := some (fileOf pool2 8 #[] #[{ accessFlags := 2, nameIndex := 5, descriptorIndex := 42, attributes := #[] }, { accessFlags := 137, nameIndex := 93, descriptorIndex := 94, attributes := #[] }, { accessFlags := 1, nameIndex := 21, descriptorIndex := 22, attributes := #[] }, { accessFlags := 1, nameIndex := 49, descriptorIndex := 46, attributes := #[] }, { accessFlags := 1, nameIndex := 45, descriptorIndex := 46, attributes := #[] }] 49 2 #[] #[{ accessFlags := 26, nameIndex := 83, descriptorIndex := 84, attributes := #[] }, { accessFlags := 18, nameIndex := 11, descriptorIndex := 12, attributes := #[] }])
  fields := #[{ name := "UNKNOWN", type := .byte, accessFlags := 26, slot := 0, constantValue := 0 }, { name := "values", type := (.array .byte), accessFlags := 18, slot := 0, constantValue := 0 }]
  methods := #[k2m0, k2m1, k2m2, k2m3, k2m4]
  instanceTypes := #[(.array .byte)]
  staticTypes := #[.byte]
  resolved := Array.replicate 119 none
  statics := none }

def pool3 : Array CpInfo := pool [(1, u "java/lang/Cloneable"), (0, .class_ 1), (0, u "java/lang/Object"), (0, .class_ 3)] 3

/-- java/lang/Cloneable -/
def k3 : Class := { plain "java/lang/Cloneable" (some 0) with
  accessFlags := 1537
  interfaces := #[]
  cf := some (fileOf pool3 2 #[] #[] 1537 4 #[] #[])
  fields := #[]
  methods := #[]
  instanceTypes := #[]
  staticTypes := #[]
  resolved := Array.replicate 8 none
  statics := none }

def pool4 : Array CpInfo := pool [(1, u "java/io/Serializable"), (0, .class_ 1), (0, u "java/lang/Object"), (0, .class_ 3)] 3

/-- java/io/Serializable -/
def k4 : Class := { plain "java/io/Serializable" (some 0) with
  accessFlags := 1537
  interfaces := #[]
  cf := some (fileOf pool4 2 #[] #[] 1537 4 #[] #[])
  fields := #[]
  methods := #[]
  instanceTypes := #[]
  staticTypes := #[]
  resolved := Array.replicate 8 none
  statics := none }

/-- the primitive boolean -/
def k5 : Class := { plain "boolean" none with kind := .primitive 'Z', accessFlags := 0x411 }
/-- [Z -/
def k6 : Class := { plain "[Z" (some 0) with kind := .array 5 .boolean, interfaces := #[3, 4], accessFlags := 1041 }

/-- the primitive byte -/
def k7 : Class := { plain "byte" none with kind := .primitive 'B', accessFlags := 0x411 }
/-- [B -/
def k8 : Class := { plain "[B" (some 0) with kind := .array 7 .byte, interfaces := #[3, 4], accessFlags := 1041 }

/-- the primitive int -/
def k9 : Class := { plain "int" none with kind := .primitive 'I', accessFlags := 0x411 }
/-- [I -/
def k10 : Class := { plain "[I" (some 0) with kind := .array 9 .int, interfaces := #[3, 4], accessFlags := 1041 }

def heap : Heap := #[]
def classes : Array Class := #[k0, k1, k2, k3, k4, k5, k6, k7, k8, k9, k10]
def interned : List (Array UInt16 × Addr) := []
def slotsUsed : Nat := 0
def theMethod : MethodId := ⟨1, 1⟩
def args0 : Array Value := #[.int 5, .int 5]
def aboutOver (below : List Frame) : State where
  vm := { classes := classes, interned := interned.toArray }
  heap := heap
  slotsUsed := slotsUsed
  threads := #[{ frames := .invoking theMethod args0 :: below }]
def below0 : List Frame := [.native { method := ⟨0, 0⟩, args := #[] }]
def about1 : State := aboutOver below0
def p0 : Program := .bare "" "" ""
def e0 : Env := launch0.env 0 0 0
theorem w_frames : about1.frames = Frame.invoking theMethod args0 :: below0 := rfl
set_option maxRecDepth 65536 in
theorem w_args : argsFit about1.vm theMethod args0 = true := by decide +kernel
set_option maxRecDepth 65536 in
theorem w_heap : heapFits about1 = true := by decide +kernel
set_option maxRecDepth 65536 in
theorem w_runnable : about1.curStatus? = some .runnable := by decide +kernel
set_option maxRecDepth 65536 in
theorem w_alone : about1.alone = true := by decide +kernel
set_option maxRecDepth 65536 in
theorem w_named : about1.methodNamed? x = some theMethod := by decide +kernel
set_option maxRecDepth 65536 in
theorem w_hears : about1.hears theMethod below0 = true := by decide +kernel
set_option maxRecDepth 65536 in
theorem w_ripe : about1.ripe theMethod args0 below0 = true := by decide +kernel
theorem w_running : about1.status = .running := rfl
set_option maxRecDepth 65536 in
theorem w_room : about1.hasRoom e0.platform room_1 = true :=
  launch0.hasRoom_least _ room_1 (by decide +kernel) (by decide +kernel) (by decide +kernel) (by decide +kernel) (by decide +kernel) (by decide +kernel)
theorem allAtoms_all (ts : List Jvm.Cond) (a : Array Jvm.Value) (st : Jvm.State) : (allAtoms ts).before a st = ts.all (fun c => c.before a st) := by
  induction ts with
  | nil => rfl
  | cons c t ih =>
    show (Jvm.Cond.and c (allAtoms t)).before a st = _
    rw [Jvm.Cond.before_and, ih, List.all_cons]
def words1 : List Jvm.Cond := Jvm.Cond.code x code maxLocals ret :: tables_1
/-- a 'code' word, met by the world's own term for the bytes: nothing is compared byte by byte -/
theorem code_word {y : MethodName} {bytes : ByteArray} {mx : Nat} {rt : Option FieldType} {a : Array Value} {s : State} {m : MethodId} {meth : Method} {c : Code} (h1 : s.methodNamed? y = some m) (h2 : s.vm.method? m = some meth) (h3 : meth.code = some c) (h4 : c.code = bytes)
    (h5 : (c.maxLocals == mx && c.exceptionTable.isEmpty && decide (c.maxStack ≤ mostOperands) && decide (meth.sig.returnType = rt) && !meth.locks && decide (parseMethodDescriptor y.desc = some meth.sig)) = true) : (Jvm.Cond.code y bytes mx rt).before a s = true := by
  simp only [Bool.and_eq_true, beq_iff_eq, Bool.not_eq_true', decide_eq_true_eq] at h5
  obtain ⟨⟨⟨⟨⟨g1, g2⟩, g3⟩, g4⟩, g5⟩, g6⟩ := h5
  simp [Cond.before, Cond.holds, Cond.value, h1, h2, h3, h4, g1, g2, g3, g4, g5, g6]
def isCode : Jvm.Cond → Bool
  | .code _ _ _ _ => true
  | _ => false
theorem all_split {L : List Jvm.Cond} {P : Jvm.Cond → Bool} (h1 : L.all (fun c => isCode c || P c) = true) (h2 : ∀ c ∈ L.filter isCode, P c = true) : L.all P = true := by
  refine List.all_eq_true.mpr fun c hc => ?_
  have h := List.all_eq_true.mp h1 c hc
  rcases Bool.eq_false_or_eq_true (isCode c) with hi | hi
  · exact h2 c (List.mem_filter.mpr ⟨hc, hi⟩)
  · simpa [hi] using h
set_option maxRecDepth 65536 in
theorem w_c0 : (Jvm.Cond.code x code maxLocals ret).before args0 about1 = true := code_word (m := ⟨1, 1⟩) (meth := k1m1) (c := k1c1) (by decide +kernel) rfl rfl rfl (by decide +kernel)
set_option maxRecDepth 65536 in
theorem w_c1 : (Jvm.Cond.code ({ cls := "com/example/whittle/whittle/model/Bits", name := "of", desc := "([Z)Lcom/example/whittle/whittle/model/Bits;" } : Jvm.MethodName) prog_32_method_5_code (3 : Nat) (Option.some (Jvm.ClassFile.FieldType.object "com/example/whittle/whittle/model/Bits"))).before args0 about1 = true := code_word (m := ⟨2, 1⟩) (meth := k2m1) (c := k2c1) (by decide +kernel) rfl rfl rfl (by decide +kernel)
set_option maxRecDepth 65536 in
theorem w_c2 : (Jvm.Cond.code ({ cls := "com/example/whittle/whittle/model/Bits", name := "<init>", desc := "([B)V" } : Jvm.MethodName) prog_32_method_1_code (2 : Nat) (Option.none : Option Jvm.ClassFile.FieldType)).before args0 about1 = true := code_word (m := ⟨2, 0⟩) (meth := k2m0) (c := k2c0) (by decide +kernel) rfl rfl rfl (by decide +kernel)
set_option maxRecDepth 65536 in
theorem w_c3 : (Jvm.Cond.code ({ cls := "java/lang/Object", name := "<init>", desc := "()V" } : Jvm.MethodName) object_method_1_code (1 : Nat) (Option.none : Option Jvm.ClassFile.FieldType)).before args0 about1 = true := code_word (m := ⟨0, 0⟩) (meth := k0m0) (c := k0c0) (by decide +kernel) rfl rfl rfl (by decide +kernel)
set_option maxRecDepth 65536 in
theorem w_c4 : (Jvm.Cond.code ({ cls := "com/example/whittle/whittle/model/Bits", name := "length", desc := "()I" } : Jvm.MethodName) prog_32_method_7_code (1 : Nat) (Option.some Jvm.ClassFile.FieldType.int)).before args0 about1 = true := code_word (m := ⟨2, 2⟩) (meth := k2m2) (c := k2c2) (by decide +kernel) rfl rfl rfl (by decide +kernel)
set_option maxRecDepth 65536 in
theorem w_c5 : (Jvm.Cond.code ({ cls := "com/example/whittle/whittle/model/BitsOfPinLaw", name := "at", desc := "(Lcom/example/whittle/whittle/model/Bits;IIZ)Z" } : Jvm.MethodName) method_3_code (4 : Nat) (Option.some Jvm.ClassFile.FieldType.boolean)).before args0 about1 = true := code_word (m := ⟨1, 2⟩) (meth := k1m2) (c := k1c2) (by decide +kernel) rfl rfl rfl (by decide +kernel)
set_option maxRecDepth 65536 in
theorem w_c6 : (Jvm.Cond.code ({ cls := "com/example/whittle/whittle/model/Bits", name := "isKnown", desc := "(I)Z" } : Jvm.MethodName) prog_32_method_8_code (2 : Nat) (Option.some Jvm.ClassFile.FieldType.boolean)).before args0 about1 = true := code_word (m := ⟨2, 3⟩) (meth := k2m3) (c := k2c3) (by decide +kernel) rfl rfl rfl (by decide +kernel)
set_option maxRecDepth 65536 in
theorem w_c7 : (Jvm.Cond.code ({ cls := "com/example/whittle/whittle/model/Bits", name := "get", desc := "(I)Z" } : Jvm.MethodName) prog_32_method_9_code (2 : Nat) (Option.some Jvm.ClassFile.FieldType.boolean)).before args0 about1 = true := code_word (m := ⟨2, 4⟩) (meth := k2m4) (c := k2c4) (by decide +kernel) rfl rfl rfl (by decide +kernel)
def codes1 : List Jvm.Cond := [Jvm.Cond.code x code maxLocals ret, Jvm.Cond.code ({ cls := "com/example/whittle/whittle/model/Bits", name := "of", desc := "([Z)Lcom/example/whittle/whittle/model/Bits;" } : Jvm.MethodName) prog_32_method_5_code (3 : Nat) (Option.some (Jvm.ClassFile.FieldType.object "com/example/whittle/whittle/model/Bits")), Jvm.Cond.code ({ cls := "com/example/whittle/whittle/model/Bits", name := "<init>", desc := "([B)V" } : Jvm.MethodName) prog_32_method_1_code (2 : Nat) (Option.none : Option Jvm.ClassFile.FieldType), Jvm.Cond.code ({ cls := "java/lang/Object", name := "<init>", desc := "()V" } : Jvm.MethodName) object_method_1_code (1 : Nat) (Option.none : Option Jvm.ClassFile.FieldType), Jvm.Cond.code ({ cls := "com/example/whittle/whittle/model/Bits", name := "length", desc := "()I" } : Jvm.MethodName) prog_32_method_7_code (1 : Nat) (Option.some Jvm.ClassFile.FieldType.int), Jvm.Cond.code ({ cls := "com/example/whittle/whittle/model/BitsOfPinLaw", name := "at", desc := "(Lcom/example/whittle/whittle/model/Bits;IIZ)Z" } : Jvm.MethodName) method_3_code (4 : Nat) (Option.some Jvm.ClassFile.FieldType.boolean), Jvm.Cond.code ({ cls := "com/example/whittle/whittle/model/Bits", name := "isKnown", desc := "(I)Z" } : Jvm.MethodName) prog_32_method_8_code (2 : Nat) (Option.some Jvm.ClassFile.FieldType.boolean), Jvm.Cond.code ({ cls := "com/example/whittle/whittle/model/Bits", name := "get", desc := "(I)Z" } : Jvm.MethodName) prog_32_method_9_code (2 : Nat) (Option.some Jvm.ClassFile.FieldType.boolean)]
set_option maxRecDepth 65536 in
theorem codes_eq : words1.filter isCode = codes1 := rfl
theorem w_codes : ∀ c ∈ words1.filter isCode, c.before args0 about1 = true := by
  rw [codes_eq]
  intro c hc
  simp only [codes1, List.mem_cons, List.not_mem_nil, or_false] at hc
  rcases hc with rfl | rfl | rfl | rfl | rfl | rfl | rfl | rfl
  · exact w_c0
  · exact w_c1
  · exact w_c2
  · exact w_c3
  · exact w_c4
  · exact w_c5
  · exact w_c6
  · exact w_c7
set_option maxRecDepth 65536 in
theorem w_t1 : (words1.take 24).all (fun c => isCode c || c.before args0 about1) = true := by decide +kernel
set_option maxRecDepth 65536 in
theorem w_t2 : (words1.drop 24).all (fun c => isCode c || c.before args0 about1) = true := by decide +kernel
theorem w_tables : (allAtoms (Jvm.Cond.code x code maxLocals ret :: tables_1)).before args0 about1 = true := by
  rw [allAtoms_all]
  show words1.all (fun c => c.before args0 about1) = true
  refine all_split ?_ w_codes
  rw [← List.take_append_drop 24 words1, List.all_append, w_t1, w_t2]
  rfl
set_option maxRecDepth 65536 in
theorem w_case : (Jvm.Cond.and given_1 narrow_1).before args0 about1 = true := by decide +kernel
theorem w_applies : (headSpec (Jvm.Cond.code x code maxLocals ret :: tables_1) room_1).applies x e0.platform about1 = true :=
  (Spec.applies_iff w_frames).mpr ⟨w_running, w_runnable, w_alone, w_named, w_hears, w_ripe, w_room, w_tables⟩
theorem atStart : AtStart classFile x code maxLocals ret World_1 tables_1 room_1 Calls_1 rest_1 Pre_1 launch0 p0 e0 about1 theMethod args0 below0 :=
  ⟨lists_1, trivial, launch0.admits_env _ _ _, launch0.least_env, fairChoices_fair.cas, fairChoices_fair.clock, w_frames, w_args, w_heap, w_applies, trivial, trivial, w_case⟩
end start1
theorem witness_1 : WitnessClaimed_1 := ⟨start1.p0, start1.e0, start1.about1, start1.theMethod, start1.args0, start1.below0, start1.atStart⟩
end Jvm.Pilot.@@N@@
