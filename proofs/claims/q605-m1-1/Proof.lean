import JvmDerived
import JvmDerived.Pilot.@@N@@Statement
import JvmDerived.Pilot.@@N@@Code
set_option linter.unusedVariables false
set_option linter.unusedSimpArgs false
namespace Jvm.Pilot.@@N@@
open Jvm Jvm.ClassFile Sem Op Lib Jvm.Free Jvm.Stand Jvm.LawKit Jvm.RoadKit Bundle Jvm.Pilot.@@N@@.Jvm.D
/-- from S the run goes on below 'below', ends, and E holds of the end -/
def Go (tb : Tables) (e : Env) (below : List Frame) (E : State → Outcome → Prop) (S : State) : Prop := ∃ s₂ o, Steps tb e below S s₂ ∧ s₂.status = .running ∧ Ended s₂ below o ∧ E s₂ o
theorem Go.via {tb : Tables} {e : Env} {below : List Frame} {E : State → Outcome → Prop} {S S' : State} (k : ∀ t, Steps tb e below S' t → Steps tb e below S t) (h : Go tb e below E S') : Go tb e below E S := by
  obtain ⟨a, b, c, d⟩ := h; exact ⟨a, b, k _ c, d⟩
/-- a body's contract, short -/
abbrev MetP (l : Launch) (y : MethodName) (bytes : ByteArray) (maxL : Nat) (ret : Option FieldType) (ws : List Jvm.Cond) (rm : Room) (Z : State) (as' : Array Value) (h0 : Heap) (Q : Option Value → Heap → List Loc → Prop) : Prop :=
  MetFree l y (head1 (Jvm.Cond.code y bytes maxL ret :: ws) rm) (fun a U => a = as' ∧ Z.Warmed39 U.vm ∧ U.heap = h0) (fun _ _ _ _ _ => True) (fun _ U o U' => ∃ v L, o = .returned v ∧ Q v U'.heap L ∧ FrameEnd U o U' L rm.cells rm.slots)
/-- it returned r and wrote and made nothing -/
def Pure (r : Value) (h0 : Heap) (v : Option Value) (h : Heap) (L : List Loc) : Prop := v = some r ∧ L = [] ∧ h = h0
abbrev EndE (s : State) (rm : Room) (Q : Option Value → Heap → List Loc → Prop) : State → Outcome → Prop := fun s₂ o => ∃ v L, o = .returned v ∧ Q v s₂.heap L ∧ FrameEnd s o s₂ L rm.cells rm.slots
theorem met_go {l : Launch} {y : MethodName} {bytes : ByteArray} {maxL : Nat} {ret : Option FieldType} {ws : List Jvm.Cond} {rm : Room} {Z : State} {as' : Array Value} {h0 : Heap} {Q : Option Value → Heap → List Loc → Prop} (hpl : plainFor y = true)
    (body : ∀ (p : Program) (e : Env) (s : State) (m : MethodId) (below : List Frame) (meth : Method) (c : Code) (s₁ : State), p.tables.exec = Jvm.exec → c.code = bytes → c.maxLocals = maxL → s.vm.findClass y.cls = some m.cls → meth.name = y.name → meth.sig.returnType = ret → meth.locks = false → Z.Warmed39 s.vm → s₁.heap = h0 →
      Stand p l e rm s m as' below meth c s₁ [] 0 0 → Go p.tables e below (EndE s rm Q) (s₁.setTop (entryFrame m as' maxL))) : MetP l y bytes maxL ret ws rm Z as' h0 Q := by
  refine MetFree.of_bodySF hpl hisR ?_
  intro p e s m args below meth c s₁ Bd hml hP hK
  obtain ⟨rfl, hZ, hh⟩ := hP
  exact body p e s m below meth c s₁ Bd.exec Bd.bytes hml (findClass_of_methodNamed Bd.named) (name_of_methodNamed Bd.named Bd.method).1 Bd.returns Bd.notSynchronized hZ (by rw [← hh, Bd.state]; rfl) (Stand.of_body Bd)
abbrev EndW (s : State) (rm : Room) (Q : Option Value → Heap → List Loc → Prop) : State → Outcome → Prop := fun s₂ o => ∃ v L, o = .returned v ∧ Q v s₂.heap L ∧ ReturnedEndW s o s₂ L rm.cells rm.slots
theorem met_goW {l : Launch} {y : MethodName} {bytes : ByteArray} {maxL : Nat} {ret : Option FieldType} {ws : List Jvm.Cond} {rm : Room} {Z : State} {as' : Array Value} {h0 : Heap} {Q : Option Value → Heap → List Loc → Prop} (hpl : plainFor y = true)
    (body : ∀ (p : Program) (e : Env) (s : State) (m : MethodId) (below : List Frame) (meth : Method) (c : Code) (s₁ : State), p.tables.exec = Jvm.exec → c.code = bytes → c.maxLocals = maxL → s.vm.findClass y.cls = some m.cls → meth.name = y.name → meth.sig.returnType = ret → meth.locks = false → Z.Warmed39 s.vm → s₁.heap = h0 →
      Stand p l e rm s m as' below meth c s₁ [] 0 0 → Go p.tables e below (EndW s rm Q) (s₁.setTop (entryFrame m as' maxL))) : MetFree l y (head1 (Jvm.Cond.code y bytes maxL ret :: ws) rm) (fun a U => a = as' ∧ Z.Warmed39 U.vm ∧ U.heap = h0) (fun _ _ _ _ _ => True) (fun _ U o U' => ∃ v L, o = .returned v ∧ Q v U'.heap L ∧ ReturnedEndW U o U' L rm.cells rm.slots) := by
  refine MetFree.of_bodySF hpl hisR ?_
  intro p e s m args below meth c s₁ Bd hml hP hK
  obtain ⟨rfl, hZ, hh⟩ := hP
  exact body p e s m below meth c s₁ Bd.exec Bd.bytes hml (findClass_of_methodNamed Bd.named) (name_of_methodNamed Bd.named Bd.method).1 Bd.returns Bd.notSynchronized hZ (by rw [← hh, Bd.state]; rfl) (Stand.of_body Bd)
theorem met_goZ {l : Launch} {y : MethodName} {bytes : ByteArray} {maxL : Nat} {ret : Option FieldType} {ws : List Jvm.Cond} {rm : Room} {Z : State} {as' : Array Value} {Q : Option Value → Heap → List Loc → Prop} (hpl : plainFor y = true)
    (body : ∀ (p : Program) (e : Env) (s : State) (m : MethodId) (below : List Frame) (meth : Method) (c : Code) (s₁ : State), p.tables.exec = Jvm.exec → c.code = bytes → c.maxLocals = maxL → s.vm.findClass y.cls = some m.cls → meth.name = y.name → meth.sig.returnType = ret → meth.locks = false → s = Z → s₁.heap = Z.heap →
      Stand p l e rm s m as' below meth c s₁ [] 0 0 → Go p.tables e below (EndW s rm Q) (s₁.setTop (entryFrame m as' maxL))) : MetFree l y (head1 (Jvm.Cond.code y bytes maxL ret :: ws) rm) (fun a U => a = as' ∧ U = Z) (fun _ _ _ _ _ => True) (fun _ U o U' => ∃ v L, o = .returned v ∧ Q v U'.heap L ∧ ReturnedEndW U o U' L rm.cells rm.slots) := by
  refine MetFree.of_bodySF hpl hisR ?_
  intro p e s m args below meth c s₁ Bd hml hP hK
  obtain ⟨rfl, hZ⟩ := hP
  exact body p e s m below meth c s₁ Bd.exec Bd.bytes hml (findClass_of_methodNamed Bd.named) (name_of_methodNamed Bd.named Bd.method).1 Bd.returns Bd.notSynchronized hZ (by rw [← hZ, Bd.state]; rfl) (Stand.of_body Bd)
section OwnKit
variable {p : Program} {l : Launch} {e : Env} {R : Room} {s : State} {m : MethodId} {args : Array Value} {below : List Frame} {meth : Method} {c : Code} {T : State} {locs : List Loc} {cells slots : Nat} {E : State → Outcome → Prop} {Z : State} {a0 : Array Value} {h : Heap} {pc : Nat} {Ls Ls' : Array Slot} {st : List Value}
theorem o_iload (pc' : Nat) (X : Stand p l e R s m args below meth c T locs cells slots) (hx : p.tables.exec = Jvm.exec) (hpc : pc + 2 = pc') {k : Nat} {v : Int32} (hd : decode c.code pc = .ok (.iload k, 2)) (hl : Ls[k]? = some (.val (.int v))) (h : Go p.tables e below E (T.setTop (mkF m pc' Ls ((.int v) :: st)))) : Go p.tables e below E (T.setTop (mkF m pc Ls st)) := by
  subst hpc; exact Go.via (fun _ k => XS.iload X.here hx rfl hd hl k) h
theorem o_iloadN (pc' : Nat) (X : Stand p l e R s m args below meth c T locs cells slots) (hx : p.tables.exec = Jvm.exec) (hpc : pc + 1 = pc') {k : Fin 4} {v : Int32} (hd : decode c.code pc = .ok (.iload_n k, 1)) (hl : Ls[k.val]? = some (.val (.int v))) (h : Go p.tables e below E (T.setTop (mkF m pc' Ls ((.int v) :: st)))) : Go p.tables e below E (T.setTop (mkF m pc Ls st)) := by
  subst hpc; exact Go.via (fun _ k => XS.iloadN X.here hx rfl hd hl k) h
theorem o_aload (pc' : Nat) (X : Stand p l e R s m args below meth c T locs cells slots) (hx : p.tables.exec = Jvm.exec) (hpc : pc + 2 = pc') {k : Nat} {v : Value} (hd : decode c.code pc = .ok (.aload k, 2)) (hl : Ls[k]? = some (.val v)) (hv : v.isRef = true) (h : Go p.tables e below E (T.setTop (mkF m pc' Ls (v :: st)))) : Go p.tables e below E (T.setTop (mkF m pc Ls st)) := by
  subst hpc; exact Go.via (fun _ k => XS.aload X.here hx rfl hd hl hv k) h
theorem o_aloadN (pc' : Nat) (X : Stand p l e R s m args below meth c T locs cells slots) (hx : p.tables.exec = Jvm.exec) (hpc : pc + 1 = pc') {k : Fin 4} {v : Value} (hd : decode c.code pc = .ok (.aload_n k, 1)) (hl : Ls[k.val]? = some (.val v)) (hv : v.isRef = true) (h : Go p.tables e below E (T.setTop (mkF m pc' Ls (v :: st)))) : Go p.tables e below E (T.setTop (mkF m pc Ls st)) := by
  subst hpc; exact Go.via (fun _ k => XS.aloadN X.here hx rfl hd hl hv k) h
theorem o_istore (pc' : Nat) (X : Stand p l e R s m args below meth c T locs cells slots) (hx : p.tables.exec = Jvm.exec) (hpc : pc + 2 = pc') {k : Nat} {v : Int32} (hd : decode c.code pc = .ok (.istore k, 2)) (Ls' : Array Slot) (hl : storeLocals Ls k (.int v) = some Ls') (h : Go p.tables e below E (T.setTop (mkF m pc' Ls' st))) : Go p.tables e below E (T.setTop (mkF m pc Ls ((.int v) :: st))) := by
  subst hpc; exact Go.via (fun _ k => XS.istore X.here hx rfl hd rfl hl k) h
theorem o_istoreN (pc' : Nat) (X : Stand p l e R s m args below meth c T locs cells slots) (hx : p.tables.exec = Jvm.exec) (hpc : pc + 1 = pc') {k : Fin 4} {v : Int32} (hd : decode c.code pc = .ok (.istore_n k, 1)) (Ls' : Array Slot) (hl : storeLocals Ls k.val (.int v) = some Ls') (h : Go p.tables e below E (T.setTop (mkF m pc' Ls' st))) : Go p.tables e below E (T.setTop (mkF m pc Ls ((.int v) :: st))) := by
  subst hpc; exact Go.via (fun _ k => XS.istoreN X.here hx rfl hd rfl hl k) h
theorem o_astore (pc' : Nat) (X : Stand p l e R s m args below meth c T locs cells slots) (hx : p.tables.exec = Jvm.exec) (hpc : pc + 2 = pc') {k : Nat} {v : Value} (hd : decode c.code pc = .ok (.astore k, 2)) (hv : v.isRef = true) (Ls' : Array Slot) (hl : storeLocals Ls k v = some Ls') (h : Go p.tables e below E (T.setTop (mkF m pc' Ls' st))) : Go p.tables e below E (T.setTop (mkF m pc Ls (v :: st))) := by
  subst hpc; exact Go.via (fun _ k => XS.astore X.here hx rfl hd rfl hv hl k) h
theorem o_astoreN (pc' : Nat) (X : Stand p l e R s m args below meth c T locs cells slots) (hx : p.tables.exec = Jvm.exec) (hpc : pc + 1 = pc') {k : Fin 4} {v : Value} (hd : decode c.code pc = .ok (.astore_n k, 1)) (hv : v.isRef = true) (Ls' : Array Slot) (hl : storeLocals Ls k.val v = some Ls') (h : Go p.tables e below E (T.setTop (mkF m pc' Ls' st))) : Go p.tables e below E (T.setTop (mkF m pc Ls (v :: st))) := by
  subst hpc; exact Go.via (fun _ k => XS.astoreN X.here hx rfl hd rfl hv hl k) h
theorem o_iinc (pc' : Nat) (X : Stand p l e R s m args below meth c T locs cells slots) (hx : p.tables.exec = Jvm.exec) (hpc : pc + 3 = pc') {k : Nat} {cst : Int} {v : Int32} (hd : decode c.code pc = .ok (.iinc k cst, 3)) (w : Int32) (hw : Int32.ofInt cst = w) (hl : Ls[k]? = some (.val (.int v))) (Ls' : Array Slot) (hl' : storeLocals Ls k (.int (v + w)) = some Ls') (h : Go p.tables e below E (T.setTop (mkF m pc' Ls' st))) : Go p.tables e below E (T.setTop (mkF m pc Ls st)) := by
  subst hpc; exact Go.via (fun _ k => XS.iinc X.here hx rfl hd hl (by rw [hw]; exact hl') k) h
theorem o_iconst (pc' : Nat) (X : Stand p l e R s m args below meth c T locs cells slots) (hx : p.tables.exec = Jvm.exec) (hpc : pc + 1 = pc') {i : Int} (hd : decode c.code pc = .ok (.iconst i, 1)) (v : Int32) (hv : Int32.ofInt i = v) (h : Go p.tables e below E (T.setTop (mkF m pc' Ls (.int v :: st)))) : Go p.tables e below E (T.setTop (mkF m pc Ls st)) := by
  subst hpc; exact Go.via (fun _ k => XS.iconst X.here hx rfl hd (by rw [hv]; exact k)) h
theorem o_bipush (pc' : Nat) (X : Stand p l e R s m args below meth c T locs cells slots) (hx : p.tables.exec = Jvm.exec) (hpc : pc + 2 = pc') {i : Int} (hd : decode c.code pc = .ok (.bipush i, 2)) (v : Int32) (hv : (Int8.ofInt i).toInt32 = v) (h : Go p.tables e below E (T.setTop (mkF m pc' Ls (.int v :: st)))) : Go p.tables e below E (T.setTop (mkF m pc Ls st)) := by
  subst hpc; exact Go.via (fun _ k => XS.bipush X.here hx rfl hd (by rw [hv]; exact k)) h
theorem o_ldcInt (pc' : Nat) (X : Stand p l e R s m args below meth c T locs cells slots) (hx : p.tables.exec = Jvm.exec) (hpc : pc + 2 = pc') (hZ : Z.Warmed39 s.vm) {own : String} {index : Nat} (hown : s.vm.findClass own = some m.cls) {v : Int32} (w : (Jvm.Cond.constant own index v).before a0 Z = true) (hd : decode c.code pc = .ok (.ldc index, 2)) (h : Go p.tables e below E (T.setTop (mkF m pc' Ls (.int v :: st)))) : Go p.tables e below E (T.setTop (mkF m pc Ls st)) := by
  subst hpc; exact Go.via (fun _ k => X.ldcInt hx hown (mvT hZ w) (g := mkF m pc Ls st) rfl hd _ k) h
theorem o_iadd (pc' : Nat) (X : Stand p l e R s m args below meth c T locs cells slots) (hx : p.tables.exec = Jvm.exec) (hpc : pc + 1 = pc') {x : Int32} {y : Int32} (hd : decode c.code pc = .ok (.iadd, 1)) (h : Go p.tables e below E (T.setTop (mkF m pc' Ls (.int (x + y) :: st)))) : Go p.tables e below E (T.setTop (mkF m pc Ls (.int y :: .int x :: st))) := by
  subst hpc; exact Go.via (fun _ k => XS.iadd X.here hx rfl hd rfl k) h
theorem o_iand (pc' : Nat) (X : Stand p l e R s m args below meth c T locs cells slots) (hx : p.tables.exec = Jvm.exec) (hpc : pc + 1 = pc') {x : Int32} {y : Int32} (hd : decode c.code pc = .ok (.iand, 1)) (h : Go p.tables e below E (T.setTop (mkF m pc' Ls (.int (x &&& y) :: st)))) : Go p.tables e below E (T.setTop (mkF m pc Ls (.int y :: .int x :: st))) := by
  subst hpc; exact Go.via (fun _ k => XS.iand X.here hx rfl hd rfl k) h
theorem o_irem (pc' : Nat) (X : Stand p l e R s m args below meth c T locs cells slots) (hx : p.tables.exec = Jvm.exec) (hpc : pc + 1 = pc') {x y : Int32} (hd : decode c.code pc = .ok (.irem, 1)) (hy : y ≠ 0) (h : Go p.tables e below E (T.setTop (mkF m pc' Ls (.int (x % y) :: st)))) : Go p.tables e below E (T.setTop (mkF m pc Ls (.int y :: .int x :: st))) := by
  subst hpc; exact Go.via (fun _ k => iremM (g := mkF m pc Ls (.int y :: .int x :: st)) X hx rfl hd rfl hy k) h
theorem o_goto (pc' : Nat) (X : Stand p l e R s m args below meth c T locs cells slots) (hx : p.tables.exec = Jvm.exec) {o : Int} (hd : decode c.code pc = .ok (.goto o, 3)) (ho : 0 ≤ (pc : Int) + o) (hp : ((pc : Int) + o).toNat = pc') (h : Go p.tables e below E (T.setTop (mkF m pc' Ls st))) : Go p.tables e below E (T.setTop (mkF m pc Ls st)) := by
  exact Go.via (fun _ k => XS.goto X.here hx rfl (pc0 := pc) (pc' := pc') rfl hd ho hp k) h
theorem o_ifYes (pc' : Nat) (X : Stand p l e R s m args below meth c T locs cells slots) (hx : p.tables.exec = Jvm.exec) {cd : ClassFile.Cond} {x : Int32} {o : Int} (hd : decode c.code pc = .ok (.ifCond cd o, 3)) (hc : if_icmp.holds cd x 0 = true) (ho : 0 ≤ (pc : Int) + o) (hp : ((pc : Int) + o).toNat = pc') (h : Go p.tables e below E (T.setTop (mkF m pc' Ls st))) : Go p.tables e below E (T.setTop (mkF m pc Ls (.int x :: st))) := by
  exact Go.via (fun _ k => XS.ifYes X.here hx rfl (pc0 := pc) (pc' := pc') rfl hd rfl ((if0 _ _).trans hc) ho hp k) h
theorem o_ifNo (pc' : Nat) (X : Stand p l e R s m args below meth c T locs cells slots) (hx : p.tables.exec = Jvm.exec) (hpc : pc + 3 = pc') {cd : ClassFile.Cond} {x : Int32} {o : Int} (hd : decode c.code pc = .ok (.ifCond cd o, 3)) (hc : if_icmp.holds cd x 0 = false) (h : Go p.tables e below E (T.setTop (mkF m pc' Ls st))) : Go p.tables e below E (T.setTop (mkF m pc Ls (.int x :: st))) := by
  subst hpc; exact Go.via (fun _ k => XS.ifNo X.here hx rfl hd rfl ((if0 _ _).trans hc) k) h
theorem o_icmpYes (pc' : Nat) (X : Stand p l e R s m args below meth c T locs cells slots) (hx : p.tables.exec = Jvm.exec) {cd : ClassFile.Cond} {x y : Int32} {o : Int} (hd : decode c.code pc = .ok (.if_icmp cd o, 3)) (hc : if_icmp.holds cd x y = true) (ho : 0 ≤ (pc : Int) + o) (hp : ((pc : Int) + o).toNat = pc') (h : Go p.tables e below E (T.setTop (mkF m pc' Ls st))) : Go p.tables e below E (T.setTop (mkF m pc Ls (.int y :: .int x :: st))) := by
  exact Go.via (fun _ k => XS.icmpYes X.here hx rfl (pc0 := pc) (pc' := pc') rfl hd rfl hc ho hp k) h
theorem o_icmpNo (pc' : Nat) (X : Stand p l e R s m args below meth c T locs cells slots) (hx : p.tables.exec = Jvm.exec) (hpc : pc + 3 = pc') {cd : ClassFile.Cond} {x y : Int32} {o : Int} (hd : decode c.code pc = .ok (.if_icmp cd o, 3)) (hc : if_icmp.holds cd x y = false) (h : Go p.tables e below E (T.setTop (mkF m pc' Ls st))) : Go p.tables e below E (T.setTop (mkF m pc Ls (.int y :: .int x :: st))) := by
  subst hpc; exact Go.via (fun _ k => XS.icmpNo X.here hx rfl hd rfl hc k) h
theorem o_out (X : Stand p l e R s m args below meth c T locs cells slots) (hx : p.tables.exec = Jvm.exec) {rm : Room} {Q : Option Value → Heap → List Loc → Prop} {v : Option Value} (hv : meth.sig.returnType = none → v = none) (hlk : meth.locks = false) {g : JFrame}
    (hst : ∀ fs, (∀ (f : JFrame) (acts : List Action), f.method = m → f.locked = none → f.entered = [] → (doReturn e (T.setTop f) acts v).1 = T.setFrames fs) → Steps p.tables e below (T.setTop g) (T.setFrames fs)) (hq : Q v T.heap locs) (hk : cells ≤ rm.cells) (hn : slots ≤ rm.slots) : Go p.tables e below (EndE s rm Q) (T.setTop g) := by
  obtain ⟨fs, hr, hrun, hended, hW, hsame⟩ := X.leave (v := v) hv hlk
  exact ⟨_, _, hst fs hr, hrun, hended, _, _, rfl, hq, ⟨_, rfl⟩, hW, hsame.mono hk hn⟩
theorem own_retI (X : Stand p l e R s m args below meth c T locs cells slots) (hx : p.tables.exec = Jvm.exec) {z : Int32} (hret : meth.sig.returnType = some .int) (hd : decode c.code pc = .ok (.ireturn, 1)) {fs : List Frame}
    (hl : ∀ (f : JFrame) (acts : List Action), f.method = m → f.locked = none → f.entered = [] → (doReturn e (T.setTop f) acts (some (.int z))).1 = T.setFrames fs) : Steps p.tables e below (T.setTop (mkF m pc Ls (.int z :: st))) (T.setFrames fs) :=
  retOut X hx hret rfl (Or.inl ⟨rfl, Or.inl rfl, z, rfl⟩) hd hl
theorem o_retI (X : Stand p l e R s m args below meth c T locs cells slots) (hx : p.tables.exec = Jvm.exec) {z : Int32} {rm : Room} {Q : Option Value → Heap → List Loc → Prop} (hret : meth.sig.returnType = some .int) (hlk : meth.locks = false) (hd : decode c.code pc = .ok (.ireturn, 1)) (hk : cells ≤ rm.cells) (hn : slots ≤ rm.slots) (hq : Q (some (.int z)) T.heap locs) : Go p.tables e below (EndE s rm Q) (T.setTop (mkF m pc Ls (.int z :: st))) :=
  o_out X hx (fun q => by rw [hret] at q; cases q) hlk (fun fs hr => own_retI X hx hret hd hr) hq hk hn
theorem o_retN (X : Stand p l e R s m args below meth c T locs cells slots) (hx : p.tables.exec = Jvm.exec) {z : Int32} (t : FieldType) (ht : t = .boolean ∨ t = .byte ∨ t = .char ∨ t = .short) {rm : Room} {Q : Option Value → Heap → List Loc → Prop} (hret : meth.sig.returnType = some t) (hlk : meth.locks = false) (hd : decode c.code pc = .ok (.ireturn, 1)) (hk : cells ≤ rm.cells) (hn : slots ≤ rm.slots) (hq : Q (some (.int (nar t z))) T.heap locs) : Go p.tables e below (EndE s rm Q) (T.setTop (mkF m pc Ls (.int z :: st))) :=
  o_out X hx (fun q => by rw [hret] at q; cases q) hlk (fun fs hr => retN X hx hret ht hd hr) hq hk hn
theorem o_callS (pc' : Nat) (X : Stand p l e R s m args below meth c T locs cells slots) (hx : p.tables.exec = Jvm.exec) (hpc : pc + 3 = pc') (hZ : Z.Warmed39 s.vm) {own : String} {index : Nat} {y : MethodName} {bytes : ByteArray} {maxL : Nat} {ret : Option FieldType} {rm : Room} {as' : Array Value} {Q : Option Value → Heap → List Loc → Prop} (hown : s.vm.findClass own = some m.cls) (w1 : (Jvm.Cond.methodLink own index y).before a0 Z = true) (w2 : (Jvm.Cond.static y).before a0 Z = true) (w3 : (Jvm.Cond.initialized y.cls).before a0 Z = true) (w4 : (Jvm.Cond.code y bytes maxL ret).before a0 Z = true) (hy : y.cls ≠ "java/lang/invoke/MethodHandle" ∧ y.cls ≠ "java/lang/invoke/VarHandle") (eT : T.heap = h)
    (hM : MetP l y bytes maxL ret [] rm Z as' h Q) {ps : List FieldType} {r : Option FieldType} (hdsc : parseMethodDescriptor y.desc = some ⟨ps, r⟩) (argsL rest : List Value) (hlen : argsL.length = ps.length) (has : argsL.toArray = as') (hsize : Ls.size = c.maxLocals) (hst : st = argsL.reverse ++ rest) (hd : decode c.code pc = .ok (.invokestatic index, 3)) (W : Nat) (hW : (rest.map fun v => v.category).sum ≤ W) (hf : rm.frames + 1 ≤ R.frames) (hlo : W + (maxL + 11) + rm.locals ≤ R.locals) (hc : cells + rm.cells ≤ R.cells) (hsl : slots + rm.slots ≤ R.slots)
    (k : ∀ (v : Option Value) (T' : State) (L : List Loc), Stand p l e R s m args below meth c T' (locs ++ L) (cells + rm.cells) (slots + rm.slots) → Q v T'.heap L → Go p.tables e below E (T'.setTop (mkF m pc' Ls (v.toList ++ rest)))) : Go p.tables e below E (T.setTop (mkF m pc Ls st)) := by
  subst hpc
  obtain ⟨v, _, ⟨T', L', c', s'⟩, -, X', ⟨L, hQ, h1, h2, h3⟩, st'⟩ := Jvm.LawKit.callS X hx (y := y) hown (mvT hZ w1) (mvT hZ w2) (mvT hZ w3) (mvT hZ w4) hy (backOf (W := W) hM hZ w4 w3 hf hlo) (g := mkF m pc Ls st) rfl hsize (argsL := argsL) (rest := rest) (lenOf hdsc hlen) hst (by show 2 * 0 + _ ≤ _; rw [Nat.mul_zero, Nat.zero_add]; exact hW) hd (fun _ _ => ⟨has, eT, hc, hsl⟩)
  dsimp only [Pt.U, Pt.locs, Pt.cells, Pt.slots] at X' h1 h2 h3 st' hQ
  subst h1 h2 h3
  exact Go.via st' (k v T' L X' hQ)
theorem o_callP (pc' : Nat) (X : Stand p l e R s m args below meth c T locs cells slots) (hx : p.tables.exec = Jvm.exec) (hpc : pc + 3 = pc') (hZ : Z.Warmed39 s.vm) {own : String} {index : Nat} {y : MethodName} {bytes : ByteArray} {maxL : Nat} {ret : Option FieldType} {rm : Room} {as' : Array Value} {rv : Value} (hown : s.vm.findClass own = some m.cls) (w1 : (Jvm.Cond.methodLink own index y).before a0 Z = true) (w2 : (Jvm.Cond.static y).before a0 Z = true) (w3 : (Jvm.Cond.initialized y.cls).before a0 Z = true) (w4 : (Jvm.Cond.code y bytes maxL ret).before a0 Z = true) (hy : y.cls ≠ "java/lang/invoke/MethodHandle" ∧ y.cls ≠ "java/lang/invoke/VarHandle") (eT : T.heap = h)
    (hM : MetP l y bytes maxL ret [] rm Z as' h (Pure rv h)) {ps : List FieldType} {r : Option FieldType} (hdsc : parseMethodDescriptor y.desc = some ⟨ps, r⟩) (argsL rest : List Value) (hlen : argsL.length = ps.length) (has : argsL.toArray = as') (hsize : Ls.size = c.maxLocals) (hst : st = argsL.reverse ++ rest) (hd : decode c.code pc = .ok (.invokestatic index, 3)) (W : Nat) (hW : (rest.map fun v => v.category).sum ≤ W) (hf : rm.frames + 1 ≤ R.frames) (hlo : W + (maxL + 11) + rm.locals ≤ R.locals) (hc : cells + rm.cells ≤ R.cells) (hsl : slots + rm.slots ≤ R.slots) (hc0 : rm.cells = 0) (hs0 : rm.slots = 0)
    (k : ∀ (T' : State), Stand p l e R s m args below meth c T' locs cells slots → T'.heap = h → Go p.tables e below E (T'.setTop (mkF m pc' Ls (rv :: rest)))) : Go p.tables e below E (T.setTop (mkF m pc Ls st)) := by
  refine o_callS pc' X hx hpc hZ hown w1 w2 w3 w4 hy eT hM hdsc argsL rest hlen has hsize hst hd W hW hf hlo hc hsl ?_
  intro v T' L X' hQ
  obtain ⟨rfl, rfl, e'⟩ := hQ
  rw [hc0, hs0, List.append_nil] at X'
  exact k T' X' e' 
theorem o_newarr (pc' : Nat) (X : Stand p l e R s m args below meth c T locs cells slots) (hx : p.tables.exec = Jvm.exec) (hpc : pc + 2 = pc') (hZ : Z.Warmed39 s.vm) (aty : ArrayType) (ty : FieldType) (hty : newarray.typeOf aty = ty) (w : (Jvm.Cond.arrayClass ty).before a0 Z = true) (eT : T.heap = h) {n : Int32} (hd : decode c.code pc = .ok (.newarray aty, 2)) (hn : ¬ n < 0) (cap : Nat) (hcap : n.toNatClampNeg ≤ cap) (hb : cap * 8 ≤ 536870912) (hc : cells + 1 ≤ R.cells) (hl : slots + cap ≤ R.slots)
    (k : ∀ (T' : State) (h' : Heap) (a : Addr) (cA : ClassId), a = h.size → Stand p l e R s m args below meth c T' locs (cells + 1) (slots + cap) → T'.heap = h' → Ext h h' → Arv Z h' a cA ty n [] (defaultValue ty) → Go p.tables e below E (T'.setTop (mkF m pc' Ls (.ref a :: st)))) : Go p.tables e below E (T.setTop (mkF m pc Ls (.int n :: st))) := by
  subst hpc; subst hty
  obtain ⟨T', h', cA, X', e', E', A', st'⟩ := newP X hx hZ w eT (g := mkF m pc Ls (.int n :: st)) rfl hd rfl hn hcap hb hc hl
  exact Go.via st' (k T' h' h.size cA rfl X' e' E' (Arv.new A' hn))
theorem o_alen (pc' : Nat) (X : Stand p l e R s m args below meth c T locs cells slots) (hx : p.tables.exec = Jvm.exec) (hpc : pc + 1 = pc') (hZ : Z.Warmed39 s.vm) (eT : T.heap = h) {a : Addr} {ka : ClassId} {ty : FieldType} {n : Int32} {vs : List Value} {dv : Value} (F : Arv Z h a ka ty n vs dv) (hd : decode c.code pc = .ok (.arraylength, 1)) (k : Go p.tables e below E (T.setTop (mkF m pc' Ls (.int n :: st)))) : Go p.tables e below E (T.setTop (mkF m pc Ls (.ref a :: st))) := by
  subst hpc
  obtain ⟨cl, A, -, S, M, -⟩ := F
  rw [← len_of S M] at k
  exact Go.via (fun _ q => X.arraylength hx (by rw [eT]; exact A.1) (State.isArrayOf_alike hZ.alike A.2.1) (g := mkF m pc Ls (.ref a :: st)) rfl rfl hd _ q) k
theorem o_iaload (pc' : Nat) (X : Stand p l e R s m args below meth c T locs cells slots) (hx : p.tables.exec = Jvm.exec) (hpc : pc + 1 = pc') (hZ : Z.Warmed39 s.vm) (eT : T.heap = h) {a : Addr} {ka : ClassId} {n j : Int32} {vs : List Value} {dv : Value} (F : Arv Z h a ka .int n vs dv) (hj : ¬ j < 0 ∧ j < n) (v : Value) (hv : vs.getD j.toNatClampNeg dv = v) (hd : decode c.code pc = .ok (.iaload, 1)) (k : Go p.tables e below E (T.setTop (mkF m pc' Ls (v :: st)))) : Go p.tables e below E (T.setTop (mkF m pc Ls (.int j :: .ref a :: st))) := by
  subst hpc
  obtain ⟨cl, A, -, S, M, H, -⟩ := F
  have hin := inb_of S hj
  exact Go.via (fun _ q => X.iaload hx (j := j) (v := v) (by rw [eT]; exact A.1) (State.isArrayOf_alike hZ.alike A.2.1) A.2.2 hin (H.at hin hv) (g := mkF m pc Ls (.int j :: .ref a :: st)) rfl rfl hd _ q) k
theorem o_iastore (pc' : Nat) (X : Stand p l e R s m args below meth c T locs cells slots) (hx : p.tables.exec = Jvm.exec) (hpc : pc + 1 = pc') (hZ : Z.Warmed39 s.vm) (eT : T.heap = h) {a : Addr} {ka : ClassId} {n j : Int32} {x : Int32} {vs : List Value} {dv : Value} (F : Arv Z h a ka .int n vs dv) (hj : ¬ j < 0 ∧ j < n) (i : Nat) (hi : j.toNatClampNeg = i) (hlt : i < vs.length) (vs' : List Value) (hvs : vs.set i (.int x) = vs') {n0 : Nat} (N : Fr n0 locs) (ga : n0 ≤ a) (hd : decode c.code pc = .ok (.iastore, 1))
    (k : ∀ (T' : State) (h' : Heap) (L' : List Loc), Stand p l e R s m args below meth c T' L' cells slots → Fr n0 L' → T'.heap = h' → Wr h h' a j.toNatClampNeg (.int x) → Arv Z h' a ka .int n vs' dv → Go p.tables e below E (T'.setTop (mkF m pc' Ls st))) : Go p.tables e below E (T.setTop (mkF m pc Ls (.int x :: .int j :: .ref a :: st))) := by
  subst hpc; subst hvs
  obtain ⟨cl, A, q1, S, M, H, G⟩ := F
  have hin := inb_of S hj
  obtain ⟨T', h', X', e', W', st'⟩ := stI X hx hZ eT A hin (g := mkF m pc Ls (.int x :: .int j :: .ref a :: st)) rfl rfl hd
  exact Go.via st' (k T' h' _ X' (Fr.snoc X' N ga) e' W' (Arv.set A q1 S M H G (rfl) W' i hi hlt))
theorem own_getI (xs : List Int32) (i : Nat) : (xs.map Value.int).getD i (.int 0) = .int (xs.getD i 0) := by
  simp only [List.getD_eq_getElem?_getD, List.getElem?_map]; cases xs[i]? <;> rfl
theorem o_ialoadX (pc' : Nat) (X : Stand p l e R s m args below meth c T locs cells slots) (hx : p.tables.exec = Jvm.exec) (hpc : pc + 1 = pc') (hZ : Z.Warmed39 s.vm) (eT : T.heap = h) {a : Addr} {ka : ClassId} {n j : Int32} {xs : List Int32} (F : Arv Z h a ka .int n (xs.map Value.int) (.int 0)) (hj : ¬ j < 0 ∧ j < n) (hd : decode c.code pc = .ok (.iaload, 1)) (v : Int32) (hv : xs.getD j.toNatClampNeg 0 = v) (k : Go p.tables e below E (T.setTop (mkF m pc' Ls (.int v :: st)))) : Go p.tables e below E (T.setTop (mkF m pc Ls (.int j :: .ref a :: st))) := by
  subst hv; exact o_iaload pc' X hx hpc hZ eT F hj _ (own_getI xs _) hd k
theorem o_iastoreX (pc' : Nat) (X : Stand p l e R s m args below meth c T locs cells slots) (hx : p.tables.exec = Jvm.exec) (hpc : pc + 1 = pc') (hZ : Z.Warmed39 s.vm) (eT : T.heap = h) {a : Addr} {ka : ClassId} {n j : Int32} {x : Int32} {xs : List Int32} (F : Arv Z h a ka .int n (xs.map Value.int) (.int 0)) (hj : ¬ j < 0 ∧ j < n) (hlt : j.toNatClampNeg < xs.length) (xs' : List Int32) (hxs : xs.set j.toNatClampNeg x = xs') {n0 : Nat} (N : Fr n0 locs) (ga : n0 ≤ a) (hd : decode c.code pc = .ok (.iastore, 1))
    (k : ∀ (T' : State) (h' : Heap) (L' : List Loc), Stand p l e R s m args below meth c T' L' cells slots → Fr n0 L' → T'.heap = h' → Wr h h' a j.toNatClampNeg (.int x) → Arv Z h' a ka .int n (xs'.map Value.int) (.int 0) → Go p.tables e below E (T'.setTop (mkF m pc' Ls st))) : Go p.tables e below E (T.setTop (mkF m pc Ls (.int x :: .int j :: .ref a :: st))) := by
  subst hxs
  exact o_iastore pc' X hx hpc hZ eT F hj _ rfl (by rw [List.length_map]; exact hlt) _ (List.map_set.symm) N ga hd k
theorem o_newarrI (pc' : Nat) (X : Stand p l e R s m args below meth c T locs cells slots) (hx : p.tables.exec = Jvm.exec) (hpc : pc + 2 = pc') (hZ : Z.Warmed39 s.vm) (aty : ArrayType) (ty : FieldType) (hty : newarray.typeOf aty = ty) (hdf : defaultValue ty = .int 0) (w : (Jvm.Cond.arrayClass ty).before a0 Z = true) (eT : T.heap = h) {n : Int32} (hd : decode c.code pc = .ok (.newarray aty, 2)) (hn : ¬ n < 0) (cap : Nat) (hcap : n.toNatClampNeg ≤ cap) (hb : cap * 8 ≤ 536870912) (hc : cells + 1 ≤ R.cells) (hl : slots + cap ≤ R.slots) (xs : List Int32) (hxs : List.replicate n.toNatClampNeg 0 = xs)
    (k : ∀ (T' : State) (h' : Heap) (a : Addr) (cA : ClassId), a = h.size → Stand p l e R s m args below meth c T' locs (cells + 1) (slots + cap) → T'.heap = h' → Ext h h' → Arv Z h' a cA ty n (xs.map Value.int) (.int 0) → Go p.tables e below E (T'.setTop (mkF m pc' Ls (.ref a :: st)))) : Go p.tables e below E (T.setTop (mkF m pc Ls (.int n :: st))) := by
  subst hxs
  refine o_newarr pc' X hx hpc hZ aty ty hty w eT hd hn cap hcap hb hc hl ?_
  intro T' h' a cA g X' e' E' A'
  rw [hdf] at A'
  refine k T' h' a cA g X' e' E' ?_
  rw [List.map_replicate]
  exact A'.pad (pad_rep [] _ _)
end OwnKit
theorem l_tlt {x y : Int64} (h : x < y) : lcmpW x y < 0 := (lw_lt x y).mpr h
theorem l_flt {x y : Int64} (h : ¬ x < y) : ¬ lcmpW x y < 0 := fun q => h ((lw_lt x y).mp q)
theorem l_tgt {x y : Int64} (h : y < x) : 0 < lcmpW x y := (lw_gt x y).mpr h
theorem l_fgt {x y : Int64} (h : ¬ y < x) : ¬ 0 < lcmpW x y := fun q => h ((lw_gt x y).mp q)
theorem l_teq {x y : Int64} (h : x = y) : lcmpW x y = 0 := (lw_eq x y).mpr h
theorem l_feq {x y : Int64} (h : ¬ x = y) : ¬ lcmpW x y = 0 := fun q => h ((lw_eq x y).mp q)
theorem wd_0 {Z : State} {a0 : Array Value} (hw : ∀ d ∈ tables_1, d.before a0 Z = true) : (Jvm.Cond.constant "com/example/discernibility/discernibility/PartitionDiversityPinLaw" (7 : Nat) (2147483647 : Int32)).before a0 Z = true := hw _ (List.mem_of_getElem? (i := 0) rfl)
theorem wd_1 {Z : State} {a0 : Array Value} (hw : ∀ d ∈ tables_1, d.before a0 Z = true) : (Jvm.Cond.arrayClass Jvm.ClassFile.FieldType.int).before a0 Z = true := hw _ (List.mem_of_getElem? (i := 1) rfl)
theorem wd_2 {Z : State} {a0 : Array Value} (hw : ∀ d ∈ tables_1, d.before a0 Z = true) : (Jvm.Cond.methodLink "com/example/discernibility/discernibility/PartitionDiversityPinLaw" (14 : Nat) ({ cls := "com/example/discernibility/discernibility/Partition", name := "diversity", desc := "([I)I" } : Jvm.MethodName)).before a0 Z = true := hw _ (List.mem_of_getElem? (i := 2) rfl)
theorem wd_3 {Z : State} {a0 : Array Value} (hw : ∀ d ∈ tables_1, d.before a0 Z = true) : (Jvm.Cond.static ({ cls := "com/example/discernibility/discernibility/Partition", name := "diversity", desc := "([I)I" } : Jvm.MethodName)).before a0 Z = true := hw _ (List.mem_of_getElem? (i := 3) rfl)
theorem wd_4 {Z : State} {a0 : Array Value} (hw : ∀ d ∈ tables_1, d.before a0 Z = true) : (Jvm.Cond.initialized "com/example/discernibility/discernibility/Partition").before a0 Z = true := hw _ (List.mem_of_getElem? (i := 4) rfl)
theorem wd_5 {Z : State} {a0 : Array Value} (hw : ∀ d ∈ tables_1, d.before a0 Z = true) : (Jvm.Cond.code ({ cls := "com/example/discernibility/discernibility/Partition", name := "diversity", desc := "([I)I" } : Jvm.MethodName) prog_26_method_10_code (6 : Nat) (Option.some Jvm.ClassFile.FieldType.int)).before a0 Z = true := hw _ (List.mem_of_getElem? (i := 5) rfl)
theorem wd_6 {Z : State} {a0 : Array Value} (hw : ∀ d ∈ tables_1, d.before a0 Z = true) : (Jvm.Cond.methodLink "com/example/discernibility/discernibility/PartitionDiversityPinLaw" (8 : Nat) ({ cls := "com/example/discernibility/discernibility/PartitionDiversityPinLaw", name := "pos", desc := "(I)I" } : Jvm.MethodName)).before a0 Z = true := hw _ (List.mem_of_getElem? (i := 6) rfl)
theorem wd_7 {Z : State} {a0 : Array Value} (hw : ∀ d ∈ tables_1, d.before a0 Z = true) : (Jvm.Cond.static ({ cls := "com/example/discernibility/discernibility/PartitionDiversityPinLaw", name := "pos", desc := "(I)I" } : Jvm.MethodName)).before a0 Z = true := hw _ (List.mem_of_getElem? (i := 7) rfl)
theorem wd_8 {Z : State} {a0 : Array Value} (hw : ∀ d ∈ tables_1, d.before a0 Z = true) : (Jvm.Cond.initialized "com/example/discernibility/discernibility/PartitionDiversityPinLaw").before a0 Z = true := hw _ (List.mem_of_getElem? (i := 8) rfl)
theorem wd_9 {Z : State} {a0 : Array Value} (hw : ∀ d ∈ tables_1, d.before a0 Z = true) : (Jvm.Cond.code ({ cls := "com/example/discernibility/discernibility/PartitionDiversityPinLaw", name := "pos", desc := "(I)I" } : Jvm.MethodName) method_2_code (1 : Nat) (Option.some Jvm.ClassFile.FieldType.int)).before a0 Z = true := hw _ (List.mem_of_getElem? (i := 9) rfl)
theorem d1_0 : decode prog_26_method_10_code 0 = .ok (.iconst 0, 1) := by decide +kernel
theorem d1_1 : decode prog_26_method_10_code 1 = .ok (.istore_n 1, 1) := by decide +kernel
theorem d1_10 : decode prog_26_method_10_code 10 = .ok (.iload 4, 2) := by decide +kernel
theorem d1_12 : decode prog_26_method_10_code 12 = .ok (.iload_n 3, 1) := by decide +kernel
theorem d1_13 : decode prog_26_method_10_code 13 = .ok (.if_icmp .ge 23, 3) := by decide +kernel
theorem d1_16 : decode prog_26_method_10_code 16 = .ok (.aload_n 2, 1) := by decide +kernel
theorem d1_17 : decode prog_26_method_10_code 17 = .ok (.iload 4, 2) := by decide +kernel
theorem d1_19 : decode prog_26_method_10_code 19 = .ok (.iaload, 1) := by decide +kernel
theorem d1_2 : decode prog_26_method_10_code 2 = .ok (.aload_n 0, 1) := by decide +kernel
theorem d1_20 : decode prog_26_method_10_code 20 = .ok (.istore 5, 2) := by decide +kernel
theorem d1_22 : decode prog_26_method_10_code 22 = .ok (.iload 5, 2) := by decide +kernel
theorem d1_24 : decode prog_26_method_10_code 24 = .ok (.ifCond .le 6, 3) := by decide +kernel
theorem d1_27 : decode prog_26_method_10_code 27 = .ok (.iinc 1 1, 3) := by decide +kernel
theorem d1_3 : decode prog_26_method_10_code 3 = .ok (.astore_n 2, 1) := by decide +kernel
theorem d1_30 : decode prog_26_method_10_code 30 = .ok (.iinc 4 1, 3) := by decide +kernel
theorem d1_33 : decode prog_26_method_10_code 33 = .ok (.goto (-23), 3) := by decide +kernel
theorem d1_36 : decode prog_26_method_10_code 36 = .ok (.iload_n 1, 1) := by decide +kernel
theorem d1_37 : decode prog_26_method_10_code 37 = .ok (.ireturn, 1) := by decide +kernel
theorem d1_4 : decode prog_26_method_10_code 4 = .ok (.aload_n 2, 1) := by decide +kernel
theorem d1_5 : decode prog_26_method_10_code 5 = .ok (.arraylength, 1) := by decide +kernel
theorem d1_6 : decode prog_26_method_10_code 6 = .ok (.istore_n 3, 1) := by decide +kernel
theorem d1_7 : decode prog_26_method_10_code 7 = .ok (.iconst 0, 1) := by decide +kernel
theorem d1_8 : decode prog_26_method_10_code 8 = .ok (.istore 4, 2) := by decide +kernel
theorem d2_0 : decode method_2_code 0 = .ok (.iload_n 0, 1) := by decide +kernel
theorem d2_1 : decode method_2_code 1 = .ok (.ifCond .le 5, 3) := by decide +kernel
theorem d2_4 : decode method_2_code 4 = .ok (.iconst 1, 1) := by decide +kernel
theorem d2_5 : decode method_2_code 5 = .ok (.ireturn, 1) := by decide +kernel
theorem d2_6 : decode method_2_code 6 = .ok (.iconst 0, 1) := by decide +kernel
theorem d2_7 : decode method_2_code 7 = .ok (.ireturn, 1) := by decide +kernel
theorem pd_lIrI : parseMethodDescriptor "(I)I" = some ⟨[.int], some .int⟩ := by decide +kernel
theorem pd_laIrI : parseMethodDescriptor "([I)I" = some ⟨[(.array .int)], some .int⟩ := by decide +kernel
theorem pn_0 : plainFor x = true := plainFor_of_name (show plainName "com/example/discernibility/discernibility/PartitionDiversityPinLaw" = true by first | (simp [plainName, overriddenIn]; done) | decide +kernel)
theorem pn_1 : plainFor (⟨"com/example/discernibility/discernibility/Partition", "diversity", "([I)I"⟩ : MethodName) = true := plainFor_of_name (show plainName "com/example/discernibility/discernibility/Partition" = true by first | (simp [plainName, overriddenIn]; done) | decide +kernel)
theorem pn_2 : plainFor (⟨"com/example/discernibility/discernibility/PartitionDiversityPinLaw", "pos", "(I)I"⟩ : MethodName) = true := plainFor_of_name (show plainName "com/example/discernibility/discernibility/PartitionDiversityPinLaw" = true by first | (simp [plainName, overriddenIn]; done) | decide +kernel)
theorem own_lt {i n : Nat} (h : i < n) (hn : n < 2147483648) : Int32.ofNat i < Int32.ofNat n := by
  rw [Int32.lt_iff_toInt_lt, Int32.toInt_ofNat_of_lt (by omega), Int32.toInt_ofNat_of_lt (by omega)]
  omega
theorem own_nn {n : Nat} (hn : n < 2147483648) : ¬ Int32.ofNat n < 0 := by
  rw [Int32.lt_iff_toInt_lt, Int32.toInt_ofNat_of_lt (by omega), show (0 : Int32).toInt = 0 from rfl]
  omega
theorem own_n32 {n : Nat} (hn : n < 2147483648) : (Int32.ofNat n).toNatClampNeg = n := by
  rw [Int32.toNatClampNeg, Int32.toInt_ofNat_of_lt (by omega)]; rfl
theorem own_one (i : Nat) : Int32.ofNat i + (1 : Int32) = Int32.ofNat (i + 1) := (Int32.ofNat_add i 1).symm
theorem own_hd {xs ys : List Int32} {y : Int32} {i : Nat} (h : xs.drop i = y :: ys) : xs.getD i 0 = y := by
  have q : xs[i]? = some y := by have := congrArg (fun l => l[0]?) h; simpa [List.getElem?_drop] using this
  rw [List.getD_eq_getElem?_getD, q]; rfl
theorem own_tl {xs ys : List Int32} {y : Int32} {i : Nat} (h : xs.drop i = y :: ys) : xs.drop (i + 1) = ys := by
  have := congrArg (List.drop 1) h; simpa [List.drop_drop] using this
def own_dv : List Int32 → Int32 → Int32
  | [], c => c
  | x :: r, c => own_dv r (if (0 : Int32) < x then c + 1 else c)
theorem ef_2 (m : MethodId) (y0 : Int32) : entryFrame m #[(.int y0)] 1 = mkF m 0 #[.val (.int y0)] [] := by first | (simp [entryFrame, mkF, argsToLocals, Value.category]; done) | rfl
def fn2 (i0 : Int32) : Int32 := (if (0 : Int32) < i0 then (1 : Int32) else (0 : Int32))
set_option maxRecDepth 65536 in
set_option maxHeartbeats 40000000 in
theorem rm2 (l : Launch) (Z : State) (a0 : Array Value) (hw : ∀ d ∈ tables_1, d.before a0 Z = true) (i0 : Int32) (h0 : Heap) : MetP l (⟨"com/example/discernibility/discernibility/PartitionDiversityPinLaw", "pos", "(I)I"⟩ : MethodName) method_2_code 1 (some .int) [] ({ frames := 0, cells := 0, slots := 0, locals := 0 } : Room) Z #[(.int i0)] h0 (Pure (.int (fn2 i0)) h0) := by
  refine met_go pn_2 ?_
  intro p e s m below meth c s₁ hx hby hml hown hnm hret hlk hZ e0 X0
  rw [ef_2 m i0]
  refine o_iloadN 1 X0 hx rfl (hb hby d2_0) rfl ?_
  by_cases hc1_1 : (0 : Int32) < i0
  · refine o_ifNo 4 X0 hx rfl (hb hby d2_1) (tlt hc1_1).2.2.2 ?_
    refine o_iconst 5 X0 hx rfl (hb hby d2_4) (1 : Int32) rfl ?_
    refine o_retI X0 hx hret hlk (hb hby d2_5) (by decide) (by decide) ?_
    exact ⟨show some (Value.int (1 : Int32)) = some (Value.int (fn2 i0)) from by rw [show (fn2 i0) = (1 : Int32) from by unfold fn2; simp only [if_pos hc1_1]], rfl, e0⟩
  · refine o_ifYes 6 X0 hx (hb hby d2_1) (flt hc1_1).2.2.2 (by decide) (by decide) ?_
    refine o_iconst 7 X0 hx rfl (hb hby d2_6) (0 : Int32) rfl ?_
    refine o_retI X0 hx hret hlk (hb hby d2_7) (by decide) (by decide) ?_
    exact ⟨show some (Value.int (0 : Int32)) = some (Value.int (fn2 i0)) from by rw [show (fn2 i0) = (0 : Int32) from by unfold fn2; simp only [if_neg hc1_1]], rfl, e0⟩
theorem ef_1 (m : MethodId) (y0 : Addr) : entryFrame m #[(.ref y0)] 6 = mkF m 0 #[.val (.ref y0), .unset, .unset, .unset, .unset, .unset] [] := by first | (simp [entryFrame, mkF, argsToLocals, Value.category]; done) | rfl
set_option maxRecDepth 65536 in
set_option maxHeartbeats 40000000 in
theorem rm1 (l : Launch) (Z : State) (a0 : Array Value) (hw : ∀ d ∈ tables_1, d.before a0 Z = true) (r0 : Addr) (ka : ClassId) (N : Nat) (xs : List Int32) (h0 : Heap) (hN : N < 2147483648) (hlen : xs.length = N) (A0 : Arv Z h0 r0 ka .int (Int32.ofNat N) (xs.map Value.int) (.int 0)) : MetP l (⟨"com/example/discernibility/discernibility/Partition", "diversity", "([I)I"⟩ : MethodName) prog_26_method_10_code 6 (some .int) [] ({ frames := 0, cells := 0, slots := 0, locals := 0 } : Room) Z #[(.ref r0)] h0 (Pure (.int (own_dv xs 0)) h0) := by
  refine met_go pn_1 ?_
  intro p e s m below meth c s₁ hx hby hml hown hnm hret hlk hZ e0 X0
  rw [ef_1 m r0]
  refine o_iconst 1 X0 hx rfl (hb hby d1_0) (0 : Int32) rfl ?_
  refine o_istoreN 2 X0 hx rfl (hb hby d1_1) #[.val (.ref r0), .val (.int (0 : Int32)), .unset, .unset, .unset, .unset] rfl ?_
  refine o_aloadN 3 X0 hx rfl (hb hby d1_2) rfl rfl ?_
  refine o_astoreN 4 X0 hx rfl (hb hby d1_3) rfl #[.val (.ref r0), .val (.int (0 : Int32)), .val (.ref r0), .unset, .unset, .unset] rfl ?_
  refine o_aloadN 5 X0 hx rfl (hb hby d1_4) rfl rfl ?_
  refine o_alen 6 X0 hx rfl hZ e0 A0 (hb hby d1_5) ?_
  refine o_istoreN 7 X0 hx rfl (hb hby d1_6) #[.val (.ref r0), .val (.int (0 : Int32)), .val (.ref r0), .val (.int (Int32.ofNat N)), .unset, .unset] rfl ?_
  refine o_iconst 8 X0 hx rfl (hb hby d1_7) (0 : Int32) rfl ?_
  refine o_istore 10 X0 hx rfl (hb hby d1_8) #[.val (.ref r0), .val (.int (0 : Int32)), .val (.ref r0), .val (.int (Int32.ofNat N)), .val (.int (0 : Int32)), .unset] rfl ?_
  suffices loop : ∀ (ys : List Int32) (i : Nat) (c : Int32) (s5 : Slot), One s5 → xs.drop i = ys → i + ys.length = N → own_dv ys c = own_dv xs 0 → Go p.tables e below (EndE s ({ frames := 0, cells := 0, slots := 0, locals := 0 } : Room) (Pure (.int (own_dv xs 0)) h0)) (s₁.setTop (mkF m 10 #[.val (.ref r0), .val (.int c), .val (.ref r0), .val (.int (Int32.ofNat N)), .val (.int (Int32.ofNat i)), s5] [])) by
    exact loop xs 0 0 .unset One.u rfl (by rw [Nat.zero_add]; exact hlen) rfl
  intro ys
  induction ys with
  | nil =>
    intro i c s5 hs5 hdr hl hval
    have hi : i = N := by simpa using hl
    subst hi
    refine o_iload 12 X0 hx rfl (hb hby d1_10) rfl ?_
    refine o_iloadN 13 X0 hx rfl (hb hby d1_12) rfl ?_
    refine o_icmpYes 36 X0 hx (hb hby d1_13) (flt Int32.lt_irrefl).2.1 (by decide) (by decide) ?_
    refine o_iloadN 37 X0 hx rfl (hb hby d1_36) rfl ?_
    refine o_retI X0 hx hret hlk (hb hby d1_37) (by decide) (by decide) ?_
    exact ⟨by rw [← hval]; rfl, rfl, e0⟩
  | cons y ys ih =>
    intro i c s5 hs5 hdr hl hval
    have hi : i < N := by simp only [List.length_cons] at hl; omega
    refine o_iload 12 X0 hx rfl (hb hby d1_10) rfl ?_
    refine o_iloadN 13 X0 hx rfl (hb hby d1_12) rfl ?_
    refine o_icmpNo 16 X0 hx rfl (hb hby d1_13) (tlt (own_lt hi hN)).2.1 ?_
    refine o_aloadN 17 X0 hx rfl (hb hby d1_16) rfl rfl ?_
    refine o_iload 19 X0 hx rfl (hb hby d1_17) rfl ?_
    refine o_ialoadX 20 X0 hx rfl hZ e0 A0 ⟨own_nn (Nat.lt_trans hi hN), own_lt hi hN⟩ (hb hby d1_19) y (by rw [own_n32 (Nat.lt_trans hi hN)]; exact own_hd hdr) ?_
    refine o_istore 22 X0 hx rfl (hb hby d1_20) #[.val (.ref r0), .val (.int c), .val (.ref r0), .val (.int (Int32.ofNat N)), .val (.int (Int32.ofNat i)), .val (.int y)] (XS.store1 rfl hs5 rfl) ?_
    refine o_iload 24 X0 hx rfl (hb hby d1_22) rfl ?_
    by_cases hp : (0 : Int32) < y
    · refine o_ifNo 27 X0 hx rfl (hb hby d1_24) (tlt hp).2.2.2 ?_
      refine o_iinc 30 X0 hx rfl (hb hby d1_27) (1 : Int32) rfl rfl #[.val (.ref r0), .val (.int (c + (1 : Int32))), .val (.ref r0), .val (.int (Int32.ofNat N)), .val (.int (Int32.ofNat i)), .val (.int y)] rfl ?_
      refine o_iinc 33 X0 hx rfl (hb hby d1_30) (1 : Int32) rfl rfl #[.val (.ref r0), .val (.int (c + (1 : Int32))), .val (.ref r0), .val (.int (Int32.ofNat N)), .val (.int ((Int32.ofNat i) + (1 : Int32))), .val (.int y)] rfl ?_
      refine o_goto 10 X0 hx (hb hby d1_33) (by decide) (by decide) ?_
      rw [own_one]
      exact ih (i + 1) (c + 1) _ (One.val rfl) (own_tl hdr) (by simp only [List.length_cons] at hl; omega) (by rw [← hval, own_dv, if_pos hp])
    · refine o_ifYes 30 X0 hx (hb hby d1_24) (flt hp).2.2.2 (by decide) (by decide) ?_
      refine o_iinc 33 X0 hx rfl (hb hby d1_30) (1 : Int32) rfl rfl #[.val (.ref r0), .val (.int c), .val (.ref r0), .val (.int (Int32.ofNat N)), .val (.int ((Int32.ofNat i) + (1 : Int32))), .val (.int y)] rfl ?_
      refine o_goto 10 X0 hx (hb hby d1_33) (by decide) (by decide) ?_
      rw [own_one]
      exact ih (i + 1) c _ (One.val rfl) (own_tl hdr) (by simp only [List.length_cons] at hl; omega) (by rw [← hval, own_dv, if_neg hp])
theorem ef_0 (m : MethodId) (y0 : Int32) (y1 : Int32) (y2 : Int32) (y3 : Int32) (y4 : Int32) (y5 : Int32) : entryFrame m #[(.int y0), (.int y1), (.int y2), (.int y3), (.int y4), (.int y5)] maxLocals = mkF m 0 #[.val (.int y0), .val (.int y1), .val (.int y2), .val (.int y3), .val (.int y4), .val (.int y5), .unset, .unset, .unset, .unset] [] := by first | (simp [entryFrame, mkF, argsToLocals, Value.category, maxLocals]; done) | rfl
def f0_7 (i0 : Int32) : Int32 := ((i0 &&& (2147483647 : Int32)) % (6 : Int32))
def f0_126  : Int32 := (own_dv ([] : List Int32) 0)
def f0_55 (i1 : Int32) (i2 : Int32) : Int32 := (((0 : Int32) + (fn2 i1)) + (fn2 i2))
def f0_55' (i1 : Int32) (i2 : Int32) : Int32 := (((0 : Int32) + (fn2 i1)) + (fn2 i2))
def f0_75 (i1 : Int32) (i2 : Int32) (i3 : Int32) : Int32 := ((f0_55' i1 i2) + (fn2 i3))
def f0_55'' (i1 : Int32) (i2 : Int32) : Int32 := (((0 : Int32) + (fn2 i1)) + (fn2 i2))
def f0_75' (i1 : Int32) (i2 : Int32) (i3 : Int32) : Int32 := ((f0_55'' i1 i2) + (fn2 i3))
def f0_97 (i1 : Int32) (i2 : Int32) (i3 : Int32) (i4 : Int32) : Int32 := ((f0_75' i1 i2 i3) + (fn2 i4))
def f0_126' (i1 : Int32) (i2 : Int32) (i3 : Int32) (i4 : Int32) : Int32 := (own_dv [i1, i2, i3, i4] 0)
def f0_55''' (i1 : Int32) (i2 : Int32) : Int32 := (((0 : Int32) + (fn2 i1)) + (fn2 i2))
def f0_75'' (i1 : Int32) (i2 : Int32) (i3 : Int32) : Int32 := ((f0_55''' i1 i2) + (fn2 i3))
def f0_97' (i1 : Int32) (i2 : Int32) (i3 : Int32) (i4 : Int32) : Int32 := ((f0_75'' i1 i2 i3) + (fn2 i4))
def f0_119 (i1 : Int32) (i2 : Int32) (i3 : Int32) (i4 : Int32) (i5 : Int32) : Int32 := ((f0_97' i1 i2 i3 i4) + (fn2 i5))
def f0_126'' (i1 : Int32) (i2 : Int32) (i3 : Int32) (i4 : Int32) (i5 : Int32) : Int32 := (own_dv [i1, i2, i3, i4, i5] 0)
theorem own_cases (i0 : Int32) : f0_7 i0 = 0 ∨ f0_7 i0 = 1 ∨ f0_7 i0 = 2 ∨ f0_7 i0 = 3 ∨ f0_7 i0 = 4 ∨ f0_7 i0 = 5 := by
  have e1 : (i0 &&& (2147483647 : Int32)).toInt = i0.toInt % (2 ^ 31 : Nat) := c_mask i0 2147483647 31 (by decide) (by decide)
  have e2 := (c_irem (i0 &&& (2147483647 : Int32)) 6 6 rfl).1 (by rw [e1]; omega)
  simp only [f0_7, ← Int32.toInt_inj, e2, Int32.reduceToInt]
  omega
theorem own_fin0 : own_dv [] 0 = (0 : Int32) := by
  rfl
theorem own_fin1 (i1 : Int32) : own_dv [i1] 0 = ((0 : Int32) + fn2 i1) := by
  simp only [own_dv, fn2]
  (repeat' split) <;> simp only [Int32.add_zero]
theorem own_fin2 (i1 i2 : Int32) : own_dv [i1, i2] 0 = (((0 : Int32) + fn2 i1) + fn2 i2) := by
  simp only [own_dv, fn2]
  (repeat' split) <;> simp only [Int32.add_zero]
theorem own_fin3 (i1 i2 i3 : Int32) : own_dv [i1, i2, i3] 0 = ((((0 : Int32) + fn2 i1) + fn2 i2) + fn2 i3) := by
  simp only [own_dv, fn2]
  (repeat' split) <;> simp only [Int32.add_zero]
theorem own_fin4 (i1 i2 i3 i4 : Int32) : own_dv [i1, i2, i3, i4] 0 = (((((0 : Int32) + fn2 i1) + fn2 i2) + fn2 i3) + fn2 i4) := by
  simp only [own_dv, fn2]
  (repeat' split) <;> simp only [Int32.add_zero]
theorem own_fin5 (i1 i2 i3 i4 i5 : Int32) : own_dv [i1, i2, i3, i4, i5] 0 = ((((((0 : Int32) + fn2 i1) + fn2 i2) + fn2 i3) + fn2 i4) + fn2 i5) := by
  simp only [own_dv, fn2]
  (repeat' split) <;> simp only [Int32.add_zero]
set_option maxRecDepth 65536 in
set_option maxHeartbeats 40000000 in
theorem rm0 (l : Launch) (Z : State) (a0 : Array Value) (hw : ∀ d ∈ tables_1, d.before a0 Z = true) (ws : List Jvm.Cond) (i0 : Int32) (i1 : Int32) (i2 : Int32) (i3 : Int32) (i4 : Int32) (i5 : Int32) (h0 : Heap) (n0 : Nat) (Z0 : n0 ≤ h0.size) : MetP l x code maxLocals ret ws room_1 Z #[(.int i0), (.int i1), (.int i2), (.int i3), (.int i4), (.int i5)] h0 (fun v h L => v = some (.int (1 : Int32)) ∧ Fr n0 L) := by
  refine met_go pn_0 ?_
  intro p e s m below meth c s₁ hx hby hml hown hnm hret hlk hZ e0 X0
  have N0 := Fr.nil n0
  rw [ef_0 m i0 i1 i2 i3 i4 i5]
  refine o_iloadN 1 X0 hx rfl (hb hby at_0) rfl ?_
  refine o_ldcInt 3 X0 hx rfl hZ hown (wd_0 hw) (hb hby at_1) ?_
  refine o_iand 4 X0 hx rfl (hb hby at_3) ?_
  refine o_bipush 6 X0 hx rfl (hb hby at_4) (6 : Int32) rfl ?_
  refine o_irem 7 X0 hx rfl (hb hby at_6) (by decide) ?_
  refine o_istore 9 X0 hx rfl (hb hby at_7) #[.val (.int i0), .val (.int i1), .val (.int i2), .val (.int i3), .val (.int i4), .val (.int i5), .val (.int (f0_7 i0)), .unset, .unset, .unset] rfl ?_
  have hcase := own_cases i0
  generalize (f0_7 i0) = n at hcase ⊢
  rcases hcase with rfl | rfl | rfl | rfl | rfl | rfl
  · refine o_iload 11 X0 hx rfl (hb hby at_9) rfl ?_
    refine o_newarrI 13 X0 hx rfl hZ .int .int rfl rfl (wd_1 hw) e0 (hb hby at_11) (by decide) 0 (by decide) (by decide) (by decide) (by decide) ([] : List Int32) rfl fun T1 h1 a1 k1 g1 X1 e1 E1 A1 => ?_
    have ge2 : n0 ≤ a1 := Nat.le_trans Z0 (Nat.le_of_eq g1.symm)
    have sz3 : n0 ≤ h1.size := Nat.le_trans Z0 E1.1
    refine o_astore 15 X1 hx rfl (hb hby at_13) rfl #[.val (.int i0), .val (.int i1), .val (.int i2), .val (.int i3), .val (.int i4), .val (.int i5), .val (.int (0 : Int32)), .val (.ref a1), .unset, .unset] rfl ?_
    refine o_iconst 16 X1 hx rfl (hb hby at_15) (0 : Int32) rfl ?_
    refine o_istore 18 X1 hx rfl (hb hby at_16) #[.val (.int i0), .val (.int i1), .val (.int i2), .val (.int i3), .val (.int i4), .val (.int i5), .val (.int (0 : Int32)), .val (.ref a1), .val (.int (0 : Int32)), .unset] rfl ?_
    refine o_iload 20 X1 hx rfl (hb hby at_18) rfl ?_
    refine o_ifYes 37 X1 hx (hb hby at_20) (flt (show ¬ ((0 : Int32) < (0 : Int32)) by decide)).2.2.2 (by decide) (by decide) ?_
    refine o_iload 39 X1 hx rfl (hb hby at_37) rfl ?_
    refine o_iconst 40 X1 hx rfl (hb hby at_39) (1 : Int32) rfl ?_
    refine o_icmpYes 57 X1 hx (hb hby at_40) (flt (show ¬ ((1 : Int32) < (0 : Int32)) by decide)).2.2.2 (by decide) (by decide) ?_
    refine o_iload 59 X1 hx rfl (hb hby at_57) rfl ?_
    refine o_iconst 60 X1 hx rfl (hb hby at_59) (2 : Int32) rfl ?_
    refine o_icmpYes 77 X1 hx (hb hby at_60) (flt (show ¬ ((2 : Int32) < (0 : Int32)) by decide)).2.2.2 (by decide) (by decide) ?_
    refine o_iload 79 X1 hx rfl (hb hby at_77) rfl ?_
    refine o_iconst 80 X1 hx rfl (hb hby at_79) (3 : Int32) rfl ?_
    refine o_icmpYes 99 X1 hx (hb hby at_80) (flt (show ¬ ((3 : Int32) < (0 : Int32)) by decide)).2.2.2 (by decide) (by decide) ?_
    refine o_iload 101 X1 hx rfl (hb hby at_99) rfl ?_
    refine o_iconst 102 X1 hx rfl (hb hby at_101) (4 : Int32) rfl ?_
    refine o_icmpYes 121 X1 hx (hb hby at_102) (flt (show ¬ ((4 : Int32) < (0 : Int32)) by decide)).2.2.2 (by decide) (by decide) ?_
    refine o_aload 123 X1 hx rfl (hb hby at_121) rfl rfl ?_
    refine o_callP (rv := (.int (own_dv ([] : List Int32) 0))) 126 X1 hx rfl hZ hown (wd_2 hw) (wd_3 hw) (wd_4 hw) (wd_5 hw) (by decide) e1 (rm1 l Z a0 hw a1 k1 0 ([] : List Int32) h1 (by decide) rfl A1) pd_laIrI [(.ref a1)] [] rfl rfl (by rw [hml]; rfl) rfl (hb hby at_123) 0 (Nat.le_of_eq rfl) (by decide) (by decide) (by decide) (by decide) rfl rfl fun T4 X4 e4 => ?_
    refine o_istore 128 X4 hx rfl (hb hby at_126) #[.val (.int i0), .val (.int i1), .val (.int i2), .val (.int i3), .val (.int i4), .val (.int i5), .val (.int (0 : Int32)), .val (.ref a1), .val (.int (0 : Int32)), .val (.int f0_126)] rfl ?_
    refine o_iload 130 X4 hx rfl (hb hby at_128) rfl ?_
    refine o_iload 132 X4 hx rfl (hb hby at_130) rfl ?_
    refine o_icmpNo 135 X4 hx rfl (hb hby at_132) (teq (own_fin0 )).2 ?_
    refine o_iconst 136 X4 hx rfl (hb hby at_135) (1 : Int32) rfl ?_
    refine o_goto 140 X4 hx (hb hby at_136) (by decide) (by decide) ?_
    refine o_retN X4 hx .boolean (by simp) hret hlk (hb hby at_140) (by decide) (by decide) ?_
    exact ⟨rfl, N0⟩
  · refine o_iload 11 X0 hx rfl (hb hby at_9) rfl ?_
    refine o_newarrI 13 X0 hx rfl hZ .int .int rfl rfl (wd_1 hw) e0 (hb hby at_11) (by decide) 1 (by decide) (by decide) (by decide) (by decide) [(0 : Int32)] rfl fun T5 h5 a5 k5 g5 X5 e5 E5 A5 => ?_
    have ge6 : n0 ≤ a5 := Nat.le_trans Z0 (Nat.le_of_eq g5.symm)
    have sz7 : n0 ≤ h5.size := Nat.le_trans Z0 E5.1
    refine o_astore 15 X5 hx rfl (hb hby at_13) rfl #[.val (.int i0), .val (.int i1), .val (.int i2), .val (.int i3), .val (.int i4), .val (.int i5), .val (.int (1 : Int32)), .val (.ref a5), .unset, .unset] rfl ?_
    refine o_iconst 16 X5 hx rfl (hb hby at_15) (0 : Int32) rfl ?_
    refine o_istore 18 X5 hx rfl (hb hby at_16) #[.val (.int i0), .val (.int i1), .val (.int i2), .val (.int i3), .val (.int i4), .val (.int i5), .val (.int (1 : Int32)), .val (.ref a5), .val (.int (0 : Int32)), .unset] rfl ?_
    refine o_iload 20 X5 hx rfl (hb hby at_18) rfl ?_
    refine o_ifNo 23 X5 hx rfl (hb hby at_20) (tlt (show (0 : Int32) < (1 : Int32) by decide)).2.2.2 ?_
    refine o_aload 25 X5 hx rfl (hb hby at_23) rfl rfl ?_
    refine o_iconst 26 X5 hx rfl (hb hby at_25) (0 : Int32) rfl ?_
    refine o_iloadN 27 X5 hx rfl (hb hby at_26) rfl ?_
    refine o_iastoreX 28 X5 hx rfl hZ e5 A5 (by decide) (Nat.le_of_ble_eq_true rfl) [i1] rfl N0 ge6 (hb hby at_27) fun T8 h8 L8 X8 N8 e8 W8 A8 => ?_
    have sz9 : n0 ≤ h8.size := Nat.le_trans sz7 (Keep.of_wr W8).1
    refine o_iload 30 X8 hx rfl (hb hby at_28) rfl ?_
    refine o_iloadN 31 X8 hx rfl (hb hby at_30) rfl ?_
    refine o_callP (rv := (.int (fn2 i1))) 34 X8 hx rfl hZ hown (wd_6 hw) (wd_7 hw) (wd_8 hw) (wd_9 hw) (by decide) e8 (rm2 l Z a0 hw i1 h8) pd_lIrI [(.int i1)] [(.int (0 : Int32))] rfl rfl (by rw [hml]; rfl) rfl (hb hby at_31) 1 (Nat.le_of_eq rfl) (by decide) (by decide) (by decide) (by decide) rfl rfl fun T10 X10 e10 => ?_
    refine o_iadd 35 X10 hx rfl (hb hby at_34) ?_
    refine o_istore 37 X10 hx rfl (hb hby at_35) #[.val (.int i0), .val (.int i1), .val (.int i2), .val (.int i3), .val (.int i4), .val (.int i5), .val (.int (1 : Int32)), .val (.ref a5), .val (.int ((0 : Int32) + (fn2 i1))), .unset] rfl ?_
    refine o_iload 39 X10 hx rfl (hb hby at_37) rfl ?_
    refine o_iconst 40 X10 hx rfl (hb hby at_39) (1 : Int32) rfl ?_
    refine o_icmpYes 57 X10 hx (hb hby at_40) (flt (show ¬ ((1 : Int32) < (1 : Int32)) by decide)).2.2.2 (by decide) (by decide) ?_
    refine o_iload 59 X10 hx rfl (hb hby at_57) rfl ?_
    refine o_iconst 60 X10 hx rfl (hb hby at_59) (2 : Int32) rfl ?_
    refine o_icmpYes 77 X10 hx (hb hby at_60) (flt (show ¬ ((2 : Int32) < (1 : Int32)) by decide)).2.2.2 (by decide) (by decide) ?_
    refine o_iload 79 X10 hx rfl (hb hby at_77) rfl ?_
    refine o_iconst 80 X10 hx rfl (hb hby at_79) (3 : Int32) rfl ?_
    refine o_icmpYes 99 X10 hx (hb hby at_80) (flt (show ¬ ((3 : Int32) < (1 : Int32)) by decide)).2.2.2 (by decide) (by decide) ?_
    refine o_iload 101 X10 hx rfl (hb hby at_99) rfl ?_
    refine o_iconst 102 X10 hx rfl (hb hby at_101) (4 : Int32) rfl ?_
    refine o_icmpYes 121 X10 hx (hb hby at_102) (flt (show ¬ ((4 : Int32) < (1 : Int32)) by decide)).2.2.2 (by decide) (by decide) ?_
    refine o_aload 123 X10 hx rfl (hb hby at_121) rfl rfl ?_
    refine o_callP (rv := (.int (own_dv [i1] 0))) 126 X10 hx rfl hZ hown (wd_2 hw) (wd_3 hw) (wd_4 hw) (wd_5 hw) (by decide) e10 (rm1 l Z a0 hw a5 k5 1 [i1] h8 (by decide) rfl A8) pd_laIrI [(.ref a5)] [] rfl rfl (by rw [hml]; rfl) rfl (hb hby at_123) 0 (Nat.le_of_eq rfl) (by decide) (by decide) (by decide) (by decide) rfl rfl fun T11 X11 e11 => ?_
    refine o_istore 128 X11 hx rfl (hb hby at_126) #[.val (.int i0), .val (.int i1), .val (.int i2), .val (.int i3), .val (.int i4), .val (.int i5), .val (.int (1 : Int32)), .val (.ref a5), .val (.int ((0 : Int32) + (fn2 i1))), .val (.int (own_dv [i1] 0))] rfl ?_
    refine o_iload 130 X11 hx rfl (hb hby at_128) rfl ?_
    refine o_iload 132 X11 hx rfl (hb hby at_130) rfl ?_
    refine o_icmpNo 135 X11 hx rfl (hb hby at_132) (teq (own_fin1 i1)).2 ?_
    refine o_iconst 136 X11 hx rfl (hb hby at_135) (1 : Int32) rfl ?_
    refine o_goto 140 X11 hx (hb hby at_136) (by decide) (by decide) ?_
    refine o_retN X11 hx .boolean (by simp) hret hlk (hb hby at_140) (by decide) (by decide) ?_
    exact ⟨rfl, N8⟩
  · refine o_iload 11 X0 hx rfl (hb hby at_9) rfl ?_
    refine o_newarrI 13 X0 hx rfl hZ .int .int rfl rfl (wd_1 hw) e0 (hb hby at_11) (by decide) 2 (by decide) (by decide) (by decide) (by decide) [(0 : Int32), (0 : Int32)] rfl fun T12 h12 a12 k12 g12 X12 e12 E12 A12 => ?_
    have ge13 : n0 ≤ a12 := Nat.le_trans Z0 (Nat.le_of_eq g12.symm)
    have sz14 : n0 ≤ h12.size := Nat.le_trans Z0 E12.1
    refine o_astore 15 X12 hx rfl (hb hby at_13) rfl #[.val (.int i0), .val (.int i1), .val (.int i2), .val (.int i3), .val (.int i4), .val (.int i5), .val (.int (2 : Int32)), .val (.ref a12), .unset, .unset] rfl ?_
    refine o_iconst 16 X12 hx rfl (hb hby at_15) (0 : Int32) rfl ?_
    refine o_istore 18 X12 hx rfl (hb hby at_16) #[.val (.int i0), .val (.int i1), .val (.int i2), .val (.int i3), .val (.int i4), .val (.int i5), .val (.int (2 : Int32)), .val (.ref a12), .val (.int (0 : Int32)), .unset] rfl ?_
    refine o_iload 20 X12 hx rfl (hb hby at_18) rfl ?_
    refine o_ifNo 23 X12 hx rfl (hb hby at_20) (tlt (show (0 : Int32) < (2 : Int32) by decide)).2.2.2 ?_
    refine o_aload 25 X12 hx rfl (hb hby at_23) rfl rfl ?_
    refine o_iconst 26 X12 hx rfl (hb hby at_25) (0 : Int32) rfl ?_
    refine o_iloadN 27 X12 hx rfl (hb hby at_26) rfl ?_
    refine o_iastoreX 28 X12 hx rfl hZ e12 A12 (by decide) (Nat.le_of_ble_eq_true rfl) [i1, (0 : Int32)] rfl N0 ge13 (hb hby at_27) fun T15 h15 L15 X15 N15 e15 W15 A15 => ?_
    have sz16 : n0 ≤ h15.size := Nat.le_trans sz14 (Keep.of_wr W15).1
    refine o_iload 30 X15 hx rfl (hb hby at_28) rfl ?_
    refine o_iloadN 31 X15 hx rfl (hb hby at_30) rfl ?_
    refine o_callP (rv := (.int (fn2 i1))) 34 X15 hx rfl hZ hown (wd_6 hw) (wd_7 hw) (wd_8 hw) (wd_9 hw) (by decide) e15 (rm2 l Z a0 hw i1 h15) pd_lIrI [(.int i1)] [(.int (0 : Int32))] rfl rfl (by rw [hml]; rfl) rfl (hb hby at_31) 1 (Nat.le_of_eq rfl) (by decide) (by decide) (by decide) (by decide) rfl rfl fun T17 X17 e17 => ?_
    refine o_iadd 35 X17 hx rfl (hb hby at_34) ?_
    refine o_istore 37 X17 hx rfl (hb hby at_35) #[.val (.int i0), .val (.int i1), .val (.int i2), .val (.int i3), .val (.int i4), .val (.int i5), .val (.int (2 : Int32)), .val (.ref a12), .val (.int ((0 : Int32) + (fn2 i1))), .unset] rfl ?_
    refine o_iload 39 X17 hx rfl (hb hby at_37) rfl ?_
    refine o_iconst 40 X17 hx rfl (hb hby at_39) (1 : Int32) rfl ?_
    refine o_icmpNo 43 X17 hx rfl (hb hby at_40) (tlt (show (1 : Int32) < (2 : Int32) by decide)).2.2.2 ?_
    refine o_aload 45 X17 hx rfl (hb hby at_43) rfl rfl ?_
    refine o_iconst 46 X17 hx rfl (hb hby at_45) (1 : Int32) rfl ?_
    refine o_iloadN 47 X17 hx rfl (hb hby at_46) rfl ?_
    refine o_iastoreX 48 X17 hx rfl hZ e17 A15 (by decide) (Nat.le_of_ble_eq_true rfl) [i1, i2] rfl N15 ge13 (hb hby at_47) fun T18 h18 L18 X18 N18 e18 W18 A18 => ?_
    have sz19 : n0 ≤ h18.size := Nat.le_trans sz16 (Keep.of_wr W18).1
    refine o_iload 50 X18 hx rfl (hb hby at_48) rfl ?_
    refine o_iloadN 51 X18 hx rfl (hb hby at_50) rfl ?_
    refine o_callP (rv := (.int (fn2 i2))) 54 X18 hx rfl hZ hown (wd_6 hw) (wd_7 hw) (wd_8 hw) (wd_9 hw) (by decide) e18 (rm2 l Z a0 hw i2 h18) pd_lIrI [(.int i2)] [(.int ((0 : Int32) + (fn2 i1)))] rfl rfl (by rw [hml]; rfl) rfl (hb hby at_51) 1 (Nat.le_of_eq rfl) (by decide) (by decide) (by decide) (by decide) rfl rfl fun T20 X20 e20 => ?_
    refine o_iadd 55 X20 hx rfl (hb hby at_54) ?_
    refine o_istore 57 X20 hx rfl (hb hby at_55) #[.val (.int i0), .val (.int i1), .val (.int i2), .val (.int i3), .val (.int i4), .val (.int i5), .val (.int (2 : Int32)), .val (.ref a12), .val (.int (f0_55 i1 i2)), .unset] rfl ?_
    refine o_iload 59 X20 hx rfl (hb hby at_57) rfl ?_
    refine o_iconst 60 X20 hx rfl (hb hby at_59) (2 : Int32) rfl ?_
    refine o_icmpYes 77 X20 hx (hb hby at_60) (flt (show ¬ ((2 : Int32) < (2 : Int32)) by decide)).2.2.2 (by decide) (by decide) ?_
    refine o_iload 79 X20 hx rfl (hb hby at_77) rfl ?_
    refine o_iconst 80 X20 hx rfl (hb hby at_79) (3 : Int32) rfl ?_
    refine o_icmpYes 99 X20 hx (hb hby at_80) (flt (show ¬ ((3 : Int32) < (2 : Int32)) by decide)).2.2.2 (by decide) (by decide) ?_
    refine o_iload 101 X20 hx rfl (hb hby at_99) rfl ?_
    refine o_iconst 102 X20 hx rfl (hb hby at_101) (4 : Int32) rfl ?_
    refine o_icmpYes 121 X20 hx (hb hby at_102) (flt (show ¬ ((4 : Int32) < (2 : Int32)) by decide)).2.2.2 (by decide) (by decide) ?_
    refine o_aload 123 X20 hx rfl (hb hby at_121) rfl rfl ?_
    refine o_callP (rv := (.int (own_dv [i1, i2] 0))) 126 X20 hx rfl hZ hown (wd_2 hw) (wd_3 hw) (wd_4 hw) (wd_5 hw) (by decide) e20 (rm1 l Z a0 hw a12 k12 2 [i1, i2] h18 (by decide) rfl A18) pd_laIrI [(.ref a12)] [] rfl rfl (by rw [hml]; rfl) rfl (hb hby at_123) 0 (Nat.le_of_eq rfl) (by decide) (by decide) (by decide) (by decide) rfl rfl fun T21 X21 e21 => ?_
    refine o_istore 128 X21 hx rfl (hb hby at_126) #[.val (.int i0), .val (.int i1), .val (.int i2), .val (.int i3), .val (.int i4), .val (.int i5), .val (.int (2 : Int32)), .val (.ref a12), .val (.int (f0_55 i1 i2)), .val (.int (own_dv [i1, i2] 0))] rfl ?_
    refine o_iload 130 X21 hx rfl (hb hby at_128) rfl ?_
    refine o_iload 132 X21 hx rfl (hb hby at_130) rfl ?_
    refine o_icmpNo 135 X21 hx rfl (hb hby at_132) (teq (own_fin2 i1 i2)).2 ?_
    refine o_iconst 136 X21 hx rfl (hb hby at_135) (1 : Int32) rfl ?_
    refine o_goto 140 X21 hx (hb hby at_136) (by decide) (by decide) ?_
    refine o_retN X21 hx .boolean (by simp) hret hlk (hb hby at_140) (by decide) (by decide) ?_
    exact ⟨rfl, N18⟩
  · refine o_iload 11 X0 hx rfl (hb hby at_9) rfl ?_
    refine o_newarrI 13 X0 hx rfl hZ .int .int rfl rfl (wd_1 hw) e0 (hb hby at_11) (by decide) 3 (by decide) (by decide) (by decide) (by decide) [(0 : Int32), (0 : Int32), (0 : Int32)] rfl fun T22 h22 a22 k22 g22 X22 e22 E22 A22 => ?_
    have ge23 : n0 ≤ a22 := Nat.le_trans Z0 (Nat.le_of_eq g22.symm)
    have sz24 : n0 ≤ h22.size := Nat.le_trans Z0 E22.1
    refine o_astore 15 X22 hx rfl (hb hby at_13) rfl #[.val (.int i0), .val (.int i1), .val (.int i2), .val (.int i3), .val (.int i4), .val (.int i5), .val (.int (3 : Int32)), .val (.ref a22), .unset, .unset] rfl ?_
    refine o_iconst 16 X22 hx rfl (hb hby at_15) (0 : Int32) rfl ?_
    refine o_istore 18 X22 hx rfl (hb hby at_16) #[.val (.int i0), .val (.int i1), .val (.int i2), .val (.int i3), .val (.int i4), .val (.int i5), .val (.int (3 : Int32)), .val (.ref a22), .val (.int (0 : Int32)), .unset] rfl ?_
    refine o_iload 20 X22 hx rfl (hb hby at_18) rfl ?_
    refine o_ifNo 23 X22 hx rfl (hb hby at_20) (tlt (show (0 : Int32) < (3 : Int32) by decide)).2.2.2 ?_
    refine o_aload 25 X22 hx rfl (hb hby at_23) rfl rfl ?_
    refine o_iconst 26 X22 hx rfl (hb hby at_25) (0 : Int32) rfl ?_
    refine o_iloadN 27 X22 hx rfl (hb hby at_26) rfl ?_
    refine o_iastoreX 28 X22 hx rfl hZ e22 A22 (by decide) (Nat.le_of_ble_eq_true rfl) [i1, (0 : Int32), (0 : Int32)] rfl N0 ge23 (hb hby at_27) fun T25 h25 L25 X25 N25 e25 W25 A25 => ?_
    have sz26 : n0 ≤ h25.size := Nat.le_trans sz24 (Keep.of_wr W25).1
    refine o_iload 30 X25 hx rfl (hb hby at_28) rfl ?_
    refine o_iloadN 31 X25 hx rfl (hb hby at_30) rfl ?_
    refine o_callP (rv := (.int (fn2 i1))) 34 X25 hx rfl hZ hown (wd_6 hw) (wd_7 hw) (wd_8 hw) (wd_9 hw) (by decide) e25 (rm2 l Z a0 hw i1 h25) pd_lIrI [(.int i1)] [(.int (0 : Int32))] rfl rfl (by rw [hml]; rfl) rfl (hb hby at_31) 1 (Nat.le_of_eq rfl) (by decide) (by decide) (by decide) (by decide) rfl rfl fun T27 X27 e27 => ?_
    refine o_iadd 35 X27 hx rfl (hb hby at_34) ?_
    refine o_istore 37 X27 hx rfl (hb hby at_35) #[.val (.int i0), .val (.int i1), .val (.int i2), .val (.int i3), .val (.int i4), .val (.int i5), .val (.int (3 : Int32)), .val (.ref a22), .val (.int ((0 : Int32) + (fn2 i1))), .unset] rfl ?_
    refine o_iload 39 X27 hx rfl (hb hby at_37) rfl ?_
    refine o_iconst 40 X27 hx rfl (hb hby at_39) (1 : Int32) rfl ?_
    refine o_icmpNo 43 X27 hx rfl (hb hby at_40) (tlt (show (1 : Int32) < (3 : Int32) by decide)).2.2.2 ?_
    refine o_aload 45 X27 hx rfl (hb hby at_43) rfl rfl ?_
    refine o_iconst 46 X27 hx rfl (hb hby at_45) (1 : Int32) rfl ?_
    refine o_iloadN 47 X27 hx rfl (hb hby at_46) rfl ?_
    refine o_iastoreX 48 X27 hx rfl hZ e27 A25 (by decide) (Nat.le_of_ble_eq_true rfl) [i1, i2, (0 : Int32)] rfl N25 ge23 (hb hby at_47) fun T28 h28 L28 X28 N28 e28 W28 A28 => ?_
    have sz29 : n0 ≤ h28.size := Nat.le_trans sz26 (Keep.of_wr W28).1
    refine o_iload 50 X28 hx rfl (hb hby at_48) rfl ?_
    refine o_iloadN 51 X28 hx rfl (hb hby at_50) rfl ?_
    refine o_callP (rv := (.int (fn2 i2))) 54 X28 hx rfl hZ hown (wd_6 hw) (wd_7 hw) (wd_8 hw) (wd_9 hw) (by decide) e28 (rm2 l Z a0 hw i2 h28) pd_lIrI [(.int i2)] [(.int ((0 : Int32) + (fn2 i1)))] rfl rfl (by rw [hml]; rfl) rfl (hb hby at_51) 1 (Nat.le_of_eq rfl) (by decide) (by decide) (by decide) (by decide) rfl rfl fun T30 X30 e30 => ?_
    refine o_iadd 55 X30 hx rfl (hb hby at_54) ?_
    refine o_istore 57 X30 hx rfl (hb hby at_55) #[.val (.int i0), .val (.int i1), .val (.int i2), .val (.int i3), .val (.int i4), .val (.int i5), .val (.int (3 : Int32)), .val (.ref a22), .val (.int (f0_55' i1 i2)), .unset] rfl ?_
    refine o_iload 59 X30 hx rfl (hb hby at_57) rfl ?_
    refine o_iconst 60 X30 hx rfl (hb hby at_59) (2 : Int32) rfl ?_
    refine o_icmpNo 63 X30 hx rfl (hb hby at_60) (tlt (show (2 : Int32) < (3 : Int32) by decide)).2.2.2 ?_
    refine o_aload 65 X30 hx rfl (hb hby at_63) rfl rfl ?_
    refine o_iconst 66 X30 hx rfl (hb hby at_65) (2 : Int32) rfl ?_
    refine o_iloadN 67 X30 hx rfl (hb hby at_66) rfl ?_
    refine o_iastoreX 68 X30 hx rfl hZ e30 A28 (by decide) (Nat.le_of_ble_eq_true rfl) [i1, i2, i3] rfl N28 ge23 (hb hby at_67) fun T31 h31 L31 X31 N31 e31 W31 A31 => ?_
    have sz32 : n0 ≤ h31.size := Nat.le_trans sz29 (Keep.of_wr W31).1
    refine o_iload 70 X31 hx rfl (hb hby at_68) rfl ?_
    refine o_iloadN 71 X31 hx rfl (hb hby at_70) rfl ?_
    refine o_callP (rv := (.int (fn2 i3))) 74 X31 hx rfl hZ hown (wd_6 hw) (wd_7 hw) (wd_8 hw) (wd_9 hw) (by decide) e31 (rm2 l Z a0 hw i3 h31) pd_lIrI [(.int i3)] [(.int (f0_55' i1 i2))] rfl rfl (by rw [hml]; rfl) rfl (hb hby at_71) 1 (Nat.le_of_eq rfl) (by decide) (by decide) (by decide) (by decide) rfl rfl fun T33 X33 e33 => ?_
    refine o_iadd 75 X33 hx rfl (hb hby at_74) ?_
    refine o_istore 77 X33 hx rfl (hb hby at_75) #[.val (.int i0), .val (.int i1), .val (.int i2), .val (.int i3), .val (.int i4), .val (.int i5), .val (.int (3 : Int32)), .val (.ref a22), .val (.int (f0_75 i1 i2 i3)), .unset] rfl ?_
    refine o_iload 79 X33 hx rfl (hb hby at_77) rfl ?_
    refine o_iconst 80 X33 hx rfl (hb hby at_79) (3 : Int32) rfl ?_
    refine o_icmpYes 99 X33 hx (hb hby at_80) (flt (show ¬ ((3 : Int32) < (3 : Int32)) by decide)).2.2.2 (by decide) (by decide) ?_
    refine o_iload 101 X33 hx rfl (hb hby at_99) rfl ?_
    refine o_iconst 102 X33 hx rfl (hb hby at_101) (4 : Int32) rfl ?_
    refine o_icmpYes 121 X33 hx (hb hby at_102) (flt (show ¬ ((4 : Int32) < (3 : Int32)) by decide)).2.2.2 (by decide) (by decide) ?_
    refine o_aload 123 X33 hx rfl (hb hby at_121) rfl rfl ?_
    refine o_callP (rv := (.int (own_dv [i1, i2, i3] 0))) 126 X33 hx rfl hZ hown (wd_2 hw) (wd_3 hw) (wd_4 hw) (wd_5 hw) (by decide) e33 (rm1 l Z a0 hw a22 k22 3 [i1, i2, i3] h31 (by decide) rfl A31) pd_laIrI [(.ref a22)] [] rfl rfl (by rw [hml]; rfl) rfl (hb hby at_123) 0 (Nat.le_of_eq rfl) (by decide) (by decide) (by decide) (by decide) rfl rfl fun T34 X34 e34 => ?_
    refine o_istore 128 X34 hx rfl (hb hby at_126) #[.val (.int i0), .val (.int i1), .val (.int i2), .val (.int i3), .val (.int i4), .val (.int i5), .val (.int (3 : Int32)), .val (.ref a22), .val (.int (f0_75 i1 i2 i3)), .val (.int (own_dv [i1, i2, i3] 0))] rfl ?_
    refine o_iload 130 X34 hx rfl (hb hby at_128) rfl ?_
    refine o_iload 132 X34 hx rfl (hb hby at_130) rfl ?_
    refine o_icmpNo 135 X34 hx rfl (hb hby at_132) (teq (own_fin3 i1 i2 i3)).2 ?_
    refine o_iconst 136 X34 hx rfl (hb hby at_135) (1 : Int32) rfl ?_
    refine o_goto 140 X34 hx (hb hby at_136) (by decide) (by decide) ?_
    refine o_retN X34 hx .boolean (by simp) hret hlk (hb hby at_140) (by decide) (by decide) ?_
    exact ⟨rfl, N31⟩
  · refine o_iload 11 X0 hx rfl (hb hby at_9) rfl ?_
    refine o_newarrI 13 X0 hx rfl hZ .int .int rfl rfl (wd_1 hw) e0 (hb hby at_11) (by decide) 4 (by decide) (by decide) (by decide) (by decide) [(0 : Int32), (0 : Int32), (0 : Int32), (0 : Int32)] rfl fun T35 h35 a35 k35 g35 X35 e35 E35 A35 => ?_
    have ge36 : n0 ≤ a35 := Nat.le_trans Z0 (Nat.le_of_eq g35.symm)
    have sz37 : n0 ≤ h35.size := Nat.le_trans Z0 E35.1
    refine o_astore 15 X35 hx rfl (hb hby at_13) rfl #[.val (.int i0), .val (.int i1), .val (.int i2), .val (.int i3), .val (.int i4), .val (.int i5), .val (.int (4 : Int32)), .val (.ref a35), .unset, .unset] rfl ?_
    refine o_iconst 16 X35 hx rfl (hb hby at_15) (0 : Int32) rfl ?_
    refine o_istore 18 X35 hx rfl (hb hby at_16) #[.val (.int i0), .val (.int i1), .val (.int i2), .val (.int i3), .val (.int i4), .val (.int i5), .val (.int (4 : Int32)), .val (.ref a35), .val (.int (0 : Int32)), .unset] rfl ?_
    refine o_iload 20 X35 hx rfl (hb hby at_18) rfl ?_
    refine o_ifNo 23 X35 hx rfl (hb hby at_20) (tlt (show (0 : Int32) < (4 : Int32) by decide)).2.2.2 ?_
    refine o_aload 25 X35 hx rfl (hb hby at_23) rfl rfl ?_
    refine o_iconst 26 X35 hx rfl (hb hby at_25) (0 : Int32) rfl ?_
    refine o_iloadN 27 X35 hx rfl (hb hby at_26) rfl ?_
    refine o_iastoreX 28 X35 hx rfl hZ e35 A35 (by decide) (Nat.le_of_ble_eq_true rfl) [i1, (0 : Int32), (0 : Int32), (0 : Int32)] rfl N0 ge36 (hb hby at_27) fun T38 h38 L38 X38 N38 e38 W38 A38 => ?_
    have sz39 : n0 ≤ h38.size := Nat.le_trans sz37 (Keep.of_wr W38).1
    refine o_iload 30 X38 hx rfl (hb hby at_28) rfl ?_
    refine o_iloadN 31 X38 hx rfl (hb hby at_30) rfl ?_
    refine o_callP (rv := (.int (fn2 i1))) 34 X38 hx rfl hZ hown (wd_6 hw) (wd_7 hw) (wd_8 hw) (wd_9 hw) (by decide) e38 (rm2 l Z a0 hw i1 h38) pd_lIrI [(.int i1)] [(.int (0 : Int32))] rfl rfl (by rw [hml]; rfl) rfl (hb hby at_31) 1 (Nat.le_of_eq rfl) (by decide) (by decide) (by decide) (by decide) rfl rfl fun T40 X40 e40 => ?_
    refine o_iadd 35 X40 hx rfl (hb hby at_34) ?_
    refine o_istore 37 X40 hx rfl (hb hby at_35) #[.val (.int i0), .val (.int i1), .val (.int i2), .val (.int i3), .val (.int i4), .val (.int i5), .val (.int (4 : Int32)), .val (.ref a35), .val (.int ((0 : Int32) + (fn2 i1))), .unset] rfl ?_
    refine o_iload 39 X40 hx rfl (hb hby at_37) rfl ?_
    refine o_iconst 40 X40 hx rfl (hb hby at_39) (1 : Int32) rfl ?_
    refine o_icmpNo 43 X40 hx rfl (hb hby at_40) (tlt (show (1 : Int32) < (4 : Int32) by decide)).2.2.2 ?_
    refine o_aload 45 X40 hx rfl (hb hby at_43) rfl rfl ?_
    refine o_iconst 46 X40 hx rfl (hb hby at_45) (1 : Int32) rfl ?_
    refine o_iloadN 47 X40 hx rfl (hb hby at_46) rfl ?_
    refine o_iastoreX 48 X40 hx rfl hZ e40 A38 (by decide) (Nat.le_of_ble_eq_true rfl) [i1, i2, (0 : Int32), (0 : Int32)] rfl N38 ge36 (hb hby at_47) fun T41 h41 L41 X41 N41 e41 W41 A41 => ?_
    have sz42 : n0 ≤ h41.size := Nat.le_trans sz39 (Keep.of_wr W41).1
    refine o_iload 50 X41 hx rfl (hb hby at_48) rfl ?_
    refine o_iloadN 51 X41 hx rfl (hb hby at_50) rfl ?_
    refine o_callP (rv := (.int (fn2 i2))) 54 X41 hx rfl hZ hown (wd_6 hw) (wd_7 hw) (wd_8 hw) (wd_9 hw) (by decide) e41 (rm2 l Z a0 hw i2 h41) pd_lIrI [(.int i2)] [(.int ((0 : Int32) + (fn2 i1)))] rfl rfl (by rw [hml]; rfl) rfl (hb hby at_51) 1 (Nat.le_of_eq rfl) (by decide) (by decide) (by decide) (by decide) rfl rfl fun T43 X43 e43 => ?_
    refine o_iadd 55 X43 hx rfl (hb hby at_54) ?_
    refine o_istore 57 X43 hx rfl (hb hby at_55) #[.val (.int i0), .val (.int i1), .val (.int i2), .val (.int i3), .val (.int i4), .val (.int i5), .val (.int (4 : Int32)), .val (.ref a35), .val (.int (f0_55'' i1 i2)), .unset] rfl ?_
    refine o_iload 59 X43 hx rfl (hb hby at_57) rfl ?_
    refine o_iconst 60 X43 hx rfl (hb hby at_59) (2 : Int32) rfl ?_
    refine o_icmpNo 63 X43 hx rfl (hb hby at_60) (tlt (show (2 : Int32) < (4 : Int32) by decide)).2.2.2 ?_
    refine o_aload 65 X43 hx rfl (hb hby at_63) rfl rfl ?_
    refine o_iconst 66 X43 hx rfl (hb hby at_65) (2 : Int32) rfl ?_
    refine o_iloadN 67 X43 hx rfl (hb hby at_66) rfl ?_
    refine o_iastoreX 68 X43 hx rfl hZ e43 A41 (by decide) (Nat.le_of_ble_eq_true rfl) [i1, i2, i3, (0 : Int32)] rfl N41 ge36 (hb hby at_67) fun T44 h44 L44 X44 N44 e44 W44 A44 => ?_
    have sz45 : n0 ≤ h44.size := Nat.le_trans sz42 (Keep.of_wr W44).1
    refine o_iload 70 X44 hx rfl (hb hby at_68) rfl ?_
    refine o_iloadN 71 X44 hx rfl (hb hby at_70) rfl ?_
    refine o_callP (rv := (.int (fn2 i3))) 74 X44 hx rfl hZ hown (wd_6 hw) (wd_7 hw) (wd_8 hw) (wd_9 hw) (by decide) e44 (rm2 l Z a0 hw i3 h44) pd_lIrI [(.int i3)] [(.int (f0_55'' i1 i2))] rfl rfl (by rw [hml]; rfl) rfl (hb hby at_71) 1 (Nat.le_of_eq rfl) (by decide) (by decide) (by decide) (by decide) rfl rfl fun T46 X46 e46 => ?_
    refine o_iadd 75 X46 hx rfl (hb hby at_74) ?_
    refine o_istore 77 X46 hx rfl (hb hby at_75) #[.val (.int i0), .val (.int i1), .val (.int i2), .val (.int i3), .val (.int i4), .val (.int i5), .val (.int (4 : Int32)), .val (.ref a35), .val (.int (f0_75' i1 i2 i3)), .unset] rfl ?_
    refine o_iload 79 X46 hx rfl (hb hby at_77) rfl ?_
    refine o_iconst 80 X46 hx rfl (hb hby at_79) (3 : Int32) rfl ?_
    refine o_icmpNo 83 X46 hx rfl (hb hby at_80) (tlt (show (3 : Int32) < (4 : Int32) by decide)).2.2.2 ?_
    refine o_aload 85 X46 hx rfl (hb hby at_83) rfl rfl ?_
    refine o_iconst 86 X46 hx rfl (hb hby at_85) (3 : Int32) rfl ?_
    refine o_iload 88 X46 hx rfl (hb hby at_86) rfl ?_
    refine o_iastoreX 89 X46 hx rfl hZ e46 A44 (by decide) (Nat.le_of_ble_eq_true rfl) [i1, i2, i3, i4] rfl N44 ge36 (hb hby at_88) fun T47 h47 L47 X47 N47 e47 W47 A47 => ?_
    have sz48 : n0 ≤ h47.size := Nat.le_trans sz45 (Keep.of_wr W47).1
    refine o_iload 91 X47 hx rfl (hb hby at_89) rfl ?_
    refine o_iload 93 X47 hx rfl (hb hby at_91) rfl ?_
    refine o_callP (rv := (.int (fn2 i4))) 96 X47 hx rfl hZ hown (wd_6 hw) (wd_7 hw) (wd_8 hw) (wd_9 hw) (by decide) e47 (rm2 l Z a0 hw i4 h47) pd_lIrI [(.int i4)] [(.int (f0_75' i1 i2 i3))] rfl rfl (by rw [hml]; rfl) rfl (hb hby at_93) 1 (Nat.le_of_eq rfl) (by decide) (by decide) (by decide) (by decide) rfl rfl fun T49 X49 e49 => ?_
    refine o_iadd 97 X49 hx rfl (hb hby at_96) ?_
    refine o_istore 99 X49 hx rfl (hb hby at_97) #[.val (.int i0), .val (.int i1), .val (.int i2), .val (.int i3), .val (.int i4), .val (.int i5), .val (.int (4 : Int32)), .val (.ref a35), .val (.int (f0_97 i1 i2 i3 i4)), .unset] rfl ?_
    refine o_iload 101 X49 hx rfl (hb hby at_99) rfl ?_
    refine o_iconst 102 X49 hx rfl (hb hby at_101) (4 : Int32) rfl ?_
    refine o_icmpYes 121 X49 hx (hb hby at_102) (flt (show ¬ ((4 : Int32) < (4 : Int32)) by decide)).2.2.2 (by decide) (by decide) ?_
    refine o_aload 123 X49 hx rfl (hb hby at_121) rfl rfl ?_
    refine o_callP (rv := (.int (own_dv [i1, i2, i3, i4] 0))) 126 X49 hx rfl hZ hown (wd_2 hw) (wd_3 hw) (wd_4 hw) (wd_5 hw) (by decide) e49 (rm1 l Z a0 hw a35 k35 4 [i1, i2, i3, i4] h47 (by decide) rfl A47) pd_laIrI [(.ref a35)] [] rfl rfl (by rw [hml]; rfl) rfl (hb hby at_123) 0 (Nat.le_of_eq rfl) (by decide) (by decide) (by decide) (by decide) rfl rfl fun T50 X50 e50 => ?_
    refine o_istore 128 X50 hx rfl (hb hby at_126) #[.val (.int i0), .val (.int i1), .val (.int i2), .val (.int i3), .val (.int i4), .val (.int i5), .val (.int (4 : Int32)), .val (.ref a35), .val (.int (f0_97 i1 i2 i3 i4)), .val (.int (f0_126' i1 i2 i3 i4))] rfl ?_
    refine o_iload 130 X50 hx rfl (hb hby at_128) rfl ?_
    refine o_iload 132 X50 hx rfl (hb hby at_130) rfl ?_
    refine o_icmpNo 135 X50 hx rfl (hb hby at_132) (teq (own_fin4 i1 i2 i3 i4)).2 ?_
    refine o_iconst 136 X50 hx rfl (hb hby at_135) (1 : Int32) rfl ?_
    refine o_goto 140 X50 hx (hb hby at_136) (by decide) (by decide) ?_
    refine o_retN X50 hx .boolean (by simp) hret hlk (hb hby at_140) (by decide) (by decide) ?_
    exact ⟨rfl, N47⟩
  · refine o_iload 11 X0 hx rfl (hb hby at_9) rfl ?_
    refine o_newarrI 13 X0 hx rfl hZ .int .int rfl rfl (wd_1 hw) e0 (hb hby at_11) (by decide) 5 (by decide) (by decide) (by decide) (by decide) [(0 : Int32), (0 : Int32), (0 : Int32), (0 : Int32), (0 : Int32)] rfl fun T51 h51 a51 k51 g51 X51 e51 E51 A51 => ?_
    have ge52 : n0 ≤ a51 := Nat.le_trans Z0 (Nat.le_of_eq g51.symm)
    have sz53 : n0 ≤ h51.size := Nat.le_trans Z0 E51.1
    refine o_astore 15 X51 hx rfl (hb hby at_13) rfl #[.val (.int i0), .val (.int i1), .val (.int i2), .val (.int i3), .val (.int i4), .val (.int i5), .val (.int (5 : Int32)), .val (.ref a51), .unset, .unset] rfl ?_
    refine o_iconst 16 X51 hx rfl (hb hby at_15) (0 : Int32) rfl ?_
    refine o_istore 18 X51 hx rfl (hb hby at_16) #[.val (.int i0), .val (.int i1), .val (.int i2), .val (.int i3), .val (.int i4), .val (.int i5), .val (.int (5 : Int32)), .val (.ref a51), .val (.int (0 : Int32)), .unset] rfl ?_
    refine o_iload 20 X51 hx rfl (hb hby at_18) rfl ?_
    refine o_ifNo 23 X51 hx rfl (hb hby at_20) (tlt (show (0 : Int32) < (5 : Int32) by decide)).2.2.2 ?_
    refine o_aload 25 X51 hx rfl (hb hby at_23) rfl rfl ?_
    refine o_iconst 26 X51 hx rfl (hb hby at_25) (0 : Int32) rfl ?_
    refine o_iloadN 27 X51 hx rfl (hb hby at_26) rfl ?_
    refine o_iastoreX 28 X51 hx rfl hZ e51 A51 (by decide) (Nat.le_of_ble_eq_true rfl) [i1, (0 : Int32), (0 : Int32), (0 : Int32), (0 : Int32)] rfl N0 ge52 (hb hby at_27) fun T54 h54 L54 X54 N54 e54 W54 A54 => ?_
    have sz55 : n0 ≤ h54.size := Nat.le_trans sz53 (Keep.of_wr W54).1
    refine o_iload 30 X54 hx rfl (hb hby at_28) rfl ?_
    refine o_iloadN 31 X54 hx rfl (hb hby at_30) rfl ?_
    refine o_callP (rv := (.int (fn2 i1))) 34 X54 hx rfl hZ hown (wd_6 hw) (wd_7 hw) (wd_8 hw) (wd_9 hw) (by decide) e54 (rm2 l Z a0 hw i1 h54) pd_lIrI [(.int i1)] [(.int (0 : Int32))] rfl rfl (by rw [hml]; rfl) rfl (hb hby at_31) 1 (Nat.le_of_eq rfl) (by decide) (by decide) (by decide) (by decide) rfl rfl fun T56 X56 e56 => ?_
    refine o_iadd 35 X56 hx rfl (hb hby at_34) ?_
    refine o_istore 37 X56 hx rfl (hb hby at_35) #[.val (.int i0), .val (.int i1), .val (.int i2), .val (.int i3), .val (.int i4), .val (.int i5), .val (.int (5 : Int32)), .val (.ref a51), .val (.int ((0 : Int32) + (fn2 i1))), .unset] rfl ?_
    refine o_iload 39 X56 hx rfl (hb hby at_37) rfl ?_
    refine o_iconst 40 X56 hx rfl (hb hby at_39) (1 : Int32) rfl ?_
    refine o_icmpNo 43 X56 hx rfl (hb hby at_40) (tlt (show (1 : Int32) < (5 : Int32) by decide)).2.2.2 ?_
    refine o_aload 45 X56 hx rfl (hb hby at_43) rfl rfl ?_
    refine o_iconst 46 X56 hx rfl (hb hby at_45) (1 : Int32) rfl ?_
    refine o_iloadN 47 X56 hx rfl (hb hby at_46) rfl ?_
    refine o_iastoreX 48 X56 hx rfl hZ e56 A54 (by decide) (Nat.le_of_ble_eq_true rfl) [i1, i2, (0 : Int32), (0 : Int32), (0 : Int32)] rfl N54 ge52 (hb hby at_47) fun T57 h57 L57 X57 N57 e57 W57 A57 => ?_
    have sz58 : n0 ≤ h57.size := Nat.le_trans sz55 (Keep.of_wr W57).1
    refine o_iload 50 X57 hx rfl (hb hby at_48) rfl ?_
    refine o_iloadN 51 X57 hx rfl (hb hby at_50) rfl ?_
    refine o_callP (rv := (.int (fn2 i2))) 54 X57 hx rfl hZ hown (wd_6 hw) (wd_7 hw) (wd_8 hw) (wd_9 hw) (by decide) e57 (rm2 l Z a0 hw i2 h57) pd_lIrI [(.int i2)] [(.int ((0 : Int32) + (fn2 i1)))] rfl rfl (by rw [hml]; rfl) rfl (hb hby at_51) 1 (Nat.le_of_eq rfl) (by decide) (by decide) (by decide) (by decide) rfl rfl fun T59 X59 e59 => ?_
    refine o_iadd 55 X59 hx rfl (hb hby at_54) ?_
    refine o_istore 57 X59 hx rfl (hb hby at_55) #[.val (.int i0), .val (.int i1), .val (.int i2), .val (.int i3), .val (.int i4), .val (.int i5), .val (.int (5 : Int32)), .val (.ref a51), .val (.int (f0_55''' i1 i2)), .unset] rfl ?_
    refine o_iload 59 X59 hx rfl (hb hby at_57) rfl ?_
    refine o_iconst 60 X59 hx rfl (hb hby at_59) (2 : Int32) rfl ?_
    refine o_icmpNo 63 X59 hx rfl (hb hby at_60) (tlt (show (2 : Int32) < (5 : Int32) by decide)).2.2.2 ?_
    refine o_aload 65 X59 hx rfl (hb hby at_63) rfl rfl ?_
    refine o_iconst 66 X59 hx rfl (hb hby at_65) (2 : Int32) rfl ?_
    refine o_iloadN 67 X59 hx rfl (hb hby at_66) rfl ?_
    refine o_iastoreX 68 X59 hx rfl hZ e59 A57 (by decide) (Nat.le_of_ble_eq_true rfl) [i1, i2, i3, (0 : Int32), (0 : Int32)] rfl N57 ge52 (hb hby at_67) fun T60 h60 L60 X60 N60 e60 W60 A60 => ?_
    have sz61 : n0 ≤ h60.size := Nat.le_trans sz58 (Keep.of_wr W60).1
    refine o_iload 70 X60 hx rfl (hb hby at_68) rfl ?_
    refine o_iloadN 71 X60 hx rfl (hb hby at_70) rfl ?_
    refine o_callP (rv := (.int (fn2 i3))) 74 X60 hx rfl hZ hown (wd_6 hw) (wd_7 hw) (wd_8 hw) (wd_9 hw) (by decide) e60 (rm2 l Z a0 hw i3 h60) pd_lIrI [(.int i3)] [(.int (f0_55''' i1 i2))] rfl rfl (by rw [hml]; rfl) rfl (hb hby at_71) 1 (Nat.le_of_eq rfl) (by decide) (by decide) (by decide) (by decide) rfl rfl fun T62 X62 e62 => ?_
    refine o_iadd 75 X62 hx rfl (hb hby at_74) ?_
    refine o_istore 77 X62 hx rfl (hb hby at_75) #[.val (.int i0), .val (.int i1), .val (.int i2), .val (.int i3), .val (.int i4), .val (.int i5), .val (.int (5 : Int32)), .val (.ref a51), .val (.int (f0_75'' i1 i2 i3)), .unset] rfl ?_
    refine o_iload 79 X62 hx rfl (hb hby at_77) rfl ?_
    refine o_iconst 80 X62 hx rfl (hb hby at_79) (3 : Int32) rfl ?_
    refine o_icmpNo 83 X62 hx rfl (hb hby at_80) (tlt (show (3 : Int32) < (5 : Int32) by decide)).2.2.2 ?_
    refine o_aload 85 X62 hx rfl (hb hby at_83) rfl rfl ?_
    refine o_iconst 86 X62 hx rfl (hb hby at_85) (3 : Int32) rfl ?_
    refine o_iload 88 X62 hx rfl (hb hby at_86) rfl ?_
    refine o_iastoreX 89 X62 hx rfl hZ e62 A60 (by decide) (Nat.le_of_ble_eq_true rfl) [i1, i2, i3, i4, (0 : Int32)] rfl N60 ge52 (hb hby at_88) fun T63 h63 L63 X63 N63 e63 W63 A63 => ?_
    have sz64 : n0 ≤ h63.size := Nat.le_trans sz61 (Keep.of_wr W63).1
    refine o_iload 91 X63 hx rfl (hb hby at_89) rfl ?_
    refine o_iload 93 X63 hx rfl (hb hby at_91) rfl ?_
    refine o_callP (rv := (.int (fn2 i4))) 96 X63 hx rfl hZ hown (wd_6 hw) (wd_7 hw) (wd_8 hw) (wd_9 hw) (by decide) e63 (rm2 l Z a0 hw i4 h63) pd_lIrI [(.int i4)] [(.int (f0_75'' i1 i2 i3))] rfl rfl (by rw [hml]; rfl) rfl (hb hby at_93) 1 (Nat.le_of_eq rfl) (by decide) (by decide) (by decide) (by decide) rfl rfl fun T65 X65 e65 => ?_
    refine o_iadd 97 X65 hx rfl (hb hby at_96) ?_
    refine o_istore 99 X65 hx rfl (hb hby at_97) #[.val (.int i0), .val (.int i1), .val (.int i2), .val (.int i3), .val (.int i4), .val (.int i5), .val (.int (5 : Int32)), .val (.ref a51), .val (.int (f0_97' i1 i2 i3 i4)), .unset] rfl ?_
    refine o_iload 101 X65 hx rfl (hb hby at_99) rfl ?_
    refine o_iconst 102 X65 hx rfl (hb hby at_101) (4 : Int32) rfl ?_
    refine o_icmpNo 105 X65 hx rfl (hb hby at_102) (tlt (show (4 : Int32) < (5 : Int32) by decide)).2.2.2 ?_
    refine o_aload 107 X65 hx rfl (hb hby at_105) rfl rfl ?_
    refine o_iconst 108 X65 hx rfl (hb hby at_107) (4 : Int32) rfl ?_
    refine o_iload 110 X65 hx rfl (hb hby at_108) rfl ?_
    refine o_iastoreX 111 X65 hx rfl hZ e65 A63 (by decide) (Nat.le_of_ble_eq_true rfl) [i1, i2, i3, i4, i5] rfl N63 ge52 (hb hby at_110) fun T66 h66 L66 X66 N66 e66 W66 A66 => ?_
    have sz67 : n0 ≤ h66.size := Nat.le_trans sz64 (Keep.of_wr W66).1
    refine o_iload 113 X66 hx rfl (hb hby at_111) rfl ?_
    refine o_iload 115 X66 hx rfl (hb hby at_113) rfl ?_
    refine o_callP (rv := (.int (fn2 i5))) 118 X66 hx rfl hZ hown (wd_6 hw) (wd_7 hw) (wd_8 hw) (wd_9 hw) (by decide) e66 (rm2 l Z a0 hw i5 h66) pd_lIrI [(.int i5)] [(.int (f0_97' i1 i2 i3 i4))] rfl rfl (by rw [hml]; rfl) rfl (hb hby at_115) 1 (Nat.le_of_eq rfl) (by decide) (by decide) (by decide) (by decide) rfl rfl fun T68 X68 e68 => ?_
    refine o_iadd 119 X68 hx rfl (hb hby at_118) ?_
    refine o_istore 121 X68 hx rfl (hb hby at_119) #[.val (.int i0), .val (.int i1), .val (.int i2), .val (.int i3), .val (.int i4), .val (.int i5), .val (.int (5 : Int32)), .val (.ref a51), .val (.int (f0_119 i1 i2 i3 i4 i5)), .unset] rfl ?_
    refine o_aload 123 X68 hx rfl (hb hby at_121) rfl rfl ?_
    refine o_callP (rv := (.int (own_dv [i1, i2, i3, i4, i5] 0))) 126 X68 hx rfl hZ hown (wd_2 hw) (wd_3 hw) (wd_4 hw) (wd_5 hw) (by decide) e68 (rm1 l Z a0 hw a51 k51 5 [i1, i2, i3, i4, i5] h66 (by decide) rfl A66) pd_laIrI [(.ref a51)] [] rfl rfl (by rw [hml]; rfl) rfl (hb hby at_123) 0 (Nat.le_of_eq rfl) (by decide) (by decide) (by decide) (by decide) rfl rfl fun T69 X69 e69 => ?_
    refine o_istore 128 X69 hx rfl (hb hby at_126) #[.val (.int i0), .val (.int i1), .val (.int i2), .val (.int i3), .val (.int i4), .val (.int i5), .val (.int (5 : Int32)), .val (.ref a51), .val (.int (f0_119 i1 i2 i3 i4 i5)), .val (.int (f0_126'' i1 i2 i3 i4 i5))] rfl ?_
    refine o_iload 130 X69 hx rfl (hb hby at_128) rfl ?_
    refine o_iload 132 X69 hx rfl (hb hby at_130) rfl ?_
    refine o_icmpNo 135 X69 hx rfl (hb hby at_132) (teq (own_fin5 i1 i2 i3 i4 i5)).2 ?_
    refine o_iconst 136 X69 hx rfl (hb hby at_135) (1 : Int32) rfl ?_
    refine o_goto 140 X69 hx (hb hby at_136) (by decide) (by decide) ?_
    refine o_retN X69 hx .boolean (by simp) hret hlk (hb hby at_140) (by decide) (by decide) ?_
    exact ⟨rfl, N66⟩
set_option maxRecDepth 65536 in
set_option maxHeartbeats 40000000 in
theorem comes_1 {Post : Tables → Env → Array Value → State → Outcome → State → Prop} (hpost : ∀ tb e args s v u, (limb_1_1.after args s (.returned v) u = true ∧ limb_1_2.after args s (.returned v) u = true ∧ True) → FrameEnd s (.returned v) u (Jvm.fieldLocs frame_1_writes args s ++ Jvm.arrayLocs frame_1_arrays args s ++ Jvm.staticLocs frame_1_statics s) 16 128 → Post tb e args s (.returned v) u) :
    ArmFor flags0 classFile x code maxLocals ret World_1 tables_1 room_1 Calls_1 rest_1 Pre_1 Post := by
  intro l hfl _ _ p e ha hc hk s m args below hf hA hF happ hP
  obtain ⟨hcalls, hrest, hpre⟩ := hP
  obtain ⟨-, -, -, hnamed, -, -, -, hat⟩ := (Spec.applies_iff hf).mp happ
  obtain ⟨hg, hn⟩ := and_e (Cond.before_iff.mp (show (Jvm.Cond.and given_1 narrow_1).before args s = true from hpre))
  obtain ⟨gc, g0⟩ := and_e hg
  obtain ⟨ga0, g1⟩ := and_e g0
  obtain ⟨ga1, g2⟩ := and_e g1
  obtain ⟨ga2, g3⟩ := and_e g2
  obtain ⟨ga3, g4⟩ := and_e g3
  obtain ⟨ga4, g5⟩ := and_e g4
  obtain ⟨w0, w1, w2, w3, w4, w5, rfl⟩ : ∃ w0 w1 w2 w3 w4 w5 : Value, args = #[w0, w1, w2, w3, w4, w5] := by
    have hs : args.size = 6 := by simpa [Cond.value, given_1] using gc
    obtain ⟨L⟩ := args
    match L, hs with
    | [w0, w1, w2, w3, w4, w5], _ => exact ⟨w0, w1, w2, w3, w4, w5, rfl⟩
  have hw := fun d (hd : d ∈ tables_1) => atoms_spec (ws := Jvm.Cond.code x code maxLocals ret :: tables_1) hat d (List.mem_cons_of_mem _ hd)
  obtain ⟨i0, ei0⟩ := is_v ga0
  obtain rfl : w0 = (.int i0) := Option.some.inj ei0
  obtain ⟨i1, ei1⟩ := is_v ga1
  obtain rfl : w1 = (.int i1) := Option.some.inj ei1
  obtain ⟨i2, ei2⟩ := is_v ga2
  obtain rfl : w2 = (.int i2) := Option.some.inj ei2
  obtain ⟨i3, ei3⟩ := is_v ga3
  obtain rfl : w3 = (.int i3) := Option.some.inj ei3
  obtain ⟨i4, ei4⟩ := is_v ga4
  obtain rfl : w4 = (.int i4) := Option.some.inj ei4
  obtain ⟨i5, ei5⟩ := is_v g5
  obtain rfl : w5 = (.int i5) := Option.some.inj ei5
  obtain ⟨n, o, h1, h2, h3, _, L, rfl, ⟨rfl, N⟩, hq⟩ := rm0 l s _ hw tables_1 i0 i1 i2 i3 i4 i5 s.heap s.heap.size (Nat.le_refl _) p e ha hc hk s m _ below hf ((Spec.applies_iff_loose hf).mp happ).1 ⟨rfl, State.Warmed39.refl s, rfl⟩ trivial
  refine ⟨n, _, h1, h2, h3, hpost _ _ _ _ _ _ ⟨Cond.after_iff.mpr rfl, Cond.after_iff.mpr (eq_i res_at (Term.int_eval (1)) rfl), trivial⟩ ⟨hq.1, hq.2.1, (hq.2.2.sift fun y hy => Or.inr (N y hy)).mono (by decide) (by decide)⟩⟩
theorem main_1_1 : Claimed_1_1 := comes_1 fun _ _ _ _ _ _ h hF => ⟨h.1, hF⟩
theorem main_1_2 : Claimed_1_2 := comes_1 fun _ _ _ _ _ _ h hF => ⟨h.2.1, hF⟩
end Jvm.Pilot.@@N@@
namespace Jvm.Pilot.@@N@@
open Jvm Jvm.ClassFile Sem Op Lib Jvm.Free Jvm.Stand Jvm.Pilot.@@N@@.Jvm.D
/-! MADE BY PROGRAM (witnessworld.py) out of the Statement's table words and the real class files: 9 classes; the members and pool entries that the words name. The judged class is class 1, her method 2. -/
namespace start1
open Jvm.ClassFile
def u (s : String) : CpInfo := .utf8 (stringToUtf16 s)
/-- a pool by its gaps: so many unusable entries, then the entry; so many at the end -/
def gap : Nat → List CpInfo → List CpInfo
  | 0, r => r
  | n + 1, r => .unusable :: gap n r
def poolList (es : List (Nat × CpInfo)) (last : Nat) : List CpInfo := es.foldr (fun e r => gap e.1 (e.2 :: r)) (gap last [])
def pool (es : List (Nat × CpInfo)) (last : Nat) : Array CpInfo := ⟨poolList es last⟩
def fileOf (pool : Array CpInfo) (this : Nat) (attrs : Array Attribute := #[]) (ms : Array MethodInfo := #[]) (fl : Nat := 33) (sup : Nat := 0) (ifs : Array Nat := #[]) (fds : Array FieldInfo := #[]) : ClassFile where
  minorVersion := 0
  majorVersion := 65
  constantPool := pool
  accessFlags := fl
  thisClass := this
  superClass := sup
  interfaces := ifs
  fields := fds
  methods := ms
  attributes := attrs
def plain (name : String) (sup : Option ClassId) : Class where
  name := name
  kind := .ordinary
  loader := none
  accessFlags := 33
  super := sup
  interfaces := #[]
  cf := none
  fields := #[]
  methods := #[]
  instanceTypes := #[]
  staticTypes := #[]
  resolved := #[]
  callSites := []
  init := .initialized
  statics := none
  mirror := none

def pool0 : Array CpInfo := pool [(5, u "<init>"), (0, u "()V"), (1, .class_ 10), (1, u "java/lang/Object")] 113

def k0m0 : Method := { name := "<init>", desc := "()V", sig := { parameters := [], returnType := none }, accessFlags := 1, code := none }
/-- java/lang/Object -/
def k0 : Class := { plain "java/lang/Object" none with
  accessFlags := 33
  interfaces := #[]
  cf := some (fileOf pool0 8 #[] #[{ accessFlags := 1, nameIndex := 5, descriptorIndex := 6, attributes := #[] }] 33 0 #[] #[])
  fields := #[]
  methods := #[k0m0]
  instanceTypes := #[]
  staticTypes := #[]
  resolved := Array.replicate 124 none
  statics := none }

def pool1 : Array CpInfo := pool [(2, .class_ 4), (1, u "java/lang/Object"), (0, u "<init>"), (0, u "()V"), (0, .integer 2147483647), (0, .methodref 9 10), (0, .class_ 11), (0, .nameAndType 12 13), (0, u "com/example/discernibility/discernibility/PartitionDiversityPinLaw"), (0, u "pos"), (0, u "(I)I"), (0, .interfaceMethodref 15 16), (0, .class_ 17), (0, .nameAndType 18 19), (0, u "com/example/discernibility/discernibility/Partition"), (0, u "diversity"), (0, u "([I)I"), (3, u "law"), (0, u "(IIIIII)Z")] 4

def k1m0 : Method := { name := "<init>", desc := "()V", sig := { parameters := [], returnType := none }, accessFlags := 1, code := none }
def k1c1 : Code := { maxStack := 1, maxLocals := 1, code := method_2_code, exceptionTable := #[], attributes := #[] }
def k1m1 : Method := { name := "pos", desc := "(I)I", sig := { parameters := [.int], returnType := some .int }, accessFlags := 10, code := some k1c1 }
def k1c2 : Code := { maxStack := 3, maxLocals := 10, code := code, exceptionTable := #[], attributes := #[] }
def k1m2 : Method := { name := "law", desc := "(IIIIII)Z", sig := { parameters := [.int, .int, .int, .int, .int, .int], returnType := some .boolean }, accessFlags := 9, code := some k1c2 }
/-- com/example/discernibility/discernibility/PartitionDiversityPinLaw -/
def k1 : Class := { plain "com/example/discernibility/discernibility/PartitionDiversityPinLaw" (some 0) with
  accessFlags := 49
  interfaces := #[]
  cf := some (fileOf pool1 9 #[] #[{ accessFlags := 1, nameIndex := 5, descriptorIndex := 6, attributes := #[] }, { accessFlags := 10, nameIndex := 12, descriptorIndex := 13, attributes := #[] }, { accessFlags := 9, nameIndex := 23, descriptorIndex := 24, attributes := #[] }] 49 2 #[] #[])
  fields := #[]
  methods := #[k1m0, k1m1, k1m2]
  instanceTypes := #[]
  staticTypes := #[]
  resolved := Array.replicate 29 none
  statics := none }

def pool2 : Array CpInfo := pool [(2, .class_ 4), (1, u "com/example/discernibility/discernibility/Partition"), (4, u "diversity"), (0, u "([I)I"), (0, .class_ 12), (0, u "java/lang/Object")] 29

def k2c0 : Code := { maxStack := 2, maxLocals := 6, code := prog_26_method_10_code, exceptionTable := #[], attributes := #[] }
def k2m0 : Method := { name := "diversity", desc := "([I)I", sig := { parameters := [(.array .int)], returnType := some .int }, accessFlags := 9, code := some k2c0 }
/-- com/example/discernibility/discernibility/Partition -/
def k2 : Class := { plain "com/example/discernibility/discernibility/Partition" (some 0) with
  accessFlags := 1537
  interfaces := #[]
  cf := some (fileOf pool2 2 #[] #[{ accessFlags := 9, nameIndex := 9, descriptorIndex := 10, attributes := #[] }] 1537 11 #[] #[])
  fields := #[]
  methods := #[k2m0]
  instanceTypes := #[]
  staticTypes := #[]
  resolved := Array.replicate 42 none
  statics := none }

def pool3 : Array CpInfo := pool [(1, u "java/lang/Cloneable"), (0, .class_ 1), (0, u "java/lang/Object"), (0, .class_ 3)] 3

/-- java/lang/Cloneable -/
def k3 : Class := { plain "java/lang/Cloneable" (some 0) with
  accessFlags := 1537
  interfaces := #[]
  cf := some (fileOf pool3 2 #[] #[] 1537 4 #[] #[])
  fields := #[]
  methods := #[]
  instanceTypes := #[]
  staticTypes := #[]
  resolved := Array.replicate 8 none
  statics := none }

def pool4 : Array CpInfo := pool [(1, u "java/io/Serializable"), (0, .class_ 1), (0, u "java/lang/Object"), (0, .class_ 3)] 3

/-- java/io/Serializable -/
def k4 : Class := { plain "java/io/Serializable" (some 0) with
  accessFlags := 1537
  interfaces := #[]
  cf := some (fileOf pool4 2 #[] #[] 1537 4 #[] #[])
  fields := #[]
  methods := #[]
  instanceTypes := #[]
  staticTypes := #[]
  resolved := Array.replicate 8 none
  statics := none }

/-- the primitive byte -/
def k5 : Class := { plain "byte" none with kind := .primitive 'B', accessFlags := 0x411 }
/-- [B -/
def k6 : Class := { plain "[B" (some 0) with kind := .array 5 .byte, interfaces := #[3, 4], accessFlags := 1041 }

/-- the primitive int -/
def k7 : Class := { plain "int" none with kind := .primitive 'I', accessFlags := 0x411 }
/-- [I -/
def k8 : Class := { plain "[I" (some 0) with kind := .array 7 .int, interfaces := #[3, 4], accessFlags := 1041 }

def heap : Heap := #[]
def classes : Array Class := #[k0, k1, k2, k3, k4, k5, k6, k7, k8]
def interned : List (Array UInt16 × Addr) := []
def slotsUsed : Nat := 0
def theMethod : MethodId := ⟨1, 2⟩
def args0 : Array Value := #[.int 5, .int 5, .int 5, .int 5, .int 5, .int 5]
def aboutOver (below : List Frame) : State where
  vm := { classes := classes, interned := interned.toArray }
  heap := heap
  slotsUsed := slotsUsed
  threads := #[{ frames := .invoking theMethod args0 :: below }]
def below0 : List Frame := [.native { method := ⟨0, 0⟩, args := #[] }]
def about1 : State := aboutOver below0
def p0 : Program := .bare "" "" ""
def e0 : Env := launch0.env 0 0 0
theorem w_frames : about1.frames = Frame.invoking theMethod args0 :: below0 := rfl
set_option maxRecDepth 65536 in
theorem w_args : argsFit about1.vm theMethod args0 = true := by decide +kernel
set_option maxRecDepth 65536 in
theorem w_heap : heapFits about1 = true := by decide +kernel
set_option maxRecDepth 65536 in
theorem w_runnable : about1.curStatus? = some .runnable := by decide +kernel
set_option maxRecDepth 65536 in
theorem w_alone : about1.alone = true := by decide +kernel
set_option maxRecDepth 65536 in
theorem w_named : about1.methodNamed? x = some theMethod := by decide +kernel
set_option maxRecDepth 65536 in
theorem w_hears : about1.hears theMethod below0 = true := by decide +kernel
set_option maxRecDepth 65536 in
theorem w_ripe : about1.ripe theMethod args0 below0 = true := by decide +kernel
theorem w_running : about1.status = .running := rfl
set_option maxRecDepth 65536 in
theorem w_room : about1.hasRoom e0.platform room_1 = true :=
  launch0.hasRoom_least _ room_1 (by decide +kernel) (by decide +kernel) (by decide +kernel) (by decide +kernel) (by decide +kernel) (by decide +kernel)
theorem allAtoms_all (ts : List Jvm.Cond) (a : Array Jvm.Value) (st : Jvm.State) : (allAtoms ts).before a st = ts.all (fun c => c.before a st) := by
  induction ts with
  | nil => rfl
  | cons c t ih =>
    show (Jvm.Cond.and c (allAtoms t)).before a st = _
    rw [Jvm.Cond.before_and, ih, List.all_cons]
def words1 : List Jvm.Cond := Jvm.Cond.code x code maxLocals ret :: tables_1
/-- a 'code' word, met by the world's own term for the bytes: nothing is compared byte by byte -/
theorem code_word {y : MethodName} {bytes : ByteArray} {mx : Nat} {rt : Option FieldType} {a : Array Value} {s : State} {m : MethodId} {meth : Method} {c : Code} (h1 : s.methodNamed? y = some m) (h2 : s.vm.method? m = some meth) (h3 : meth.code = some c) (h4 : c.code = bytes)
    (h5 : (c.maxLocals == mx && c.exceptionTable.isEmpty && decide (c.maxStack ≤ mostOperands) && decide (meth.sig.returnType = rt) && !meth.locks && decide (parseMethodDescriptor y.desc = some meth.sig)) = true) : (Jvm.Cond.code y bytes mx rt).before a s = true := by
  simp only [Bool.and_eq_true, beq_iff_eq, Bool.not_eq_true', decide_eq_true_eq] at h5
  obtain ⟨⟨⟨⟨⟨g1, g2⟩, g3⟩, g4⟩, g5⟩, g6⟩ := h5
  simp [Cond.before, Cond.holds, Cond.value, h1, h2, h3, h4, g1, g2, g3, g4, g5, g6]
def isCode : Jvm.Cond → Bool
  | .code _ _ _ _ => true
  | _ => false
theorem all_split {L : List Jvm.Cond} {P : Jvm.Cond → Bool} (h1 : L.all (fun c => isCode c || P c) = true) (h2 : ∀ c ∈ L.filter isCode, P c = true) : L.all P = true := by
  refine List.all_eq_true.mpr fun c hc => ?_
  have h := List.all_eq_true.mp h1 c hc
  rcases Bool.eq_false_or_eq_true (isCode c) with hi | hi
  · exact h2 c (List.mem_filter.mpr ⟨hc, hi⟩)
  · simpa [hi] using h
set_option maxRecDepth 65536 in
theorem w_c0 : (Jvm.Cond.code x code maxLocals ret).before args0 about1 = true := code_word (m := ⟨1, 2⟩) (meth := k1m2) (c := k1c2) (by decide +kernel) rfl rfl rfl (by decide +kernel)
set_option maxRecDepth 65536 in
theorem w_c1 : (Jvm.Cond.code ({ cls := "com/example/discernibility/discernibility/Partition", name := "diversity", desc := "([I)I" } : Jvm.MethodName) prog_26_method_10_code (6 : Nat) (Option.some Jvm.ClassFile.FieldType.int)).before args0 about1 = true := code_word (m := ⟨2, 0⟩) (meth := k2m0) (c := k2c0) (by decide +kernel) rfl rfl rfl (by decide +kernel)
set_option maxRecDepth 65536 in
theorem w_c2 : (Jvm.Cond.code ({ cls := "com/example/discernibility/discernibility/PartitionDiversityPinLaw", name := "pos", desc := "(I)I" } : Jvm.MethodName) method_2_code (1 : Nat) (Option.some Jvm.ClassFile.FieldType.int)).before args0 about1 = true := code_word (m := ⟨1, 1⟩) (meth := k1m1) (c := k1c1) (by decide +kernel) rfl rfl rfl (by decide +kernel)
def codes1 : List Jvm.Cond := [Jvm.Cond.code x code maxLocals ret, Jvm.Cond.code ({ cls := "com/example/discernibility/discernibility/Partition", name := "diversity", desc := "([I)I" } : Jvm.MethodName) prog_26_method_10_code (6 : Nat) (Option.some Jvm.ClassFile.FieldType.int), Jvm.Cond.code ({ cls := "com/example/discernibility/discernibility/PartitionDiversityPinLaw", name := "pos", desc := "(I)I" } : Jvm.MethodName) method_2_code (1 : Nat) (Option.some Jvm.ClassFile.FieldType.int)]
set_option maxRecDepth 65536 in
theorem codes_eq : words1.filter isCode = codes1 := rfl
theorem w_codes : ∀ c ∈ words1.filter isCode, c.before args0 about1 = true := by
  rw [codes_eq]
  intro c hc
  simp only [codes1, List.mem_cons, List.not_mem_nil, or_false] at hc
  rcases hc with rfl | rfl | rfl
  · exact w_c0
  · exact w_c1
  · exact w_c2
set_option maxRecDepth 65536 in
theorem w_t1 : words1.all (fun c => isCode c || c.before args0 about1) = true := by decide +kernel
theorem w_tables : (allAtoms (Jvm.Cond.code x code maxLocals ret :: tables_1)).before args0 about1 = true := by
  rw [allAtoms_all]
  show words1.all (fun c => c.before args0 about1) = true
  refine all_split ?_ w_codes
  rw [w_t1]
set_option maxRecDepth 65536 in
theorem w_case : (Jvm.Cond.and given_1 narrow_1).before args0 about1 = true := by decide +kernel
theorem w_applies : (headSpec (Jvm.Cond.code x code maxLocals ret :: tables_1) room_1).applies x e0.platform about1 = true :=
  (Spec.applies_iff w_frames).mpr ⟨w_running, w_runnable, w_alone, w_named, w_hears, w_ripe, w_room, w_tables⟩
theorem atStart : AtStart classFile x code maxLocals ret World_1 tables_1 room_1 Calls_1 rest_1 Pre_1 launch0 p0 e0 about1 theMethod args0 below0 :=
  ⟨lists_1, trivial, launch0.admits_env _ _ _, launch0.least_env, fairChoices_fair.cas, fairChoices_fair.clock, w_frames, w_args, w_heap, w_applies, trivial, trivial, w_case⟩
end start1
theorem witness_1 : WitnessClaimed_1 := ⟨start1.p0, start1.e0, start1.about1, start1.theMethod, start1.args0, start1.below0, start1.atStart⟩
end Jvm.Pilot.@@N@@
