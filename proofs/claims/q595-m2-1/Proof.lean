import JvmDerived
import JvmDerived.Pilot.@@N@@Statement
import JvmDerived.Pilot.@@N@@Code
set_option linter.unusedVariables false
set_option linter.unusedSimpArgs false
namespace Jvm.Pilot.@@N@@
open Jvm Jvm.ClassFile Sem Op Lib Jvm.Free Jvm.Stand Jvm.LawKit Jvm.RoadKit Bundle Jvm.Pilot.@@N@@.Jvm.D
/-- from S the run goes on below 'below', ends, and E holds of the end -/
def Go (tb : Tables) (e : Env) (below : List Frame) (E : State → Outcome → Prop) (S : State) : Prop := ∃ s₂ o, Steps tb e below S s₂ ∧ s₂.status = .running ∧ Ended s₂ below o ∧ E s₂ o
theorem Go.via {tb : Tables} {e : Env} {below : List Frame} {E : State → Outcome → Prop} {S S' : State} (k : ∀ t, Steps tb e below S' t → Steps tb e below S t) (h : Go tb e below E S') : Go tb e below E S := by
  obtain ⟨a, b, c, d⟩ := h; exact ⟨a, b, k _ c, d⟩
/-- a body's contract, short -/
abbrev MetP (l : Launch) (y : MethodName) (bytes : ByteArray) (maxL : Nat) (ret : Option FieldType) (ws : List Jvm.Cond) (rm : Room) (Z : State) (as' : Array Value) (h0 : Heap) (Q : Option Value → Heap → List Loc → Prop) : Prop :=
  MetFree l y (head1 (Jvm.Cond.code y bytes maxL ret :: ws) rm) (fun a U => a = as' ∧ Z.Warmed39 U.vm ∧ U.heap = h0) (fun _ _ _ _ _ => True) (fun _ U o U' => ∃ v L, o = .returned v ∧ Q v U'.heap L ∧ FrameEnd U o U' L rm.cells rm.slots)
/-- it returned r and wrote and made nothing -/
def Pure (r : Value) (h0 : Heap) (v : Option Value) (h : Heap) (L : List Loc) : Prop := v = some r ∧ L = [] ∧ h = h0
abbrev EndE (s : State) (rm : Room) (Q : Option Value → Heap → List Loc → Prop) : State → Outcome → Prop := fun s₂ o => ∃ v L, o = .returned v ∧ Q v s₂.heap L ∧ FrameEnd s o s₂ L rm.cells rm.slots
theorem met_go {l : Launch} {y : MethodName} {bytes : ByteArray} {maxL : Nat} {ret : Option FieldType} {ws : List Jvm.Cond} {rm : Room} {Z : State} {as' : Array Value} {h0 : Heap} {Q : Option Value → Heap → List Loc → Prop} (hpl : plainFor y = true)
    (body : ∀ (p : Program) (e : Env) (s : State) (m : MethodId) (below : List Frame) (meth : Method) (c : Code) (s₁ : State), p.tables.exec = Jvm.exec → c.code = bytes → c.maxLocals = maxL → s.vm.findClass y.cls = some m.cls → meth.name = y.name → meth.sig.returnType = ret → meth.locks = false → Z.Warmed39 s.vm → s₁.heap = h0 →
      Stand p l e rm s m as' below meth c s₁ [] 0 0 → Go p.tables e below (EndE s rm Q) (s₁.setTop (entryFrame m as' maxL))) : MetP l y bytes maxL ret ws rm Z as' h0 Q := by
  refine MetFree.of_bodySF hpl hisR ?_
  intro p e s m args below meth c s₁ Bd hml hP hK
  obtain ⟨rfl, hZ, hh⟩ := hP
  exact body p e s m below meth c s₁ Bd.exec Bd.bytes hml (findClass_of_methodNamed Bd.named) (name_of_methodNamed Bd.named Bd.method).1 Bd.returns Bd.notSynchronized hZ (by rw [← hh, Bd.state]; rfl) (Stand.of_body Bd)
abbrev EndW (s : State) (rm : Room) (Q : Option Value → Heap → List Loc → Prop) : State → Outcome → Prop := fun s₂ o => ∃ v L, o = .returned v ∧ Q v s₂.heap L ∧ ReturnedEndW s o s₂ L rm.cells rm.slots
theorem met_goW {l : Launch} {y : MethodName} {bytes : ByteArray} {maxL : Nat} {ret : Option FieldType} {ws : List Jvm.Cond} {rm : Room} {Z : State} {as' : Array Value} {h0 : Heap} {Q : Option Value → Heap → List Loc → Prop} (hpl : plainFor y = true)
    (body : ∀ (p : Program) (e : Env) (s : State) (m : MethodId) (below : List Frame) (meth : Method) (c : Code) (s₁ : State), p.tables.exec = Jvm.exec → c.code = bytes → c.maxLocals = maxL → s.vm.findClass y.cls = some m.cls → meth.name = y.name → meth.sig.returnType = ret → meth.locks = false → Z.Warmed39 s.vm → s₁.heap = h0 →
      Stand p l e rm s m as' below meth c s₁ [] 0 0 → Go p.tables e below (EndW s rm Q) (s₁.setTop (entryFrame m as' maxL))) : MetFree l y (head1 (Jvm.Cond.code y bytes maxL ret :: ws) rm) (fun a U => a = as' ∧ Z.Warmed39 U.vm ∧ U.heap = h0) (fun _ _ _ _ _ => True) (fun _ U o U' => ∃ v L, o = .returned v ∧ Q v U'.heap L ∧ ReturnedEndW U o U' L rm.cells rm.slots) := by
  refine MetFree.of_bodySF hpl hisR ?_
  intro p e s m args below meth c s₁ Bd hml hP hK
  obtain ⟨rfl, hZ, hh⟩ := hP
  exact body p e s m below meth c s₁ Bd.exec Bd.bytes hml (findClass_of_methodNamed Bd.named) (name_of_methodNamed Bd.named Bd.method).1 Bd.returns Bd.notSynchronized hZ (by rw [← hh, Bd.state]; rfl) (Stand.of_body Bd)
theorem met_goZ {l : Launch} {y : MethodName} {bytes : ByteArray} {maxL : Nat} {ret : Option FieldType} {ws : List Jvm.Cond} {rm : Room} {Z : State} {as' : Array Value} {Q : Option Value → Heap → List Loc → Prop} (hpl : plainFor y = true)
    (body : ∀ (p : Program) (e : Env) (s : State) (m : MethodId) (below : List Frame) (meth : Method) (c : Code) (s₁ : State), p.tables.exec = Jvm.exec → c.code = bytes → c.maxLocals = maxL → s.vm.findClass y.cls = some m.cls → meth.name = y.name → meth.sig.returnType = ret → meth.locks = false → s = Z → s₁.heap = Z.heap →
      Stand p l e rm s m as' below meth c s₁ [] 0 0 → Go p.tables e below (EndW s rm Q) (s₁.setTop (entryFrame m as' maxL))) : MetFree l y (head1 (Jvm.Cond.code y bytes maxL ret :: ws) rm) (fun a U => a = as' ∧ U = Z) (fun _ _ _ _ _ => True) (fun _ U o U' => ∃ v L, o = .returned v ∧ Q v U'.heap L ∧ ReturnedEndW U o U' L rm.cells rm.slots) := by
  refine MetFree.of_bodySF hpl hisR ?_
  intro p e s m args below meth c s₁ Bd hml hP hK
  obtain ⟨rfl, hZ⟩ := hP
  exact body p e s m below meth c s₁ Bd.exec Bd.bytes hml (findClass_of_methodNamed Bd.named) (name_of_methodNamed Bd.named Bd.method).1 Bd.returns Bd.notSynchronized hZ (by rw [← hZ, Bd.state]; rfl) (Stand.of_body Bd)
section OwnKit
variable {p : Program} {l : Launch} {e : Env} {R : Room} {s : State} {m : MethodId} {args : Array Value} {below : List Frame} {meth : Method} {c : Code} {T : State} {locs : List Loc} {cells slots : Nat} {E : State → Outcome → Prop} {Z : State} {a0 : Array Value} {h : Heap} {pc : Nat} {Ls Ls' : Array Slot} {st : List Value}
theorem o_iload (pc' : Nat) (X : Stand p l e R s m args below meth c T locs cells slots) (hx : p.tables.exec = Jvm.exec) (hpc : pc + 2 = pc') {k : Nat} {v : Int32} (hd : decode c.code pc = .ok (.iload k, 2)) (hl : Ls[k]? = some (.val (.int v))) (h : Go p.tables e below E (T.setTop (mkF m pc' Ls ((.int v) :: st)))) : Go p.tables e below E (T.setTop (mkF m pc Ls st)) := by
  subst hpc; exact Go.via (fun _ k => XS.iload X.here hx rfl hd hl k) h
theorem o_iloadN (pc' : Nat) (X : Stand p l e R s m args below meth c T locs cells slots) (hx : p.tables.exec = Jvm.exec) (hpc : pc + 1 = pc') {k : Fin 4} {v : Int32} (hd : decode c.code pc = .ok (.iload_n k, 1)) (hl : Ls[k.val]? = some (.val (.int v))) (h : Go p.tables e below E (T.setTop (mkF m pc' Ls ((.int v) :: st)))) : Go p.tables e below E (T.setTop (mkF m pc Ls st)) := by
  subst hpc; exact Go.via (fun _ k => XS.iloadN X.here hx rfl hd hl k) h
theorem o_istore (pc' : Nat) (X : Stand p l e R s m args below meth c T locs cells slots) (hx : p.tables.exec = Jvm.exec) (hpc : pc + 2 = pc') {k : Nat} {v : Int32} (hd : decode c.code pc = .ok (.istore k, 2)) (Ls' : Array Slot) (hl : storeLocals Ls k (.int v) = some Ls') (h : Go p.tables e below E (T.setTop (mkF m pc' Ls' st))) : Go p.tables e below E (T.setTop (mkF m pc Ls ((.int v) :: st))) := by
  subst hpc; exact Go.via (fun _ k => XS.istore X.here hx rfl hd rfl hl k) h
theorem o_istoreN (pc' : Nat) (X : Stand p l e R s m args below meth c T locs cells slots) (hx : p.tables.exec = Jvm.exec) (hpc : pc + 1 = pc') {k : Fin 4} {v : Int32} (hd : decode c.code pc = .ok (.istore_n k, 1)) (Ls' : Array Slot) (hl : storeLocals Ls k.val (.int v) = some Ls') (h : Go p.tables e below E (T.setTop (mkF m pc' Ls' st))) : Go p.tables e below E (T.setTop (mkF m pc Ls ((.int v) :: st))) := by
  subst hpc; exact Go.via (fun _ k => XS.istoreN X.here hx rfl hd rfl hl k) h
theorem o_iconst (pc' : Nat) (X : Stand p l e R s m args below meth c T locs cells slots) (hx : p.tables.exec = Jvm.exec) (hpc : pc + 1 = pc') {i : Int} (hd : decode c.code pc = .ok (.iconst i, 1)) (v : Int32) (hv : Int32.ofInt i = v) (h : Go p.tables e below E (T.setTop (mkF m pc' Ls (.int v :: st)))) : Go p.tables e below E (T.setTop (mkF m pc Ls st)) := by
  subst hpc; exact Go.via (fun _ k => XS.iconst X.here hx rfl hd (by rw [hv]; exact k)) h
theorem o_ldcInt (pc' : Nat) (X : Stand p l e R s m args below meth c T locs cells slots) (hx : p.tables.exec = Jvm.exec) (hpc : pc + 2 = pc') (hZ : Z.Warmed39 s.vm) {own : String} {index : Nat} (hown : s.vm.findClass own = some m.cls) {v : Int32} (w : (Jvm.Cond.constant own index v).before a0 Z = true) (hd : decode c.code pc = .ok (.ldc index, 2)) (h : Go p.tables e below E (T.setTop (mkF m pc' Ls (.int v :: st)))) : Go p.tables e below E (T.setTop (mkF m pc Ls st)) := by
  subst hpc; exact Go.via (fun _ k => X.ldcInt hx hown (mvT hZ w) (g := mkF m pc Ls st) rfl hd _ k) h
theorem o_iadd (pc' : Nat) (X : Stand p l e R s m args below meth c T locs cells slots) (hx : p.tables.exec = Jvm.exec) (hpc : pc + 1 = pc') {x : Int32} {y : Int32} (hd : decode c.code pc = .ok (.iadd, 1)) (h : Go p.tables e below E (T.setTop (mkF m pc' Ls (.int (x + y) :: st)))) : Go p.tables e below E (T.setTop (mkF m pc Ls (.int y :: .int x :: st))) := by
  subst hpc; exact Go.via (fun _ k => XS.iadd X.here hx rfl hd rfl k) h
theorem o_imul (pc' : Nat) (X : Stand p l e R s m args below meth c T locs cells slots) (hx : p.tables.exec = Jvm.exec) (hpc : pc + 1 = pc') {x : Int32} {y : Int32} (hd : decode c.code pc = .ok (.imul, 1)) (h : Go p.tables e below E (T.setTop (mkF m pc' Ls (.int (x * y) :: st)))) : Go p.tables e below E (T.setTop (mkF m pc Ls (.int y :: .int x :: st))) := by
  subst hpc; exact Go.via (fun _ k => XS.imul X.here hx rfl hd rfl k) h
theorem o_iand (pc' : Nat) (X : Stand p l e R s m args below meth c T locs cells slots) (hx : p.tables.exec = Jvm.exec) (hpc : pc + 1 = pc') {x : Int32} {y : Int32} (hd : decode c.code pc = .ok (.iand, 1)) (h : Go p.tables e below E (T.setTop (mkF m pc' Ls (.int (x &&& y) :: st)))) : Go p.tables e below E (T.setTop (mkF m pc Ls (.int y :: .int x :: st))) := by
  subst hpc; exact Go.via (fun _ k => XS.iand X.here hx rfl hd rfl k) h
theorem o_ixor (pc' : Nat) (X : Stand p l e R s m args below meth c T locs cells slots) (hx : p.tables.exec = Jvm.exec) (hpc : pc + 1 = pc') {x : Int32} {y : Int32} (hd : decode c.code pc = .ok (.ixor, 1)) (h : Go p.tables e below E (T.setTop (mkF m pc' Ls (.int (x ^^^ y) :: st)))) : Go p.tables e below E (T.setTop (mkF m pc Ls (.int y :: .int x :: st))) := by
  subst hpc; exact Go.via (fun _ k => XS.ixor X.here hx rfl hd rfl k) h
theorem o_idiv (pc' : Nat) (X : Stand p l e R s m args below meth c T locs cells slots) (hx : p.tables.exec = Jvm.exec) (hpc : pc + 1 = pc') {x y : Int32} (hd : decode c.code pc = .ok (.idiv, 1)) (hy : y ≠ 0) (h : Go p.tables e below E (T.setTop (mkF m pc' Ls (.int (x / y) :: st)))) : Go p.tables e below E (T.setTop (mkF m pc Ls (.int y :: .int x :: st))) := by
  subst hpc; exact Go.via (fun _ k => XS.idiv X.here hx rfl hd rfl hy k) h
theorem o_irem (pc' : Nat) (X : Stand p l e R s m args below meth c T locs cells slots) (hx : p.tables.exec = Jvm.exec) (hpc : pc + 1 = pc') {x y : Int32} (hd : decode c.code pc = .ok (.irem, 1)) (hy : y ≠ 0) (h : Go p.tables e below E (T.setTop (mkF m pc' Ls (.int (x % y) :: st)))) : Go p.tables e below E (T.setTop (mkF m pc Ls (.int y :: .int x :: st))) := by
  subst hpc; exact Go.via (fun _ k => iremM (g := mkF m pc Ls (.int y :: .int x :: st)) X hx rfl hd rfl hy k) h
theorem o_ineg (pc' : Nat) (X : Stand p l e R s m args below meth c T locs cells slots) (hx : p.tables.exec = Jvm.exec) (hpc : pc + 1 = pc') {x : Int32} (hd : decode c.code pc = .ok (.ineg, 1)) (h : Go p.tables e below E (T.setTop (mkF m pc' Ls (.int (-x) :: st)))) : Go p.tables e below E (T.setTop (mkF m pc Ls (.int x :: st))) := by
  subst hpc; exact Go.via (fun _ k => XS.ineg X.here hx rfl hd rfl k) h
theorem o_goto (pc' : Nat) (X : Stand p l e R s m args below meth c T locs cells slots) (hx : p.tables.exec = Jvm.exec) {o : Int} (hd : decode c.code pc = .ok (.goto o, 3)) (ho : 0 ≤ (pc : Int) + o) (hp : ((pc : Int) + o).toNat = pc') (h : Go p.tables e below E (T.setTop (mkF m pc' Ls st))) : Go p.tables e below E (T.setTop (mkF m pc Ls st)) := by
  exact Go.via (fun _ k => XS.goto X.here hx rfl (pc0 := pc) (pc' := pc') rfl hd ho hp k) h
theorem o_ifYes (pc' : Nat) (X : Stand p l e R s m args below meth c T locs cells slots) (hx : p.tables.exec = Jvm.exec) {cd : ClassFile.Cond} {x : Int32} {o : Int} (hd : decode c.code pc = .ok (.ifCond cd o, 3)) (hc : if_icmp.holds cd x 0 = true) (ho : 0 ≤ (pc : Int) + o) (hp : ((pc : Int) + o).toNat = pc') (h : Go p.tables e below E (T.setTop (mkF m pc' Ls st))) : Go p.tables e below E (T.setTop (mkF m pc Ls (.int x :: st))) := by
  exact Go.via (fun _ k => XS.ifYes X.here hx rfl (pc0 := pc) (pc' := pc') rfl hd rfl ((if0 _ _).trans hc) ho hp k) h
theorem o_ifNo (pc' : Nat) (X : Stand p l e R s m args below meth c T locs cells slots) (hx : p.tables.exec = Jvm.exec) (hpc : pc + 3 = pc') {cd : ClassFile.Cond} {x : Int32} {o : Int} (hd : decode c.code pc = .ok (.ifCond cd o, 3)) (hc : if_icmp.holds cd x 0 = false) (h : Go p.tables e below E (T.setTop (mkF m pc' Ls st))) : Go p.tables e below E (T.setTop (mkF m pc Ls (.int x :: st))) := by
  subst hpc; exact Go.via (fun _ k => XS.ifNo X.here hx rfl hd rfl ((if0 _ _).trans hc) k) h
theorem o_icmpYes (pc' : Nat) (X : Stand p l e R s m args below meth c T locs cells slots) (hx : p.tables.exec = Jvm.exec) {cd : ClassFile.Cond} {x y : Int32} {o : Int} (hd : decode c.code pc = .ok (.if_icmp cd o, 3)) (hc : if_icmp.holds cd x y = true) (ho : 0 ≤ (pc : Int) + o) (hp : ((pc : Int) + o).toNat = pc') (h : Go p.tables e below E (T.setTop (mkF m pc' Ls st))) : Go p.tables e below E (T.setTop (mkF m pc Ls (.int y :: .int x :: st))) := by
  exact Go.via (fun _ k => XS.icmpYes X.here hx rfl (pc0 := pc) (pc' := pc') rfl hd rfl hc ho hp k) h
theorem o_icmpNo (pc' : Nat) (X : Stand p l e R s m args below meth c T locs cells slots) (hx : p.tables.exec = Jvm.exec) (hpc : pc + 3 = pc') {cd : ClassFile.Cond} {x y : Int32} {o : Int} (hd : decode c.code pc = .ok (.if_icmp cd o, 3)) (hc : if_icmp.holds cd x y = false) (h : Go p.tables e below E (T.setTop (mkF m pc' Ls st))) : Go p.tables e below E (T.setTop (mkF m pc Ls (.int y :: .int x :: st))) := by
  subst hpc; exact Go.via (fun _ k => XS.icmpNo X.here hx rfl hd rfl hc k) h
theorem o_out (X : Stand p l e R s m args below meth c T locs cells slots) (hx : p.tables.exec = Jvm.exec) {rm : Room} {Q : Option Value → Heap → List Loc → Prop} {v : Option Value} (hv : meth.sig.returnType = none → v = none) (hlk : meth.locks = false) {g : JFrame}
    (hst : ∀ fs, (∀ (f : JFrame) (acts : List Action), f.method = m → f.locked = none → f.entered = [] → (doReturn e (T.setTop f) acts v).1 = T.setFrames fs) → Steps p.tables e below (T.setTop g) (T.setFrames fs)) (hq : Q v T.heap locs) (hk : cells ≤ rm.cells) (hn : slots ≤ rm.slots) : Go p.tables e below (EndE s rm Q) (T.setTop g) := by
  obtain ⟨fs, hr, hrun, hended, hW, hsame⟩ := X.leave (v := v) hv hlk
  exact ⟨_, _, hst fs hr, hrun, hended, _, _, rfl, hq, ⟨_, rfl⟩, hW, hsame.mono hk hn⟩
theorem own_retI (X : Stand p l e R s m args below meth c T locs cells slots) (hx : p.tables.exec = Jvm.exec) {z : Int32} (hret : meth.sig.returnType = some .int) (hd : decode c.code pc = .ok (.ireturn, 1)) {fs : List Frame}
    (hl : ∀ (f : JFrame) (acts : List Action), f.method = m → f.locked = none → f.entered = [] → (doReturn e (T.setTop f) acts (some (.int z))).1 = T.setFrames fs) : Steps p.tables e below (T.setTop (mkF m pc Ls (.int z :: st))) (T.setFrames fs) :=
  retOut X hx hret rfl (Or.inl ⟨rfl, Or.inl rfl, z, rfl⟩) hd hl
theorem o_retI (X : Stand p l e R s m args below meth c T locs cells slots) (hx : p.tables.exec = Jvm.exec) {z : Int32} {rm : Room} {Q : Option Value → Heap → List Loc → Prop} (hret : meth.sig.returnType = some .int) (hlk : meth.locks = false) (hd : decode c.code pc = .ok (.ireturn, 1)) (hk : cells ≤ rm.cells) (hn : slots ≤ rm.slots) (hq : Q (some (.int z)) T.heap locs) : Go p.tables e below (EndE s rm Q) (T.setTop (mkF m pc Ls (.int z :: st))) :=
  o_out X hx (fun q => by rw [hret] at q; cases q) hlk (fun fs hr => own_retI X hx hret hd hr) hq hk hn
theorem o_retN (X : Stand p l e R s m args below meth c T locs cells slots) (hx : p.tables.exec = Jvm.exec) {z : Int32} (t : FieldType) (ht : t = .boolean ∨ t = .byte ∨ t = .char ∨ t = .short) {rm : Room} {Q : Option Value → Heap → List Loc → Prop} (hret : meth.sig.returnType = some t) (hlk : meth.locks = false) (hd : decode c.code pc = .ok (.ireturn, 1)) (hk : cells ≤ rm.cells) (hn : slots ≤ rm.slots) (hq : Q (some (.int (nar t z))) T.heap locs) : Go p.tables e below (EndE s rm Q) (T.setTop (mkF m pc Ls (.int z :: st))) :=
  o_out X hx (fun q => by rw [hret] at q; cases q) hlk (fun fs hr => retN X hx hret ht hd hr) hq hk hn
theorem o_callS (pc' : Nat) (X : Stand p l e R s m args below meth c T locs cells slots) (hx : p.tables.exec = Jvm.exec) (hpc : pc + 3 = pc') (hZ : Z.Warmed39 s.vm) {own : String} {index : Nat} {y : MethodName} {bytes : ByteArray} {maxL : Nat} {ret : Option FieldType} {rm : Room} {as' : Array Value} {Q : Option Value → Heap → List Loc → Prop} (hown : s.vm.findClass own = some m.cls) (w1 : (Jvm.Cond.methodLink own index y).before a0 Z = true) (w2 : (Jvm.Cond.static y).before a0 Z = true) (w3 : (Jvm.Cond.initialized y.cls).before a0 Z = true) (w4 : (Jvm.Cond.code y bytes maxL ret).before a0 Z = true) (hy : y.cls ≠ "java/lang/invoke/MethodHandle" ∧ y.cls ≠ "java/lang/invoke/VarHandle") (eT : T.heap = h)
    (hM : MetP l y bytes maxL ret [] rm Z as' h Q) {ps : List FieldType} {r : Option FieldType} (hdsc : parseMethodDescriptor y.desc = some ⟨ps, r⟩) (argsL rest : List Value) (hlen : argsL.length = ps.length) (has : argsL.toArray = as') (hsize : Ls.size = c.maxLocals) (hst : st = argsL.reverse ++ rest) (hd : decode c.code pc = .ok (.invokestatic index, 3)) (W : Nat) (hW : (rest.map fun v => v.category).sum ≤ W) (hf : rm.frames + 1 ≤ R.frames) (hlo : W + (maxL + 11) + rm.locals ≤ R.locals) (hc : cells + rm.cells ≤ R.cells) (hsl : slots + rm.slots ≤ R.slots)
    (k : ∀ (v : Option Value) (T' : State) (L : List Loc), Stand p l e R s m args below meth c T' (locs ++ L) (cells + rm.cells) (slots + rm.slots) → Q v T'.heap L → Go p.tables e below E (T'.setTop (mkF m pc' Ls (v.toList ++ rest)))) : Go p.tables e below E (T.setTop (mkF m pc Ls st)) := by
  subst hpc
  obtain ⟨v, _, ⟨T', L', c', s'⟩, -, X', ⟨L, hQ, h1, h2, h3⟩, st'⟩ := Jvm.LawKit.callS X hx (y := y) hown (mvT hZ w1) (mvT hZ w2) (mvT hZ w3) (mvT hZ w4) hy (backOf (W := W) hM hZ w4 w3 hf hlo) (g := mkF m pc Ls st) rfl hsize (argsL := argsL) (rest := rest) (lenOf hdsc hlen) hst (by show 2 * 0 + _ ≤ _; rw [Nat.mul_zero, Nat.zero_add]; exact hW) hd (fun _ _ => ⟨has, eT, hc, hsl⟩)
  dsimp only [Pt.U, Pt.locs, Pt.cells, Pt.slots] at X' h1 h2 h3 st' hQ
  subst h1 h2 h3
  exact Go.via st' (k v T' L X' hQ)
theorem o_callP (pc' : Nat) (X : Stand p l e R s m args below meth c T locs cells slots) (hx : p.tables.exec = Jvm.exec) (hpc : pc + 3 = pc') (hZ : Z.Warmed39 s.vm) {own : String} {index : Nat} {y : MethodName} {bytes : ByteArray} {maxL : Nat} {ret : Option FieldType} {rm : Room} {as' : Array Value} {rv : Value} (hown : s.vm.findClass own = some m.cls) (w1 : (Jvm.Cond.methodLink own index y).before a0 Z = true) (w2 : (Jvm.Cond.static y).before a0 Z = true) (w3 : (Jvm.Cond.initialized y.cls).before a0 Z = true) (w4 : (Jvm.Cond.code y bytes maxL ret).before a0 Z = true) (hy : y.cls ≠ "java/lang/invoke/MethodHandle" ∧ y.cls ≠ "java/lang/invoke/VarHandle") (eT : T.heap = h)
    (hM : MetP l y bytes maxL ret [] rm Z as' h (Pure rv h)) {ps : List FieldType} {r : Option FieldType} (hdsc : parseMethodDescriptor y.desc = some ⟨ps, r⟩) (argsL rest : List Value) (hlen : argsL.length = ps.length) (has : argsL.toArray = as') (hsize : Ls.size = c.maxLocals) (hst : st = argsL.reverse ++ rest) (hd : decode c.code pc = .ok (.invokestatic index, 3)) (W : Nat) (hW : (rest.map fun v => v.category).sum ≤ W) (hf : rm.frames + 1 ≤ R.frames) (hlo : W + (maxL + 11) + rm.locals ≤ R.locals) (hc : cells + rm.cells ≤ R.cells) (hsl : slots + rm.slots ≤ R.slots) (hc0 : rm.cells = 0) (hs0 : rm.slots = 0)
    (k : ∀ (T' : State), Stand p l e R s m args below meth c T' locs cells slots → T'.heap = h → Go p.tables e below E (T'.setTop (mkF m pc' Ls (rv :: rest)))) : Go p.tables e below E (T.setTop (mkF m pc Ls st)) := by
  refine o_callS pc' X hx hpc hZ hown w1 w2 w3 w4 hy eT hM hdsc argsL rest hlen has hsize hst hd W hW hf hlo hc hsl ?_
  intro v T' L X' hQ
  obtain ⟨rfl, rfl, e'⟩ := hQ
  rw [hc0, hs0, List.append_nil] at X'
  exact k T' X' e' 
end OwnKit
theorem l_tlt {x y : Int64} (h : x < y) : lcmpW x y < 0 := (lw_lt x y).mpr h
theorem l_flt {x y : Int64} (h : ¬ x < y) : ¬ lcmpW x y < 0 := fun q => h ((lw_lt x y).mp q)
theorem l_tgt {x y : Int64} (h : y < x) : 0 < lcmpW x y := (lw_gt x y).mpr h
theorem l_fgt {x y : Int64} (h : ¬ y < x) : ¬ 0 < lcmpW x y := fun q => h ((lw_gt x y).mp q)
theorem l_teq {x y : Int64} (h : x = y) : lcmpW x y = 0 := (lw_eq x y).mpr h
theorem l_feq {x y : Int64} (h : ¬ x = y) : ¬ lcmpW x y = 0 := fun q => h ((lw_eq x y).mp q)
theorem wd_0 {Z : State} {a0 : Array Value} (hw : ∀ d ∈ tables_1, d.before a0 Z = true) : (Jvm.Cond.constant "com/example/whittle/whittle/model/AndGraphDimacsPinLaw" (7 : Nat) (2147483647 : Int32)).before a0 Z = true := hw _ (List.mem_of_getElem? (i := 0) rfl)
theorem wd_1 {Z : State} {a0 : Array Value} (hw : ∀ d ∈ tables_1, d.before a0 Z = true) : (Jvm.Cond.constant "com/example/whittle/whittle/model/AndGraphDimacsPinLaw" (8 : Nat) (1073741823 : Int32)).before a0 Z = true := hw _ (List.mem_of_getElem? (i := 1) rfl)
theorem wd_2 {Z : State} {a0 : Array Value} (hw : ∀ d ∈ tables_1, d.before a0 Z = true) : (Jvm.Cond.methodLink "com/example/whittle/whittle/model/AndGraphDimacsPinLaw" (9 : Nat) ({ cls := "com/example/whittle/whittle/model/AndGraph", name := "dimacs", desc := "(I)I" } : Jvm.MethodName)).before a0 Z = true := hw _ (List.mem_of_getElem? (i := 2) rfl)
theorem wd_3 {Z : State} {a0 : Array Value} (hw : ∀ d ∈ tables_1, d.before a0 Z = true) : (Jvm.Cond.static ({ cls := "com/example/whittle/whittle/model/AndGraph", name := "dimacs", desc := "(I)I" } : Jvm.MethodName)).before a0 Z = true := hw _ (List.mem_of_getElem? (i := 3) rfl)
theorem wd_4 {Z : State} {a0 : Array Value} (hw : ∀ d ∈ tables_1, d.before a0 Z = true) : (Jvm.Cond.initialized "com/example/whittle/whittle/model/AndGraph").before a0 Z = true := hw _ (List.mem_of_getElem? (i := 4) rfl)
theorem wd_5 {Z : State} {a0 : Array Value} (hw : ∀ d ∈ tables_1, d.before a0 Z = true) : (Jvm.Cond.code ({ cls := "com/example/whittle/whittle/model/AndGraph", name := "dimacs", desc := "(I)I" } : Jvm.MethodName) prog_28_method_11_code (1 : Nat) (Option.some Jvm.ClassFile.FieldType.int)).before a0 Z = true := hw _ (List.mem_of_getElem? (i := 5) rfl)
theorem wd_6 {Z : State} {a0 : Array Value} (hw : ∀ d ∈ tables_1, d.before a0 Z = true) : (Jvm.Cond.methodLink "com/example/whittle/whittle/model/AndGraphDimacsPinLaw" (15 : Nat) ({ cls := "com/example/whittle/whittle/model/AndGraph", name := "not", desc := "(I)I" } : Jvm.MethodName)).before a0 Z = true := hw _ (List.mem_of_getElem? (i := 6) rfl)
theorem wd_7 {Z : State} {a0 : Array Value} (hw : ∀ d ∈ tables_1, d.before a0 Z = true) : (Jvm.Cond.static ({ cls := "com/example/whittle/whittle/model/AndGraph", name := "not", desc := "(I)I" } : Jvm.MethodName)).before a0 Z = true := hw _ (List.mem_of_getElem? (i := 7) rfl)
theorem wd_8 {Z : State} {a0 : Array Value} (hw : ∀ d ∈ tables_1, d.before a0 Z = true) : (Jvm.Cond.code ({ cls := "com/example/whittle/whittle/model/AndGraph", name := "not", desc := "(I)I" } : Jvm.MethodName) prog_28_method_5_code (1 : Nat) (Option.some Jvm.ClassFile.FieldType.int)).before a0 Z = true := hw _ (List.mem_of_getElem? (i := 8) rfl)
theorem d1_0 : decode prog_28_method_11_code 0 = .ok (.iload_n 0, 1) := by decide +kernel
theorem d1_1 : decode prog_28_method_11_code 1 = .ok (.ifCond .eq 8, 3) := by decide +kernel
theorem d1_23 : decode prog_28_method_11_code 23 = .ok (.iload_n 0, 1) := by decide +kernel
theorem d1_24 : decode prog_28_method_11_code 24 = .ok (.iconst 1, 1) := by decide +kernel
theorem d1_25 : decode prog_28_method_11_code 25 = .ok (.iand, 1) := by decide +kernel
theorem d1_26 : decode prog_28_method_11_code 26 = .ok (.ifCond .ne 9, 3) := by decide +kernel
theorem d1_29 : decode prog_28_method_11_code 29 = .ok (.iload_n 0, 1) := by decide +kernel
theorem d1_30 : decode prog_28_method_11_code 30 = .ok (.iconst 2, 1) := by decide +kernel
theorem d1_31 : decode prog_28_method_11_code 31 = .ok (.idiv, 1) := by decide +kernel
theorem d1_32 : decode prog_28_method_11_code 32 = .ok (.goto 7, 3) := by decide +kernel
theorem d1_35 : decode prog_28_method_11_code 35 = .ok (.iload_n 0, 1) := by decide +kernel
theorem d1_36 : decode prog_28_method_11_code 36 = .ok (.iconst 2, 1) := by decide +kernel
theorem d1_37 : decode prog_28_method_11_code 37 = .ok (.idiv, 1) := by decide +kernel
theorem d1_38 : decode prog_28_method_11_code 38 = .ok (.ineg, 1) := by decide +kernel
theorem d1_39 : decode prog_28_method_11_code 39 = .ok (.ireturn, 1) := by decide +kernel
theorem d1_4 : decode prog_28_method_11_code 4 = .ok (.iload_n 0, 1) := by decide +kernel
theorem d1_5 : decode prog_28_method_11_code 5 = .ok (.iconst 1, 1) := by decide +kernel
theorem d1_6 : decode prog_28_method_11_code 6 = .ok (.if_icmp .ne 17, 3) := by decide +kernel
theorem d2_0 : decode prog_28_method_5_code 0 = .ok (.iload_n 0, 1) := by decide +kernel
theorem d2_1 : decode prog_28_method_5_code 1 = .ok (.iconst 1, 1) := by decide +kernel
theorem d2_2 : decode prog_28_method_5_code 2 = .ok (.ixor, 1) := by decide +kernel
theorem d2_3 : decode prog_28_method_5_code 3 = .ok (.ireturn, 1) := by decide +kernel
theorem pd_lIrI : parseMethodDescriptor "(I)I" = some ⟨[.int], some .int⟩ := by decide +kernel
theorem pn_0 : plainFor x = true := plainFor_of_name (show plainName "com/example/whittle/whittle/model/AndGraphDimacsPinLaw" = true by first | (simp [plainName, overriddenIn]; done) | decide +kernel)
theorem pn_1 : plainFor (⟨"com/example/whittle/whittle/model/AndGraph", "dimacs", "(I)I"⟩ : MethodName) = true := plainFor_of_name (show plainName "com/example/whittle/whittle/model/AndGraph" = true by first | (simp [plainName, overriddenIn]; done) | decide +kernel)
theorem pn_2 : plainFor (⟨"com/example/whittle/whittle/model/AndGraph", "not", "(I)I"⟩ : MethodName) = true := plainFor_of_name (show plainName "com/example/whittle/whittle/model/AndGraph" = true by first | (simp [plainName, overriddenIn]; done) | decide +kernel)
theorem ef_1 (m : MethodId) (y0 : Int32) : entryFrame m #[(.int y0)] 1 = mkF m 0 #[.val (.int y0)] [] := by first | (simp [entryFrame, mkF, argsToLocals, Value.category]; done) | rfl
def f1_39_s0 (i0 : Int32) : Int32 := (if (i0 &&& (1 : Int32)) = (0 : Int32) then (i0 / (2 : Int32)) else ((-(i0 / (2 : Int32)))))
def fn1 (i0 : Int32) : Int32 := (f1_39_s0 i0)
set_option maxRecDepth 65536 in
set_option maxHeartbeats 40000000 in
theorem rm1 (l : Launch) (Z : State) (a0 : Array Value) (hw : ∀ d ∈ tables_1, d.before a0 Z = true) (i0 : Int32) (h0 : Heap) (h1 : ¬ i0 = (0 : Int32)) (h6 : ¬ i0 = (1 : Int32)) : MetP l (⟨"com/example/whittle/whittle/model/AndGraph", "dimacs", "(I)I"⟩ : MethodName) prog_28_method_11_code 1 (some .int) [] ({ frames := 0, cells := 0, slots := 0, locals := 0 } : Room) Z #[(.int i0)] h0 (Pure (.int (fn1 i0)) h0) := by
  refine met_go pn_1 ?_
  intro p e s m below meth c s₁ hx hby hml hown hnm hret hlk hZ e0 X0
  rw [ef_1 m i0]
  refine o_iloadN 1 X0 hx rfl (hb hby d1_0) rfl ?_
  refine o_ifNo 4 X0 hx rfl (hb hby d1_1) (feq h1).1 ?_
  refine o_iloadN 5 X0 hx rfl (hb hby d1_4) rfl ?_
  refine o_iconst 6 X0 hx rfl (hb hby d1_5) (1 : Int32) rfl ?_
  refine o_icmpYes 23 X0 hx (hb hby d1_6) (feq h6).2 (by decide) (by decide) ?_
  refine o_iloadN 24 X0 hx rfl (hb hby d1_23) rfl ?_
  refine o_iconst 25 X0 hx rfl (hb hby d1_24) (1 : Int32) rfl ?_
  refine o_iand 26 X0 hx rfl (hb hby d1_25) ?_
  suffices j39_1 : Go p.tables e below (EndE s ({ frames := 0, cells := 0, slots := 0, locals := 0 } : Room) (Pure (.int (fn1 i0)) h0)) (s₁.setTop (mkF m 39 #[.val (.int i0)] [(.int (f1_39_s0 i0))])) by
    by_cases hc26_2 : (i0 &&& (1 : Int32)) = (0 : Int32)
    · refine o_ifNo 29 X0 hx rfl (hb hby d1_26) (teq hc26_2).2 ?_
      refine o_iloadN 30 X0 hx rfl (hb hby d1_29) rfl ?_
      refine o_iconst 31 X0 hx rfl (hb hby d1_30) (2 : Int32) rfl ?_
      refine o_idiv 32 X0 hx rfl (hb hby d1_31) (by decide) ?_
      refine o_goto 39 X0 hx (hb hby d1_32) (by decide) (by decide) ?_
      rw [show (f1_39_s0 i0) = (i0 / (2 : Int32)) from by unfold f1_39_s0; simp only [if_pos hc26_2]] at j39_1
      exact j39_1
    · refine o_ifYes 35 X0 hx (hb hby d1_26) (feq hc26_2).2 (by decide) (by decide) ?_
      refine o_iloadN 36 X0 hx rfl (hb hby d1_35) rfl ?_
      refine o_iconst 37 X0 hx rfl (hb hby d1_36) (2 : Int32) rfl ?_
      refine o_idiv 38 X0 hx rfl (hb hby d1_37) (by decide) ?_
      refine o_ineg 39 X0 hx rfl (hb hby d1_38) ?_
      rw [show (f1_39_s0 i0) = ((-(i0 / (2 : Int32)))) from by unfold f1_39_s0; simp only [if_neg hc26_2]] at j39_1
      exact j39_1
  refine o_retI X0 hx hret hlk (hb hby d1_39) (by decide) (by decide) ?_
  exact ⟨show some (Value.int (f1_39_s0 i0)) = some (Value.int (fn1 i0)) from by rw [show (fn1 i0) = (f1_39_s0 i0) from by rfl], rfl, e0⟩
theorem ef_2 (m : MethodId) (y0 : Int32) : entryFrame m #[(.int y0)] 1 = mkF m 0 #[.val (.int y0)] [] := by first | (simp [entryFrame, mkF, argsToLocals, Value.category]; done) | rfl
def fn2 (i0 : Int32) : Int32 := (i0 ^^^ (1 : Int32))
set_option maxRecDepth 65536 in
set_option maxHeartbeats 40000000 in
theorem rm2 (l : Launch) (Z : State) (a0 : Array Value) (hw : ∀ d ∈ tables_1, d.before a0 Z = true) (i0 : Int32) (h0 : Heap) : MetP l (⟨"com/example/whittle/whittle/model/AndGraph", "not", "(I)I"⟩ : MethodName) prog_28_method_5_code 1 (some .int) [] ({ frames := 0, cells := 0, slots := 0, locals := 0 } : Room) Z #[(.int i0)] h0 (Pure (.int (fn2 i0)) h0) := by
  refine met_go pn_2 ?_
  intro p e s m below meth c s₁ hx hby hml hown hnm hret hlk hZ e0 X0
  rw [ef_2 m i0]
  refine o_iloadN 1 X0 hx rfl (hb hby d2_0) rfl ?_
  refine o_iconst 2 X0 hx rfl (hb hby d2_1) (1 : Int32) rfl ?_
  refine o_ixor 3 X0 hx rfl (hb hby d2_2) ?_
  refine o_retI X0 hx hret hlk (hb hby d2_3) (by decide) (by decide) ?_
  exact ⟨show some (Value.int (i0 ^^^ (1 : Int32))) = some (Value.int (fn2 i0)) from by rw [show (fn2 i0) = (i0 ^^^ (1 : Int32)) from by rfl], rfl, e0⟩
theorem ef_0 (m : MethodId) (y0 : Int32) (y1 : Int32) : entryFrame m #[(.int y0), (.int y1)] maxLocals = mkF m 0 #[.val (.int y0), .val (.int y1), .unset, .unset, .unset, .unset, .unset, .unset] [] := by first | (simp [entryFrame, mkF, argsToLocals, Value.category, maxLocals]; done) | rfl
def f0_9 (i0 : Int32) : Int32 := ((1 : Int32) + ((i0 &&& (2147483647 : Int32)) % (1073741823 : Int32)))
def f0_21_s0 (i1 : Int32) : Int32 := (if (i1 &&& (1 : Int32)) = (0 : Int32) then (0 : Int32) else (1 : Int32))
def f0_37_s0 (i0 : Int32) (i1 : Int32) : Int32 := (if (f0_21_s0 i1) = (0 : Int32) then ((2 : Int32) * (f0_9 i0)) else (((2 : Int32) * (f0_9 i0)) + (1 : Int32)))
def f0_49_s0 (i0 : Int32) (i1 : Int32) : Int32 := (if (f0_21_s0 i1) = (0 : Int32) then (f0_9 i0) else ((-(f0_9 i0))))
def f0_88_s0 (i0 : Int32) (i1 : Int32) : Int32 := (if (fn1 (f0_37_s0 i0 i1)) = (f0_49_s0 i0 i1) then (if (fn1 (fn2 (f0_37_s0 i0 i1))) = ((-(f0_49_s0 i0 i1))) then (1 : Int32) else (0 : Int32)) else (0 : Int32))
def fn0 (i0 : Int32) (i1 : Int32) : Int32 := (nar .boolean (f0_88_s0 i0 i1))
theorem own_xn (n : Nat) : n ^^^ 1 = if n % 2 = 0 then n + 1 else n - 1 := by
  have h1 : (n ^^^ 1) / 2 = n / 2 := by rw [Nat.xor_div_two]; exact Nat.xor_zero _
  have h2 := nx2 n 1
  split <;> omega
theorem own_x1 (x : Int32) (h : 0 ≤ x.toInt) : (x ^^^ (1 : Int32)).toInt = if x.toInt % 2 = 0 then x.toInt + 1 else x.toInt - 1 := by
  have q : (x ^^^ (1 : Int32)).toBitVec.toNat = x.toBitVec.toNat ^^^ 1 := by rw [Int32.toBitVec_xor, BitVec.toNat_xor]; rfl
  have l := x.toBitVec.isLt
  rw [own_xn] at q
  change 0 ≤ x.toBitVec.toInt at h
  show (x ^^^ (1 : Int32)).toBitVec.toInt = if x.toBitVec.toInt % 2 = 0 then x.toBitVec.toInt + 1 else x.toBitVec.toInt - 1
  rw [BitVec.toInt_eq_toNat_cond] at h
  simp only [BitVec.toInt_eq_toNat_cond, q]
  have hx : x.toBitVec.toNat < 2 ^ 31 := by split at h <;> omega
  rw [if_pos (show 2 * x.toBitVec.toNat < 2 ^ 32 by omega)]
  have : (((x.toBitVec.toNat : Nat) : Int) % 2 = 0) ↔ (x.toBitVec.toNat % 2 = 0) := by omega
  by_cases hp : x.toBitVec.toNat % 2 = 0
  · rw [if_pos hp, if_pos (this.mpr hp), if_pos (by omega)]; omega
  · rw [if_neg hp, if_neg (fun z => hp (this.mp z)), if_pos (by omega)]; omega
theorem own_node (i0 : Int32) : 1 ≤ (f0_9 i0).toInt ∧ (f0_9 i0).toInt ≤ 1073741823 := by
  have e1 : (i0 &&& (2147483647 : Int32)).toInt = i0.toInt % (2 ^ 31 : Nat) := c_mask i0 2147483647 31 (by decide) (by decide)
  have e2 := (c_irem (i0 &&& (2147483647 : Int32)) 1073741823 1073741823 rfl).1 (by rw [e1]; omega)
  have e3 := c_iadd 1 ((i0 &&& (2147483647 : Int32)) % (1073741823 : Int32))
  have r := rng32 (f0_9 i0)
  unfold f0_9 at *
  rw [e2, show (1 : Int32).toInt = 1 from rfl] at e3
  omega
theorem own_neg (i1 : Int32) : f0_21_s0 i1 = 0 ∨ f0_21_s0 i1 = 1 := by unfold f0_21_s0; split <;> simp
theorem own_lit0 (n : Int32) (h : 1 ≤ n.toInt ∧ n.toInt ≤ 1073741823) : ((2 : Int32) * n).toInt = 2 * n.toInt := by
  have e := c_imul 2 n
  have r := rng32 ((2 : Int32) * n)
  rw [show (2 : Int32).toInt = 2 from rfl] at e
  omega
theorem own_lit1 (n : Int32) (h : 1 ≤ n.toInt ∧ n.toInt ≤ 1073741823) : (((2 : Int32) * n) + (1 : Int32)).toInt = 2 * n.toInt + 1 := by
  have e := c_iadd ((2 : Int32) * n) 1
  have r := rng32 (((2 : Int32) * n) + (1 : Int32))
  rw [own_lit0 n h, show (1 : Int32).toInt = 1 from rfl] at e
  omega
/-- dimacs of a literal that isn't negative -/
theorem own_dim (x n : Int32) (h : 0 ≤ x.toInt) (hn : n.toInt = x.toInt / 2) : fn1 x = if x.toInt % 2 = 0 then n else -n := by
  have e1 : (x &&& (1 : Int32)).toInt = x.toInt % (2 ^ 1 : Nat) := c_mask x 1 1 (by decide) (by decide)
  have e2 := (c_idiv x 2 2 rfl (by decide)).1 h
  have e3 : x / (2 : Int32) = n := Int32.toInt_inj.mp (by rw [e2, hn])
  unfold fn1 f1_39_s0
  by_cases hp : x.toInt % 2 = 0
  · rw [if_pos (Int32.toInt_inj.mp (by rw [e1]; simpa using hp)), if_pos hp, e3]
  · rw [if_neg (fun z => hp (by have := congrArg Int32.toInt z; rw [e1] at this; simpa using this)), if_neg hp, e3]
theorem own_lit (i0 i1 : Int32) : (f0_37_s0 i0 i1).toInt = 2 * (f0_9 i0).toInt ∧ f0_49_s0 i0 i1 = f0_9 i0 ∨ (f0_37_s0 i0 i1).toInt = 2 * (f0_9 i0).toInt + 1 ∧ f0_49_s0 i0 i1 = -(f0_9 i0) := by
  have hn := own_node i0
  unfold f0_37_s0 f0_49_s0
  rcases own_neg i1 with h | h <;> rw [h]
  · left; exact ⟨own_lit0 _ hn, rfl⟩
  · right; exact ⟨own_lit1 _ hn, rfl⟩
theorem own_p1 {i0 i1 : Int32} : ¬ (f0_37_s0 i0 i1) = (0 : Int32) := fun z => by
  have hn := own_node i0; have hl := own_lit i0 i1
  rw [z, show (0 : Int32).toInt = 0 from rfl] at hl; omega
theorem own_p2 {i0 i1 : Int32} : ¬ (f0_37_s0 i0 i1) = (1 : Int32) := fun z => by
  have hn := own_node i0; have hl := own_lit i0 i1
  rw [z, show (1 : Int32).toInt = 1 from rfl] at hl; omega
theorem own_nt (i0 i1 : Int32) : (fn2 (f0_37_s0 i0 i1)).toInt = 2 * (f0_9 i0).toInt + 1 ∧ f0_49_s0 i0 i1 = f0_9 i0 ∨ (fn2 (f0_37_s0 i0 i1)).toInt = 2 * (f0_9 i0).toInt ∧ f0_49_s0 i0 i1 = -(f0_9 i0) := by
  have hn := own_node i0
  unfold fn2
  rcases own_lit i0 i1 with ⟨h1, h2⟩ | ⟨h1, h2⟩
  · left; rw [own_x1 _ (by omega), h1, if_pos (by omega)]; exact ⟨rfl, h2⟩
  · right; rw [own_x1 _ (by omega), h1, if_neg (by omega)]; exact ⟨by omega, h2⟩
theorem own_p3 {i0 i1 : Int32} : ¬ (fn2 (f0_37_s0 i0 i1)) = (0 : Int32) := fun z => by
  have hn := own_node i0; have hl := own_nt i0 i1
  rw [z, show (0 : Int32).toInt = 0 from rfl] at hl; omega
theorem own_p4 {i0 i1 : Int32} : ¬ (fn2 (f0_37_s0 i0 i1)) = (1 : Int32) := fun z => by
  have hn := own_node i0; have hl := own_nt i0 i1
  rw [z, show (1 : Int32).toInt = 1 from rfl] at hl; omega
theorem own_law (i0 i1 : Int32) : fn0 i0 i1 = 1 := by
  have hn := own_node i0
  have h1 : fn1 (f0_37_s0 i0 i1) = f0_49_s0 i0 i1 := by
    rcases own_lit i0 i1 with ⟨a, b⟩ | ⟨a, b⟩
    · rw [own_dim _ (f0_9 i0) (by omega) (by omega), a, if_pos (by omega), b]
    · rw [own_dim _ (f0_9 i0) (by omega) (by omega), a, if_neg (by omega), b]
  have h2 : fn1 (fn2 (f0_37_s0 i0 i1)) = ((-(f0_49_s0 i0 i1))) := by
    rcases own_nt i0 i1 with ⟨a, b⟩ | ⟨a, b⟩
    · rw [own_dim _ (f0_9 i0) (by omega) (by omega), a, if_neg (by omega), b]
    · rw [own_dim _ (f0_9 i0) (by omega) (by omega), a, if_pos (by omega), b, Int32.neg_neg]
  unfold fn0 f0_88_s0
  rw [if_pos h1, if_pos h2]; rfl
set_option maxRecDepth 65536 in
set_option maxHeartbeats 40000000 in
theorem rm0 (l : Launch) (Z : State) (a0 : Array Value) (hw : ∀ d ∈ tables_1, d.before a0 Z = true) (ws : List Jvm.Cond) (i0 : Int32) (i1 : Int32) (h0 : Heap) (n0 : Nat) (Z0 : n0 ≤ h0.size) : MetP l x code maxLocals ret ws room_1 Z #[(.int i0), (.int i1)] h0 (fun v h L => v = some (.int (1 : Int32)) ∧ Fr n0 L) := by
  refine met_go pn_0 ?_
  intro p e s m below meth c s₁ hx hby hml hown hnm hret hlk hZ e0 X0
  have N0 := Fr.nil n0
  rw [ef_0 m i0 i1]
  refine o_iconst 1 X0 hx rfl (hb hby at_0) (1 : Int32) rfl ?_
  refine o_iloadN 2 X0 hx rfl (hb hby at_1) rfl ?_
  refine o_ldcInt 4 X0 hx rfl hZ hown (wd_0 hw) (hb hby at_2) ?_
  refine o_iand 5 X0 hx rfl (hb hby at_4) ?_
  refine o_ldcInt 7 X0 hx rfl hZ hown (wd_1 hw) (hb hby at_5) ?_
  refine o_irem 8 X0 hx rfl (hb hby at_7) (by decide) ?_
  refine o_iadd 9 X0 hx rfl (hb hby at_8) ?_
  refine o_istoreN 10 X0 hx rfl (hb hby at_9) #[.val (.int i0), .val (.int i1), .val (.int (f0_9 i0)), .unset, .unset, .unset, .unset, .unset] rfl ?_
  refine o_iloadN 11 X0 hx rfl (hb hby at_10) rfl ?_
  refine o_iconst 12 X0 hx rfl (hb hby at_11) (1 : Int32) rfl ?_
  refine o_iand 13 X0 hx rfl (hb hby at_12) ?_
  suffices j21_1 : Go p.tables e below (EndE s room_1 (fun v h L => v = some (.int (1 : Int32)) ∧ Fr n0 L)) (s₁.setTop (mkF m 21 #[.val (.int i0), .val (.int i1), .val (.int (f0_9 i0)), .unset, .unset, .unset, .unset, .unset] [(.int (f0_21_s0 i1))])) by
    by_cases hc13_2 : (i1 &&& (1 : Int32)) = (0 : Int32)
    · refine o_ifYes 20 X0 hx (hb hby at_13) (teq hc13_2).1 (by decide) (by decide) ?_
      refine o_iconst 21 X0 hx rfl (hb hby at_20) (0 : Int32) rfl ?_
      rw [show (f0_21_s0 i1) = (0 : Int32) from by unfold f0_21_s0; simp only [if_pos hc13_2]] at j21_1
      exact j21_1
    · refine o_ifNo 16 X0 hx rfl (hb hby at_13) (feq hc13_2).1 ?_
      refine o_iconst 17 X0 hx rfl (hb hby at_16) (1 : Int32) rfl ?_
      refine o_goto 21 X0 hx (hb hby at_17) (by decide) (by decide) ?_
      rw [show (f0_21_s0 i1) = (1 : Int32) from by unfold f0_21_s0; simp only [if_neg hc13_2]] at j21_1
      exact j21_1
  refine o_istoreN 22 X0 hx rfl (hb hby at_21) #[.val (.int i0), .val (.int i1), .val (.int (f0_9 i0)), .val (.int (f0_21_s0 i1)), .unset, .unset, .unset, .unset] rfl ?_
  refine o_iloadN 23 X0 hx rfl (hb hby at_22) rfl ?_
  suffices j37_3 : Go p.tables e below (EndE s room_1 (fun v h L => v = some (.int (1 : Int32)) ∧ Fr n0 L)) (s₁.setTop (mkF m 37 #[.val (.int i0), .val (.int i1), .val (.int (f0_9 i0)), .val (.int (f0_21_s0 i1)), .unset, .unset, .unset, .unset] [(.int (f0_37_s0 i0 i1))])) by
    by_cases hc23_4 : (f0_21_s0 i1) = (0 : Int32)
    · refine o_ifYes 34 X0 hx (hb hby at_23) (teq hc23_4).1 (by decide) (by decide) ?_
      refine o_iconst 35 X0 hx rfl (hb hby at_34) (2 : Int32) rfl ?_
      refine o_iloadN 36 X0 hx rfl (hb hby at_35) rfl ?_
      refine o_imul 37 X0 hx rfl (hb hby at_36) ?_
      rw [show (f0_37_s0 i0 i1) = ((2 : Int32) * (f0_9 i0)) from by unfold f0_37_s0; simp only [if_pos hc23_4]] at j37_3
      exact j37_3
    · refine o_ifNo 26 X0 hx rfl (hb hby at_23) (feq hc23_4).1 ?_
      refine o_iconst 27 X0 hx rfl (hb hby at_26) (2 : Int32) rfl ?_
      refine o_iloadN 28 X0 hx rfl (hb hby at_27) rfl ?_
      refine o_imul 29 X0 hx rfl (hb hby at_28) ?_
      refine o_iconst 30 X0 hx rfl (hb hby at_29) (1 : Int32) rfl ?_
      refine o_iadd 31 X0 hx rfl (hb hby at_30) ?_
      refine o_goto 37 X0 hx (hb hby at_31) (by decide) (by decide) ?_
      rw [show (f0_37_s0 i0 i1) = (((2 : Int32) * (f0_9 i0)) + (1 : Int32)) from by unfold f0_37_s0; simp only [if_neg hc23_4]] at j37_3
      exact j37_3
  refine o_istore 39 X0 hx rfl (hb hby at_37) #[.val (.int i0), .val (.int i1), .val (.int (f0_9 i0)), .val (.int (f0_21_s0 i1)), .val (.int (f0_37_s0 i0 i1)), .unset, .unset, .unset] rfl ?_
  refine o_iloadN 40 X0 hx rfl (hb hby at_39) rfl ?_
  suffices j49_5 : Go p.tables e below (EndE s room_1 (fun v h L => v = some (.int (1 : Int32)) ∧ Fr n0 L)) (s₁.setTop (mkF m 49 #[.val (.int i0), .val (.int i1), .val (.int (f0_9 i0)), .val (.int (f0_21_s0 i1)), .val (.int (f0_37_s0 i0 i1)), .unset, .unset, .unset] [(.int (f0_49_s0 i0 i1))])) by
    by_cases hc40_6 : (f0_21_s0 i1) = (0 : Int32)
    · refine o_ifYes 48 X0 hx (hb hby at_40) (teq hc40_6).1 (by decide) (by decide) ?_
      refine o_iloadN 49 X0 hx rfl (hb hby at_48) rfl ?_
      rw [show (f0_49_s0 i0 i1) = (f0_9 i0) from by unfold f0_49_s0; simp only [if_pos hc40_6]] at j49_5
      exact j49_5
    · refine o_ifNo 43 X0 hx rfl (hb hby at_40) (feq hc40_6).1 ?_
      refine o_iloadN 44 X0 hx rfl (hb hby at_43) rfl ?_
      refine o_ineg 45 X0 hx rfl (hb hby at_44) ?_
      refine o_goto 49 X0 hx (hb hby at_45) (by decide) (by decide) ?_
      rw [show (f0_49_s0 i0 i1) = ((-(f0_9 i0))) from by unfold f0_49_s0; simp only [if_neg hc40_6]] at j49_5
      exact j49_5
  refine o_istore 51 X0 hx rfl (hb hby at_49) #[.val (.int i0), .val (.int i1), .val (.int (f0_9 i0)), .val (.int (f0_21_s0 i1)), .val (.int (f0_37_s0 i0 i1)), .val (.int (f0_49_s0 i0 i1)), .unset, .unset] rfl ?_
  refine o_iload 53 X0 hx rfl (hb hby at_51) rfl ?_
  refine o_callP (rv := (.int (fn1 (f0_37_s0 i0 i1)))) 56 X0 hx rfl hZ hown (wd_2 hw) (wd_3 hw) (wd_4 hw) (wd_5 hw) (by decide) e0 (rm1 l Z a0 hw (f0_37_s0 i0 i1) h0 own_p1 own_p2) pd_lIrI [(.int (f0_37_s0 i0 i1))] [] rfl rfl (by rw [hml]; rfl) rfl (hb hby at_53) 0 (by decide) (by decide) (by decide) (by decide) (by decide) rfl rfl fun T7 X7 e7 => ?_
  refine o_istore 58 X7 hx rfl (hb hby at_56) #[.val (.int i0), .val (.int i1), .val (.int (f0_9 i0)), .val (.int (f0_21_s0 i1)), .val (.int (f0_37_s0 i0 i1)), .val (.int (f0_49_s0 i0 i1)), .val (.int (fn1 (f0_37_s0 i0 i1))), .unset] rfl ?_
  refine o_iload 60 X7 hx rfl (hb hby at_58) rfl ?_
  refine o_callP (rv := (.int (fn2 (f0_37_s0 i0 i1)))) 63 X7 hx rfl hZ hown (wd_6 hw) (wd_7 hw) (wd_4 hw) (wd_8 hw) (by decide) e7 (rm2 l Z a0 hw (f0_37_s0 i0 i1) h0) pd_lIrI [(.int (f0_37_s0 i0 i1))] [] rfl rfl (by rw [hml]; rfl) rfl (hb hby at_60) 0 (by decide) (by decide) (by decide) (by decide) (by decide) rfl rfl fun T8 X8 e8 => ?_
  refine o_callP (rv := (.int (fn1 (fn2 (f0_37_s0 i0 i1))))) 66 X8 hx rfl hZ hown (wd_2 hw) (wd_3 hw) (wd_4 hw) (wd_5 hw) (by decide) e8 (rm1 l Z a0 hw (fn2 (f0_37_s0 i0 i1)) h0 own_p3 own_p4) pd_lIrI [(.int (fn2 (f0_37_s0 i0 i1)))] [] rfl rfl (by rw [hml]; rfl) rfl (hb hby at_63) 0 (by decide) (by decide) (by decide) (by decide) (by decide) rfl rfl fun T9 X9 e9 => ?_
  refine o_istore 68 X9 hx rfl (hb hby at_66) #[.val (.int i0), .val (.int i1), .val (.int (f0_9 i0)), .val (.int (f0_21_s0 i1)), .val (.int (f0_37_s0 i0 i1)), .val (.int (f0_49_s0 i0 i1)), .val (.int (fn1 (f0_37_s0 i0 i1))), .val (.int (fn1 (fn2 (f0_37_s0 i0 i1))))] rfl ?_
  refine o_iload 70 X9 hx rfl (hb hby at_68) rfl ?_
  refine o_iload 72 X9 hx rfl (hb hby at_70) rfl ?_
  suffices j88_10 : Go p.tables e below (EndE s room_1 (fun v h L => v = some (.int (1 : Int32)) ∧ Fr n0 L)) (T9.setTop (mkF m 88 #[.val (.int i0), .val (.int i1), .val (.int (f0_9 i0)), .val (.int (f0_21_s0 i1)), .val (.int (f0_37_s0 i0 i1)), .val (.int (f0_49_s0 i0 i1)), .val (.int (fn1 (f0_37_s0 i0 i1))), .val (.int (fn1 (fn2 (f0_37_s0 i0 i1))))] [(.int (f0_88_s0 i0 i1))])) by
    by_cases hc72_11 : (fn1 (f0_37_s0 i0 i1)) = (f0_49_s0 i0 i1)
    · refine o_icmpNo 75 X9 hx rfl (hb hby at_72) (teq hc72_11).2 ?_
      refine o_iload 77 X9 hx rfl (hb hby at_75) rfl ?_
      refine o_iload 79 X9 hx rfl (hb hby at_77) rfl ?_
      refine o_ineg 80 X9 hx rfl (hb hby at_79) ?_
      by_cases hc80_12 : (fn1 (fn2 (f0_37_s0 i0 i1))) = ((-(f0_49_s0 i0 i1)))
      · refine o_icmpNo 83 X9 hx rfl (hb hby at_80) (teq hc80_12).2 ?_
        refine o_iconst 84 X9 hx rfl (hb hby at_83) (1 : Int32) rfl ?_
        refine o_goto 88 X9 hx (hb hby at_84) (by decide) (by decide) ?_
        rw [show (f0_88_s0 i0 i1) = (1 : Int32) from by unfold f0_88_s0; simp only [if_pos hc72_11, if_pos hc80_12]] at j88_10
        exact j88_10
      · refine o_icmpYes 87 X9 hx (hb hby at_80) (feq hc80_12).2 (by decide) (by decide) ?_
        refine o_iconst 88 X9 hx rfl (hb hby at_87) (0 : Int32) rfl ?_
        rw [show (f0_88_s0 i0 i1) = (0 : Int32) from by unfold f0_88_s0; simp only [if_pos hc72_11, if_neg hc80_12]] at j88_10
        exact j88_10
    · refine o_icmpYes 87 X9 hx (hb hby at_72) (feq hc72_11).2 (by decide) (by decide) ?_
      refine o_iconst 88 X9 hx rfl (hb hby at_87) (0 : Int32) rfl ?_
      rw [show (f0_88_s0 i0 i1) = (0 : Int32) from by unfold f0_88_s0; simp only [if_neg hc72_11]] at j88_10
      exact j88_10
  refine o_retN X9 hx .boolean (by simp) hret hlk (hb hby at_88) (by decide) (by decide) ?_
  exact ⟨show some (Value.int (nar .boolean (f0_88_s0 i0 i1))) = some (Value.int (1 : Int32)) from by rw [← own_law i0 i1, show (fn0 i0 i1) = (nar .boolean (f0_88_s0 i0 i1)) from by rfl], N0⟩
set_option maxRecDepth 65536 in
set_option maxHeartbeats 40000000 in
theorem comes_1 {Post : Tables → Env → Array Value → State → Outcome → State → Prop} (hpost : ∀ tb e args s v u, (limb_1_1.after args s (.returned v) u = true ∧ limb_1_2.after args s (.returned v) u = true ∧ True) → FrameEnd s (.returned v) u (Jvm.fieldLocs frame_1_writes args s ++ Jvm.arrayLocs frame_1_arrays args s ++ Jvm.staticLocs frame_1_statics s) 0 0 → Post tb e args s (.returned v) u) :
    ArmFor flags0 classFile x code maxLocals ret World_1 tables_1 room_1 Calls_1 rest_1 Pre_1 Post := by
  intro l hfl _ _ p e ha hc hk s m args below hf hA hF happ hP
  obtain ⟨hcalls, hrest, hpre⟩ := hP
  obtain ⟨-, -, -, hnamed, -, -, -, hat⟩ := (Spec.applies_iff hf).mp happ
  obtain ⟨hg, hn⟩ := and_e (Cond.before_iff.mp (show (Jvm.Cond.and given_1 narrow_1).before args s = true from hpre))
  obtain ⟨gc, g0⟩ := and_e hg
  obtain ⟨ga0, g1⟩ := and_e g0
  obtain ⟨w0, w1, rfl⟩ : ∃ w0 w1 : Value, args = #[w0, w1] := by
    have hs : args.size = 2 := by simpa [Cond.value, given_1] using gc
    obtain ⟨L⟩ := args
    match L, hs with
    | [w0, w1], _ => exact ⟨w0, w1, rfl⟩
  have hw := fun d (hd : d ∈ tables_1) => atoms_spec (ws := Jvm.Cond.code x code maxLocals ret :: tables_1) hat d (List.mem_cons_of_mem _ hd)
  obtain ⟨i0, ei0⟩ := is_v ga0
  obtain rfl : w0 = (.int i0) := Option.some.inj ei0
  obtain ⟨i1, ei1⟩ := is_v g1
  obtain rfl : w1 = (.int i1) := Option.some.inj ei1
  obtain ⟨n, o, h1, h2, h3, _, L, rfl, ⟨rfl, N⟩, hq⟩ := rm0 l s _ hw tables_1 i0 i1 s.heap s.heap.size (Nat.le_refl _) p e ha hc hk s m _ below hf ((Spec.applies_iff_loose hf).mp happ).1 ⟨rfl, State.Warmed39.refl s, rfl⟩ trivial
  refine ⟨n, _, h1, h2, h3, hpost _ _ _ _ _ _ ⟨Cond.after_iff.mpr rfl, Cond.after_iff.mpr (eq_i res_at (Term.int_eval (1)) rfl), trivial⟩ ⟨hq.1, hq.2.1, (hq.2.2.sift fun y hy => Or.inr (N y hy)).mono (by decide) (by decide)⟩⟩
theorem main_1_1 : Claimed_1_1 := comes_1 fun _ _ _ _ _ _ h hF => ⟨h.1, hF⟩
theorem main_1_2 : Claimed_1_2 := comes_1 fun _ _ _ _ _ _ h hF => ⟨h.2.1, hF⟩
end Jvm.Pilot.@@N@@
namespace Jvm.Pilot.@@N@@
open Jvm Jvm.ClassFile Sem Op Lib Jvm.Free Jvm.Stand Jvm.Pilot.@@N@@.Jvm.D
/-! MADE BY PROGRAM (witnessworld.py) out of the Statement's table words and the real class files: 9 classes; the members and pool entries that the words name. The judged class is class 1, her method 1. -/
namespace start1
open Jvm.ClassFile
def u (s : String) : CpInfo := .utf8 (stringToUtf16 s)
/-- a pool by its gaps: so many unusable entries, then the entry; so many at the end -/
def gap : Nat → List CpInfo → List CpInfo
  | 0, r => r
  | n + 1, r => .unusable :: gap n r
def poolList (es : List (Nat × CpInfo)) (last : Nat) : List CpInfo := es.foldr (fun e r => gap e.1 (e.2 :: r)) (gap last [])
def pool (es : List (Nat × CpInfo)) (last : Nat) : Array CpInfo := ⟨poolList es last⟩
def fileOf (pool : Array CpInfo) (this : Nat) (attrs : Array Attribute := #[]) (ms : Array MethodInfo := #[]) (fl : Nat := 33) (sup : Nat := 0) (ifs : Array Nat := #[]) (fds : Array FieldInfo := #[]) : ClassFile where
  minorVersion := 0
  majorVersion := 65
  constantPool := pool
  accessFlags := fl
  thisClass := this
  superClass := sup
  interfaces := ifs
  fields := fds
  methods := ms
  attributes := attrs
def plain (name : String) (sup : Option ClassId) : Class where
  name := name
  kind := .ordinary
  loader := none
  accessFlags := 33
  super := sup
  interfaces := #[]
  cf := none
  fields := #[]
  methods := #[]
  instanceTypes := #[]
  staticTypes := #[]
  resolved := #[]
  callSites := []
  init := .initialized
  statics := none
  mirror := none

def pool0 : Array CpInfo := pool [(5, u "<init>"), (0, u "()V"), (1, .class_ 10), (1, u "java/lang/Object")] 113

def k0m0 : Method := { name := "<init>", desc := "()V", sig := { parameters := [], returnType := none }, accessFlags := 1, code := none }
/-- java/lang/Object -/
def k0 : Class := { plain "java/lang/Object" none with
  accessFlags := 33
  interfaces := #[]
  cf := some (fileOf pool0 8 #[] #[{ accessFlags := 1, nameIndex := 5, descriptorIndex := 6, attributes := #[] }] 33 0 #[] #[])
  fields := #[]
  methods := #[k0m0]
  instanceTypes := #[]
  staticTypes := #[]
  resolved := Array.replicate 124 none
  statics := none }

def pool1 : Array CpInfo := pool [(2, .class_ 4), (1, u "java/lang/Object"), (0, u "<init>"), (0, u "()V"), (0, .integer 2147483647), (0, .integer 1073741823), (0, .methodref 10 11), (0, .class_ 12), (0, .nameAndType 13 14), (0, u "com/example/whittle/whittle/model/AndGraph"), (0, u "dimacs"), (0, u "(I)I"), (0, .methodref 10 16), (0, .nameAndType 17 14), (0, u "not"), (0, .class_ 19), (0, u "com/example/whittle/whittle/model/AndGraphDimacsPinLaw"), (2, u "law"), (0, u "(II)Z")] 3

def k1m0 : Method := { name := "<init>", desc := "()V", sig := { parameters := [], returnType := none }, accessFlags := 1, code := none }
def k1c1 : Code := { maxStack := 3, maxLocals := 8, code := code, exceptionTable := #[], attributes := #[] }
def k1m1 : Method := { name := "law", desc := "(II)Z", sig := { parameters := [.int, .int], returnType := some .boolean }, accessFlags := 9, code := some k1c1 }
/-- com/example/whittle/whittle/model/AndGraphDimacsPinLaw -/
def k1 : Class := { plain "com/example/whittle/whittle/model/AndGraphDimacsPinLaw" (some 0) with
  accessFlags := 49
  interfaces := #[]
  cf := some (fileOf pool1 18 #[] #[{ accessFlags := 1, nameIndex := 5, descriptorIndex := 6, attributes := #[] }, { accessFlags := 9, nameIndex := 22, descriptorIndex := 23, attributes := #[] }] 49 2 #[] #[])
  fields := #[]
  methods := #[k1m0, k1m1]
  instanceTypes := #[]
  staticTypes := #[]
  resolved := Array.replicate 27 none
  statics := none }

def pool2 : Array CpInfo := pool [(2, .class_ 4), (1, u "java/lang/Object"), (0, u "<init>"), (0, u "()V"), (0, .class_ 8), (0, u "com/example/whittle/whittle/model/AndGraph"), (2, u "lefts"), (0, u "[I"), (2, u "rights"), (2, u "size"), (0, u "I"), (5, u "ands"), (0, u "Ljava/util/Map;"), (39, u "not"), (0, u "(I)I"), (28, u "dimacs"), (15, u "FALSE"), (2, u "TRUE"), (1, u "NONE")] 39

def k2m0 : Method := { name := "<init>", desc := "()V", sig := { parameters := [], returnType := none }, accessFlags := 1, code := none }
def k2c1 : Code := { maxStack := 2, maxLocals := 1, code := prog_28_method_5_code, exceptionTable := #[], attributes := #[] }
def k2m1 : Method := { name := "not", desc := "(I)I", sig := { parameters := [.int], returnType := some .int }, accessFlags := 9, code := some k2c1 }
def k2c2 : Code := { maxStack := 3, maxLocals := 1, code := prog_28_method_11_code, exceptionTable := #[], attributes := #[] }
def k2m2 : Method := { name := "dimacs", desc := "(I)I", sig := { parameters := [.int], returnType := some .int }, accessFlags := 9, code := some k2c2 }
/-- com/example/whittle/whittle/model/AndGraph -/
def k2 : Class := { plain "com/example/whittle/whittle/model/AndGraph" (some 0) with
  accessFlags := 49
  interfaces := #[]
  cf := some (fileOf pool2 7 #[] #[{ accessFlags := 1, nameIndex := 5, descriptorIndex := 6, attributes := #[] }, { accessFlags := 9, nameIndex := 66, descriptorIndex := 67, attributes := #[] }, { accessFlags := 9, nameIndex := 96, descriptorIndex := 67, attributes := #[] }] 49 2 #[] #[{ accessFlags := 25, nameIndex := 112, descriptorIndex := 19, attributes := #[] }, { accessFlags := 25, nameIndex := 115, descriptorIndex := 19, attributes := #[] }, { accessFlags := 26, nameIndex := 117, descriptorIndex := 19, attributes := #[] }, { accessFlags := 2, nameIndex := 11, descriptorIndex := 12, attributes := #[] }, { accessFlags := 2, nameIndex := 15, descriptorIndex := 12, attributes := #[] }, { accessFlags := 2, nameIndex := 18, descriptorIndex := 19, attributes := #[] }, { accessFlags := 18, nameIndex := 25, descriptorIndex := 26, attributes := #[] }])
  fields := #[{ name := "FALSE", type := .int, accessFlags := 25, slot := 0, constantValue := 0 }, { name := "TRUE", type := .int, accessFlags := 25, slot := 1, constantValue := 0 }, { name := "NONE", type := .int, accessFlags := 26, slot := 2, constantValue := 0 }, { name := "lefts", type := (.array .int), accessFlags := 2, slot := 0, constantValue := 0 }, { name := "rights", type := (.array .int), accessFlags := 2, slot := 1, constantValue := 0 }, { name := "size", type := .int, accessFlags := 2, slot := 2, constantValue := 0 }, { name := "ands", type := (.object "java/util/Map"), accessFlags := 18, slot := 3, constantValue := 0 }]
  methods := #[k2m0, k2m1, k2m2]
  instanceTypes := #[(.array .int), (.array .int), .int, (.object "java/util/Map")]
  staticTypes := #[.int, .int, .int]
  resolved := Array.replicate 157 none
  statics := none }

def pool3 : Array CpInfo := pool [(1, u "java/lang/Cloneable"), (0, .class_ 1), (0, u "java/lang/Object"), (0, .class_ 3)] 3

/-- java/lang/Cloneable -/
def k3 : Class := { plain "java/lang/Cloneable" (some 0) with
  accessFlags := 1537
  interfaces := #[]
  cf := some (fileOf pool3 2 #[] #[] 1537 4 #[] #[])
  fields := #[]
  methods := #[]
  instanceTypes := #[]
  staticTypes := #[]
  resolved := Array.replicate 8 none
  statics := none }

def pool4 : Array CpInfo := pool [(1, u "java/io/Serializable"), (0, .class_ 1), (0, u "java/lang/Object"), (0, .class_ 3)] 3

/-- java/io/Serializable -/
def k4 : Class := { plain "java/io/Serializable" (some 0) with
  accessFlags := 1537
  interfaces := #[]
  cf := some (fileOf pool4 2 #[] #[] 1537 4 #[] #[])
  fields := #[]
  methods := #[]
  instanceTypes := #[]
  staticTypes := #[]
  resolved := Array.replicate 8 none
  statics := none }

/-- the primitive byte -/
def k5 : Class := { plain "byte" none with kind := .primitive 'B', accessFlags := 0x411 }
/-- [B -/
def k6 : Class := { plain "[B" (some 0) with kind := .array 5 .byte, interfaces := #[3, 4], accessFlags := 1041 }

/-- the primitive int -/
def k7 : Class := { plain "int" none with kind := .primitive 'I', accessFlags := 0x411 }
/-- [I -/
def k8 : Class := { plain "[I" (some 0) with kind := .array 7 .int, interfaces := #[3, 4], accessFlags := 1041 }

def heap : Heap := #[]
def classes : Array Class := #[k0, k1, k2, k3, k4, k5, k6, k7, k8]
def interned : List (Array UInt16 × Addr) := []
def slotsUsed : Nat := 0
def theMethod : MethodId := ⟨1, 1⟩
def args0 : Array Value := #[.int 5, .int 5]
def aboutOver (below : List Frame) : State where
  vm := { classes := classes, interned := interned.toArray }
  heap := heap
  slotsUsed := slotsUsed
  threads := #[{ frames := .invoking theMethod args0 :: below }]
def below0 : List Frame := [.native { method := ⟨0, 0⟩, args := #[] }]
def about1 : State := aboutOver below0
def p0 : Program := .bare "" "" ""
def e0 : Env := launch0.env 0 0 0
theorem w_frames : about1.frames = Frame.invoking theMethod args0 :: below0 := rfl
set_option maxRecDepth 65536 in
theorem w_args : argsFit about1.vm theMethod args0 = true := by decide +kernel
set_option maxRecDepth 65536 in
theorem w_heap : heapFits about1 = true := by decide +kernel
set_option maxRecDepth 65536 in
theorem w_runnable : about1.curStatus? = some .runnable := by decide +kernel
set_option maxRecDepth 65536 in
theorem w_alone : about1.alone = true := by decide +kernel
set_option maxRecDepth 65536 in
theorem w_named : about1.methodNamed? x = some theMethod := by decide +kernel
set_option maxRecDepth 65536 in
theorem w_hears : about1.hears theMethod below0 = true := by decide +kernel
set_option maxRecDepth 65536 in
theorem w_ripe : about1.ripe theMethod args0 below0 = true := by decide +kernel
theorem w_running : about1.status = .running := rfl
set_option maxRecDepth 65536 in
theorem w_room : about1.hasRoom e0.platform room_1 = true :=
  launch0.hasRoom_least _ room_1 (by decide +kernel) (by decide +kernel) (by decide +kernel) (by decide +kernel) (by decide +kernel) (by decide +kernel)
theorem allAtoms_all (ts : List Jvm.Cond) (a : Array Jvm.Value) (st : Jvm.State) : (allAtoms ts).before a st = ts.all (fun c => c.before a st) := by
  induction ts with
  | nil => rfl
  | cons c t ih =>
    show (Jvm.Cond.and c (allAtoms t)).before a st = _
    rw [Jvm.Cond.before_and, ih, List.all_cons]
def words1 : List Jvm.Cond := Jvm.Cond.code x code maxLocals ret :: tables_1
/-- a 'code' word, met by the world's own term for the bytes: nothing is compared byte by byte -/
theorem code_word {y : MethodName} {bytes : ByteArray} {mx : Nat} {rt : Option FieldType} {a : Array Value} {s : State} {m : MethodId} {meth : Method} {c : Code} (h1 : s.methodNamed? y = some m) (h2 : s.vm.method? m = some meth) (h3 : meth.code = some c) (h4 : c.code = bytes)
    (h5 : (c.maxLocals == mx && c.exceptionTable.isEmpty && decide (c.maxStack ≤ mostOperands) && decide (meth.sig.returnType = rt) && !meth.locks && decide (parseMethodDescriptor y.desc = some meth.sig)) = true) : (Jvm.Cond.code y bytes mx rt).before a s = true := by
  simp only [Bool.and_eq_true, beq_iff_eq, Bool.not_eq_true', decide_eq_true_eq] at h5
  obtain ⟨⟨⟨⟨⟨g1, g2⟩, g3⟩, g4⟩, g5⟩, g6⟩ := h5
  simp [Cond.before, Cond.holds, Cond.value, h1, h2, h3, h4, g1, g2, g3, g4, g5, g6]
def isCode : Jvm.Cond → Bool
  | .code _ _ _ _ => true
  | _ => false
theorem all_split {L : List Jvm.Cond} {P : Jvm.Cond → Bool} (h1 : L.all (fun c => isCode c || P c) = true) (h2 : ∀ c ∈ L.filter isCode, P c = true) : L.all P = true := by
  refine List.all_eq_true.mpr fun c hc => ?_
  have h := List.all_eq_true.mp h1 c hc
  rcases Bool.eq_false_or_eq_true (isCode c) with hi | hi
  · exact h2 c (List.mem_filter.mpr ⟨hc, hi⟩)
  · simpa [hi] using h
set_option maxRecDepth 65536 in
theorem w_c0 : (Jvm.Cond.code x code maxLocals ret).before args0 about1 = true := code_word (m := ⟨1, 1⟩) (meth := k1m1) (c := k1c1) (by decide +kernel) rfl rfl rfl (by decide +kernel)
set_option maxRecDepth 65536 in
theorem w_c1 : (Jvm.Cond.code ({ cls := "com/example/whittle/whittle/model/AndGraph", name := "dimacs", desc := "(I)I" } : Jvm.MethodName) prog_28_method_11_code (1 : Nat) (Option.some Jvm.ClassFile.FieldType.int)).before args0 about1 = true := code_word (m := ⟨2, 2⟩) (meth := k2m2) (c := k2c2) (by decide +kernel) rfl rfl rfl (by decide +kernel)
set_option maxRecDepth 65536 in
theorem w_c2 : (Jvm.Cond.code ({ cls := "com/example/whittle/whittle/model/AndGraph", name := "not", desc := "(I)I" } : Jvm.MethodName) prog_28_method_5_code (1 : Nat) (Option.some Jvm.ClassFile.FieldType.int)).before args0 about1 = true := code_word (m := ⟨2, 1⟩) (meth := k2m1) (c := k2c1) (by decide +kernel) rfl rfl rfl (by decide +kernel)
def codes1 : List Jvm.Cond := [Jvm.Cond.code x code maxLocals ret, Jvm.Cond.code ({ cls := "com/example/whittle/whittle/model/AndGraph", name := "dimacs", desc := "(I)I" } : Jvm.MethodName) prog_28_method_11_code (1 : Nat) (Option.some Jvm.ClassFile.FieldType.int), Jvm.Cond.code ({ cls := "com/example/whittle/whittle/model/AndGraph", name := "not", desc := "(I)I" } : Jvm.MethodName) prog_28_method_5_code (1 : Nat) (Option.some Jvm.ClassFile.FieldType.int)]
set_option maxRecDepth 65536 in
theorem codes_eq : words1.filter isCode = codes1 := rfl
theorem w_codes : ∀ c ∈ words1.filter isCode, c.before args0 about1 = true := by
  rw [codes_eq]
  intro c hc
  simp only [codes1, List.mem_cons, List.not_mem_nil, or_false] at hc
  rcases hc with rfl | rfl | rfl
  · exact w_c0
  · exact w_c1
  · exact w_c2
set_option maxRecDepth 65536 in
theorem w_t1 : words1.all (fun c => isCode c || c.before args0 about1) = true := by decide +kernel
theorem w_tables : (allAtoms (Jvm.Cond.code x code maxLocals ret :: tables_1)).before args0 about1 = true := by
  rw [allAtoms_all]
  show words1.all (fun c => c.before args0 about1) = true
  refine all_split ?_ w_codes
  rw [w_t1]
set_option maxRecDepth 65536 in
theorem w_case : (Jvm.Cond.and given_1 narrow_1).before args0 about1 = true := by decide +kernel
theorem w_applies : (headSpec (Jvm.Cond.code x code maxLocals ret :: tables_1) room_1).applies x e0.platform about1 = true :=
  (Spec.applies_iff w_frames).mpr ⟨w_running, w_runnable, w_alone, w_named, w_hears, w_ripe, w_room, w_tables⟩
theorem atStart : AtStart classFile x code maxLocals ret World_1 tables_1 room_1 Calls_1 rest_1 Pre_1 launch0 p0 e0 about1 theMethod args0 below0 :=
  ⟨lists_1, trivial, launch0.admits_env _ _ _, launch0.least_env, fairChoices_fair.cas, fairChoices_fair.clock, w_frames, w_args, w_heap, w_applies, trivial, trivial, w_case⟩
end start1
theorem witness_1 : WitnessClaimed_1 := ⟨start1.p0, start1.e0, start1.about1, start1.theMethod, start1.args0, start1.below0, start1.atStart⟩
end Jvm.Pilot.@@N@@
