import JvmDerived
import JvmDerived.Pilot.@@N@@Statement
import JvmDerived.Pilot.@@N@@Code
set_option linter.unusedVariables false
set_option linter.unusedSimpArgs false
namespace Jvm.Pilot.@@N@@
open Jvm Jvm.ClassFile Sem Op Lib Jvm.Free Jvm.Stand Jvm.LawKit Jvm.RoadKit Bundle Jvm.Pilot.@@N@@.Jvm.D
/-- from S the run goes on below 'below', ends, and E holds of the end -/
def Go (tb : Tables) (e : Env) (below : List Frame) (E : State → Outcome → Prop) (S : State) : Prop := ∃ s₂ o, Steps tb e below S s₂ ∧ s₂.status = .running ∧ Ended s₂ below o ∧ E s₂ o
theorem Go.via {tb : Tables} {e : Env} {below : List Frame} {E : State → Outcome → Prop} {S S' : State} (k : ∀ t, Steps tb e below S' t → Steps tb e below S t) (h : Go tb e below E S') : Go tb e below E S := by
  obtain ⟨a, b, c, d⟩ := h; exact ⟨a, b, k _ c, d⟩
/-- a body's contract, short -/
abbrev MetP (l : Launch) (y : MethodName) (bytes : ByteArray) (maxL : Nat) (ret : Option FieldType) (ws : List Jvm.Cond) (rm : Room) (Z : State) (as' : Array Value) (h0 : Heap) (Q : Option Value → Heap → List Loc → Prop) : Prop :=
  MetFree l y (head1 (Jvm.Cond.code y bytes maxL ret :: ws) rm) (fun a U => a = as' ∧ Z.Warmed39 U.vm ∧ U.heap = h0) (fun _ _ _ _ _ => True) (fun _ U o U' => ∃ v L, o = .returned v ∧ Q v U'.heap L ∧ FrameEnd U o U' L rm.cells rm.slots)
/-- it returned r and wrote and made nothing -/
def Pure (r : Value) (h0 : Heap) (v : Option Value) (h : Heap) (L : List Loc) : Prop := v = some r ∧ L = [] ∧ h = h0
abbrev EndE (s : State) (rm : Room) (Q : Option Value → Heap → List Loc → Prop) : State → Outcome → Prop := fun s₂ o => ∃ v L, o = .returned v ∧ Q v s₂.heap L ∧ FrameEnd s o s₂ L rm.cells rm.slots
theorem met_go {l : Launch} {y : MethodName} {bytes : ByteArray} {maxL : Nat} {ret : Option FieldType} {ws : List Jvm.Cond} {rm : Room} {Z : State} {as' : Array Value} {h0 : Heap} {Q : Option Value → Heap → List Loc → Prop} (hpl : plainFor y = true)
    (body : ∀ (p : Program) (e : Env) (s : State) (m : MethodId) (below : List Frame) (meth : Method) (c : Code) (s₁ : State), p.tables.exec = Jvm.exec → c.code = bytes → c.maxLocals = maxL → s.vm.findClass y.cls = some m.cls → meth.name = y.name → meth.sig.returnType = ret → meth.locks = false → Z.Warmed39 s.vm → s₁.heap = h0 →
      Stand p l e rm s m as' below meth c s₁ [] 0 0 → Go p.tables e below (EndE s rm Q) (s₁.setTop (entryFrame m as' maxL))) : MetP l y bytes maxL ret ws rm Z as' h0 Q := by
  refine MetFree.of_bodySF hpl hisR ?_
  intro p e s m args below meth c s₁ Bd hml hP hK
  obtain ⟨rfl, hZ, hh⟩ := hP
  exact body p e s m below meth c s₁ Bd.exec Bd.bytes hml (findClass_of_methodNamed Bd.named) (name_of_methodNamed Bd.named Bd.method).1 Bd.returns Bd.notSynchronized hZ (by rw [← hh, Bd.state]; rfl) (Stand.of_body Bd)
abbrev EndW (s : State) (rm : Room) (Q : Option Value → Heap → List Loc → Prop) : State → Outcome → Prop := fun s₂ o => ∃ v L, o = .returned v ∧ Q v s₂.heap L ∧ ReturnedEndW s o s₂ L rm.cells rm.slots
theorem met_goW {l : Launch} {y : MethodName} {bytes : ByteArray} {maxL : Nat} {ret : Option FieldType} {ws : List Jvm.Cond} {rm : Room} {Z : State} {as' : Array Value} {h0 : Heap} {Q : Option Value → Heap → List Loc → Prop} (hpl : plainFor y = true)
    (body : ∀ (p : Program) (e : Env) (s : State) (m : MethodId) (below : List Frame) (meth : Method) (c : Code) (s₁ : State), p.tables.exec = Jvm.exec → c.code = bytes → c.maxLocals = maxL → s.vm.findClass y.cls = some m.cls → meth.name = y.name → meth.sig.returnType = ret → meth.locks = false → Z.Warmed39 s.vm → s₁.heap = h0 →
      Stand p l e rm s m as' below meth c s₁ [] 0 0 → Go p.tables e below (EndW s rm Q) (s₁.setTop (entryFrame m as' maxL))) : MetFree l y (head1 (Jvm.Cond.code y bytes maxL ret :: ws) rm) (fun a U => a = as' ∧ Z.Warmed39 U.vm ∧ U.heap = h0) (fun _ _ _ _ _ => True) (fun _ U o U' => ∃ v L, o = .returned v ∧ Q v U'.heap L ∧ ReturnedEndW U o U' L rm.cells rm.slots) := by
  refine MetFree.of_bodySF hpl hisR ?_
  intro p e s m args below meth c s₁ Bd hml hP hK
  obtain ⟨rfl, hZ, hh⟩ := hP
  exact body p e s m below meth c s₁ Bd.exec Bd.bytes hml (findClass_of_methodNamed Bd.named) (name_of_methodNamed Bd.named Bd.method).1 Bd.returns Bd.notSynchronized hZ (by rw [← hh, Bd.state]; rfl) (Stand.of_body Bd)
theorem met_goZ {l : Launch} {y : MethodName} {bytes : ByteArray} {maxL : Nat} {ret : Option FieldType} {ws : List Jvm.Cond} {rm : Room} {Z : State} {as' : Array Value} {Q : Option Value → Heap → List Loc → Prop} (hpl : plainFor y = true)
    (body : ∀ (p : Program) (e : Env) (s : State) (m : MethodId) (below : List Frame) (meth : Method) (c : Code) (s₁ : State), p.tables.exec = Jvm.exec → c.code = bytes → c.maxLocals = maxL → s.vm.findClass y.cls = some m.cls → meth.name = y.name → meth.sig.returnType = ret → meth.locks = false → s = Z → s₁.heap = Z.heap →
      Stand p l e rm s m as' below meth c s₁ [] 0 0 → Go p.tables e below (EndW s rm Q) (s₁.setTop (entryFrame m as' maxL))) : MetFree l y (head1 (Jvm.Cond.code y bytes maxL ret :: ws) rm) (fun a U => a = as' ∧ U = Z) (fun _ _ _ _ _ => True) (fun _ U o U' => ∃ v L, o = .returned v ∧ Q v U'.heap L ∧ ReturnedEndW U o U' L rm.cells rm.slots) := by
  refine MetFree.of_bodySF hpl hisR ?_
  intro p e s m args below meth c s₁ Bd hml hP hK
  obtain ⟨rfl, hZ⟩ := hP
  exact body p e s m below meth c s₁ Bd.exec Bd.bytes hml (findClass_of_methodNamed Bd.named) (name_of_methodNamed Bd.named Bd.method).1 Bd.returns Bd.notSynchronized hZ (by rw [← hZ, Bd.state]; rfl) (Stand.of_body Bd)
section OwnKit
variable {p : Program} {l : Launch} {e : Env} {R : Room} {s : State} {m : MethodId} {args : Array Value} {below : List Frame} {meth : Method} {c : Code} {T : State} {locs : List Loc} {cells slots : Nat} {E : State → Outcome → Prop} {Z : State} {a0 : Array Value} {h : Heap} {pc : Nat} {Ls Ls' : Array Slot} {st : List Value}
theorem o_iload (pc' : Nat) (X : Stand p l e R s m args below meth c T locs cells slots) (hx : p.tables.exec = Jvm.exec) (hpc : pc + 2 = pc') {k : Nat} {v : Int32} (hd : decode c.code pc = .ok (.iload k, 2)) (hl : Ls[k]? = some (.val (.int v))) (h : Go p.tables e below E (T.setTop (mkF m pc' Ls ((.int v) :: st)))) : Go p.tables e below E (T.setTop (mkF m pc Ls st)) := by
  subst hpc; exact Go.via (fun _ k => XS.iload X.here hx rfl hd hl k) h
theorem o_iloadN (pc' : Nat) (X : Stand p l e R s m args below meth c T locs cells slots) (hx : p.tables.exec = Jvm.exec) (hpc : pc + 1 = pc') {k : Fin 4} {v : Int32} (hd : decode c.code pc = .ok (.iload_n k, 1)) (hl : Ls[k.val]? = some (.val (.int v))) (h : Go p.tables e below E (T.setTop (mkF m pc' Ls ((.int v) :: st)))) : Go p.tables e below E (T.setTop (mkF m pc Ls st)) := by
  subst hpc; exact Go.via (fun _ k => XS.iloadN X.here hx rfl hd hl k) h
theorem o_istore (pc' : Nat) (X : Stand p l e R s m args below meth c T locs cells slots) (hx : p.tables.exec = Jvm.exec) (hpc : pc + 2 = pc') {k : Nat} {v : Int32} (hd : decode c.code pc = .ok (.istore k, 2)) (Ls' : Array Slot) (hl : storeLocals Ls k (.int v) = some Ls') (h : Go p.tables e below E (T.setTop (mkF m pc' Ls' st))) : Go p.tables e below E (T.setTop (mkF m pc Ls ((.int v) :: st))) := by
  subst hpc; exact Go.via (fun _ k => XS.istore X.here hx rfl hd rfl hl k) h
theorem o_istoreN (pc' : Nat) (X : Stand p l e R s m args below meth c T locs cells slots) (hx : p.tables.exec = Jvm.exec) (hpc : pc + 1 = pc') {k : Fin 4} {v : Int32} (hd : decode c.code pc = .ok (.istore_n k, 1)) (Ls' : Array Slot) (hl : storeLocals Ls k.val (.int v) = some Ls') (h : Go p.tables e below E (T.setTop (mkF m pc' Ls' st))) : Go p.tables e below E (T.setTop (mkF m pc Ls ((.int v) :: st))) := by
  subst hpc; exact Go.via (fun _ k => XS.istoreN X.here hx rfl hd rfl hl k) h
theorem o_iconst (pc' : Nat) (X : Stand p l e R s m args below meth c T locs cells slots) (hx : p.tables.exec = Jvm.exec) (hpc : pc + 1 = pc') {i : Int} (hd : decode c.code pc = .ok (.iconst i, 1)) (v : Int32) (hv : Int32.ofInt i = v) (h : Go p.tables e below E (T.setTop (mkF m pc' Ls (.int v :: st)))) : Go p.tables e below E (T.setTop (mkF m pc Ls st)) := by
  subst hpc; exact Go.via (fun _ k => XS.iconst X.here hx rfl hd (by rw [hv]; exact k)) h
theorem o_bipush (pc' : Nat) (X : Stand p l e R s m args below meth c T locs cells slots) (hx : p.tables.exec = Jvm.exec) (hpc : pc + 2 = pc') {i : Int} (hd : decode c.code pc = .ok (.bipush i, 2)) (v : Int32) (hv : (Int8.ofInt i).toInt32 = v) (h : Go p.tables e below E (T.setTop (mkF m pc' Ls (.int v :: st)))) : Go p.tables e below E (T.setTop (mkF m pc Ls st)) := by
  subst hpc; exact Go.via (fun _ k => XS.bipush X.here hx rfl hd (by rw [hv]; exact k)) h
theorem o_lconst (pc' : Nat) (X : Stand p l e R s m args below meth c T locs cells slots) (hx : p.tables.exec = Jvm.exec) (hpc : pc + 1 = pc') {i : Fin 2} (hd : decode c.code pc = .ok (.lconst i, 1)) (v : Int64) (hv : Int64.ofNat i = v) (h : Go p.tables e below E (T.setTop (mkF m pc' Ls (.long v :: st)))) : Go p.tables e below E (T.setTop (mkF m pc Ls st)) := by
  subst hpc; exact Go.via (fun _ k => XS.lconst X.here hx rfl hd (by rw [hv]; exact k)) h
theorem o_ldcInt (pc' : Nat) (X : Stand p l e R s m args below meth c T locs cells slots) (hx : p.tables.exec = Jvm.exec) (hpc : pc + 2 = pc') (hZ : Z.Warmed39 s.vm) {own : String} {index : Nat} (hown : s.vm.findClass own = some m.cls) {v : Int32} (w : (Jvm.Cond.constant own index v).before a0 Z = true) (hd : decode c.code pc = .ok (.ldc index, 2)) (h : Go p.tables e below E (T.setTop (mkF m pc' Ls (.int v :: st)))) : Go p.tables e below E (T.setTop (mkF m pc Ls st)) := by
  subst hpc; exact Go.via (fun _ k => X.ldcInt hx hown (mvT hZ w) (g := mkF m pc Ls st) rfl hd _ k) h
theorem o_ldc2Long (pc' : Nat) (X : Stand p l e R s m args below meth c T locs cells slots) (hx : p.tables.exec = Jvm.exec) (hpc : pc + 3 = pc') (hZ : Z.Warmed39 s.vm) {own : String} {index : Nat} (hown : s.vm.findClass own = some m.cls) {v : Int64} (w : (Jvm.Cond.constantLong own index v).before a0 Z = true) (hd : decode c.code pc = .ok (.ldc2_w index, 3)) (h : Go p.tables e below E (T.setTop (mkF m pc' Ls (.long v :: st)))) : Go p.tables e below E (T.setTop (mkF m pc Ls st)) := by
  subst hpc; exact Go.via (fun _ k => X.ldc2Long hx hown (mvT hZ w) (g := mkF m pc Ls st) rfl hd _ k) h
theorem o_iadd (pc' : Nat) (X : Stand p l e R s m args below meth c T locs cells slots) (hx : p.tables.exec = Jvm.exec) (hpc : pc + 1 = pc') {x : Int32} {y : Int32} (hd : decode c.code pc = .ok (.iadd, 1)) (h : Go p.tables e below E (T.setTop (mkF m pc' Ls (.int (x + y) :: st)))) : Go p.tables e below E (T.setTop (mkF m pc Ls (.int y :: .int x :: st))) := by
  subst hpc; exact Go.via (fun _ k => XS.iadd X.here hx rfl hd rfl k) h
theorem o_isub (pc' : Nat) (X : Stand p l e R s m args below meth c T locs cells slots) (hx : p.tables.exec = Jvm.exec) (hpc : pc + 1 = pc') {x : Int32} {y : Int32} (hd : decode c.code pc = .ok (.isub, 1)) (h : Go p.tables e below E (T.setTop (mkF m pc' Ls (.int (x - y) :: st)))) : Go p.tables e below E (T.setTop (mkF m pc Ls (.int y :: .int x :: st))) := by
  subst hpc; exact Go.via (fun _ k => XS.isub X.here hx rfl hd rfl k) h
theorem o_imul (pc' : Nat) (X : Stand p l e R s m args below meth c T locs cells slots) (hx : p.tables.exec = Jvm.exec) (hpc : pc + 1 = pc') {x : Int32} {y : Int32} (hd : decode c.code pc = .ok (.imul, 1)) (h : Go p.tables e below E (T.setTop (mkF m pc' Ls (.int (x * y) :: st)))) : Go p.tables e below E (T.setTop (mkF m pc Ls (.int y :: .int x :: st))) := by
  subst hpc; exact Go.via (fun _ k => XS.imul X.here hx rfl hd rfl k) h
theorem o_iand (pc' : Nat) (X : Stand p l e R s m args below meth c T locs cells slots) (hx : p.tables.exec = Jvm.exec) (hpc : pc + 1 = pc') {x : Int32} {y : Int32} (hd : decode c.code pc = .ok (.iand, 1)) (h : Go p.tables e below E (T.setTop (mkF m pc' Ls (.int (x &&& y) :: st)))) : Go p.tables e below E (T.setTop (mkF m pc Ls (.int y :: .int x :: st))) := by
  subst hpc; exact Go.via (fun _ k => XS.iand X.here hx rfl hd rfl k) h
theorem o_ishl (pc' : Nat) (X : Stand p l e R s m args below meth c T locs cells slots) (hx : p.tables.exec = Jvm.exec) (hpc : pc + 1 = pc') {x : Int32} {y : Int32} (hd : decode c.code pc = .ok (.ishl, 1)) (h : Go p.tables e below E (T.setTop (mkF m pc' Ls (.int (x <<< (y &&& 31)) :: st)))) : Go p.tables e below E (T.setTop (mkF m pc Ls (.int y :: .int x :: st))) := by
  subst hpc; exact Go.via (fun _ k => XS.ishl X.here hx rfl hd rfl k) h
theorem o_lsub (pc' : Nat) (X : Stand p l e R s m args below meth c T locs cells slots) (hx : p.tables.exec = Jvm.exec) (hpc : pc + 1 = pc') {x : Int64} {y : Int64} (hd : decode c.code pc = .ok (.lsub, 1)) (h : Go p.tables e below E (T.setTop (mkF m pc' Ls (.long (x - y) :: st)))) : Go p.tables e below E (T.setTop (mkF m pc Ls (.long y :: .long x :: st))) := by
  subst hpc; exact Go.via (fun _ k => XS.lsub X.here hx rfl hd rfl k) h
theorem o_lmul (pc' : Nat) (X : Stand p l e R s m args below meth c T locs cells slots) (hx : p.tables.exec = Jvm.exec) (hpc : pc + 1 = pc') {x : Int64} {y : Int64} (hd : decode c.code pc = .ok (.lmul, 1)) (h : Go p.tables e below E (T.setTop (mkF m pc' Ls (.long (x * y) :: st)))) : Go p.tables e below E (T.setTop (mkF m pc Ls (.long y :: .long x :: st))) := by
  subst hpc; exact Go.via (fun _ k => XS.lmul X.here hx rfl hd rfl k) h
theorem o_irem (pc' : Nat) (X : Stand p l e R s m args below meth c T locs cells slots) (hx : p.tables.exec = Jvm.exec) (hpc : pc + 1 = pc') {x y : Int32} (hd : decode c.code pc = .ok (.irem, 1)) (hy : y ≠ 0) (h : Go p.tables e below E (T.setTop (mkF m pc' Ls (.int (x % y) :: st)))) : Go p.tables e below E (T.setTop (mkF m pc Ls (.int y :: .int x :: st))) := by
  subst hpc; exact Go.via (fun _ k => iremM (g := mkF m pc Ls (.int y :: .int x :: st)) X hx rfl hd rfl hy k) h
theorem o_i2l (pc' : Nat) (X : Stand p l e R s m args below meth c T locs cells slots) (hx : p.tables.exec = Jvm.exec) (hpc : pc + 1 = pc') {x : Int32} (hd : decode c.code pc = .ok (.i2l, 1)) (h : Go p.tables e below E (T.setTop (mkF m pc' Ls (.long (x.toInt64) :: st)))) : Go p.tables e below E (T.setTop (mkF m pc Ls (.int x :: st))) := by
  subst hpc; exact Go.via (fun _ k => XS.i2l X.here hx rfl hd rfl k) h
theorem o_l2i (pc' : Nat) (X : Stand p l e R s m args below meth c T locs cells slots) (hx : p.tables.exec = Jvm.exec) (hpc : pc + 1 = pc') {x : Int64} (hd : decode c.code pc = .ok (.l2i, 1)) (h : Go p.tables e below E (T.setTop (mkF m pc' Ls (.int (x.toInt32) :: st)))) : Go p.tables e below E (T.setTop (mkF m pc Ls (.long x :: st))) := by
  subst hpc; exact Go.via (fun _ k => XS.l2i X.here hx rfl hd rfl k) h
theorem o_goto (pc' : Nat) (X : Stand p l e R s m args below meth c T locs cells slots) (hx : p.tables.exec = Jvm.exec) {o : Int} (hd : decode c.code pc = .ok (.goto o, 3)) (ho : 0 ≤ (pc : Int) + o) (hp : ((pc : Int) + o).toNat = pc') (h : Go p.tables e below E (T.setTop (mkF m pc' Ls st))) : Go p.tables e below E (T.setTop (mkF m pc Ls st)) := by
  exact Go.via (fun _ k => XS.goto X.here hx rfl (pc0 := pc) (pc' := pc') rfl hd ho hp k) h
theorem o_ifYes (pc' : Nat) (X : Stand p l e R s m args below meth c T locs cells slots) (hx : p.tables.exec = Jvm.exec) {cd : ClassFile.Cond} {x : Int32} {o : Int} (hd : decode c.code pc = .ok (.ifCond cd o, 3)) (hc : if_icmp.holds cd x 0 = true) (ho : 0 ≤ (pc : Int) + o) (hp : ((pc : Int) + o).toNat = pc') (h : Go p.tables e below E (T.setTop (mkF m pc' Ls st))) : Go p.tables e below E (T.setTop (mkF m pc Ls (.int x :: st))) := by
  exact Go.via (fun _ k => XS.ifYes X.here hx rfl (pc0 := pc) (pc' := pc') rfl hd rfl ((if0 _ _).trans hc) ho hp k) h
theorem o_ifNo (pc' : Nat) (X : Stand p l e R s m args below meth c T locs cells slots) (hx : p.tables.exec = Jvm.exec) (hpc : pc + 3 = pc') {cd : ClassFile.Cond} {x : Int32} {o : Int} (hd : decode c.code pc = .ok (.ifCond cd o, 3)) (hc : if_icmp.holds cd x 0 = false) (h : Go p.tables e below E (T.setTop (mkF m pc' Ls st))) : Go p.tables e below E (T.setTop (mkF m pc Ls (.int x :: st))) := by
  subst hpc; exact Go.via (fun _ k => XS.ifNo X.here hx rfl hd rfl ((if0 _ _).trans hc) k) h
theorem o_icmpYes (pc' : Nat) (X : Stand p l e R s m args below meth c T locs cells slots) (hx : p.tables.exec = Jvm.exec) {cd : ClassFile.Cond} {x y : Int32} {o : Int} (hd : decode c.code pc = .ok (.if_icmp cd o, 3)) (hc : if_icmp.holds cd x y = true) (ho : 0 ≤ (pc : Int) + o) (hp : ((pc : Int) + o).toNat = pc') (h : Go p.tables e below E (T.setTop (mkF m pc' Ls st))) : Go p.tables e below E (T.setTop (mkF m pc Ls (.int y :: .int x :: st))) := by
  exact Go.via (fun _ k => XS.icmpYes X.here hx rfl (pc0 := pc) (pc' := pc') rfl hd rfl hc ho hp k) h
theorem o_icmpNo (pc' : Nat) (X : Stand p l e R s m args below meth c T locs cells slots) (hx : p.tables.exec = Jvm.exec) (hpc : pc + 3 = pc') {cd : ClassFile.Cond} {x y : Int32} {o : Int} (hd : decode c.code pc = .ok (.if_icmp cd o, 3)) (hc : if_icmp.holds cd x y = false) (h : Go p.tables e below E (T.setTop (mkF m pc' Ls st))) : Go p.tables e below E (T.setTop (mkF m pc Ls (.int y :: .int x :: st))) := by
  subst hpc; exact Go.via (fun _ k => XS.icmpNo X.here hx rfl hd rfl hc k) h
theorem o_out (X : Stand p l e R s m args below meth c T locs cells slots) (hx : p.tables.exec = Jvm.exec) {rm : Room} {Q : Option Value → Heap → List Loc → Prop} {v : Option Value} (hv : meth.sig.returnType = none → v = none) (hlk : meth.locks = false) {g : JFrame}
    (hst : ∀ fs, (∀ (f : JFrame) (acts : List Action), f.method = m → f.locked = none → f.entered = [] → (doReturn e (T.setTop f) acts v).1 = T.setFrames fs) → Steps p.tables e below (T.setTop g) (T.setFrames fs)) (hq : Q v T.heap locs) (hk : cells ≤ rm.cells) (hn : slots ≤ rm.slots) : Go p.tables e below (EndE s rm Q) (T.setTop g) := by
  obtain ⟨fs, hr, hrun, hended, hW, hsame⟩ := X.leave (v := v) hv hlk
  exact ⟨_, _, hst fs hr, hrun, hended, _, _, rfl, hq, ⟨_, rfl⟩, hW, hsame.mono hk hn⟩
theorem own_retI (X : Stand p l e R s m args below meth c T locs cells slots) (hx : p.tables.exec = Jvm.exec) {z : Int32} (hret : meth.sig.returnType = some .int) (hd : decode c.code pc = .ok (.ireturn, 1)) {fs : List Frame}
    (hl : ∀ (f : JFrame) (acts : List Action), f.method = m → f.locked = none → f.entered = [] → (doReturn e (T.setTop f) acts (some (.int z))).1 = T.setFrames fs) : Steps p.tables e below (T.setTop (mkF m pc Ls (.int z :: st))) (T.setFrames fs) :=
  retOut X hx hret rfl (Or.inl ⟨rfl, Or.inl rfl, z, rfl⟩) hd hl
theorem o_retI (X : Stand p l e R s m args below meth c T locs cells slots) (hx : p.tables.exec = Jvm.exec) {z : Int32} {rm : Room} {Q : Option Value → Heap → List Loc → Prop} (hret : meth.sig.returnType = some .int) (hlk : meth.locks = false) (hd : decode c.code pc = .ok (.ireturn, 1)) (hk : cells ≤ rm.cells) (hn : slots ≤ rm.slots) (hq : Q (some (.int z)) T.heap locs) : Go p.tables e below (EndE s rm Q) (T.setTop (mkF m pc Ls (.int z :: st))) :=
  o_out X hx (fun q => by rw [hret] at q; cases q) hlk (fun fs hr => own_retI X hx hret hd hr) hq hk hn
theorem o_retN (X : Stand p l e R s m args below meth c T locs cells slots) (hx : p.tables.exec = Jvm.exec) {z : Int32} (t : FieldType) (ht : t = .boolean ∨ t = .byte ∨ t = .char ∨ t = .short) {rm : Room} {Q : Option Value → Heap → List Loc → Prop} (hret : meth.sig.returnType = some t) (hlk : meth.locks = false) (hd : decode c.code pc = .ok (.ireturn, 1)) (hk : cells ≤ rm.cells) (hn : slots ≤ rm.slots) (hq : Q (some (.int (nar t z))) T.heap locs) : Go p.tables e below (EndE s rm Q) (T.setTop (mkF m pc Ls (.int z :: st))) :=
  o_out X hx (fun q => by rw [hret] at q; cases q) hlk (fun fs hr => retN X hx hret ht hd hr) hq hk hn
theorem o_callS (pc' : Nat) (X : Stand p l e R s m args below meth c T locs cells slots) (hx : p.tables.exec = Jvm.exec) (hpc : pc + 3 = pc') (hZ : Z.Warmed39 s.vm) {own : String} {index : Nat} {y : MethodName} {bytes : ByteArray} {maxL : Nat} {ret : Option FieldType} {rm : Room} {as' : Array Value} {Q : Option Value → Heap → List Loc → Prop} (hown : s.vm.findClass own = some m.cls) (w1 : (Jvm.Cond.methodLink own index y).before a0 Z = true) (w2 : (Jvm.Cond.static y).before a0 Z = true) (w3 : (Jvm.Cond.initialized y.cls).before a0 Z = true) (w4 : (Jvm.Cond.code y bytes maxL ret).before a0 Z = true) (hy : y.cls ≠ "java/lang/invoke/MethodHandle" ∧ y.cls ≠ "java/lang/invoke/VarHandle") (eT : T.heap = h)
    (hM : MetP l y bytes maxL ret [] rm Z as' h Q) {ps : List FieldType} {r : Option FieldType} (hdsc : parseMethodDescriptor y.desc = some ⟨ps, r⟩) (argsL rest : List Value) (hlen : argsL.length = ps.length) (has : argsL.toArray = as') (hsize : Ls.size = c.maxLocals) (hst : st = argsL.reverse ++ rest) (hd : decode c.code pc = .ok (.invokestatic index, 3)) (W : Nat) (hW : (rest.map fun v => v.category).sum ≤ W) (hf : rm.frames + 1 ≤ R.frames) (hlo : W + (maxL + 11) + rm.locals ≤ R.locals) (hc : cells + rm.cells ≤ R.cells) (hsl : slots + rm.slots ≤ R.slots)
    (k : ∀ (v : Option Value) (T' : State) (L : List Loc), Stand p l e R s m args below meth c T' (locs ++ L) (cells + rm.cells) (slots + rm.slots) → Q v T'.heap L → Go p.tables e below E (T'.setTop (mkF m pc' Ls (v.toList ++ rest)))) : Go p.tables e below E (T.setTop (mkF m pc Ls st)) := by
  subst hpc
  obtain ⟨v, _, ⟨T', L', c', s'⟩, -, X', ⟨L, hQ, h1, h2, h3⟩, st'⟩ := Jvm.LawKit.callS X hx (y := y) hown (mvT hZ w1) (mvT hZ w2) (mvT hZ w3) (mvT hZ w4) hy (backOf (W := W) hM hZ w4 w3 hf hlo) (g := mkF m pc Ls st) rfl hsize (argsL := argsL) (rest := rest) (lenOf hdsc hlen) hst (by show 2 * 0 + _ ≤ _; rw [Nat.mul_zero, Nat.zero_add]; exact hW) hd (fun _ _ => ⟨has, eT, hc, hsl⟩)
  dsimp only [Pt.U, Pt.locs, Pt.cells, Pt.slots] at X' h1 h2 h3 st' hQ
  subst h1 h2 h3
  exact Go.via st' (k v T' L X' hQ)
theorem o_callP (pc' : Nat) (X : Stand p l e R s m args below meth c T locs cells slots) (hx : p.tables.exec = Jvm.exec) (hpc : pc + 3 = pc') (hZ : Z.Warmed39 s.vm) {own : String} {index : Nat} {y : MethodName} {bytes : ByteArray} {maxL : Nat} {ret : Option FieldType} {rm : Room} {as' : Array Value} {rv : Value} (hown : s.vm.findClass own = some m.cls) (w1 : (Jvm.Cond.methodLink own index y).before a0 Z = true) (w2 : (Jvm.Cond.static y).before a0 Z = true) (w3 : (Jvm.Cond.initialized y.cls).before a0 Z = true) (w4 : (Jvm.Cond.code y bytes maxL ret).before a0 Z = true) (hy : y.cls ≠ "java/lang/invoke/MethodHandle" ∧ y.cls ≠ "java/lang/invoke/VarHandle") (eT : T.heap = h)
    (hM : MetP l y bytes maxL ret [] rm Z as' h (Pure rv h)) {ps : List FieldType} {r : Option FieldType} (hdsc : parseMethodDescriptor y.desc = some ⟨ps, r⟩) (argsL rest : List Value) (hlen : argsL.length = ps.length) (has : argsL.toArray = as') (hsize : Ls.size = c.maxLocals) (hst : st = argsL.reverse ++ rest) (hd : decode c.code pc = .ok (.invokestatic index, 3)) (W : Nat) (hW : (rest.map fun v => v.category).sum ≤ W) (hf : rm.frames + 1 ≤ R.frames) (hlo : W + (maxL + 11) + rm.locals ≤ R.locals) (hc : cells + rm.cells ≤ R.cells) (hsl : slots + rm.slots ≤ R.slots) (hc0 : rm.cells = 0) (hs0 : rm.slots = 0)
    (k : ∀ (T' : State), Stand p l e R s m args below meth c T' locs cells slots → T'.heap = h → Go p.tables e below E (T'.setTop (mkF m pc' Ls (rv :: rest)))) : Go p.tables e below E (T.setTop (mkF m pc Ls st)) := by
  refine o_callS pc' X hx hpc hZ hown w1 w2 w3 w4 hy eT hM hdsc argsL rest hlen has hsize hst hd W hW hf hlo hc hsl ?_
  intro v T' L X' hQ
  obtain ⟨rfl, rfl, e'⟩ := hQ
  rw [hc0, hs0, List.append_nil] at X'
  exact k T' X' e' 
end OwnKit
theorem l_tlt {x y : Int64} (h : x < y) : lcmpW x y < 0 := (lw_lt x y).mpr h
theorem l_flt {x y : Int64} (h : ¬ x < y) : ¬ lcmpW x y < 0 := fun q => h ((lw_lt x y).mp q)
theorem l_tgt {x y : Int64} (h : y < x) : 0 < lcmpW x y := (lw_gt x y).mpr h
theorem l_fgt {x y : Int64} (h : ¬ y < x) : ¬ 0 < lcmpW x y := fun q => h ((lw_gt x y).mp q)
theorem l_teq {x y : Int64} (h : x = y) : lcmpW x y = 0 := (lw_eq x y).mpr h
theorem l_feq {x y : Int64} (h : ¬ x = y) : ¬ lcmpW x y = 0 := fun q => h ((lw_eq x y).mp q)
theorem wd_0 {Z : State} {a0 : Array Value} (hw : ∀ d ∈ tables_1, d.before a0 Z = true) : (Jvm.Cond.constant "com/example/roundelay/roundelay/sat/ScheduleLubyPinLaw" (7 : Nat) (2147483647 : Int32)).before a0 Z = true := hw _ (List.mem_of_getElem? (i := 0) rfl)
theorem wd_1 {Z : State} {a0 : Array Value} (hw : ∀ d ∈ tables_1, d.before a0 Z = true) : (Jvm.Cond.constantLong "com/example/roundelay/roundelay/sat/ScheduleLubyPinLaw" (8 : Nat) (2 : Int64)).before a0 Z = true := hw _ (List.mem_of_getElem? (i := 1) rfl)
theorem wd_2 {Z : State} {a0 : Array Value} (hw : ∀ d ∈ tables_1, d.before a0 Z = true) : (Jvm.Cond.methodLink "com/example/roundelay/roundelay/sat/ScheduleLubyPinLaw" (10 : Nat) ({ cls := "com/example/roundelay/roundelay/sat/Schedule", name := "luby", desc := "(I)I" } : Jvm.MethodName)).before a0 Z = true := hw _ (List.mem_of_getElem? (i := 2) rfl)
theorem wd_3 {Z : State} {a0 : Array Value} (hw : ∀ d ∈ tables_1, d.before a0 Z = true) : (Jvm.Cond.static ({ cls := "com/example/roundelay/roundelay/sat/Schedule", name := "luby", desc := "(I)I" } : Jvm.MethodName)).before a0 Z = true := hw _ (List.mem_of_getElem? (i := 3) rfl)
theorem wd_4 {Z : State} {a0 : Array Value} (hw : ∀ d ∈ tables_1, d.before a0 Z = true) : (Jvm.Cond.initialized "com/example/roundelay/roundelay/sat/Schedule").before a0 Z = true := hw _ (List.mem_of_getElem? (i := 4) rfl)
theorem wd_5 {Z : State} {a0 : Array Value} (hw : ∀ d ∈ tables_1, d.before a0 Z = true) : (Jvm.Cond.code ({ cls := "com/example/roundelay/roundelay/sat/Schedule", name := "luby", desc := "(I)I" } : Jvm.MethodName) prog_55_method_7_code (3 : Nat) (Option.some Jvm.ClassFile.FieldType.int)).before a0 Z = true := hw _ (List.mem_of_getElem? (i := 5) rfl)
theorem d1_0 : decode prog_55_method_7_code 0 = .ok (.iload_n 0, 1) := by decide +kernel
theorem d1_1 : decode prog_55_method_7_code 1 = .ok (.istore_n 1, 1) := by decide +kernel
theorem d1_10 : decode prog_55_method_7_code 10 = .ok (.if_icmp .ge 10, 3) := by decide +kernel
theorem d1_13 : decode prog_55_method_7_code 13 = .ok (.iload_n 2, 1) := by decide +kernel
theorem d1_14 : decode prog_55_method_7_code 14 = .ok (.iconst 2, 1) := by decide +kernel
theorem d1_15 : decode prog_55_method_7_code 15 = .ok (.imul, 1) := by decide +kernel
theorem d1_16 : decode prog_55_method_7_code 16 = .ok (.istore_n 2, 1) := by decide +kernel
theorem d1_17 : decode prog_55_method_7_code 17 = .ok (.goto (-13), 3) := by decide +kernel
theorem d1_2 : decode prog_55_method_7_code 2 = .ok (.iconst 1, 1) := by decide +kernel
theorem d1_20 : decode prog_55_method_7_code 20 = .ok (.iload_n 2, 1) := by decide +kernel
theorem d1_21 : decode prog_55_method_7_code 21 = .ok (.iconst 2, 1) := by decide +kernel
theorem d1_22 : decode prog_55_method_7_code 22 = .ok (.imul, 1) := by decide +kernel
theorem d1_23 : decode prog_55_method_7_code 23 = .ok (.iconst 1, 1) := by decide +kernel
theorem d1_24 : decode prog_55_method_7_code 24 = .ok (.isub, 1) := by decide +kernel
theorem d1_25 : decode prog_55_method_7_code 25 = .ok (.iload_n 1, 1) := by decide +kernel
theorem d1_26 : decode prog_55_method_7_code 26 = .ok (.if_icmp .ne 5, 3) := by decide +kernel
theorem d1_29 : decode prog_55_method_7_code 29 = .ok (.iload_n 2, 1) := by decide +kernel
theorem d1_3 : decode prog_55_method_7_code 3 = .ok (.istore_n 2, 1) := by decide +kernel
theorem d1_30 : decode prog_55_method_7_code 30 = .ok (.ireturn, 1) := by decide +kernel
theorem d1_31 : decode prog_55_method_7_code 31 = .ok (.iload_n 1, 1) := by decide +kernel
theorem d1_32 : decode prog_55_method_7_code 32 = .ok (.iload_n 2, 1) := by decide +kernel
theorem d1_33 : decode prog_55_method_7_code 33 = .ok (.iconst 1, 1) := by decide +kernel
theorem d1_34 : decode prog_55_method_7_code 34 = .ok (.isub, 1) := by decide +kernel
theorem d1_35 : decode prog_55_method_7_code 35 = .ok (.isub, 1) := by decide +kernel
theorem d1_36 : decode prog_55_method_7_code 36 = .ok (.istore_n 1, 1) := by decide +kernel
theorem d1_37 : decode prog_55_method_7_code 37 = .ok (.goto (-35), 3) := by decide +kernel
theorem d1_4 : decode prog_55_method_7_code 4 = .ok (.iload_n 2, 1) := by decide +kernel
theorem d1_5 : decode prog_55_method_7_code 5 = .ok (.iconst 2, 1) := by decide +kernel
theorem d1_6 : decode prog_55_method_7_code 6 = .ok (.imul, 1) := by decide +kernel
theorem d1_7 : decode prog_55_method_7_code 7 = .ok (.iconst 1, 1) := by decide +kernel
theorem d1_8 : decode prog_55_method_7_code 8 = .ok (.isub, 1) := by decide +kernel
theorem d1_9 : decode prog_55_method_7_code 9 = .ok (.iload_n 1, 1) := by decide +kernel
theorem pd_lIrI : parseMethodDescriptor "(I)I" = some ⟨[.int], some .int⟩ := by decide +kernel
theorem pn_0 : plainFor x = true := plainFor_of_name (show plainName "com/example/roundelay/roundelay/sat/ScheduleLubyPinLaw" = true by first | (simp [plainName, overriddenIn]; done) | decide +kernel)
theorem pn_1 : plainFor (⟨"com/example/roundelay/roundelay/sat/Schedule", "luby", "(I)I"⟩ : MethodName) = true := plainFor_of_name (show plainName "com/example/roundelay/roundelay/sat/Schedule" = true by first | (simp [plainName, overriddenIn]; done) | decide +kernel)
theorem own_lt {i n : Nat} (h : i < n) (hn : n < 2147483648) : Int32.ofNat i < Int32.ofNat n := by
  rw [Int32.lt_iff_toInt_lt, Int32.toInt_ofNat_of_lt (by omega), Int32.toInt_ofNat_of_lt (by omega)]
  omega
theorem own_nn {n : Nat} (hn : n < 2147483648) : ¬ Int32.ofNat n < 0 := by
  rw [Int32.lt_iff_toInt_lt, Int32.toInt_ofNat_of_lt (by omega), show (0 : Int32).toInt = 0 from rfl]
  omega
theorem own_n32 {n : Nat} (hn : n < 2147483648) : (Int32.ofNat n).toNatClampNeg = n := by
  rw [Int32.toNatClampNeg, Int32.toInt_ofNat_of_lt (by omega)]; rfl
theorem own_one (i : Nat) : Int32.ofNat i + (1 : Int32) = Int32.ofNat (i + 1) := (Int32.ofNat_add i 1).symm
theorem own_hd {xs ys : List Int32} {y : Int32} {i : Nat} (h : xs.drop i = y :: ys) : xs.getD i 0 = y := by
  have q : xs[i]? = some y := by have := congrArg (fun l => l[0]?) h; simpa [List.getElem?_drop] using this
  rw [List.getD_eq_getElem?_getD, q]; rfl
theorem own_tl {xs ys : List Int32} {y : Int32} {i : Nat} (h : xs.drop i = y :: ys) : xs.drop (i + 1) = ys := by
  have := congrArg (List.drop 1) h; simpa [List.drop_drop] using this
/-- luby on naturals below 2 ^ k -/
def own_lb : Nat → Nat → Nat
  | 0, _ => 0
  | k + 1, n => if n < 2 ^ k then own_lb k n else if n + 1 = 2 ^ (k + 1) then 2 ^ k else own_lb k (n - (2 ^ k - 1))
theorem own_pw {s : Nat} (h : s ≤ 30) : 2 ^ s ≤ 1073741824 := Nat.le_trans (Nat.pow_le_pow_right (by decide) h) (by decide)
theorem own_dbl {s : Nat} (h : s ≤ 30) : (((Int32.ofNat (2 ^ s)) * (2 : Int32)) - (1 : Int32)).toInt = 2 * (2 ^ s : Nat) - 1 := by
  have hp := own_pw h
  have h0 : 0 < 2 ^ s := Nat.pos_of_ne_zero (by simp)
  have e0 : (Int32.ofNat (2 ^ s)).toInt = (2 ^ s : Nat) := Int32.toInt_ofNat_of_lt (by omega)
  have e1 := c_imul (Int32.ofNat (2 ^ s)) 2
  have e2 := c_isub ((Int32.ofNat (2 ^ s)) * (2 : Int32)) 1
  have r := rng32 (((Int32.ofNat (2 ^ s)) * (2 : Int32)) - (1 : Int32))
  rw [e0, show (2 : Int32).toInt = 2 from rfl] at e1
  rw [show (1 : Int32).toInt = 1 from rfl] at e2
  omega
theorem own_nx {s : Nat} : (Int32.ofNat (2 ^ s)) * (2 : Int32) = Int32.ofNat (2 ^ (s + 1)) := by
  rw [Nat.pow_succ, Int32.ofNat_mul]; rfl
theorem own_sub {n t : Nat} (h1 : t ≤ n + 1) (h2 : 1 ≤ t) (h3 : n < 2147483648) : (Int32.ofNat n) - ((Int32.ofNat t) - (1 : Int32)) = Int32.ofNat (n - (t - 1)) := by
  apply Int32.toInt_inj.mp
  have e1 := c_isub (Int32.ofNat t) 1
  have e2 := c_isub (Int32.ofNat n) ((Int32.ofNat t) - (1 : Int32))
  have e3 : (Int32.ofNat n).toInt = n := Int32.toInt_ofNat_of_lt (by omega)
  have r := rng32 ((Int32.ofNat n) - ((Int32.ofNat t) - (1 : Int32)))
  have e4 : (Int32.ofNat (n - (t - 1))).toInt = (n - (t - 1) : Nat) := Int32.toInt_ofNat_of_lt (by omega)
  by_cases ht : t < 2147483648
  · have e5 : (Int32.ofNat t).toInt = t := Int32.toInt_ofNat_of_lt (by omega)
    rw [show (1 : Int32).toInt = 1 from rfl] at e1
    rw [e4]; omega
  · have e5 : t = 2147483648 := by omega
    subst e5
    rw [show (Int32.ofNat 2147483648).toInt = -2147483648 from rfl, show (1 : Int32).toInt = 1 from rfl] at e1
    rw [e4]; omega
theorem ef_1 (m : MethodId) (y0 : Int32) : entryFrame m #[(.int y0)] 3 = mkF m 0 #[.val (.int y0), .unset, .unset] [] := by first | (simp [entryFrame, mkF, argsToLocals, Value.category]; done) | rfl
set_option maxRecDepth 65536 in
set_option maxHeartbeats 40000000 in
theorem rm1 (l : Launch) (Z : State) (a0 : Array Value) (hw : ∀ d ∈ tables_1, d.before a0 Z = true) (n0 : Nat) (h0 : Heap) (h1 : 1 ≤ n0) (h2 : n0 < 2 ^ 31) : MetP l (⟨"com/example/roundelay/roundelay/sat/Schedule", "luby", "(I)I"⟩ : MethodName) prog_55_method_7_code 3 (some .int) [] ({ frames := 0, cells := 0, slots := 0, locals := 0 } : Room) Z #[(.int (Int32.ofNat n0))] h0 (Pure (.int (Int32.ofNat (own_lb 31 n0))) h0) := by
  refine met_go pn_1 ?_
  intro p e s m below meth c s₁ hx hby hml hown hnm hret hlk hZ e0 X0
  rw [ef_1 m (Int32.ofNat n0)]
  refine o_iloadN 1 X0 hx rfl (hb hby d1_0) rfl ?_
  refine o_istoreN 2 X0 hx rfl (hb hby d1_1) #[.val (.int (Int32.ofNat n0)), .val (.int (Int32.ofNat n0)), .unset] rfl ?_
  suffices outer : ∀ (k n : Nat) (s0 s2 : Slot), One s2 → k ≤ 31 → 1 ≤ n → n < 2 ^ k → own_lb k n = own_lb 31 n0 → Go p.tables e below (EndE s ({ frames := 0, cells := 0, slots := 0, locals := 0 } : Room) (Pure (.int (Int32.ofNat (own_lb 31 n0))) h0)) (s₁.setTop (mkF m 2 #[s0, .val (.int (Int32.ofNat n)), s2] [])) by
    exact outer 31 n0 _ .unset One.u (Nat.le_refl _) h1 h2 rfl
  intro k
  induction k with
  | zero =>
    intro n s0 s2 hs2 hk hn1 hn2 hval
    exact absurd hn2 (by simp only [Nat.pow_zero]; omega)
  | succ k ih =>
    intro n s0 s2 hs2 hk hn1 hn2 hval
    have hpk : 2 ^ k ≤ 1073741824 := own_pw (by omega)
    have hps : 2 ^ (k + 1) = 2 ^ k * 2 := Nat.pow_succ 2 k
    by_cases hlt : n < 2 ^ k
    · exact ih n s0 s2 hs2 (by omega) hn1 hlt (by rw [← hval, own_lb, if_pos hlt])
    · refine o_iconst 3 X0 hx rfl (hb hby d1_2) (1 : Int32) rfl ?_
      refine o_istoreN 4 X0 hx rfl (hb hby d1_3) #[s0, .val (.int (Int32.ofNat n)), .val (.int (1 : Int32))] (XS.store1 rfl hs2 rfl) ?_
      suffices inner : ∀ (d q : Nat), q + d = k → Go p.tables e below (EndE s ({ frames := 0, cells := 0, slots := 0, locals := 0 } : Room) (Pure (.int (Int32.ofNat (own_lb 31 n0))) h0)) (s₁.setTop (mkF m 4 #[s0, .val (.int (Int32.ofNat n)), .val (.int (Int32.ofNat (2 ^ q)))] [])) by
        exact inner k 0 (by omega)
      intro d
      induction d with
      | zero =>
        intro q hq
        have hq' : q = k := by omega
        subst hq'
        have hd := own_dbl (s := q) (by omega)
        have hnI : (Int32.ofNat n).toInt = n := Int32.toInt_ofNat_of_lt (by omega)
        refine o_iloadN 5 X0 hx rfl (hb hby d1_4) rfl ?_
        refine o_iconst 6 X0 hx rfl (hb hby d1_5) (2 : Int32) rfl ?_
        refine o_imul 7 X0 hx rfl (hb hby d1_6) ?_
        refine o_iconst 8 X0 hx rfl (hb hby d1_7) (1 : Int32) rfl ?_
        refine o_isub 9 X0 hx rfl (hb hby d1_8) ?_
        refine o_iloadN 10 X0 hx rfl (hb hby d1_9) rfl ?_
        refine o_icmpYes 20 X0 hx (hb hby d1_10) (flt (by rw [Int32.lt_iff_toInt_lt, hd, hnI]; omega)).2.1 (by decide) (by decide) ?_
        refine o_iloadN 21 X0 hx rfl (hb hby d1_20) rfl ?_
        refine o_iconst 22 X0 hx rfl (hb hby d1_21) (2 : Int32) rfl ?_
        refine o_imul 23 X0 hx rfl (hb hby d1_22) ?_
        refine o_iconst 24 X0 hx rfl (hb hby d1_23) (1 : Int32) rfl ?_
        refine o_isub 25 X0 hx rfl (hb hby d1_24) ?_
        refine o_iloadN 26 X0 hx rfl (hb hby d1_25) rfl ?_
        by_cases hl : n + 1 = 2 ^ (q + 1)
        · refine o_icmpNo 29 X0 hx rfl (hb hby d1_26) (teq (by apply Int32.toInt_inj.mp; rw [hd, hnI]; omega)).2 ?_
          refine o_iloadN 30 X0 hx rfl (hb hby d1_29) rfl ?_
          refine o_retI X0 hx hret hlk (hb hby d1_30) (by decide) (by decide) ?_
          exact ⟨by rw [← hval, own_lb, if_neg hlt, if_pos hl], rfl, e0⟩
        · refine o_icmpYes 31 X0 hx (hb hby d1_26) (feq (by intro hh; have := congrArg Int32.toInt hh; rw [hd, hnI] at this; omega)).2 (by decide) (by decide) ?_
          refine o_iloadN 32 X0 hx rfl (hb hby d1_31) rfl ?_
          refine o_iloadN 33 X0 hx rfl (hb hby d1_32) rfl ?_
          refine o_iconst 34 X0 hx rfl (hb hby d1_33) (1 : Int32) rfl ?_
          refine o_isub 35 X0 hx rfl (hb hby d1_34) ?_
          refine o_isub 36 X0 hx rfl (hb hby d1_35) ?_
          refine o_istoreN 37 X0 hx rfl (hb hby d1_36) #[s0, .val (.int ((Int32.ofNat n) - ((Int32.ofNat (2 ^ q)) - (1 : Int32)))), .val (.int (Int32.ofNat (2 ^ q)))] rfl ?_
          refine o_goto 2 X0 hx (hb hby d1_37) (by decide) (by decide) ?_
          rw [own_sub (by omega) (by omega) (by omega)]
          exact ih (n - (2 ^ q - 1)) s0 _ (One.val rfl) (by omega) (by omega) (by omega) (by rw [← hval, own_lb, if_neg hlt, if_neg hl])
      | succ d ihd =>
        intro q hq
        have hd := own_dbl (s := q) (by omega)
        have hnI : (Int32.ofNat n).toInt = n := Int32.toInt_ofNat_of_lt (by omega)
        have hqk : 2 ^ (q + 1) ≤ 2 ^ k := Nat.pow_le_pow_right (by decide) (by omega)
        rw [Nat.pow_succ] at hqk
        refine o_iloadN 5 X0 hx rfl (hb hby d1_4) rfl ?_
        refine o_iconst 6 X0 hx rfl (hb hby d1_5) (2 : Int32) rfl ?_
        refine o_imul 7 X0 hx rfl (hb hby d1_6) ?_
        refine o_iconst 8 X0 hx rfl (hb hby d1_7) (1 : Int32) rfl ?_
        refine o_isub 9 X0 hx rfl (hb hby d1_8) ?_
        refine o_iloadN 10 X0 hx rfl (hb hby d1_9) rfl ?_
        refine o_icmpNo 13 X0 hx rfl (hb hby d1_10) (tlt (by rw [Int32.lt_iff_toInt_lt, hd, hnI]; omega)).2.1 ?_
        refine o_iloadN 14 X0 hx rfl (hb hby d1_13) rfl ?_
        refine o_iconst 15 X0 hx rfl (hb hby d1_14) (2 : Int32) rfl ?_
        refine o_imul 16 X0 hx rfl (hb hby d1_15) ?_
        refine o_istoreN 17 X0 hx rfl (hb hby d1_16) #[s0, .val (.int (Int32.ofNat n)), .val (.int ((Int32.ofNat (2 ^ q)) * (2 : Int32)))] rfl ?_
        refine o_goto 4 X0 hx (hb hby d1_17) (by decide) (by decide) ?_
        rw [own_nx]
        exact ihd (q + 1) (by omega)
theorem ef_0 (m : MethodId) (y0 : Int32) (y1 : Int32) : entryFrame m #[(.int y0), (.int y1)] maxLocals = mkF m 0 #[.val (.int y0), .val (.int y1), .unset, .unset, .unset, .unset, .unset, .unset] [] := by first | (simp [entryFrame, mkF, argsToLocals, Value.category, maxLocals]; done) | rfl
theorem own_k (i0 : Int32) : ∃ K : Nat, K ≤ 30 ∧ ((i0 &&& (2147483647 : Int32)) % (31 : Int32)) = Int32.ofNat K := by
  have e1 : (i0 &&& (2147483647 : Int32)).toInt = i0.toInt % (2 ^ 31 : Nat) := c_mask i0 2147483647 31 (by decide) (by decide)
  have e2 := (c_irem (i0 &&& (2147483647 : Int32)) 31 31 rfl).1 (by rw [e1]; omega)
  refine ⟨((i0 &&& (2147483647 : Int32)) % (31 : Int32)).toInt.toNat, by omega, ?_⟩
  apply Int32.toInt_inj.mp; rw [Int32.toInt_ofNat_of_lt (by omega)]; omega
theorem own_half {K : Nat} (hK : K ≤ 30) : ((1 : Int32) <<< ((Int32.ofNat K) &&& 31)) = Int32.ofNat (2 ^ K) := by
  have h0 : 0 < 2 ^ K := Nat.pos_of_ne_zero (by simp)
  have e := c_ishl 1 (Int32.ofNat K) K (by show (BitVec.ofNat 32 K).toNat % 32 = K; rw [BitVec.toNat_ofNat]; omega)
  have hp := own_pw hK
  have r := rng32 ((1 : Int32) <<< ((Int32.ofNat K) &&& 31))
  apply Int32.toInt_inj.mp
  rw [Int32.toInt_ofNat_of_lt (by omega)]
  rw [show (1 : Int32).toInt = 1 from rfl] at e
  omega
theorem own_m {K : Nat} (hK : K ≤ 30) : (Int32.ofNat (2 ^ K)) - (1 : Int32) = Int32.ofNat (2 ^ K - 1) := by
  have hp := own_pw hK
  have h0 : 0 < 2 ^ K := Nat.pos_of_ne_zero (by simp)
  have e := c_isub (Int32.ofNat (2 ^ K)) 1
  have r := rng32 ((Int32.ofNat (2 ^ K)) - (1 : Int32))
  rw [Int32.toInt_ofNat_of_lt (by omega), show (1 : Int32).toInt = 1 from rfl] at e
  apply Int32.toInt_inj.mp
  rw [Int32.toInt_ofNat_of_lt (by omega)]
  omega
theorem own_top {K : Nat} (hK : K ≤ 30) : ((((2 : Int64) * ((Int32.ofNat (2 ^ K)).toInt64)) - (1 : Int64)).toInt32) = Int32.ofNat (2 * 2 ^ K - 1) := by
  have hp := own_pw hK
  have h0 : 0 < 2 ^ K := Nat.pos_of_ne_zero (by simp)
  have e0 := c_i2l (Int32.ofNat (2 ^ K))
  rw [Int32.toInt_ofNat_of_lt (by omega)] at e0
  have e1 := c_lmul 2 (Int32.ofNat (2 ^ K)).toInt64
  have e2 := c_lsub ((2 : Int64) * ((Int32.ofNat (2 ^ K)).toInt64)) 1
  have e3 := c_l2i (((2 : Int64) * ((Int32.ofNat (2 ^ K)).toInt64)) - (1 : Int64))
  have r1 := rng64 ((2 : Int64) * ((Int32.ofNat (2 ^ K)).toInt64))
  have r2 := rng64 (((2 : Int64) * ((Int32.ofNat (2 ^ K)).toInt64)) - (1 : Int64))
  have r3 := rng32 ((((2 : Int64) * ((Int32.ofNat (2 ^ K)).toInt64)) - (1 : Int64)).toInt32)
  rw [e0, show (2 : Int64).toInt = 2 from rfl] at e1
  rw [show (1 : Int64).toInt = 1 from rfl] at e2
  apply Int32.toInt_inj.mp
  rw [Int32.toInt_ofNat_of_lt (by omega)]
  omega
theorem own_up (k n : Nat) (h : n < 2 ^ k) : ∀ d, own_lb (k + d) n = own_lb k n
  | 0 => rfl
  | d + 1 => by
    show own_lb ((k + d) + 1) n = _
    rw [own_lb, if_pos (Nat.lt_of_lt_of_le h (Nat.pow_le_pow_right (by decide) (by omega))), own_up k n h d]
theorem own_l1 (K : Nat) (hK : K ≤ 30) : own_lb 31 (2 * 2 ^ K - 1) = 2 ^ K := by
  have h0 : 0 < 2 ^ K := Nat.pos_of_ne_zero (by simp)
  have hs : 2 ^ (K + 1) = 2 ^ K * 2 := Nat.pow_succ 2 K
  have e := own_up (K + 1) (2 * 2 ^ K - 1) (by omega) (30 - K)
  rw [show K + 1 + (30 - K) = 31 by omega] at e
  rw [e, own_lb, if_neg (by omega), if_pos (by omega)]
theorem own_jM (i1 : Int32) (M : Nat) (h1 : 1 ≤ M) (h2 : M < 1073741824) : ∃ J : Nat, 1 ≤ J ∧ J ≤ M ∧ ((1 : Int32) + ((i1 &&& (2147483647 : Int32)) % (Int32.ofNat M))) = Int32.ofNat J := by
  have em : (Int32.ofNat M).toInt = (M : Int) := Int32.toInt_ofNat_of_lt (by omega)
  have e1 : (i1 &&& (2147483647 : Int32)).toInt = i1.toInt % (2 ^ 31 : Nat) := c_mask i1 2147483647 31 (by decide) (by decide)
  have e2 := (c_irem (i1 &&& (2147483647 : Int32)) (Int32.ofNat M) _ em).1 (by rw [e1]; omega)
  have e3 := c_iadd 1 ((i1 &&& (2147483647 : Int32)) % (Int32.ofNat M))
  have r := rng32 ((1 : Int32) + ((i1 &&& (2147483647 : Int32)) % (Int32.ofNat M)))
  have r2 := Int.emod_nonneg (i1 &&& (2147483647 : Int32)).toInt (b := (M : Int)) (by omega)
  have r3 := Int.emod_lt_of_pos (i1 &&& (2147483647 : Int32)).toInt (b := (M : Int)) (by omega)
  rw [e2, show (1 : Int32).toInt = 1 from rfl] at e3
  generalize (i1 &&& (2147483647 : Int32)).toInt % (M : Int) = R at *
  refine ⟨((1 : Int32) + ((i1 &&& (2147483647 : Int32)) % (Int32.ofNat M))).toInt.toNat, by omega, by omega, ?_⟩
  apply Int32.toInt_inj.mp; rw [Int32.toInt_ofNat_of_lt (by omega)]; omega
theorem own_j (i1 : Int32) (K : Nat) (hK : K ≤ 30) (hm : ¬ (Int32.ofNat (2 ^ K - 1)) = (0 : Int32)) : ∃ J : Nat, 1 ≤ J ∧ J ≤ 2 ^ K - 1 ∧ ((1 : Int32) + ((i1 &&& (2147483647 : Int32)) % (Int32.ofNat (2 ^ K - 1)))) = Int32.ofNat J := by
  have hp := own_pw hK
  have hm' : 2 ^ K - 1 ≠ 0 := fun z => hm (by rw [z]; rfl)
  exact own_jM i1 (2 ^ K - 1) (by omega) (by omega)
theorem own_l2 (K J : Nat) (hK : K ≤ 30) (h1 : 1 ≤ J) (h2 : J ≤ 2 ^ K - 1) : own_lb 31 (J + (2 ^ K - 1)) = own_lb 31 J := by
  have hs : 2 ^ (K + 1) = 2 ^ K * 2 := Nat.pow_succ 2 K
  have e := own_up (K + 1) (J + (2 ^ K - 1)) (by omega) (30 - K)
  have e' := own_up K J (by omega) (31 - K)
  rw [show K + 1 + (30 - K) = 31 by omega] at e
  rw [show K + (31 - K) = 31 by omega] at e'
  rw [e, e', own_lb, if_neg (by omega), if_neg (by omega), Nat.add_sub_cancel]
set_option maxRecDepth 65536 in
set_option maxHeartbeats 40000000 in
theorem rm0 (l : Launch) (Z : State) (a0 : Array Value) (hw : ∀ d ∈ tables_1, d.before a0 Z = true) (ws : List Jvm.Cond) (i0 : Int32) (i1 : Int32) (h0 : Heap) (n0 : Nat) (Z0 : n0 ≤ h0.size) : MetP l x code maxLocals ret ws room_1 Z #[(.int i0), (.int i1)] h0 (fun v h L => v = some (.int (1 : Int32)) ∧ Fr n0 L) := by
  refine met_go pn_0 ?_
  intro p e s m below meth c s₁ hx hby hml hown hnm hret hlk hZ e0 X0
  have N0 := Fr.nil n0
  rw [ef_0 m i0 i1]
  refine o_iloadN 1 X0 hx rfl (hb hby at_0) rfl ?_
  refine o_ldcInt 3 X0 hx rfl hZ hown (wd_0 hw) (hb hby at_1) ?_
  refine o_iand 4 X0 hx rfl (hb hby at_3) ?_
  refine o_bipush 6 X0 hx rfl (hb hby at_4) (31 : Int32) rfl ?_
  refine o_irem 7 X0 hx rfl (hb hby at_6) (by decide) ?_
  refine o_istoreN 8 X0 hx rfl (hb hby at_7) #[.val (.int i0), .val (.int i1), .val (.int ((i0 &&& (2147483647 : Int32)) % (31 : Int32))), .unset, .unset, .unset, .unset, .unset] rfl ?_
  obtain ⟨K, hK, hk⟩ := own_k i0
  rw [hk]
  have hpK := own_pw hK
  have hp0 : 0 < 2 ^ K := Nat.pos_of_ne_zero (by simp)
  refine o_iconst 9 X0 hx rfl (hb hby at_8) (1 : Int32) rfl ?_
  refine o_iloadN 10 X0 hx rfl (hb hby at_9) rfl ?_
  refine o_ishl 11 X0 hx rfl (hb hby at_10) ?_
  rw [own_half hK]
  refine o_istoreN 12 X0 hx rfl (hb hby at_11) #[.val (.int i0), .val (.int i1), .val (.int (Int32.ofNat K)), .val (.int (Int32.ofNat (2 ^ K))), .unset, .unset, .unset, .unset] rfl ?_
  refine o_iloadN 13 X0 hx rfl (hb hby at_12) rfl ?_
  refine o_iconst 14 X0 hx rfl (hb hby at_13) (1 : Int32) rfl ?_
  refine o_isub 15 X0 hx rfl (hb hby at_14) ?_
  rw [own_m hK]
  refine o_istore 17 X0 hx rfl (hb hby at_15) #[.val (.int i0), .val (.int i1), .val (.int (Int32.ofNat K)), .val (.int (Int32.ofNat (2 ^ K))), .val (.int (Int32.ofNat (2 ^ K - 1))), .unset, .unset, .unset] rfl ?_
  refine o_ldc2Long 20 X0 hx rfl hZ hown (wd_1 hw) (hb hby at_17) ?_
  refine o_iloadN 21 X0 hx rfl (hb hby at_20) rfl ?_
  refine o_i2l 22 X0 hx rfl (hb hby at_21) ?_
  refine o_lmul 23 X0 hx rfl (hb hby at_22) ?_
  refine o_lconst 24 X0 hx rfl (hb hby at_23) (1 : Int64) rfl ?_
  refine o_lsub 25 X0 hx rfl (hb hby at_24) ?_
  refine o_l2i 26 X0 hx rfl (hb hby at_25) ?_
  rw [own_top hK]
  refine o_istore 28 X0 hx rfl (hb hby at_26) #[.val (.int i0), .val (.int i1), .val (.int (Int32.ofNat K)), .val (.int (Int32.ofNat (2 ^ K))), .val (.int (Int32.ofNat (2 ^ K - 1))), .val (.int (Int32.ofNat (2 * 2 ^ K - 1))), .unset, .unset] rfl ?_
  refine o_iload 30 X0 hx rfl (hb hby at_28) rfl ?_
  refine o_callP (rv := (.int (Int32.ofNat (own_lb 31 (2 * 2 ^ K - 1))))) 33 X0 hx rfl hZ hown (wd_2 hw) (wd_3 hw) (wd_4 hw) (wd_5 hw) (by decide) e0 (rm1 l Z a0 hw (2 * 2 ^ K - 1) h0 (by omega) (by omega)) pd_lIrI [(.int (Int32.ofNat (2 * 2 ^ K - 1)))] [] rfl rfl (by rw [hml]; rfl) rfl (hb hby at_30) 0 (Nat.le_of_eq rfl) (by decide) (by decide) (by decide) (by decide) rfl rfl fun T1 X1 e1 => ?_
  refine o_iloadN 34 X1 hx rfl (hb hby at_33) rfl ?_
  refine o_icmpYes 39 X1 hx (hb hby at_34) (teq (by rw [own_l1 K hK])).1 (by decide) (by decide) ?_
  refine o_iload 41 X1 hx rfl (hb hby at_39) rfl ?_
  by_cases hm : (Int32.ofNat (2 ^ K - 1)) = (0 : Int32)
  · refine o_ifNo 44 X1 hx rfl (hb hby at_41) (teq hm).2 ?_
    refine o_iconst 45 X1 hx rfl (hb hby at_44) (1 : Int32) rfl ?_
    refine o_retN X1 hx .boolean (by simp) hret hlk (hb hby at_45) (by decide) (by decide) ?_
    exact ⟨rfl, N0⟩
  · refine o_ifYes 46 X1 hx (hb hby at_41) (feq hm).2 (by decide) (by decide) ?_
    refine o_iconst 47 X1 hx rfl (hb hby at_46) (1 : Int32) rfl ?_
    refine o_iloadN 48 X1 hx rfl (hb hby at_47) rfl ?_
    refine o_ldcInt 50 X1 hx rfl hZ hown (wd_0 hw) (hb hby at_48) ?_
    refine o_iand 51 X1 hx rfl (hb hby at_50) ?_
    refine o_iload 53 X1 hx rfl (hb hby at_51) rfl ?_
    refine o_irem 54 X1 hx rfl (hb hby at_53) hm ?_
    refine o_iadd 55 X1 hx rfl (hb hby at_54) ?_
    obtain ⟨J, hJ1, hJm, hj⟩ := own_j i1 K hK hm
    have hJ2 : J < 2 ^ 31 := by omega
    rw [hj]
    refine o_istore 57 X1 hx rfl (hb hby at_55) #[.val (.int i0), .val (.int i1), .val (.int (Int32.ofNat K)), .val (.int (Int32.ofNat (2 ^ K))), .val (.int (Int32.ofNat (2 ^ K - 1))), .val (.int (Int32.ofNat (2 * 2 ^ K - 1))), .val (.int (Int32.ofNat J)), .unset] rfl ?_
    refine o_iload 59 X1 hx rfl (hb hby at_57) rfl ?_
    refine o_callP (rv := (.int (Int32.ofNat (own_lb 31 J)))) 62 X1 hx rfl hZ hown (wd_2 hw) (wd_3 hw) (wd_4 hw) (wd_5 hw) (by decide) e1 (rm1 l Z a0 hw J h0 hJ1 hJ2) pd_lIrI [(.int (Int32.ofNat J))] [] rfl rfl (by rw [hml]; rfl) rfl (hb hby at_59) 0 (Nat.le_of_eq rfl) (by decide) (by decide) (by decide) (by decide) rfl rfl fun T2 X2 e2 => ?_
    refine o_istore 64 X2 hx rfl (hb hby at_62) #[.val (.int i0), .val (.int i1), .val (.int (Int32.ofNat K)), .val (.int (Int32.ofNat (2 ^ K))), .val (.int (Int32.ofNat (2 ^ K - 1))), .val (.int (Int32.ofNat (2 * 2 ^ K - 1))), .val (.int (Int32.ofNat J)), .val (.int (Int32.ofNat (own_lb 31 J)))] rfl ?_
    refine o_iload 66 X2 hx rfl (hb hby at_64) rfl ?_
    refine o_iload 68 X2 hx rfl (hb hby at_66) rfl ?_
    refine o_iadd 69 X2 hx rfl (hb hby at_68) ?_
    rw [← Int32.ofNat_add]
    refine o_callP (rv := (.int (Int32.ofNat (own_lb 31 (J + (2 ^ K - 1)))))) 72 X2 hx rfl hZ hown (wd_2 hw) (wd_3 hw) (wd_4 hw) (wd_5 hw) (by decide) e2 (rm1 l Z a0 hw (J + (2 ^ K - 1)) h0 (by omega) (by omega)) pd_lIrI [(.int (Int32.ofNat (J + (2 ^ K - 1))))] [] rfl rfl (by rw [hml]; rfl) rfl (hb hby at_69) 0 (Nat.le_of_eq rfl) (by decide) (by decide) (by decide) (by decide) rfl rfl fun T3 X3 e3 => ?_
    refine o_iload 74 X3 hx rfl (hb hby at_72) rfl ?_
    refine o_icmpNo 77 X3 hx rfl (hb hby at_74) (teq (by rw [own_l2 K J hK hJ1 hJm])).2 ?_
    refine o_iconst 78 X3 hx rfl (hb hby at_77) (1 : Int32) rfl ?_
    refine o_goto 82 X3 hx (hb hby at_78) (by decide) (by decide) ?_
    refine o_retN X3 hx .boolean (by simp) hret hlk (hb hby at_82) (by decide) (by decide) ?_
    exact ⟨rfl, N0⟩
set_option maxRecDepth 65536 in
set_option maxHeartbeats 40000000 in
theorem comes_1 {Post : Tables → Env → Array Value → State → Outcome → State → Prop} (hpost : ∀ tb e args s v u, (limb_1_1.after args s (.returned v) u = true ∧ limb_1_2.after args s (.returned v) u = true ∧ True) → FrameEnd s (.returned v) u (Jvm.fieldLocs frame_1_writes args s ++ Jvm.arrayLocs frame_1_arrays args s ++ Jvm.staticLocs frame_1_statics s) 0 0 → Post tb e args s (.returned v) u) :
    ArmFor flags0 classFile x code maxLocals ret World_1 tables_1 room_1 Calls_1 rest_1 Pre_1 Post := by
  intro l hfl _ _ p e ha hc hk s m args below hf hA hF happ hP
  obtain ⟨hcalls, hrest, hpre⟩ := hP
  obtain ⟨-, -, -, hnamed, -, -, -, hat⟩ := (Spec.applies_iff hf).mp happ
  obtain ⟨hg, hn⟩ := and_e (Cond.before_iff.mp (show (Jvm.Cond.and given_1 narrow_1).before args s = true from hpre))
  obtain ⟨gc, g0⟩ := and_e hg
  obtain ⟨ga0, g1⟩ := and_e g0
  obtain ⟨w0, w1, rfl⟩ : ∃ w0 w1 : Value, args = #[w0, w1] := by
    have hs : args.size = 2 := by simpa [Cond.value, given_1] using gc
    obtain ⟨L⟩ := args
    match L, hs with
    | [w0, w1], _ => exact ⟨w0, w1, rfl⟩
  have hw := fun d (hd : d ∈ tables_1) => atoms_spec (ws := Jvm.Cond.code x code maxLocals ret :: tables_1) hat d (List.mem_cons_of_mem _ hd)
  obtain ⟨i0, ei0⟩ := is_v ga0
  obtain rfl : w0 = (.int i0) := Option.some.inj ei0
  obtain ⟨i1, ei1⟩ := is_v g1
  obtain rfl : w1 = (.int i1) := Option.some.inj ei1
  obtain ⟨n, o, h1, h2, h3, _, L, rfl, ⟨rfl, N⟩, hq⟩ := rm0 l s _ hw tables_1 i0 i1 s.heap s.heap.size (Nat.le_refl _) p e ha hc hk s m _ below hf ((Spec.applies_iff_loose hf).mp happ).1 ⟨rfl, State.Warmed39.refl s, rfl⟩ trivial
  refine ⟨n, _, h1, h2, h3, hpost _ _ _ _ _ _ ⟨Cond.after_iff.mpr rfl, Cond.after_iff.mpr (eq_i res_at (Term.int_eval (1)) rfl), trivial⟩ ⟨hq.1, hq.2.1, (hq.2.2.sift fun y hy => Or.inr (N y hy)).mono (by decide) (by decide)⟩⟩
theorem main_1_1 : Claimed_1_1 := comes_1 fun _ _ _ _ _ _ h hF => ⟨h.1, hF⟩
theorem main_1_2 : Claimed_1_2 := comes_1 fun _ _ _ _ _ _ h hF => ⟨h.2.1, hF⟩
end Jvm.Pilot.@@N@@
namespace Jvm.Pilot.@@N@@
open Jvm Jvm.ClassFile Sem Op Lib Jvm.Free Jvm.Stand Jvm.Pilot.@@N@@.Jvm.D
/-! MADE BY PROGRAM (witnessworld.py) out of the Statement's table words and the real class files: 9 classes; the members and pool entries that the words name. The judged class is class 1, her method 1. -/
namespace start1
open Jvm.ClassFile
def u (s : String) : CpInfo := .utf8 (stringToUtf16 s)
/-- a pool by its gaps: so many unusable entries, then the entry; so many at the end -/
def gap : Nat → List CpInfo → List CpInfo
  | 0, r => r
  | n + 1, r => .unusable :: gap n r
def poolList (es : List (Nat × CpInfo)) (last : Nat) : List CpInfo := es.foldr (fun e r => gap e.1 (e.2 :: r)) (gap last [])
def pool (es : List (Nat × CpInfo)) (last : Nat) : Array CpInfo := ⟨poolList es last⟩
def fileOf (pool : Array CpInfo) (this : Nat) (attrs : Array Attribute := #[]) (ms : Array MethodInfo := #[]) (fl : Nat := 33) (sup : Nat := 0) (ifs : Array Nat := #[]) (fds : Array FieldInfo := #[]) : ClassFile where
  minorVersion := 0
  majorVersion := 65
  constantPool := pool
  accessFlags := fl
  thisClass := this
  superClass := sup
  interfaces := ifs
  fields := fds
  methods := ms
  attributes := attrs
def plain (name : String) (sup : Option ClassId) : Class where
  name := name
  kind := .ordinary
  loader := none
  accessFlags := 33
  super := sup
  interfaces := #[]
  cf := none
  fields := #[]
  methods := #[]
  instanceTypes := #[]
  staticTypes := #[]
  resolved := #[]
  callSites := []
  init := .initialized
  statics := none
  mirror := none

def pool0 : Array CpInfo := pool [(5, u "<init>"), (0, u "()V"), (1, .class_ 10), (1, u "java/lang/Object")] 113

def k0m0 : Method := { name := "<init>", desc := "()V", sig := { parameters := [], returnType := none }, accessFlags := 1, code := none }
/-- java/lang/Object -/
def k0 : Class := { plain "java/lang/Object" none with
  accessFlags := 33
  interfaces := #[]
  cf := some (fileOf pool0 8 #[] #[{ accessFlags := 1, nameIndex := 5, descriptorIndex := 6, attributes := #[] }] 33 0 #[] #[])
  fields := #[]
  methods := #[k0m0]
  instanceTypes := #[]
  staticTypes := #[]
  resolved := Array.replicate 124 none
  statics := none }

def pool1 : Array CpInfo := pool [(2, .class_ 4), (1, u "java/lang/Object"), (0, u "<init>"), (0, u "()V"), (0, .integer 2147483647), (0, .long 2), (1, .methodref 11 12), (0, .class_ 13), (0, .nameAndType 14 15), (0, u "com/example/roundelay/roundelay/sat/Schedule"), (0, u "luby"), (0, u "(I)I"), (0, .class_ 17), (0, u "com/example/roundelay/roundelay/sat/ScheduleLubyPinLaw"), (2, u "law"), (0, u "(II)Z")] 3

def k1m0 : Method := { name := "<init>", desc := "()V", sig := { parameters := [], returnType := none }, accessFlags := 1, code := none }
def k1c1 : Code := { maxStack := 4, maxLocals := 8, code := code, exceptionTable := #[], attributes := #[] }
def k1m1 : Method := { name := "law", desc := "(II)Z", sig := { parameters := [.int, .int], returnType := some .boolean }, accessFlags := 9, code := some k1c1 }
/-- com/example/roundelay/roundelay/sat/ScheduleLubyPinLaw -/
def k1 : Class := { plain "com/example/roundelay/roundelay/sat/ScheduleLubyPinLaw" (some 0) with
  accessFlags := 49
  interfaces := #[]
  cf := some (fileOf pool1 16 #[] #[{ accessFlags := 1, nameIndex := 5, descriptorIndex := 6, attributes := #[] }, { accessFlags := 9, nameIndex := 20, descriptorIndex := 21, attributes := #[] }] 49 2 #[] #[])
  fields := #[]
  methods := #[k1m0, k1m1]
  instanceTypes := #[]
  staticTypes := #[]
  resolved := Array.replicate 25 none
  statics := none }

def pool2 : Array CpInfo := pool [(2, .class_ 4), (1, u "java/lang/Object"), (4, .class_ 10), (0, u "com/example/roundelay/roundelay/sat/Schedule"), (7, u "fastLbd"), (0, u "Lcom/example/roundelay/roundelay/sat/MovingAverage;"), (4, u "slowLbd"), (4, u "modeSwitch"), (0, u "J"), (2, u "modeLength"), (4, u "nextReduce"), (2, u "nextRephase"), (2, u "stable"), (0, u "Z"), (7, u "stableRestarts"), (0, u "I"), (2, u "lastRestart"), (2, u "luby"), (0, u "(I)I"), (9, .class_ 73), (1, u "com/example/roundelay/roundelay/sat/Schedule$Rephase"), (4, u "REPHASES"), (0, u "[Lcom/example/roundelay/roundelay/sat/Schedule$Rephase;"), (2, u "rephasings"), (2, u "reductions"), (11, u "FAST_ALPHA"), (0, u "D"), (1, u "SLOW_ALPHA"), (0, u "RESTART_MARGIN"), (0, u "RESTART_MIN"), (1, u "LUBY_UNIT"), (1, u "FIRST_MODE_LENGTH"), (1, u "FIRST_REDUCE"), (1, u "REDUCE_STEP"), (1, u "REPHASE_UNIT")] 18

def k2c0 : Code := { maxStack := 3, maxLocals := 3, code := prog_55_method_7_code, exceptionTable := #[], attributes := #[] }
def k2m0 : Method := { name := "luby", desc := "(I)I", sig := { parameters := [.int], returnType := some .int }, accessFlags := 8, code := some k2c0 }
/-- com/example/roundelay/roundelay/sat/Schedule -/
def k2 : Class := { plain "com/example/roundelay/roundelay/sat/Schedule" (some 0) with
  accessFlags := 48
  interfaces := #[]
  cf := some (fileOf pool2 9 #[.nestMembers #[71]] #[{ accessFlags := 8, nameIndex := 60, descriptorIndex := 61, attributes := #[] }] 48 2 #[] #[{ accessFlags := 26, nameIndex := 97, descriptorIndex := 98, attributes := #[] }, { accessFlags := 26, nameIndex := 100, descriptorIndex := 98, attributes := #[] }, { accessFlags := 26, nameIndex := 101, descriptorIndex := 98, attributes := #[] }, { accessFlags := 26, nameIndex := 102, descriptorIndex := 54, attributes := #[] }, { accessFlags := 26, nameIndex := 104, descriptorIndex := 54, attributes := #[] }, { accessFlags := 26, nameIndex := 106, descriptorIndex := 54, attributes := #[] }, { accessFlags := 26, nameIndex := 108, descriptorIndex := 54, attributes := #[] }, { accessFlags := 26, nameIndex := 110, descriptorIndex := 54, attributes := #[] }, { accessFlags := 26, nameIndex := 112, descriptorIndex := 54, attributes := #[] }, { accessFlags := 26, nameIndex := 78, descriptorIndex := 79, attributes := #[] }, { accessFlags := 18, nameIndex := 18, descriptorIndex := 19, attributes := #[] }, { accessFlags := 18, nameIndex := 24, descriptorIndex := 19, attributes := #[] }, { accessFlags := 2, nameIndex := 44, descriptorIndex := 45, attributes := #[] }, { accessFlags := 2, nameIndex := 29, descriptorIndex := 30, attributes := #[] }, { accessFlags := 2, nameIndex := 33, descriptorIndex := 30, attributes := #[] }, { accessFlags := 2, nameIndex := 57, descriptorIndex := 30, attributes := #[] }, { accessFlags := 2, nameIndex := 53, descriptorIndex := 54, attributes := #[] }, { accessFlags := 2, nameIndex := 38, descriptorIndex := 30, attributes := #[] }, { accessFlags := 2, nameIndex := 85, descriptorIndex := 54, attributes := #[] }, { accessFlags := 2, nameIndex := 41, descriptorIndex := 30, attributes := #[] }, { accessFlags := 2, nameIndex := 82, descriptorIndex := 54, attributes := #[] }])
  fields := #[{ name := "FAST_ALPHA", type := .double, accessFlags := 26, slot := 0, constantValue := 0 }, { name := "SLOW_ALPHA", type := .double, accessFlags := 26, slot := 1, constantValue := 0 }, { name := "RESTART_MARGIN", type := .double, accessFlags := 26, slot := 2, constantValue := 0 }, { name := "RESTART_MIN", type := .int, accessFlags := 26, slot := 3, constantValue := 0 }, { name := "LUBY_UNIT", type := .int, accessFlags := 26, slot := 4, constantValue := 0 }, { name := "FIRST_MODE_LENGTH", type := .int, accessFlags := 26, slot := 5, constantValue := 0 }, { name := "FIRST_REDUCE", type := .int, accessFlags := 26, slot := 6, constantValue := 0 }, { name := "REDUCE_STEP", type := .int, accessFlags := 26, slot := 7, constantValue := 0 }, { name := "REPHASE_UNIT", type := .int, accessFlags := 26, slot := 8, constantValue := 0 }, { name := "REPHASES", type := (.array (.object "com/example/roundelay/roundelay/sat/Schedule$Rephase")), accessFlags := 26, slot := 9, constantValue := 0 }, { name := "fastLbd", type := (.object "com/example/roundelay/roundelay/sat/MovingAverage"), accessFlags := 18, slot := 0, constantValue := 0 }, { name := "slowLbd", type := (.object "com/example/roundelay/roundelay/sat/MovingAverage"), accessFlags := 18, slot := 1, constantValue := 0 }, { name := "stable", type := .boolean, accessFlags := 2, slot := 2, constantValue := 0 }, { name := "modeSwitch", type := .long, accessFlags := 2, slot := 3, constantValue := 0 }, { name := "modeLength", type := .long, accessFlags := 2, slot := 4, constantValue := 0 }, { name := "lastRestart", type := .long, accessFlags := 2, slot := 5, constantValue := 0 }, { name := "stableRestarts", type := .int, accessFlags := 2, slot := 6, constantValue := 0 }, { name := "nextReduce", type := .long, accessFlags := 2, slot := 7, constantValue := 0 }, { name := "reductions", type := .int, accessFlags := 2, slot := 8, constantValue := 0 }, { name := "nextRephase", type := .long, accessFlags := 2, slot := 9, constantValue := 0 }, { name := "rephasings", type := .int, accessFlags := 2, slot := 10, constantValue := 0 }]
  methods := #[k2m0]
  instanceTypes := #[(.object "com/example/roundelay/roundelay/sat/MovingAverage"), (.object "com/example/roundelay/roundelay/sat/MovingAverage"), .boolean, .long, .long, .long, .int, .long, .int, .long, .int]
  staticTypes := #[.double, .double, .double, .int, .int, .int, .int, .int, .int, (.array (.object "com/example/roundelay/roundelay/sat/Schedule$Rephase"))]
  resolved := Array.replicate 131 none
  statics := none }

def pool3 : Array CpInfo := pool [(1, u "java/lang/Cloneable"), (0, .class_ 1), (0, u "java/lang/Object"), (0, .class_ 3)] 3

/-- java/lang/Cloneable -/
def k3 : Class := { plain "java/lang/Cloneable" (some 0) with
  accessFlags := 1537
  interfaces := #[]
  cf := some (fileOf pool3 2 #[] #[] 1537 4 #[] #[])
  fields := #[]
  methods := #[]
  instanceTypes := #[]
  staticTypes := #[]
  resolved := Array.replicate 8 none
  statics := none }

def pool4 : Array CpInfo := pool [(1, u "java/io/Serializable"), (0, .class_ 1), (0, u "java/lang/Object"), (0, .class_ 3)] 3

/-- java/io/Serializable -/
def k4 : Class := { plain "java/io/Serializable" (some 0) with
  accessFlags := 1537
  interfaces := #[]
  cf := some (fileOf pool4 2 #[] #[] 1537 4 #[] #[])
  fields := #[]
  methods := #[]
  instanceTypes := #[]
  staticTypes := #[]
  resolved := Array.replicate 8 none
  statics := none }

/-- the primitive byte -/
def k5 : Class := { plain "byte" none with kind := .primitive 'B', accessFlags := 0x411 }
/-- [B -/
def k6 : Class := { plain "[B" (some 0) with kind := .array 5 .byte, interfaces := #[3, 4], accessFlags := 1041 }

/-- the primitive int -/
def k7 : Class := { plain "int" none with kind := .primitive 'I', accessFlags := 0x411 }
/-- [I -/
def k8 : Class := { plain "[I" (some 0) with kind := .array 7 .int, interfaces := #[3, 4], accessFlags := 1041 }

def heap : Heap := #[]
def classes : Array Class := #[k0, k1, k2, k3, k4, k5, k6, k7, k8]
def interned : List (Array UInt16 × Addr) := []
def slotsUsed : Nat := 0
def theMethod : MethodId := ⟨1, 1⟩
def args0 : Array Value := #[.int 5, .int 5]
def aboutOver (below : List Frame) : State where
  vm := { classes := classes, interned := interned.toArray }
  heap := heap
  slotsUsed := slotsUsed
  threads := #[{ frames := .invoking theMethod args0 :: below }]
def below0 : List Frame := [.native { method := ⟨0, 0⟩, args := #[] }]
def about1 : State := aboutOver below0
def p0 : Program := .bare "" "" ""
def e0 : Env := launch0.env 0 0 0
theorem w_frames : about1.frames = Frame.invoking theMethod args0 :: below0 := rfl
set_option maxRecDepth 65536 in
theorem w_args : argsFit about1.vm theMethod args0 = true := by decide +kernel
set_option maxRecDepth 65536 in
theorem w_heap : heapFits about1 = true := by decide +kernel
set_option maxRecDepth 65536 in
theorem w_runnable : about1.curStatus? = some .runnable := by decide +kernel
set_option maxRecDepth 65536 in
theorem w_alone : about1.alone = true := by decide +kernel
set_option maxRecDepth 65536 in
theorem w_named : about1.methodNamed? x = some theMethod := by decide +kernel
set_option maxRecDepth 65536 in
theorem w_hears : about1.hears theMethod below0 = true := by decide +kernel
set_option maxRecDepth 65536 in
theorem w_ripe : about1.ripe theMethod args0 below0 = true := by decide +kernel
theorem w_running : about1.status = .running := rfl
set_option maxRecDepth 65536 in
theorem w_room : about1.hasRoom e0.platform room_1 = true :=
  launch0.hasRoom_least _ room_1 (by decide +kernel) (by decide +kernel) (by decide +kernel) (by decide +kernel) (by decide +kernel) (by decide +kernel)
theorem allAtoms_all (ts : List Jvm.Cond) (a : Array Jvm.Value) (st : Jvm.State) : (allAtoms ts).before a st = ts.all (fun c => c.before a st) := by
  induction ts with
  | nil => rfl
  | cons c t ih =>
    show (Jvm.Cond.and c (allAtoms t)).before a st = _
    rw [Jvm.Cond.before_and, ih, List.all_cons]
def words1 : List Jvm.Cond := Jvm.Cond.code x code maxLocals ret :: tables_1
/-- a 'code' word, met by the world's own term for the bytes: nothing is compared byte by byte -/
theorem code_word {y : MethodName} {bytes : ByteArray} {mx : Nat} {rt : Option FieldType} {a : Array Value} {s : State} {m : MethodId} {meth : Method} {c : Code} (h1 : s.methodNamed? y = some m) (h2 : s.vm.method? m = some meth) (h3 : meth.code = some c) (h4 : c.code = bytes)
    (h5 : (c.maxLocals == mx && c.exceptionTable.isEmpty && decide (c.maxStack ≤ mostOperands) && decide (meth.sig.returnType = rt) && !meth.locks && decide (parseMethodDescriptor y.desc = some meth.sig)) = true) : (Jvm.Cond.code y bytes mx rt).before a s = true := by
  simp only [Bool.and_eq_true, beq_iff_eq, Bool.not_eq_true', decide_eq_true_eq] at h5
  obtain ⟨⟨⟨⟨⟨g1, g2⟩, g3⟩, g4⟩, g5⟩, g6⟩ := h5
  simp [Cond.before, Cond.holds, Cond.value, h1, h2, h3, h4, g1, g2, g3, g4, g5, g6]
def isCode : Jvm.Cond → Bool
  | .code _ _ _ _ => true
  | _ => false
theorem all_split {L : List Jvm.Cond} {P : Jvm.Cond → Bool} (h1 : L.all (fun c => isCode c || P c) = true) (h2 : ∀ c ∈ L.filter isCode, P c = true) : L.all P = true := by
  refine List.all_eq_true.mpr fun c hc => ?_
  have h := List.all_eq_true.mp h1 c hc
  rcases Bool.eq_false_or_eq_true (isCode c) with hi | hi
  · exact h2 c (List.mem_filter.mpr ⟨hc, hi⟩)
  · simpa [hi] using h
set_option maxRecDepth 65536 in
theorem w_c0 : (Jvm.Cond.code x code maxLocals ret).before args0 about1 = true := code_word (m := ⟨1, 1⟩) (meth := k1m1) (c := k1c1) (by decide +kernel) rfl rfl rfl (by decide +kernel)
set_option maxRecDepth 65536 in
theorem w_c1 : (Jvm.Cond.code ({ cls := "com/example/roundelay/roundelay/sat/Schedule", name := "luby", desc := "(I)I" } : Jvm.MethodName) prog_55_method_7_code (3 : Nat) (Option.some Jvm.ClassFile.FieldType.int)).before args0 about1 = true := code_word (m := ⟨2, 0⟩) (meth := k2m0) (c := k2c0) (by decide +kernel) rfl rfl rfl (by decide +kernel)
def codes1 : List Jvm.Cond := [Jvm.Cond.code x code maxLocals ret, Jvm.Cond.code ({ cls := "com/example/roundelay/roundelay/sat/Schedule", name := "luby", desc := "(I)I" } : Jvm.MethodName) prog_55_method_7_code (3 : Nat) (Option.some Jvm.ClassFile.FieldType.int)]
set_option maxRecDepth 65536 in
theorem codes_eq : words1.filter isCode = codes1 := rfl
theorem w_codes : ∀ c ∈ words1.filter isCode, c.before args0 about1 = true := by
  rw [codes_eq]
  intro c hc
  simp only [codes1, List.mem_cons, List.not_mem_nil, or_false] at hc
  rcases hc with rfl | rfl
  · exact w_c0
  · exact w_c1
set_option maxRecDepth 65536 in
theorem w_t1 : words1.all (fun c => isCode c || c.before args0 about1) = true := by decide +kernel
theorem w_tables : (allAtoms (Jvm.Cond.code x code maxLocals ret :: tables_1)).before args0 about1 = true := by
  rw [allAtoms_all]
  show words1.all (fun c => c.before args0 about1) = true
  refine all_split ?_ w_codes
  rw [w_t1]
set_option maxRecDepth 65536 in
theorem w_case : (Jvm.Cond.and given_1 narrow_1).before args0 about1 = true := by decide +kernel
theorem w_applies : (headSpec (Jvm.Cond.code x code maxLocals ret :: tables_1) room_1).applies x e0.platform about1 = true :=
  (Spec.applies_iff w_frames).mpr ⟨w_running, w_runnable, w_alone, w_named, w_hears, w_ripe, w_room, w_tables⟩
theorem atStart : AtStart classFile x code maxLocals ret World_1 tables_1 room_1 Calls_1 rest_1 Pre_1 launch0 p0 e0 about1 theMethod args0 below0 :=
  ⟨lists_1, trivial, launch0.admits_env _ _ _, launch0.least_env, fairChoices_fair.cas, fairChoices_fair.clock, w_frames, w_args, w_heap, w_applies, trivial, trivial, w_case⟩
end start1
theorem witness_1 : WitnessClaimed_1 := ⟨start1.p0, start1.e0, start1.about1, start1.theMethod, start1.args0, start1.below0, start1.atStart⟩
end Jvm.Pilot.@@N@@
