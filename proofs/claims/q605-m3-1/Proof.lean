import JvmDerived
import JvmDerived.Pilot.@@N@@Statement
import JvmDerived.Pilot.@@N@@Code
set_option linter.unusedVariables false
set_option linter.unusedSimpArgs false
namespace Jvm.Pilot.@@N@@
open Jvm Jvm.ClassFile Sem Op Lib Jvm.Free Jvm.Stand Jvm.LawKit Jvm.RoadKit Bundle Jvm.Pilot.@@N@@.Jvm.D
/-- from S the run goes on below 'below', ends, and E holds of the end -/
def Go (tb : Tables) (e : Env) (below : List Frame) (E : State → Outcome → Prop) (S : State) : Prop := ∃ s₂ o, Steps tb e below S s₂ ∧ s₂.status = .running ∧ Ended s₂ below o ∧ E s₂ o
theorem Go.via {tb : Tables} {e : Env} {below : List Frame} {E : State → Outcome → Prop} {S S' : State} (k : ∀ t, Steps tb e below S' t → Steps tb e below S t) (h : Go tb e below E S') : Go tb e below E S := by
  obtain ⟨a, b, c, d⟩ := h; exact ⟨a, b, k _ c, d⟩
/-- a body's contract, short -/
abbrev MetP (l : Launch) (y : MethodName) (bytes : ByteArray) (maxL : Nat) (ret : Option FieldType) (ws : List Jvm.Cond) (rm : Room) (Z : State) (as' : Array Value) (h0 : Heap) (Q : Option Value → Heap → List Loc → Prop) : Prop :=
  MetFree l y (head1 (Jvm.Cond.code y bytes maxL ret :: ws) rm) (fun a U => a = as' ∧ Z.Warmed39 U.vm ∧ U.heap = h0) (fun _ _ _ _ _ => True) (fun _ U o U' => ∃ v L, o = .returned v ∧ Q v U'.heap L ∧ FrameEnd U o U' L rm.cells rm.slots)
/-- it returned r and wrote and made nothing -/
def Pure (r : Value) (h0 : Heap) (v : Option Value) (h : Heap) (L : List Loc) : Prop := v = some r ∧ L = [] ∧ h = h0
abbrev EndE (s : State) (rm : Room) (Q : Option Value → Heap → List Loc → Prop) : State → Outcome → Prop := fun s₂ o => ∃ v L, o = .returned v ∧ Q v s₂.heap L ∧ FrameEnd s o s₂ L rm.cells rm.slots
theorem met_go {l : Launch} {y : MethodName} {bytes : ByteArray} {maxL : Nat} {ret : Option FieldType} {ws : List Jvm.Cond} {rm : Room} {Z : State} {as' : Array Value} {h0 : Heap} {Q : Option Value → Heap → List Loc → Prop} (hpl : plainFor y = true)
    (body : ∀ (p : Program) (e : Env) (s : State) (m : MethodId) (below : List Frame) (meth : Method) (c : Code) (s₁ : State), p.tables.exec = Jvm.exec → c.code = bytes → c.maxLocals = maxL → s.vm.findClass y.cls = some m.cls → meth.name = y.name → meth.sig.returnType = ret → meth.locks = false → Z.Warmed39 s.vm → s₁.heap = h0 →
      Stand p l e rm s m as' below meth c s₁ [] 0 0 → Go p.tables e below (EndE s rm Q) (s₁.setTop (entryFrame m as' maxL))) : MetP l y bytes maxL ret ws rm Z as' h0 Q := by
  refine MetFree.of_bodySF hpl hisR ?_
  intro p e s m args below meth c s₁ Bd hml hP hK
  obtain ⟨rfl, hZ, hh⟩ := hP
  exact body p e s m below meth c s₁ Bd.exec Bd.bytes hml (findClass_of_methodNamed Bd.named) (name_of_methodNamed Bd.named Bd.method).1 Bd.returns Bd.notSynchronized hZ (by rw [← hh, Bd.state]; rfl) (Stand.of_body Bd)
abbrev EndW (s : State) (rm : Room) (Q : Option Value → Heap → List Loc → Prop) : State → Outcome → Prop := fun s₂ o => ∃ v L, o = .returned v ∧ Q v s₂.heap L ∧ ReturnedEndW s o s₂ L rm.cells rm.slots
theorem met_goW {l : Launch} {y : MethodName} {bytes : ByteArray} {maxL : Nat} {ret : Option FieldType} {ws : List Jvm.Cond} {rm : Room} {Z : State} {as' : Array Value} {h0 : Heap} {Q : Option Value → Heap → List Loc → Prop} (hpl : plainFor y = true)
    (body : ∀ (p : Program) (e : Env) (s : State) (m : MethodId) (below : List Frame) (meth : Method) (c : Code) (s₁ : State), p.tables.exec = Jvm.exec → c.code = bytes → c.maxLocals = maxL → s.vm.findClass y.cls = some m.cls → meth.name = y.name → meth.sig.returnType = ret → meth.locks = false → Z.Warmed39 s.vm → s₁.heap = h0 →
      Stand p l e rm s m as' below meth c s₁ [] 0 0 → Go p.tables e below (EndW s rm Q) (s₁.setTop (entryFrame m as' maxL))) : MetFree l y (head1 (Jvm.Cond.code y bytes maxL ret :: ws) rm) (fun a U => a = as' ∧ Z.Warmed39 U.vm ∧ U.heap = h0) (fun _ _ _ _ _ => True) (fun _ U o U' => ∃ v L, o = .returned v ∧ Q v U'.heap L ∧ ReturnedEndW U o U' L rm.cells rm.slots) := by
  refine MetFree.of_bodySF hpl hisR ?_
  intro p e s m args below meth c s₁ Bd hml hP hK
  obtain ⟨rfl, hZ, hh⟩ := hP
  exact body p e s m below meth c s₁ Bd.exec Bd.bytes hml (findClass_of_methodNamed Bd.named) (name_of_methodNamed Bd.named Bd.method).1 Bd.returns Bd.notSynchronized hZ (by rw [← hh, Bd.state]; rfl) (Stand.of_body Bd)
theorem met_goZ {l : Launch} {y : MethodName} {bytes : ByteArray} {maxL : Nat} {ret : Option FieldType} {ws : List Jvm.Cond} {rm : Room} {Z : State} {as' : Array Value} {Q : Option Value → Heap → List Loc → Prop} (hpl : plainFor y = true)
    (body : ∀ (p : Program) (e : Env) (s : State) (m : MethodId) (below : List Frame) (meth : Method) (c : Code) (s₁ : State), p.tables.exec = Jvm.exec → c.code = bytes → c.maxLocals = maxL → s.vm.findClass y.cls = some m.cls → meth.name = y.name → meth.sig.returnType = ret → meth.locks = false → s = Z → s₁.heap = Z.heap →
      Stand p l e rm s m as' below meth c s₁ [] 0 0 → Go p.tables e below (EndW s rm Q) (s₁.setTop (entryFrame m as' maxL))) : MetFree l y (head1 (Jvm.Cond.code y bytes maxL ret :: ws) rm) (fun a U => a = as' ∧ U = Z) (fun _ _ _ _ _ => True) (fun _ U o U' => ∃ v L, o = .returned v ∧ Q v U'.heap L ∧ ReturnedEndW U o U' L rm.cells rm.slots) := by
  refine MetFree.of_bodySF hpl hisR ?_
  intro p e s m args below meth c s₁ Bd hml hP hK
  obtain ⟨rfl, hZ⟩ := hP
  exact body p e s m below meth c s₁ Bd.exec Bd.bytes hml (findClass_of_methodNamed Bd.named) (name_of_methodNamed Bd.named Bd.method).1 Bd.returns Bd.notSynchronized hZ (by rw [← hZ, Bd.state]; rfl) (Stand.of_body Bd)
section OwnKit
variable {p : Program} {l : Launch} {e : Env} {R : Room} {s : State} {m : MethodId} {args : Array Value} {below : List Frame} {meth : Method} {c : Code} {T : State} {locs : List Loc} {cells slots : Nat} {E : State → Outcome → Prop} {Z : State} {a0 : Array Value} {h : Heap} {pc : Nat} {Ls Ls' : Array Slot} {st : List Value}
theorem o_iload (pc' : Nat) (X : Stand p l e R s m args below meth c T locs cells slots) (hx : p.tables.exec = Jvm.exec) (hpc : pc + 2 = pc') {k : Nat} {v : Int32} (hd : decode c.code pc = .ok (.iload k, 2)) (hl : Ls[k]? = some (.val (.int v))) (h : Go p.tables e below E (T.setTop (mkF m pc' Ls ((.int v) :: st)))) : Go p.tables e below E (T.setTop (mkF m pc Ls st)) := by
  subst hpc; exact Go.via (fun _ k => XS.iload X.here hx rfl hd hl k) h
theorem o_lload (pc' : Nat) (X : Stand p l e R s m args below meth c T locs cells slots) (hx : p.tables.exec = Jvm.exec) (hpc : pc + 2 = pc') {k : Nat} {v : Int64} (hd : decode c.code pc = .ok (.lload k, 2)) (hl : Ls[k]? = some (.val (.long v))) (h : Go p.tables e below E (T.setTop (mkF m pc' Ls ((.long v) :: st)))) : Go p.tables e below E (T.setTop (mkF m pc Ls st)) := by
  subst hpc; exact Go.via (fun _ k => XS.lload X.here hx rfl hd hl k) h
theorem o_iloadN (pc' : Nat) (X : Stand p l e R s m args below meth c T locs cells slots) (hx : p.tables.exec = Jvm.exec) (hpc : pc + 1 = pc') {k : Fin 4} {v : Int32} (hd : decode c.code pc = .ok (.iload_n k, 1)) (hl : Ls[k.val]? = some (.val (.int v))) (h : Go p.tables e below E (T.setTop (mkF m pc' Ls ((.int v) :: st)))) : Go p.tables e below E (T.setTop (mkF m pc Ls st)) := by
  subst hpc; exact Go.via (fun _ k => XS.iloadN X.here hx rfl hd hl k) h
theorem o_aload (pc' : Nat) (X : Stand p l e R s m args below meth c T locs cells slots) (hx : p.tables.exec = Jvm.exec) (hpc : pc + 2 = pc') {k : Nat} {v : Value} (hd : decode c.code pc = .ok (.aload k, 2)) (hl : Ls[k]? = some (.val v)) (hv : v.isRef = true) (h : Go p.tables e below E (T.setTop (mkF m pc' Ls (v :: st)))) : Go p.tables e below E (T.setTop (mkF m pc Ls st)) := by
  subst hpc; exact Go.via (fun _ k => XS.aload X.here hx rfl hd hl hv k) h
theorem o_aloadN (pc' : Nat) (X : Stand p l e R s m args below meth c T locs cells slots) (hx : p.tables.exec = Jvm.exec) (hpc : pc + 1 = pc') {k : Fin 4} {v : Value} (hd : decode c.code pc = .ok (.aload_n k, 1)) (hl : Ls[k.val]? = some (.val v)) (hv : v.isRef = true) (h : Go p.tables e below E (T.setTop (mkF m pc' Ls (v :: st)))) : Go p.tables e below E (T.setTop (mkF m pc Ls st)) := by
  subst hpc; exact Go.via (fun _ k => XS.aloadN X.here hx rfl hd hl hv k) h
theorem o_istore (pc' : Nat) (X : Stand p l e R s m args below meth c T locs cells slots) (hx : p.tables.exec = Jvm.exec) (hpc : pc + 2 = pc') {k : Nat} {v : Int32} (hd : decode c.code pc = .ok (.istore k, 2)) (Ls' : Array Slot) (hl : storeLocals Ls k (.int v) = some Ls') (h : Go p.tables e below E (T.setTop (mkF m pc' Ls' st))) : Go p.tables e below E (T.setTop (mkF m pc Ls ((.int v) :: st))) := by
  subst hpc; exact Go.via (fun _ k => XS.istore X.here hx rfl hd rfl hl k) h
theorem o_lstore (pc' : Nat) (X : Stand p l e R s m args below meth c T locs cells slots) (hx : p.tables.exec = Jvm.exec) (hpc : pc + 2 = pc') {k : Nat} {v : Int64} (hd : decode c.code pc = .ok (.lstore k, 2)) (Ls' : Array Slot) (hl : storeLocals Ls k (.long v) = some Ls') (h : Go p.tables e below E (T.setTop (mkF m pc' Ls' st))) : Go p.tables e below E (T.setTop (mkF m pc Ls ((.long v) :: st))) := by
  subst hpc; exact Go.via (fun _ k => XS.lstore X.here hx rfl hd rfl hl k) h
theorem o_istoreN (pc' : Nat) (X : Stand p l e R s m args below meth c T locs cells slots) (hx : p.tables.exec = Jvm.exec) (hpc : pc + 1 = pc') {k : Fin 4} {v : Int32} (hd : decode c.code pc = .ok (.istore_n k, 1)) (Ls' : Array Slot) (hl : storeLocals Ls k.val (.int v) = some Ls') (h : Go p.tables e below E (T.setTop (mkF m pc' Ls' st))) : Go p.tables e below E (T.setTop (mkF m pc Ls ((.int v) :: st))) := by
  subst hpc; exact Go.via (fun _ k => XS.istoreN X.here hx rfl hd rfl hl k) h
theorem o_astore (pc' : Nat) (X : Stand p l e R s m args below meth c T locs cells slots) (hx : p.tables.exec = Jvm.exec) (hpc : pc + 2 = pc') {k : Nat} {v : Value} (hd : decode c.code pc = .ok (.astore k, 2)) (hv : v.isRef = true) (Ls' : Array Slot) (hl : storeLocals Ls k v = some Ls') (h : Go p.tables e below E (T.setTop (mkF m pc' Ls' st))) : Go p.tables e below E (T.setTop (mkF m pc Ls (v :: st))) := by
  subst hpc; exact Go.via (fun _ k => XS.astore X.here hx rfl hd rfl hv hl k) h
theorem o_astoreN (pc' : Nat) (X : Stand p l e R s m args below meth c T locs cells slots) (hx : p.tables.exec = Jvm.exec) (hpc : pc + 1 = pc') {k : Fin 4} {v : Value} (hd : decode c.code pc = .ok (.astore_n k, 1)) (hv : v.isRef = true) (Ls' : Array Slot) (hl : storeLocals Ls k.val v = some Ls') (h : Go p.tables e below E (T.setTop (mkF m pc' Ls' st))) : Go p.tables e below E (T.setTop (mkF m pc Ls (v :: st))) := by
  subst hpc; exact Go.via (fun _ k => XS.astoreN X.here hx rfl hd rfl hv hl k) h
theorem o_iinc (pc' : Nat) (X : Stand p l e R s m args below meth c T locs cells slots) (hx : p.tables.exec = Jvm.exec) (hpc : pc + 3 = pc') {k : Nat} {cst : Int} {v : Int32} (hd : decode c.code pc = .ok (.iinc k cst, 3)) (w : Int32) (hw : Int32.ofInt cst = w) (hl : Ls[k]? = some (.val (.int v))) (Ls' : Array Slot) (hl' : storeLocals Ls k (.int (v + w)) = some Ls') (h : Go p.tables e below E (T.setTop (mkF m pc' Ls' st))) : Go p.tables e below E (T.setTop (mkF m pc Ls st)) := by
  subst hpc; exact Go.via (fun _ k => XS.iinc X.here hx rfl hd hl (by rw [hw]; exact hl') k) h
theorem o_iconst (pc' : Nat) (X : Stand p l e R s m args below meth c T locs cells slots) (hx : p.tables.exec = Jvm.exec) (hpc : pc + 1 = pc') {i : Int} (hd : decode c.code pc = .ok (.iconst i, 1)) (v : Int32) (hv : Int32.ofInt i = v) (h : Go p.tables e below E (T.setTop (mkF m pc' Ls (.int v :: st)))) : Go p.tables e below E (T.setTop (mkF m pc Ls st)) := by
  subst hpc; exact Go.via (fun _ k => XS.iconst X.here hx rfl hd (by rw [hv]; exact k)) h
theorem o_aconst_null (pc' : Nat) (X : Stand p l e R s m args below meth c T locs cells slots) (hx : p.tables.exec = Jvm.exec) (hpc : pc + 1 = pc') (hd : decode c.code pc = .ok (.aconst_null, 1)) (h : Go p.tables e below E (T.setTop (mkF m pc' Ls (.null :: st)))) : Go p.tables e below E (T.setTop (mkF m pc Ls st)) := by
  subst hpc; exact Go.via (fun _ k => XS.aconstNull X.here hx rfl hd k) h
theorem o_ldcInt (pc' : Nat) (X : Stand p l e R s m args below meth c T locs cells slots) (hx : p.tables.exec = Jvm.exec) (hpc : pc + 2 = pc') (hZ : Z.Warmed39 s.vm) {own : String} {index : Nat} (hown : s.vm.findClass own = some m.cls) {v : Int32} (w : (Jvm.Cond.constant own index v).before a0 Z = true) (hd : decode c.code pc = .ok (.ldc index, 2)) (h : Go p.tables e below E (T.setTop (mkF m pc' Ls (.int v :: st)))) : Go p.tables e below E (T.setTop (mkF m pc Ls st)) := by
  subst hpc; exact Go.via (fun _ k => X.ldcInt hx hown (mvT hZ w) (g := mkF m pc Ls st) rfl hd _ k) h
theorem o_iadd (pc' : Nat) (X : Stand p l e R s m args below meth c T locs cells slots) (hx : p.tables.exec = Jvm.exec) (hpc : pc + 1 = pc') {x : Int32} {y : Int32} (hd : decode c.code pc = .ok (.iadd, 1)) (h : Go p.tables e below E (T.setTop (mkF m pc' Ls (.int (x + y) :: st)))) : Go p.tables e below E (T.setTop (mkF m pc Ls (.int y :: .int x :: st))) := by
  subst hpc; exact Go.via (fun _ k => XS.iadd X.here hx rfl hd rfl k) h
theorem o_isub (pc' : Nat) (X : Stand p l e R s m args below meth c T locs cells slots) (hx : p.tables.exec = Jvm.exec) (hpc : pc + 1 = pc') {x : Int32} {y : Int32} (hd : decode c.code pc = .ok (.isub, 1)) (h : Go p.tables e below E (T.setTop (mkF m pc' Ls (.int (x - y) :: st)))) : Go p.tables e below E (T.setTop (mkF m pc Ls (.int y :: .int x :: st))) := by
  subst hpc; exact Go.via (fun _ k => XS.isub X.here hx rfl hd rfl k) h
theorem o_iand (pc' : Nat) (X : Stand p l e R s m args below meth c T locs cells slots) (hx : p.tables.exec = Jvm.exec) (hpc : pc + 1 = pc') {x : Int32} {y : Int32} (hd : decode c.code pc = .ok (.iand, 1)) (h : Go p.tables e below E (T.setTop (mkF m pc' Ls (.int (x &&& y) :: st)))) : Go p.tables e below E (T.setTop (mkF m pc Ls (.int y :: .int x :: st))) := by
  subst hpc; exact Go.via (fun _ k => XS.iand X.here hx rfl hd rfl k) h
theorem o_ladd (pc' : Nat) (X : Stand p l e R s m args below meth c T locs cells slots) (hx : p.tables.exec = Jvm.exec) (hpc : pc + 1 = pc') {x : Int64} {y : Int64} (hd : decode c.code pc = .ok (.ladd, 1)) (h : Go p.tables e below E (T.setTop (mkF m pc' Ls (.long (x + y) :: st)))) : Go p.tables e below E (T.setTop (mkF m pc Ls (.long y :: .long x :: st))) := by
  subst hpc; exact Go.via (fun _ k => XS.ladd X.here hx rfl hd rfl k) h
theorem o_irem (pc' : Nat) (X : Stand p l e R s m args below meth c T locs cells slots) (hx : p.tables.exec = Jvm.exec) (hpc : pc + 1 = pc') {x y : Int32} (hd : decode c.code pc = .ok (.irem, 1)) (hy : y ≠ 0) (h : Go p.tables e below E (T.setTop (mkF m pc' Ls (.int (x % y) :: st)))) : Go p.tables e below E (T.setTop (mkF m pc Ls (.int y :: .int x :: st))) := by
  subst hpc; exact Go.via (fun _ k => iremM (g := mkF m pc Ls (.int y :: .int x :: st)) X hx rfl hd rfl hy k) h
theorem o_i2l (pc' : Nat) (X : Stand p l e R s m args below meth c T locs cells slots) (hx : p.tables.exec = Jvm.exec) (hpc : pc + 1 = pc') {x : Int32} (hd : decode c.code pc = .ok (.i2l, 1)) (h : Go p.tables e below E (T.setTop (mkF m pc' Ls (.long (x.toInt64) :: st)))) : Go p.tables e below E (T.setTop (mkF m pc Ls (.int x :: st))) := by
  subst hpc; exact Go.via (fun _ k => XS.i2l X.here hx rfl hd rfl k) h
theorem o_lcmp (pc' : Nat) (X : Stand p l e R s m args below meth c T locs cells slots) (hx : p.tables.exec = Jvm.exec) (hpc : pc + 1 = pc') {x y : Int64} (hd : decode c.code pc = .ok (.lcmp, 1)) (h : Go p.tables e below E (T.setTop (mkF m pc' Ls (.int (lcmpW x y) :: st)))) : Go p.tables e below E (T.setTop (mkF m pc Ls (.long y :: .long x :: st))) := by
  subst hpc; exact Go.via (fun _ k => XS.lcmp X.here hx rfl hd rfl k) h
theorem o_goto (pc' : Nat) (X : Stand p l e R s m args below meth c T locs cells slots) (hx : p.tables.exec = Jvm.exec) {o : Int} (hd : decode c.code pc = .ok (.goto o, 3)) (ho : 0 ≤ (pc : Int) + o) (hp : ((pc : Int) + o).toNat = pc') (h : Go p.tables e below E (T.setTop (mkF m pc' Ls st))) : Go p.tables e below E (T.setTop (mkF m pc Ls st)) := by
  exact Go.via (fun _ k => XS.goto X.here hx rfl (pc0 := pc) (pc' := pc') rfl hd ho hp k) h
theorem o_ifYes (pc' : Nat) (X : Stand p l e R s m args below meth c T locs cells slots) (hx : p.tables.exec = Jvm.exec) {cd : ClassFile.Cond} {x : Int32} {o : Int} (hd : decode c.code pc = .ok (.ifCond cd o, 3)) (hc : if_icmp.holds cd x 0 = true) (ho : 0 ≤ (pc : Int) + o) (hp : ((pc : Int) + o).toNat = pc') (h : Go p.tables e below E (T.setTop (mkF m pc' Ls st))) : Go p.tables e below E (T.setTop (mkF m pc Ls (.int x :: st))) := by
  exact Go.via (fun _ k => XS.ifYes X.here hx rfl (pc0 := pc) (pc' := pc') rfl hd rfl ((if0 _ _).trans hc) ho hp k) h
theorem o_ifNo (pc' : Nat) (X : Stand p l e R s m args below meth c T locs cells slots) (hx : p.tables.exec = Jvm.exec) (hpc : pc + 3 = pc') {cd : ClassFile.Cond} {x : Int32} {o : Int} (hd : decode c.code pc = .ok (.ifCond cd o, 3)) (hc : if_icmp.holds cd x 0 = false) (h : Go p.tables e below E (T.setTop (mkF m pc' Ls st))) : Go p.tables e below E (T.setTop (mkF m pc Ls (.int x :: st))) := by
  subst hpc; exact Go.via (fun _ k => XS.ifNo X.here hx rfl hd rfl ((if0 _ _).trans hc) k) h
theorem o_icmpYes (pc' : Nat) (X : Stand p l e R s m args below meth c T locs cells slots) (hx : p.tables.exec = Jvm.exec) {cd : ClassFile.Cond} {x y : Int32} {o : Int} (hd : decode c.code pc = .ok (.if_icmp cd o, 3)) (hc : if_icmp.holds cd x y = true) (ho : 0 ≤ (pc : Int) + o) (hp : ((pc : Int) + o).toNat = pc') (h : Go p.tables e below E (T.setTop (mkF m pc' Ls st))) : Go p.tables e below E (T.setTop (mkF m pc Ls (.int y :: .int x :: st))) := by
  exact Go.via (fun _ k => XS.icmpYes X.here hx rfl (pc0 := pc) (pc' := pc') rfl hd rfl hc ho hp k) h
theorem o_icmpNo (pc' : Nat) (X : Stand p l e R s m args below meth c T locs cells slots) (hx : p.tables.exec = Jvm.exec) (hpc : pc + 3 = pc') {cd : ClassFile.Cond} {x y : Int32} {o : Int} (hd : decode c.code pc = .ok (.if_icmp cd o, 3)) (hc : if_icmp.holds cd x y = false) (h : Go p.tables e below E (T.setTop (mkF m pc' Ls st))) : Go p.tables e below E (T.setTop (mkF m pc Ls (.int y :: .int x :: st))) := by
  subst hpc; exact Go.via (fun _ k => XS.icmpNo X.here hx rfl hd rfl hc k) h
theorem o_ifnullNo (pc' : Nat) (X : Stand p l e R s m args below meth c T locs cells slots) (hx : p.tables.exec = Jvm.exec) (hpc : pc + 3 = pc') {o : Int} {b : Addr} (hd : decode c.code pc = .ok (.ifnull o, 3)) (h : Go p.tables e below E (T.setTop (mkF m pc' Ls st))) : Go p.tables e below E (T.setTop (mkF m pc Ls (.ref b :: st))) := by
  subst hpc; exact Go.via (fun _ k => XS.ifnullNo X.here hx rfl hd rfl k) h
theorem o_ifnonnullNo (pc' : Nat) (X : Stand p l e R s m args below meth c T locs cells slots) (hx : p.tables.exec = Jvm.exec) (hpc : pc + 3 = pc') {o : Int} (hd : decode c.code pc = .ok (.ifnonnull o, 3)) (h : Go p.tables e below E (T.setTop (mkF m pc' Ls st))) : Go p.tables e below E (T.setTop (mkF m pc Ls (.null :: st))) := by
  subst hpc; exact Go.via (fun _ k => XS.ifnonnullNo X.here hx rfl hd rfl k) h
theorem o_acmpne (pc' : Nat) (X : Stand p l e R s m args below meth c T locs cells slots) (hx : p.tables.exec = Jvm.exec) {o : Int} {a b : Addr} (hd : decode c.code pc = .ok (.if_acmp .ne o, 3)) (hne : a ≠ b) (ho : 0 ≤ (pc : Int) + o) (hp : ((pc : Int) + o).toNat = pc') (h : Go p.tables e below E (T.setTop (mkF m pc' Ls st))) : Go p.tables e below E (T.setTop (mkF m pc Ls (.ref b :: .ref a :: st))) := by
  exact Go.via (fun _ k => XS.acmpYes X.here hx rfl (pc0 := pc) (pc' := pc') rfl hd rfl (by simp [if_acmp.holds, hne]) ho hp k) h
theorem o_out (X : Stand p l e R s m args below meth c T locs cells slots) (hx : p.tables.exec = Jvm.exec) {rm : Room} {Q : Option Value → Heap → List Loc → Prop} {v : Option Value} (hv : meth.sig.returnType = none → v = none) (hlk : meth.locks = false) {g : JFrame}
    (hst : ∀ fs, (∀ (f : JFrame) (acts : List Action), f.method = m → f.locked = none → f.entered = [] → (doReturn e (T.setTop f) acts v).1 = T.setFrames fs) → Steps p.tables e below (T.setTop g) (T.setFrames fs)) (hq : Q v T.heap locs) (hk : cells ≤ rm.cells) (hn : slots ≤ rm.slots) : Go p.tables e below (EndE s rm Q) (T.setTop g) := by
  obtain ⟨fs, hr, hrun, hended, hW, hsame⟩ := X.leave (v := v) hv hlk
  exact ⟨_, _, hst fs hr, hrun, hended, _, _, rfl, hq, ⟨_, rfl⟩, hW, hsame.mono hk hn⟩
theorem own_retI (X : Stand p l e R s m args below meth c T locs cells slots) (hx : p.tables.exec = Jvm.exec) {z : Int32} (hret : meth.sig.returnType = some .int) (hd : decode c.code pc = .ok (.ireturn, 1)) {fs : List Frame}
    (hl : ∀ (f : JFrame) (acts : List Action), f.method = m → f.locked = none → f.entered = [] → (doReturn e (T.setTop f) acts (some (.int z))).1 = T.setFrames fs) : Steps p.tables e below (T.setTop (mkF m pc Ls (.int z :: st))) (T.setFrames fs) :=
  retOut X hx hret rfl (Or.inl ⟨rfl, Or.inl rfl, z, rfl⟩) hd hl
theorem o_retI (X : Stand p l e R s m args below meth c T locs cells slots) (hx : p.tables.exec = Jvm.exec) {z : Int32} {rm : Room} {Q : Option Value → Heap → List Loc → Prop} (hret : meth.sig.returnType = some .int) (hlk : meth.locks = false) (hd : decode c.code pc = .ok (.ireturn, 1)) (hk : cells ≤ rm.cells) (hn : slots ≤ rm.slots) (hq : Q (some (.int z)) T.heap locs) : Go p.tables e below (EndE s rm Q) (T.setTop (mkF m pc Ls (.int z :: st))) :=
  o_out X hx (fun q => by rw [hret] at q; cases q) hlk (fun fs hr => own_retI X hx hret hd hr) hq hk hn
theorem o_retA (X : Stand p l e R s m args below meth c T locs cells slots) (hx : p.tables.exec = Jvm.exec) {z : Value} {t : FieldType} (ht : t.isReference = true) (hz : z.isRef = true) {rm : Room} {Q : Option Value → Heap → List Loc → Prop} (hret : meth.sig.returnType = some t) (hlk : meth.locks = false) (hd : decode c.code pc = .ok (.areturn, 1)) (hk : cells ≤ rm.cells) (hn : slots ≤ rm.slots) (hq : Q (some z) T.heap locs) : Go p.tables e below (EndE s rm Q) (T.setTop (mkF m pc Ls (z :: st))) :=
  o_out X hx (fun q => by rw [hret] at q; cases q) hlk (fun fs hr => retOut X hx hret (by cases t <;> first | (cases ht; done) | (cases z <;> first | rfl | (cases hz; done))) (Or.inr (Or.inr (Or.inr (Or.inr ⟨rfl, ht, hz⟩)))) hd hr) hq hk hn
theorem o_retN (X : Stand p l e R s m args below meth c T locs cells slots) (hx : p.tables.exec = Jvm.exec) {z : Int32} (t : FieldType) (ht : t = .boolean ∨ t = .byte ∨ t = .char ∨ t = .short) {rm : Room} {Q : Option Value → Heap → List Loc → Prop} (hret : meth.sig.returnType = some t) (hlk : meth.locks = false) (hd : decode c.code pc = .ok (.ireturn, 1)) (hk : cells ≤ rm.cells) (hn : slots ≤ rm.slots) (hq : Q (some (.int (nar t z))) T.heap locs) : Go p.tables e below (EndE s rm Q) (T.setTop (mkF m pc Ls (.int z :: st))) :=
  o_out X hx (fun q => by rw [hret] at q; cases q) hlk (fun fs hr => retN X hx hret ht hd hr) hq hk hn
theorem o_retV (X : Stand p l e R s m args below meth c T locs cells slots) (hx : p.tables.exec = Jvm.exec) {rm : Room} {Q : Option Value → Heap → List Loc → Prop} (hret : meth.sig.returnType = none) (hlk : meth.locks = false) (hd : decode c.code pc = .ok (.return_, 1)) (hk : cells ≤ rm.cells) (hn : slots ≤ rm.slots) (hq : Q none T.heap locs) : Go p.tables e below (EndE s rm Q) (T.setTop (mkF m pc Ls [])) :=
  o_out X hx (fun _ => rfl) hlk (fun fs hr => X.returnOut hx hret hd hr) hq hk hn
theorem o_callS (pc' : Nat) (X : Stand p l e R s m args below meth c T locs cells slots) (hx : p.tables.exec = Jvm.exec) (hpc : pc + 3 = pc') (hZ : Z.Warmed39 s.vm) {own : String} {index : Nat} {y : MethodName} {bytes : ByteArray} {maxL : Nat} {ret : Option FieldType} {rm : Room} {as' : Array Value} {Q : Option Value → Heap → List Loc → Prop} (hown : s.vm.findClass own = some m.cls) (w1 : (Jvm.Cond.methodLink own index y).before a0 Z = true) (w2 : (Jvm.Cond.static y).before a0 Z = true) (w3 : (Jvm.Cond.initialized y.cls).before a0 Z = true) (w4 : (Jvm.Cond.code y bytes maxL ret).before a0 Z = true) (hy : y.cls ≠ "java/lang/invoke/MethodHandle" ∧ y.cls ≠ "java/lang/invoke/VarHandle") (eT : T.heap = h)
    (hM : MetP l y bytes maxL ret [] rm Z as' h Q) {ps : List FieldType} {r : Option FieldType} (hdsc : parseMethodDescriptor y.desc = some ⟨ps, r⟩) (argsL rest : List Value) (hlen : argsL.length = ps.length) (has : argsL.toArray = as') (hsize : Ls.size = c.maxLocals) (hst : st = argsL.reverse ++ rest) (hd : decode c.code pc = .ok (.invokestatic index, 3)) (W : Nat) (hW : (rest.map fun v => v.category).sum ≤ W) (hf : rm.frames + 1 ≤ R.frames) (hlo : W + (maxL + 11) + rm.locals ≤ R.locals) (hc : cells + rm.cells ≤ R.cells) (hsl : slots + rm.slots ≤ R.slots)
    (k : ∀ (v : Option Value) (T' : State) (L : List Loc), Stand p l e R s m args below meth c T' (locs ++ L) (cells + rm.cells) (slots + rm.slots) → Q v T'.heap L → Go p.tables e below E (T'.setTop (mkF m pc' Ls (v.toList ++ rest)))) : Go p.tables e below E (T.setTop (mkF m pc Ls st)) := by
  subst hpc
  obtain ⟨v, _, ⟨T', L', c', s'⟩, -, X', ⟨L, hQ, h1, h2, h3⟩, st'⟩ := Jvm.LawKit.callS X hx (y := y) hown (mvT hZ w1) (mvT hZ w2) (mvT hZ w3) (mvT hZ w4) hy (backOf (W := W) hM hZ w4 w3 hf hlo) (g := mkF m pc Ls st) rfl hsize (argsL := argsL) (rest := rest) (lenOf hdsc hlen) hst (by show 2 * 0 + _ ≤ _; rw [Nat.mul_zero, Nat.zero_add]; exact hW) hd (fun _ _ => ⟨has, eT, hc, hsl⟩)
  dsimp only [Pt.U, Pt.locs, Pt.cells, Pt.slots] at X' h1 h2 h3 st' hQ
  subst h1 h2 h3
  exact Go.via st' (k v T' L X' hQ)
theorem o_callP (pc' : Nat) (X : Stand p l e R s m args below meth c T locs cells slots) (hx : p.tables.exec = Jvm.exec) (hpc : pc + 3 = pc') (hZ : Z.Warmed39 s.vm) {own : String} {index : Nat} {y : MethodName} {bytes : ByteArray} {maxL : Nat} {ret : Option FieldType} {rm : Room} {as' : Array Value} {rv : Value} (hown : s.vm.findClass own = some m.cls) (w1 : (Jvm.Cond.methodLink own index y).before a0 Z = true) (w2 : (Jvm.Cond.static y).before a0 Z = true) (w3 : (Jvm.Cond.initialized y.cls).before a0 Z = true) (w4 : (Jvm.Cond.code y bytes maxL ret).before a0 Z = true) (hy : y.cls ≠ "java/lang/invoke/MethodHandle" ∧ y.cls ≠ "java/lang/invoke/VarHandle") (eT : T.heap = h)
    (hM : MetP l y bytes maxL ret [] rm Z as' h (Pure rv h)) {ps : List FieldType} {r : Option FieldType} (hdsc : parseMethodDescriptor y.desc = some ⟨ps, r⟩) (argsL rest : List Value) (hlen : argsL.length = ps.length) (has : argsL.toArray = as') (hsize : Ls.size = c.maxLocals) (hst : st = argsL.reverse ++ rest) (hd : decode c.code pc = .ok (.invokestatic index, 3)) (W : Nat) (hW : (rest.map fun v => v.category).sum ≤ W) (hf : rm.frames + 1 ≤ R.frames) (hlo : W + (maxL + 11) + rm.locals ≤ R.locals) (hc : cells + rm.cells ≤ R.cells) (hsl : slots + rm.slots ≤ R.slots) (hc0 : rm.cells = 0) (hs0 : rm.slots = 0)
    (k : ∀ (T' : State), Stand p l e R s m args below meth c T' locs cells slots → T'.heap = h → Go p.tables e below E (T'.setTop (mkF m pc' Ls (rv :: rest)))) : Go p.tables e below E (T.setTop (mkF m pc Ls st)) := by
  refine o_callS pc' X hx hpc hZ hown w1 w2 w3 w4 hy eT hM hdsc argsL rest hlen has hsize hst hd W hW hf hlo hc hsl ?_
  intro v T' L X' hQ
  obtain ⟨rfl, rfl, e'⟩ := hQ
  rw [hc0, hs0, List.append_nil] at X'
  exact k T' X' e' 
theorem o_newarr (pc' : Nat) (X : Stand p l e R s m args below meth c T locs cells slots) (hx : p.tables.exec = Jvm.exec) (hpc : pc + 2 = pc') (hZ : Z.Warmed39 s.vm) (aty : ArrayType) (ty : FieldType) (hty : newarray.typeOf aty = ty) (w : (Jvm.Cond.arrayClass ty).before a0 Z = true) (eT : T.heap = h) {n : Int32} (hd : decode c.code pc = .ok (.newarray aty, 2)) (hn : ¬ n < 0) (cap : Nat) (hcap : n.toNatClampNeg ≤ cap) (hb : cap * 8 ≤ 536870912) (hc : cells + 1 ≤ R.cells) (hl : slots + cap ≤ R.slots)
    (k : ∀ (T' : State) (h' : Heap) (a : Addr) (cA : ClassId), a = h.size → Stand p l e R s m args below meth c T' locs (cells + 1) (slots + cap) → T'.heap = h' → Ext h h' → Arv Z h' a cA ty n [] (defaultValue ty) → Go p.tables e below E (T'.setTop (mkF m pc' Ls (.ref a :: st)))) : Go p.tables e below E (T.setTop (mkF m pc Ls (.int n :: st))) := by
  subst hpc; subst hty
  obtain ⟨T', h', cA, X', e', E', A', st'⟩ := newP X hx hZ w eT (g := mkF m pc Ls (.int n :: st)) rfl hd rfl hn hcap hb hc hl
  exact Go.via st' (k T' h' h.size cA rfl X' e' E' (Arv.new A' hn))
theorem o_alen (pc' : Nat) (X : Stand p l e R s m args below meth c T locs cells slots) (hx : p.tables.exec = Jvm.exec) (hpc : pc + 1 = pc') (hZ : Z.Warmed39 s.vm) (eT : T.heap = h) {a : Addr} {ka : ClassId} {ty : FieldType} {n : Int32} {vs : List Value} {dv : Value} (F : Arv Z h a ka ty n vs dv) (hd : decode c.code pc = .ok (.arraylength, 1)) (k : Go p.tables e below E (T.setTop (mkF m pc' Ls (.int n :: st)))) : Go p.tables e below E (T.setTop (mkF m pc Ls (.ref a :: st))) := by
  subst hpc
  obtain ⟨cl, A, -, S, M, -⟩ := F
  rw [← len_of S M] at k
  exact Go.via (fun _ q => X.arraylength hx (by rw [eT]; exact A.1) (State.isArrayOf_alike hZ.alike A.2.1) (g := mkF m pc Ls (.ref a :: st)) rfl rfl hd _ q) k
theorem o_iaload (pc' : Nat) (X : Stand p l e R s m args below meth c T locs cells slots) (hx : p.tables.exec = Jvm.exec) (hpc : pc + 1 = pc') (hZ : Z.Warmed39 s.vm) (eT : T.heap = h) {a : Addr} {ka : ClassId} {n j : Int32} {vs : List Value} {dv : Value} (F : Arv Z h a ka .int n vs dv) (hj : ¬ j < 0 ∧ j < n) (v : Value) (hv : vs.getD j.toNatClampNeg dv = v) (hd : decode c.code pc = .ok (.iaload, 1)) (k : Go p.tables e below E (T.setTop (mkF m pc' Ls (v :: st)))) : Go p.tables e below E (T.setTop (mkF m pc Ls (.int j :: .ref a :: st))) := by
  subst hpc
  obtain ⟨cl, A, -, S, M, H, -⟩ := F
  have hin := inb_of S hj
  exact Go.via (fun _ q => X.iaload hx (j := j) (v := v) (by rw [eT]; exact A.1) (State.isArrayOf_alike hZ.alike A.2.1) A.2.2 hin (H.at hin hv) (g := mkF m pc Ls (.int j :: .ref a :: st)) rfl rfl hd _ q) k
theorem o_iastore (pc' : Nat) (X : Stand p l e R s m args below meth c T locs cells slots) (hx : p.tables.exec = Jvm.exec) (hpc : pc + 1 = pc') (hZ : Z.Warmed39 s.vm) (eT : T.heap = h) {a : Addr} {ka : ClassId} {n j : Int32} {x : Int32} {vs : List Value} {dv : Value} (F : Arv Z h a ka .int n vs dv) (hj : ¬ j < 0 ∧ j < n) (i : Nat) (hi : j.toNatClampNeg = i) (hlt : i < vs.length) (vs' : List Value) (hvs : vs.set i (.int x) = vs') {n0 : Nat} (N : Fr n0 locs) (ga : n0 ≤ a) (hd : decode c.code pc = .ok (.iastore, 1))
    (k : ∀ (T' : State) (h' : Heap) (L' : List Loc), Stand p l e R s m args below meth c T' L' cells slots → Fr n0 L' → T'.heap = h' → Wr h h' a j.toNatClampNeg (.int x) → Arv Z h' a ka .int n vs' dv → Go p.tables e below E (T'.setTop (mkF m pc' Ls st))) : Go p.tables e below E (T.setTop (mkF m pc Ls (.int x :: .int j :: .ref a :: st))) := by
  subst hpc; subst hvs
  obtain ⟨cl, A, q1, S, M, H, G⟩ := F
  have hin := inb_of S hj
  obtain ⟨T', h', X', e', W', st'⟩ := stI X hx hZ eT A hin (g := mkF m pc Ls (.int x :: .int j :: .ref a :: st)) rfl rfl hd
  exact Go.via st' (k T' h' _ X' (Fr.snoc X' N ga) e' W' (Arv.set A q1 S M H G (rfl) W' i hi hlt))
theorem own_getI (xs : List Int32) (i : Nat) : (xs.map Value.int).getD i (.int 0) = .int (xs.getD i 0) := by
  simp only [List.getD_eq_getElem?_getD, List.getElem?_map]; cases xs[i]? <;> rfl
theorem o_ialoadX (pc' : Nat) (X : Stand p l e R s m args below meth c T locs cells slots) (hx : p.tables.exec = Jvm.exec) (hpc : pc + 1 = pc') (hZ : Z.Warmed39 s.vm) (eT : T.heap = h) {a : Addr} {ka : ClassId} {n j : Int32} {xs : List Int32} (F : Arv Z h a ka .int n (xs.map Value.int) (.int 0)) (hj : ¬ j < 0 ∧ j < n) (hd : decode c.code pc = .ok (.iaload, 1)) (v : Int32) (hv : xs.getD j.toNatClampNeg 0 = v) (k : Go p.tables e below E (T.setTop (mkF m pc' Ls (.int v :: st)))) : Go p.tables e below E (T.setTop (mkF m pc Ls (.int j :: .ref a :: st))) := by
  subst hv; exact o_iaload pc' X hx hpc hZ eT F hj _ (own_getI xs _) hd k
theorem o_iastoreX (pc' : Nat) (X : Stand p l e R s m args below meth c T locs cells slots) (hx : p.tables.exec = Jvm.exec) (hpc : pc + 1 = pc') (hZ : Z.Warmed39 s.vm) (eT : T.heap = h) {a : Addr} {ka : ClassId} {n j : Int32} {x : Int32} {xs : List Int32} (F : Arv Z h a ka .int n (xs.map Value.int) (.int 0)) (hj : ¬ j < 0 ∧ j < n) (hlt : j.toNatClampNeg < xs.length) (xs' : List Int32) (hxs : xs.set j.toNatClampNeg x = xs') {n0 : Nat} (N : Fr n0 locs) (ga : n0 ≤ a) (hd : decode c.code pc = .ok (.iastore, 1))
    (k : ∀ (T' : State) (h' : Heap) (L' : List Loc), Stand p l e R s m args below meth c T' L' cells slots → Fr n0 L' → T'.heap = h' → Wr h h' a j.toNatClampNeg (.int x) → Arv Z h' a ka .int n (xs'.map Value.int) (.int 0) → Go p.tables e below E (T'.setTop (mkF m pc' Ls st))) : Go p.tables e below E (T.setTop (mkF m pc Ls (.int x :: .int j :: .ref a :: st))) := by
  subst hxs
  exact o_iastore pc' X hx hpc hZ eT F hj _ rfl (by rw [List.length_map]; exact hlt) _ (List.map_set.symm) N ga hd k
theorem o_newarrI (pc' : Nat) (X : Stand p l e R s m args below meth c T locs cells slots) (hx : p.tables.exec = Jvm.exec) (hpc : pc + 2 = pc') (hZ : Z.Warmed39 s.vm) (aty : ArrayType) (ty : FieldType) (hty : newarray.typeOf aty = ty) (hdf : defaultValue ty = .int 0) (w : (Jvm.Cond.arrayClass ty).before a0 Z = true) (eT : T.heap = h) {n : Int32} (hd : decode c.code pc = .ok (.newarray aty, 2)) (hn : ¬ n < 0) (cap : Nat) (hcap : n.toNatClampNeg ≤ cap) (hb : cap * 8 ≤ 536870912) (hc : cells + 1 ≤ R.cells) (hl : slots + cap ≤ R.slots) (xs : List Int32) (hxs : List.replicate n.toNatClampNeg 0 = xs)
    (k : ∀ (T' : State) (h' : Heap) (a : Addr) (cA : ClassId), a = h.size → Stand p l e R s m args below meth c T' locs (cells + 1) (slots + cap) → T'.heap = h' → Ext h h' → Arv Z h' a cA ty n (xs.map Value.int) (.int 0) → Go p.tables e below E (T'.setTop (mkF m pc' Ls (.ref a :: st)))) : Go p.tables e below E (T.setTop (mkF m pc Ls (.int n :: st))) := by
  subst hxs
  refine o_newarr pc' X hx hpc hZ aty ty hty w eT hd hn cap hcap hb hc hl ?_
  intro T' h' a cA g X' e' E' A'
  rw [hdf] at A'
  refine k T' h' a cA g X' e' E' ?_
  rw [List.map_replicate]
  exact A'.pad (pad_rep [] _ _)
theorem o_callSw (pc' : Nat) (X : Stand p l e R s m args below meth c T locs cells slots) (hx : p.tables.exec = Jvm.exec) (hpc : pc + 3 = pc') (hZ : Z.Warmed39 s.vm) {own : String} {index : Nat} {y : MethodName} {bytes : ByteArray} {maxL : Nat} {ret : Option FieldType} {rm : Room} {as' : Array Value} {Q : Option Value → Heap → List Loc → Prop} (hown : s.vm.findClass own = some m.cls) (w1 : (Jvm.Cond.methodLink own index y).before a0 Z = true) (w2 : (Jvm.Cond.static y).before a0 Z = true) (w3 : (Jvm.Cond.initialized y.cls).before a0 Z = true) (w4 : (Jvm.Cond.code y bytes maxL ret).before a0 Z = true) (hy : y.cls ≠ "java/lang/invoke/MethodHandle" ∧ y.cls ≠ "java/lang/invoke/VarHandle") (eT : T.heap = h) {n0 : Nat} (N : Fr n0 locs)
    (hM : MetP l y bytes maxL ret [] rm Z as' h Q) {ps : List FieldType} {r : Option FieldType} (hdsc : parseMethodDescriptor y.desc = some ⟨ps, r⟩) (argsL rest : List Value) (hlen : argsL.length = ps.length) (has : argsL.toArray = as') (hsize : Ls.size = c.maxLocals) (hst : st = argsL.reverse ++ rest) (hd : decode c.code pc = .ok (.invokestatic index, 3)) (W : Nat) (hW : (rest.map fun v => v.category).sum ≤ W) (hf : rm.frames + 1 ≤ R.frames) (hlo : W + (maxL + 11) + rm.locals ≤ R.locals) (hc : cells + rm.cells ≤ R.cells) (hsl : slots + rm.slots ≤ R.slots)
    (k : ∀ (v : Option Value) (T' : State) (L L' : List Loc), Stand p l e R s m args below meth c T' L' (cells + rm.cells) (slots + rm.slots) → Q v T'.heap L → (Fr n0 L → Fr n0 L') → Go p.tables e below E (T'.setTop (mkF m pc' Ls (v.toList ++ rest)))) : Go p.tables e below E (T.setTop (mkF m pc Ls st)) :=
  o_callS pc' X hx hpc hZ hown w1 w2 w3 w4 hy eT hM hdsc argsL rest hlen has hsize hst hd W hW hf hlo hc hsl (fun v T' L X' hQ => k v T' L _ X' hQ (fun M => Fr.app N M))
end OwnKit
theorem l_tlt {x y : Int64} (h : x < y) : lcmpW x y < 0 := (lw_lt x y).mpr h
theorem l_flt {x y : Int64} (h : ¬ x < y) : ¬ lcmpW x y < 0 := fun q => h ((lw_lt x y).mp q)
theorem l_tgt {x y : Int64} (h : y < x) : 0 < lcmpW x y := (lw_gt x y).mpr h
theorem l_fgt {x y : Int64} (h : ¬ y < x) : ¬ 0 < lcmpW x y := fun q => h ((lw_gt x y).mp q)
theorem l_teq {x y : Int64} (h : x = y) : lcmpW x y = 0 := (lw_eq x y).mpr h
theorem l_feq {x y : Int64} (h : ¬ x = y) : ¬ lcmpW x y = 0 := fun q => h ((lw_eq x y).mp q)
theorem wd_0 {Z : State} {a0 : Array Value} (hw : ∀ d ∈ tables_1, d.before a0 Z = true) : (Jvm.Cond.arrayClass Jvm.ClassFile.FieldType.int).before a0 Z = true := hw _ (List.mem_of_getElem? (i := 0) rfl)
theorem wd_1 {Z : State} {a0 : Array Value} (hw : ∀ d ∈ tables_1, d.before a0 Z = true) : (Jvm.Cond.constant "com/example/discernibility/discernibility/LookaheadFirstVectorPinLaw" (8 : Nat) (2147483647 : Int32)).before a0 Z = true := hw _ (List.mem_of_getElem? (i := 1) rfl)
theorem wd_2 {Z : State} {a0 : Array Value} (hw : ∀ d ∈ tables_1, d.before a0 Z = true) : (Jvm.Cond.methodLink "com/example/discernibility/discernibility/LookaheadFirstVectorPinLaw" (9 : Nat) ({ cls := "com/example/discernibility/discernibility/Lookahead", name := "firstVector", desc := "(I[I)[I" } : Jvm.MethodName)).before a0 Z = true := hw _ (List.mem_of_getElem? (i := 2) rfl)
theorem wd_3 {Z : State} {a0 : Array Value} (hw : ∀ d ∈ tables_1, d.before a0 Z = true) : (Jvm.Cond.static ({ cls := "com/example/discernibility/discernibility/Lookahead", name := "firstVector", desc := "(I[I)[I" } : Jvm.MethodName)).before a0 Z = true := hw _ (List.mem_of_getElem? (i := 3) rfl)
theorem wd_4 {Z : State} {a0 : Array Value} (hw : ∀ d ∈ tables_1, d.before a0 Z = true) : (Jvm.Cond.initialized "com/example/discernibility/discernibility/Lookahead").before a0 Z = true := hw _ (List.mem_of_getElem? (i := 4) rfl)
theorem wd_5 {Z : State} {a0 : Array Value} (hw : ∀ d ∈ tables_1, d.before a0 Z = true) : (Jvm.Cond.code ({ cls := "com/example/discernibility/discernibility/Lookahead", name := "firstVector", desc := "(I[I)[I" } : Jvm.MethodName) prog_17_method_13_code (7 : Nat) (Option.some (Jvm.ClassFile.FieldType.array Jvm.ClassFile.FieldType.int))).before a0 Z = true := hw _ (List.mem_of_getElem? (i := 5) rfl)
theorem wd_6 {Z : State} {a0 : Array Value} (hw : ∀ d ∈ tables_1, d.before a0 Z = true) : (Jvm.Cond.methodLink "com/example/discernibility/discernibility/Lookahead" (331 : Nat) ({ cls := "com/example/discernibility/discernibility/Lookahead", name := "fill", desc := "([III[I)V" } : Jvm.MethodName)).before a0 Z = true := hw _ (List.mem_of_getElem? (i := 6) rfl)
theorem wd_7 {Z : State} {a0 : Array Value} (hw : ∀ d ∈ tables_1, d.before a0 Z = true) : (Jvm.Cond.static ({ cls := "com/example/discernibility/discernibility/Lookahead", name := "fill", desc := "([III[I)V" } : Jvm.MethodName)).before a0 Z = true := hw _ (List.mem_of_getElem? (i := 7) rfl)
theorem wd_8 {Z : State} {a0 : Array Value} (hw : ∀ d ∈ tables_1, d.before a0 Z = true) : (Jvm.Cond.code ({ cls := "com/example/discernibility/discernibility/Lookahead", name := "fill", desc := "([III[I)V" } : Jvm.MethodName) prog_17_method_15_code (7 : Nat) (Option.none : Option Jvm.ClassFile.FieldType)).before a0 Z = true := hw _ (List.mem_of_getElem? (i := 8) rfl)
theorem wd_9 {Z : State} {a0 : Array Value} (hw : ∀ d ∈ tables_1, d.before a0 Z = true) : (Jvm.Cond.constant "com/example/discernibility/discernibility/LookaheadFirstVectorPinLaw" (7 : Nat) (1048575 : Int32)).before a0 Z = true := hw _ (List.mem_of_getElem? (i := 9) rfl)
theorem wd_10 {Z : State} {a0 : Array Value} (hw : ∀ d ∈ tables_1, d.before a0 Z = true) : (Jvm.Cond.methodLink "com/example/discernibility/discernibility/Lookahead" (335 : Nat) ({ cls := "java/lang/Math", name := "max", desc := "(II)I" } : Jvm.MethodName)).before a0 Z = true := hw _ (List.mem_of_getElem? (i := 10) rfl)
theorem wd_11 {Z : State} {a0 : Array Value} (hw : ∀ d ∈ tables_1, d.before a0 Z = true) : (Jvm.Cond.static ({ cls := "java/lang/Math", name := "max", desc := "(II)I" } : Jvm.MethodName)).before a0 Z = true := hw _ (List.mem_of_getElem? (i := 11) rfl)
theorem wd_12 {Z : State} {a0 : Array Value} (hw : ∀ d ∈ tables_1, d.before a0 Z = true) : (Jvm.Cond.initialized "java/lang/Math").before a0 Z = true := hw _ (List.mem_of_getElem? (i := 12) rfl)
theorem wd_13 {Z : State} {a0 : Array Value} (hw : ∀ d ∈ tables_1, d.before a0 Z = true) : (Jvm.Cond.code ({ cls := "java/lang/Math", name := "max", desc := "(II)I" } : Jvm.MethodName) jdk_29_method_65_code (2 : Nat) (Option.some Jvm.ClassFile.FieldType.int)).before a0 Z = true := hw _ (List.mem_of_getElem? (i := 13) rfl)
theorem d1_0 : decode prog_17_method_13_code 0 = .ok (.iconst 0, 1) := by decide +kernel
theorem d1_1 : decode prog_17_method_13_code 1 = .ok (.istore_n 2, 1) := by decide +kernel
theorem d1_11 : decode prog_17_method_13_code 11 = .ok (.iload 5, 2) := by decide +kernel
theorem d1_13 : decode prog_17_method_13_code 13 = .ok (.iload 4, 2) := by decide +kernel
theorem d1_15 : decode prog_17_method_13_code 15 = .ok (.if_icmp .ge 20, 3) := by decide +kernel
theorem d1_18 : decode prog_17_method_13_code 18 = .ok (.aload_n 3, 1) := by decide +kernel
theorem d1_19 : decode prog_17_method_13_code 19 = .ok (.iload 5, 2) := by decide +kernel
theorem d1_2 : decode prog_17_method_13_code 2 = .ok (.aload_n 1, 1) := by decide +kernel
theorem d1_21 : decode prog_17_method_13_code 21 = .ok (.iaload, 1) := by decide +kernel
theorem d1_22 : decode prog_17_method_13_code 22 = .ok (.istore 6, 2) := by decide +kernel
theorem d1_24 : decode prog_17_method_13_code 24 = .ok (.iload_n 2, 1) := by decide +kernel
theorem d1_25 : decode prog_17_method_13_code 25 = .ok (.iload 6, 2) := by decide +kernel
theorem d1_27 : decode prog_17_method_13_code 27 = .ok (.iadd, 1) := by decide +kernel
theorem d1_28 : decode prog_17_method_13_code 28 = .ok (.istore_n 2, 1) := by decide +kernel
theorem d1_29 : decode prog_17_method_13_code 29 = .ok (.iinc 5 1, 3) := by decide +kernel
theorem d1_3 : decode prog_17_method_13_code 3 = .ok (.astore_n 3, 1) := by decide +kernel
theorem d1_32 : decode prog_17_method_13_code 32 = .ok (.goto (-21), 3) := by decide +kernel
theorem d1_35 : decode prog_17_method_13_code 35 = .ok (.iload_n 0, 1) := by decide +kernel
theorem d1_36 : decode prog_17_method_13_code 36 = .ok (.ifCond .lt 8, 3) := by decide +kernel
theorem d1_39 : decode prog_17_method_13_code 39 = .ok (.iload_n 0, 1) := by decide +kernel
theorem d1_4 : decode prog_17_method_13_code 4 = .ok (.aload_n 3, 1) := by decide +kernel
theorem d1_40 : decode prog_17_method_13_code 40 = .ok (.iload_n 2, 1) := by decide +kernel
theorem d1_41 : decode prog_17_method_13_code 41 = .ok (.if_icmp .le 5, 3) := by decide +kernel
theorem d1_44 : decode prog_17_method_13_code 44 = .ok (.aconst_null, 1) := by decide +kernel
theorem d1_45 : decode prog_17_method_13_code 45 = .ok (.areturn, 1) := by decide +kernel
theorem d1_46 : decode prog_17_method_13_code 46 = .ok (.aload_n 1, 1) := by decide +kernel
theorem d1_47 : decode prog_17_method_13_code 47 = .ok (.arraylength, 1) := by decide +kernel
theorem d1_48 : decode prog_17_method_13_code 48 = .ok (.newarray .int, 2) := by decide +kernel
theorem d1_5 : decode prog_17_method_13_code 5 = .ok (.arraylength, 1) := by decide +kernel
theorem d1_50 : decode prog_17_method_13_code 50 = .ok (.astore_n 3, 1) := by decide +kernel
theorem d1_51 : decode prog_17_method_13_code 51 = .ok (.aload_n 3, 1) := by decide +kernel
theorem d1_52 : decode prog_17_method_13_code 52 = .ok (.iconst 0, 1) := by decide +kernel
theorem d1_53 : decode prog_17_method_13_code 53 = .ok (.iload_n 0, 1) := by decide +kernel
theorem d1_54 : decode prog_17_method_13_code 54 = .ok (.aload_n 1, 1) := by decide +kernel
theorem d1_55 : decode prog_17_method_13_code 55 = .ok (.invokestatic 331, 3) := by decide +kernel
theorem d1_58 : decode prog_17_method_13_code 58 = .ok (.aload_n 3, 1) := by decide +kernel
theorem d1_59 : decode prog_17_method_13_code 59 = .ok (.areturn, 1) := by decide +kernel
theorem d1_6 : decode prog_17_method_13_code 6 = .ok (.istore 4, 2) := by decide +kernel
theorem d1_8 : decode prog_17_method_13_code 8 = .ok (.iconst 0, 1) := by decide +kernel
theorem d1_9 : decode prog_17_method_13_code 9 = .ok (.istore 5, 2) := by decide +kernel
theorem d2_0 : decode prog_17_method_15_code 0 = .ok (.iconst 0, 1) := by decide +kernel
theorem d2_1 : decode prog_17_method_15_code 1 = .ok (.istore 4, 2) := by decide +kernel
theorem d2_10 : decode prog_17_method_15_code 10 = .ok (.if_icmp .ge 18, 3) := by decide +kernel
theorem d2_13 : decode prog_17_method_15_code 13 = .ok (.iload 4, 2) := by decide +kernel
theorem d2_15 : decode prog_17_method_15_code 15 = .ok (.aload_n 3, 1) := by decide +kernel
theorem d2_16 : decode prog_17_method_15_code 16 = .ok (.iload 5, 2) := by decide +kernel
theorem d2_18 : decode prog_17_method_15_code 18 = .ok (.iaload, 1) := by decide +kernel
theorem d2_19 : decode prog_17_method_15_code 19 = .ok (.iadd, 1) := by decide +kernel
theorem d2_20 : decode prog_17_method_15_code 20 = .ok (.istore 4, 2) := by decide +kernel
theorem d2_22 : decode prog_17_method_15_code 22 = .ok (.iinc 5 1, 3) := by decide +kernel
theorem d2_25 : decode prog_17_method_15_code 25 = .ok (.goto (-19), 3) := by decide +kernel
theorem d2_28 : decode prog_17_method_15_code 28 = .ok (.iload_n 2, 1) := by decide +kernel
theorem d2_29 : decode prog_17_method_15_code 29 = .ok (.istore 5, 2) := by decide +kernel
theorem d2_3 : decode prog_17_method_15_code 3 = .ok (.iload_n 1, 1) := by decide +kernel
theorem d2_31 : decode prog_17_method_15_code 31 = .ok (.iload_n 1, 1) := by decide +kernel
theorem d2_32 : decode prog_17_method_15_code 32 = .ok (.istore 6, 2) := by decide +kernel
theorem d2_34 : decode prog_17_method_15_code 34 = .ok (.iload 6, 2) := by decide +kernel
theorem d2_36 : decode prog_17_method_15_code 36 = .ok (.aload_n 3, 1) := by decide +kernel
theorem d2_37 : decode prog_17_method_15_code 37 = .ok (.arraylength, 1) := by decide +kernel
theorem d2_38 : decode prog_17_method_15_code 38 = .ok (.if_icmp .ge 40, 3) := by decide +kernel
theorem d2_4 : decode prog_17_method_15_code 4 = .ok (.istore 5, 2) := by decide +kernel
theorem d2_41 : decode prog_17_method_15_code 41 = .ok (.iload 4, 2) := by decide +kernel
theorem d2_43 : decode prog_17_method_15_code 43 = .ok (.aload_n 3, 1) := by decide +kernel
theorem d2_44 : decode prog_17_method_15_code 44 = .ok (.iload 6, 2) := by decide +kernel
theorem d2_46 : decode prog_17_method_15_code 46 = .ok (.iaload, 1) := by decide +kernel
theorem d2_47 : decode prog_17_method_15_code 47 = .ok (.isub, 1) := by decide +kernel
theorem d2_48 : decode prog_17_method_15_code 48 = .ok (.istore 4, 2) := by decide +kernel
theorem d2_50 : decode prog_17_method_15_code 50 = .ok (.aload_n 0, 1) := by decide +kernel
theorem d2_51 : decode prog_17_method_15_code 51 = .ok (.iload 6, 2) := by decide +kernel
theorem d2_53 : decode prog_17_method_15_code 53 = .ok (.iconst 0, 1) := by decide +kernel
theorem d2_54 : decode prog_17_method_15_code 54 = .ok (.iload 5, 2) := by decide +kernel
theorem d2_56 : decode prog_17_method_15_code 56 = .ok (.iload 4, 2) := by decide +kernel
theorem d2_58 : decode prog_17_method_15_code 58 = .ok (.isub, 1) := by decide +kernel
theorem d2_59 : decode prog_17_method_15_code 59 = .ok (.invokestatic 335, 3) := by decide +kernel
theorem d2_6 : decode prog_17_method_15_code 6 = .ok (.iload 5, 2) := by decide +kernel
theorem d2_62 : decode prog_17_method_15_code 62 = .ok (.iastore, 1) := by decide +kernel
theorem d2_63 : decode prog_17_method_15_code 63 = .ok (.iload 5, 2) := by decide +kernel
theorem d2_65 : decode prog_17_method_15_code 65 = .ok (.aload_n 0, 1) := by decide +kernel
theorem d2_66 : decode prog_17_method_15_code 66 = .ok (.iload 6, 2) := by decide +kernel
theorem d2_68 : decode prog_17_method_15_code 68 = .ok (.iaload, 1) := by decide +kernel
theorem d2_69 : decode prog_17_method_15_code 69 = .ok (.isub, 1) := by decide +kernel
theorem d2_70 : decode prog_17_method_15_code 70 = .ok (.istore 5, 2) := by decide +kernel
theorem d2_72 : decode prog_17_method_15_code 72 = .ok (.iinc 6 1, 3) := by decide +kernel
theorem d2_75 : decode prog_17_method_15_code 75 = .ok (.goto (-41), 3) := by decide +kernel
theorem d2_78 : decode prog_17_method_15_code 78 = .ok (.return_, 1) := by decide +kernel
theorem d2_8 : decode prog_17_method_15_code 8 = .ok (.aload_n 3, 1) := by decide +kernel
theorem d2_9 : decode prog_17_method_15_code 9 = .ok (.arraylength, 1) := by decide +kernel
theorem d3_0 : decode jdk_29_method_65_code 0 = .ok (.iload_n 0, 1) := by decide +kernel
theorem d3_1 : decode jdk_29_method_65_code 1 = .ok (.iload_n 1, 1) := by decide +kernel
theorem d3_10 : decode jdk_29_method_65_code 10 = .ok (.ireturn, 1) := by decide +kernel
theorem d3_2 : decode jdk_29_method_65_code 2 = .ok (.if_icmp .lt 7, 3) := by decide +kernel
theorem d3_5 : decode jdk_29_method_65_code 5 = .ok (.iload_n 0, 1) := by decide +kernel
theorem d3_6 : decode jdk_29_method_65_code 6 = .ok (.goto 4, 3) := by decide +kernel
theorem d3_9 : decode jdk_29_method_65_code 9 = .ok (.iload_n 1, 1) := by decide +kernel
theorem pd_lIIrI : parseMethodDescriptor "(II)I" = some ⟨[.int, .int], some .int⟩ := by decide +kernel
theorem pd_lIaIraI : parseMethodDescriptor "(I[I)[I" = some ⟨[.int, (.array .int)], some (.array .int)⟩ := by decide +kernel
theorem pd_laIIIaIrV : parseMethodDescriptor "([III[I)V" = some ⟨[(.array .int), .int, .int, (.array .int)], none⟩ := by decide +kernel
theorem pn_0 : plainFor x = true := plainFor_of_name (show plainName "com/example/discernibility/discernibility/LookaheadFirstVectorPinLaw" = true by first | (simp [plainName, overriddenIn]; done) | decide +kernel)
theorem pn_1 : plainFor (⟨"com/example/discernibility/discernibility/Lookahead", "firstVector", "(I[I)[I"⟩ : MethodName) = true := plainFor_of_name (show plainName "com/example/discernibility/discernibility/Lookahead" = true by first | (simp [plainName, overriddenIn]; done) | decide +kernel)
theorem pn_2 : plainFor (⟨"com/example/discernibility/discernibility/Lookahead", "fill", "([III[I)V"⟩ : MethodName) = true := plainFor_of_name (show plainName "com/example/discernibility/discernibility/Lookahead" = true by first | (simp [plainName, overriddenIn]; done) | decide +kernel)
theorem pn_3 : plainFor (⟨"java/lang/Math", "max", "(II)I"⟩ : MethodName) = true := Jvm.Free.JP.mathPlain rfl (by decide +kernel)
theorem own_lt {i n : Nat} (h : i < n) (hn : n < 2147483648) : Int32.ofNat i < Int32.ofNat n := by
  rw [Int32.lt_iff_toInt_lt, Int32.toInt_ofNat_of_lt (by omega), Int32.toInt_ofNat_of_lt (by omega)]
  omega
theorem own_nn {n : Nat} (hn : n < 2147483648) : ¬ Int32.ofNat n < 0 := by
  rw [Int32.lt_iff_toInt_lt, Int32.toInt_ofNat_of_lt (by omega), show (0 : Int32).toInt = 0 from rfl]
  omega
theorem own_n32 {n : Nat} (hn : n < 2147483648) : (Int32.ofNat n).toNatClampNeg = n := by
  rw [Int32.toNatClampNeg, Int32.toInt_ofNat_of_lt (by omega)]; rfl
theorem own_one (i : Nat) : Int32.ofNat i + (1 : Int32) = Int32.ofNat (i + 1) := (Int32.ofNat_add i 1).symm
theorem own_hd {xs ys : List Int32} {y : Int32} {i : Nat} (h : xs.drop i = y :: ys) : xs.getD i 0 = y := by
  have q : xs[i]? = some y := by have := congrArg (fun l => l[0]?) h; simpa [List.getElem?_drop] using this
  rw [List.getD_eq_getElem?_getD, q]; rfl
theorem own_tl {xs ys : List Int32} {y : Int32} {i : Nat} (h : xs.drop i = y :: ys) : xs.drop (i + 1) = ys := by
  have := congrArg (List.drop 1) h; simpa [List.drop_drop] using this
theorem ef_3 (m : MethodId) (y0 : Int32) (y1 : Int32) : entryFrame m #[(.int y0), (.int y1)] 2 = mkF m 0 #[.val (.int y0), .val (.int y1)] [] := by first | (simp [entryFrame, mkF, argsToLocals, Value.category]; done) | rfl
def f3_10_s0 (i0 : Int32) (i1 : Int32) : Int32 := (if i0 < i1 then i1 else i0)
def fn3 (i0 : Int32) (i1 : Int32) : Int32 := (f3_10_s0 i0 i1)
set_option maxRecDepth 65536 in
set_option maxHeartbeats 40000000 in
theorem rm3 (l : Launch) (Z : State) (a0 : Array Value) (hw : ∀ d ∈ tables_1, d.before a0 Z = true) (i0 : Int32) (i1 : Int32) (h0 : Heap) : MetP l (⟨"java/lang/Math", "max", "(II)I"⟩ : MethodName) jdk_29_method_65_code 2 (some .int) [] ({ frames := 0, cells := 0, slots := 0, locals := 0 } : Room) Z #[(.int i0), (.int i1)] h0 (Pure (.int (fn3 i0 i1)) h0) := by
  refine met_go pn_3 ?_
  intro p e s m below meth c s₁ hx hby hml hown hnm hret hlk hZ e0 X0
  rw [ef_3 m i0 i1]
  refine o_iloadN 1 X0 hx rfl (hb hby d3_0) rfl ?_
  refine o_iloadN 2 X0 hx rfl (hb hby d3_1) rfl ?_
  suffices j10_1 : Go p.tables e below (EndE s ({ frames := 0, cells := 0, slots := 0, locals := 0 } : Room) (Pure (.int (fn3 i0 i1)) h0)) (s₁.setTop (mkF m 10 #[.val (.int i0), .val (.int i1)] [(.int (f3_10_s0 i0 i1))])) by
    by_cases hc2_2 : i0 < i1
    · refine o_icmpYes 9 X0 hx (hb hby d3_2) (tlt hc2_2).1 (by decide) (by decide) ?_
      refine o_iloadN 10 X0 hx rfl (hb hby d3_9) rfl ?_
      rw [show (f3_10_s0 i0 i1) = i1 from by unfold f3_10_s0; simp only [if_pos hc2_2]] at j10_1
      exact j10_1
    · refine o_icmpNo 5 X0 hx rfl (hb hby d3_2) (flt hc2_2).1 ?_
      refine o_iloadN 6 X0 hx rfl (hb hby d3_5) rfl ?_
      refine o_goto 10 X0 hx (hb hby d3_6) (by decide) (by decide) ?_
      rw [show (f3_10_s0 i0 i1) = i0 from by unfold f3_10_s0; simp only [if_neg hc2_2]] at j10_1
      exact j10_1
  refine o_retI X0 hx hret hlk (hb hby d3_10) (by decide) (by decide) ?_
  exact ⟨show some (Value.int (f3_10_s0 i0 i1)) = some (Value.int (fn3 i0 i1)) from by rw [show (fn3 i0 i1) = (f3_10_s0 i0 i1) from by rfl], rfl, e0⟩
theorem ef_2 (m : MethodId) (y0 : Addr) (y1 : Int32) (y2 : Int32) (y3 : Addr) : entryFrame m #[(.ref y0), (.int y1), (.int y2), (.ref y3)] 7 = mkF m 0 #[.val (.ref y0), .val (.int y1), .val (.int y2), .val (.ref y3), .unset, .unset, .unset] [] := by first | (simp [entryFrame, mkF, argsToLocals, Value.category]; done) | rfl
set_option maxRecDepth 65536 in
set_option maxHeartbeats 40000000 in
theorem rm2_0 (l : Launch) (Z : State) (a0 : Array Value) (hw : ∀ d ∈ tables_1, d.before a0 Z = true) (r0 r3 : Addr) (ka kc : ClassId) (s2 : Int32) (h0 : Heap) (n0 : Nat) (Z0 : n0 ≤ h0.size) (ga : n0 ≤ r0) (hne : r3 ≠ r0) (Av : Arv Z h0 r0 ka .int (0 : Int32) (([] : List Int32).map Value.int) (.int 0)) (Ac : Arv Z h0 r3 kc .int (0 : Int32) (([] : List Int32).map Value.int) (.int 0)) : MetP l (⟨"com/example/discernibility/discernibility/Lookahead", "fill", "([III[I)V"⟩ : MethodName) prog_17_method_15_code 7 none [] ({ frames := 0, cells := 0, slots := 0, locals := 0 } : Room) Z #[(.ref r0), (.int (0 : Int32)), (.int s2), (.ref r3)] h0 (fun v h L => v = none ∧ Fr n0 L ∧ Keep h0 h [r0] ∧ Arv Z h r0 ka .int (0 : Int32) (([] : List Int32).map Value.int) (.int 0) ∧ Arv Z h r3 kc .int (0 : Int32) (([] : List Int32).map Value.int) (.int 0)) := by
  refine met_go pn_2 ?_
  intro p e s m below meth c s₁ hx hby hml hown hnm hret hlk hZ e0 X0
  have N0 := Fr.nil n0
  have K0 : Keep h0 h0 [r0] := Keep.refl _ _
  rw [ef_2 m r0 (0 : Int32) s2 r3]
  refine o_iconst 1 X0 hx rfl (hb hby d2_0) (0 : Int32) rfl ?_
  refine o_istore 3 X0 hx rfl (hb hby d2_1) #[.val (.ref r0), .val (.int (0 : Int32)), .val (.int s2), .val (.ref r3), .val (.int (0 : Int32)), .unset, .unset] rfl ?_
  refine o_iloadN 4 X0 hx rfl (hb hby d2_3) rfl ?_
  refine o_istore 6 X0 hx rfl (hb hby d2_4) #[.val (.ref r0), .val (.int (0 : Int32)), .val (.int s2), .val (.ref r3), .val (.int (0 : Int32)), .val (.int (0 : Int32)), .unset] rfl ?_
  refine o_iload 8 X0 hx rfl (hb hby d2_6) rfl ?_
  refine o_aloadN 9 X0 hx rfl (hb hby d2_8) rfl rfl ?_
  refine o_alen 10 X0 hx rfl hZ e0 Ac (hb hby d2_9) ?_
  refine o_icmpYes 28 X0 hx (hb hby d2_10) (flt (show ¬ ((0 : Int32) < (0 : Int32)) by decide)).2.1 (by decide) (by decide) ?_
  refine o_iloadN 29 X0 hx rfl (hb hby d2_28) rfl ?_
  refine o_istore 31 X0 hx rfl (hb hby d2_29) #[.val (.ref r0), .val (.int (0 : Int32)), .val (.int s2), .val (.ref r3), .val (.int (0 : Int32)), .val (.int s2), .unset] rfl ?_
  refine o_iloadN 32 X0 hx rfl (hb hby d2_31) rfl ?_
  refine o_istore 34 X0 hx rfl (hb hby d2_32) #[.val (.ref r0), .val (.int (0 : Int32)), .val (.int s2), .val (.ref r3), .val (.int (0 : Int32)), .val (.int s2), .val (.int (0 : Int32))] rfl ?_
  refine o_iload 36 X0 hx rfl (hb hby d2_34) rfl ?_
  refine o_aloadN 37 X0 hx rfl (hb hby d2_36) rfl rfl ?_
  refine o_alen 38 X0 hx rfl hZ e0 Ac (hb hby d2_37) ?_
  refine o_icmpYes 78 X0 hx (hb hby d2_38) (flt (show ¬ ((0 : Int32) < (0 : Int32)) by decide)).2.1 (by decide) (by decide) ?_
  refine o_retV X0 hx hret hlk (hb hby d2_78) (by decide) (by decide) ?_
  rw [e0]
  exact ⟨rfl, N0, K0, Av, Ac⟩
theorem ef_1 (m : MethodId) (y0 : Int32) (y1 : Addr) : entryFrame m #[(.int y0), (.ref y1)] 7 = mkF m 0 #[.val (.int y0), .val (.ref y1), .unset, .unset, .unset, .unset, .unset] [] := by first | (simp [entryFrame, mkF, argsToLocals, Value.category]; done) | rfl
set_option maxRecDepth 65536 in
set_option maxHeartbeats 40000000 in
theorem rm1n_0 (l : Launch) (Z : State) (a0 : Array Value) (hw : ∀ d ∈ tables_1, d.before a0 Z = true) (r1 : Addr) (kc : ClassId) (s2 : Int32) (h0 : Heap) (Ac : Arv Z h0 r1 kc .int (0 : Int32) (([] : List Int32).map Value.int) (.int 0)) (hnull : s2 < (0 : Int32) ∨ (0 : Int32) < s2) : MetP l (⟨"com/example/discernibility/discernibility/Lookahead", "firstVector", "(I[I)[I"⟩ : MethodName) prog_17_method_13_code 7 (some (.array .int)) [] ({ frames := 0, cells := 0, slots := 0, locals := 0 } : Room) Z #[(.int s2), (.ref r1)] h0 (Pure .null h0) := by
  refine met_go pn_1 ?_
  intro p e s m below meth c s₁ hx hby hml hown hnm hret hlk hZ e0 X0
  rw [ef_1 m s2 r1]
  refine o_iconst 1 X0 hx rfl (hb hby d1_0) (0 : Int32) rfl ?_
  refine o_istoreN 2 X0 hx rfl (hb hby d1_1) #[.val (.int s2), .val (.ref r1), .val (.int (0 : Int32)), .unset, .unset, .unset, .unset] rfl ?_
  refine o_aloadN 3 X0 hx rfl (hb hby d1_2) rfl rfl ?_
  refine o_astoreN 4 X0 hx rfl (hb hby d1_3) rfl #[.val (.int s2), .val (.ref r1), .val (.int (0 : Int32)), .val (.ref r1), .unset, .unset, .unset] rfl ?_
  refine o_aloadN 5 X0 hx rfl (hb hby d1_4) rfl rfl ?_
  refine o_alen 6 X0 hx rfl hZ e0 Ac (hb hby d1_5) ?_
  refine o_istore 8 X0 hx rfl (hb hby d1_6) #[.val (.int s2), .val (.ref r1), .val (.int (0 : Int32)), .val (.ref r1), .val (.int (0 : Int32)), .unset, .unset] rfl ?_
  refine o_iconst 9 X0 hx rfl (hb hby d1_8) (0 : Int32) rfl ?_
  refine o_istore 11 X0 hx rfl (hb hby d1_9) #[.val (.int s2), .val (.ref r1), .val (.int (0 : Int32)), .val (.ref r1), .val (.int (0 : Int32)), .val (.int (0 : Int32)), .unset] rfl ?_
  refine o_iload 13 X0 hx rfl (hb hby d1_11) rfl ?_
  refine o_iload 15 X0 hx rfl (hb hby d1_13) rfl ?_
  refine o_icmpYes 35 X0 hx (hb hby d1_15) (flt (show ¬ ((0 : Int32) < (0 : Int32)) by decide)).2.1 (by decide) (by decide) ?_
  refine o_iloadN 36 X0 hx rfl (hb hby d1_35) rfl ?_
  by_cases hneg : s2 < (0 : Int32)
  · refine o_ifYes 44 X0 hx (hb hby d1_36) (tlt hneg).1 (by decide) (by decide) ?_
    refine o_aconst_null 45 X0 hx rfl (hb hby d1_44) ?_
    refine o_retA X0 hx rfl rfl hret hlk (hb hby d1_45) (by decide) (by decide) ?_
    exact ⟨rfl, rfl, e0⟩
  · refine o_ifNo 39 X0 hx rfl (hb hby d1_36) (flt hneg).1 ?_
    refine o_iloadN 40 X0 hx rfl (hb hby d1_39) rfl ?_
    refine o_iloadN 41 X0 hx rfl (hb hby d1_40) rfl ?_
    refine o_icmpNo 44 X0 hx rfl (hb hby d1_41) (tlt (hnull.resolve_left hneg)).2.2.2 ?_
    refine o_aconst_null 45 X0 hx rfl (hb hby d1_44) ?_
    refine o_retA X0 hx rfl rfl hret hlk (hb hby d1_45) (by decide) (by decide) ?_
    exact ⟨rfl, rfl, e0⟩
set_option maxRecDepth 65536 in
set_option maxHeartbeats 40000000 in
theorem rm1v_0 (l : Launch) (Z : State) (a0 : Array Value) (hw : ∀ d ∈ tables_1, d.before a0 Z = true) (r1 : Addr) (kc : ClassId) (s2 : Int32) (h0 : Heap) (n0 : Nat) (Z0 : n0 ≤ h0.size) (Ac : Arv Z h0 r1 kc .int (0 : Int32) (([] : List Int32).map Value.int) (.int 0)) (hneg : ¬ s2 < (0 : Int32)) (hbig : ¬ (0 : Int32) < s2) : MetP l (⟨"com/example/discernibility/discernibility/Lookahead", "firstVector", "(I[I)[I"⟩ : MethodName) prog_17_method_13_code 7 (some (.array .int)) [] ({ frames := 1, cells := 1, slots := 0, locals := 18 } : Room) Z #[(.int s2), (.ref r1)] h0 (fun v h L => ∃ (a : Addr) (ka : ClassId), v = some (.ref a) ∧ Fr n0 L ∧ Keep h0 h [] ∧ n0 ≤ a ∧ h0.size ≤ a ∧ Arv Z h a ka .int (0 : Int32) (([] : List Int32).map Value.int) (.int 0) ∧ Arv Z h r1 kc .int (0 : Int32) (([] : List Int32).map Value.int) (.int 0)) := by
  refine met_go pn_1 ?_
  intro p e s m below meth c s₁ hx hby hml hown hnm hret hlk hZ e0 X0
  have N0 := Fr.nil n0
  have K0 : Keep h0 h0 [] := Keep.refl _ _
  rw [ef_1 m s2 r1]
  refine o_iconst 1 X0 hx rfl (hb hby d1_0) (0 : Int32) rfl ?_
  refine o_istoreN 2 X0 hx rfl (hb hby d1_1) #[.val (.int s2), .val (.ref r1), .val (.int (0 : Int32)), .unset, .unset, .unset, .unset] rfl ?_
  refine o_aloadN 3 X0 hx rfl (hb hby d1_2) rfl rfl ?_
  refine o_astoreN 4 X0 hx rfl (hb hby d1_3) rfl #[.val (.int s2), .val (.ref r1), .val (.int (0 : Int32)), .val (.ref r1), .unset, .unset, .unset] rfl ?_
  refine o_aloadN 5 X0 hx rfl (hb hby d1_4) rfl rfl ?_
  refine o_alen 6 X0 hx rfl hZ e0 Ac (hb hby d1_5) ?_
  refine o_istore 8 X0 hx rfl (hb hby d1_6) #[.val (.int s2), .val (.ref r1), .val (.int (0 : Int32)), .val (.ref r1), .val (.int (0 : Int32)), .unset, .unset] rfl ?_
  refine o_iconst 9 X0 hx rfl (hb hby d1_8) (0 : Int32) rfl ?_
  refine o_istore 11 X0 hx rfl (hb hby d1_9) #[.val (.int s2), .val (.ref r1), .val (.int (0 : Int32)), .val (.ref r1), .val (.int (0 : Int32)), .val (.int (0 : Int32)), .unset] rfl ?_
  refine o_iload 13 X0 hx rfl (hb hby d1_11) rfl ?_
  refine o_iload 15 X0 hx rfl (hb hby d1_13) rfl ?_
  refine o_icmpYes 35 X0 hx (hb hby d1_15) (flt (show ¬ ((0 : Int32) < (0 : Int32)) by decide)).2.1 (by decide) (by decide) ?_
  refine o_iloadN 36 X0 hx rfl (hb hby d1_35) rfl ?_
  refine o_ifNo 39 X0 hx rfl (hb hby d1_36) (flt hneg).1 ?_
  refine o_iloadN 40 X0 hx rfl (hb hby d1_39) rfl ?_
  refine o_iloadN 41 X0 hx rfl (hb hby d1_40) rfl ?_
  refine o_icmpYes 46 X0 hx (hb hby d1_41) (flt hbig).2.2.2 (by decide) (by decide) ?_
  refine o_aloadN 47 X0 hx rfl (hb hby d1_46) rfl rfl ?_
  refine o_alen 48 X0 hx rfl hZ e0 Ac (hb hby d1_47) ?_
  refine o_newarrI 50 X0 hx rfl hZ .int .int rfl rfl (wd_0 hw) e0 (hb hby d1_48) (by decide) 0 (by decide) (by decide) (by decide) (by decide) ([] : List Int32) rfl fun T1 h1 a1 k1 g1 X1 e1 E1 A1 => ?_
  have gz2 : h0.size ≤ a1 := Nat.le_trans K0.1 (Nat.le_of_eq g1.symm)
  have ne3 : r1 ≠ a1 := Nat.ne_of_lt (Nat.lt_of_lt_of_eq Ac.lt g1.symm)
  have ge4 : n0 ≤ a1 := Nat.le_trans Z0 (Nat.le_of_eq g1.symm)
  have F5 : Arv Z h1 r1 kc .int (0 : Int32) ((([] : List Int32)).map Value.int) (.int 0) := Ac.ext E1
  have sz6 : n0 ≤ h1.size := Nat.le_trans Z0 E1.1
  have K7 : Keep h0 h1 [] := K0.ext E1
  refine o_astoreN 51 X1 hx rfl (hb hby d1_50) rfl #[.val (.int s2), .val (.ref r1), .val (.int (0 : Int32)), .val (.ref a1), .val (.int (0 : Int32)), .val (.int (0 : Int32)), .unset] rfl ?_
  refine o_aloadN 52 X1 hx rfl (hb hby d1_51) rfl rfl ?_
  refine o_iconst 53 X1 hx rfl (hb hby d1_52) (0 : Int32) rfl ?_
  refine o_iloadN 54 X1 hx rfl (hb hby d1_53) rfl ?_
  refine o_aloadN 55 X1 hx rfl (hb hby d1_54) rfl rfl ?_
  refine o_callSw 58 X1 hx rfl hZ hown (wd_6 hw) (wd_7 hw) (wd_4 hw) (wd_8 hw) (by decide) e1 N0 (rm2_0 l Z a0 hw a1 r1 k1 kc s2 h1 n0 sz6 ge4 ne3 A1 F5) pd_laIIIaIrV [(.ref a1), (.int (0 : Int32)), (.int s2), (.ref r1)] [] rfl rfl (by rw [hml]; rfl) rfl (hb hby d1_55) 0 (Nat.le_of_eq rfl) (by decide) (by decide) (by decide) (by decide) fun v8 T8 L8 LL8 X8 Q8 NF8 => ?_
  obtain ⟨rfl, M8, K8, Av8, Ac8⟩ := Q8
  have NN8 := NF8 M8
  have K9 : Keep h0 T8.heap [] := K7.trans K8 (allS (P := fun x => x ∈ [] ∨ h0.size ≤ x) (Or.inr gz2) all0)
  have sz10 : n0 ≤ T8.heap.size := Nat.le_trans sz6 K8.1
  show Go p.tables e below (EndE s ({ frames := 1, cells := 1, slots := 0, locals := 18 } : Room) (fun v h L => ∃ (a : Addr) (ka : ClassId), v = some (.ref a) ∧ Fr n0 L ∧ Keep h0 h [] ∧ n0 ≤ a ∧ h0.size ≤ a ∧ Arv Z h a ka .int (0 : Int32) (([] : List Int32).map Value.int) (.int 0) ∧ Arv Z h r1 kc .int (0 : Int32) (([] : List Int32).map Value.int) (.int 0))) (T8.setTop (mkF m 58 #[.val (.int s2), .val (.ref r1), .val (.int (0 : Int32)), .val (.ref a1), .val (.int (0 : Int32)), .val (.int (0 : Int32)), .unset] []))
  refine o_aloadN 59 X8 hx rfl (hb hby d1_58) rfl rfl ?_
  refine o_retA X8 hx rfl rfl hret hlk (hb hby d1_59) (by decide) (by decide) ?_
  exact ⟨a1, k1, rfl, NN8, K9, ge4, gz2, Av8, Ac8⟩
def f2_70 (s2 : Int32) (y0 : Int32) : Int32 := (s2 - (fn3 (0 : Int32) (s2 - (((0 : Int32) + y0) - y0))))
set_option maxRecDepth 65536 in
set_option maxHeartbeats 40000000 in
theorem rm2_1 (l : Launch) (Z : State) (a0 : Array Value) (hw : ∀ d ∈ tables_1, d.before a0 Z = true) (r0 r3 : Addr) (ka kc : ClassId) (s2 y0 : Int32) (h0 : Heap) (n0 : Nat) (Z0 : n0 ≤ h0.size) (ga : n0 ≤ r0) (hne : r3 ≠ r0) (Av : Arv Z h0 r0 ka .int (1 : Int32) ([(0 : Int32)].map Value.int) (.int 0)) (Ac : Arv Z h0 r3 kc .int (1 : Int32) ([y0].map Value.int) (.int 0)) : MetP l (⟨"com/example/discernibility/discernibility/Lookahead", "fill", "([III[I)V"⟩ : MethodName) prog_17_method_15_code 7 none [] ({ frames := 1, cells := 0, slots := 0, locals := 15 } : Room) Z #[(.ref r0), (.int (0 : Int32)), (.int s2), (.ref r3)] h0 (fun v h L => v = none ∧ Fr n0 L ∧ Keep h0 h [r0] ∧ Arv Z h r0 ka .int (1 : Int32) ([(fn3 (0 : Int32) (s2 - (((0 : Int32) + y0) - y0)))].map Value.int) (.int 0) ∧ Arv Z h r3 kc .int (1 : Int32) ([y0].map Value.int) (.int 0)) := by
  refine met_go pn_2 ?_
  intro p e s m below meth c s₁ hx hby hml hown hnm hret hlk hZ e0 X0
  have N0 := Fr.nil n0
  have K0 : Keep h0 h0 [r0] := Keep.refl _ _
  rw [ef_2 m r0 (0 : Int32) s2 r3]
  refine o_iconst 1 X0 hx rfl (hb hby d2_0) (0 : Int32) rfl ?_
  refine o_istore 3 X0 hx rfl (hb hby d2_1) #[.val (.ref r0), .val (.int (0 : Int32)), .val (.int s2), .val (.ref r3), .val (.int (0 : Int32)), .unset, .unset] rfl ?_
  refine o_iloadN 4 X0 hx rfl (hb hby d2_3) rfl ?_
  refine o_istore 6 X0 hx rfl (hb hby d2_4) #[.val (.ref r0), .val (.int (0 : Int32)), .val (.int s2), .val (.ref r3), .val (.int (0 : Int32)), .val (.int (0 : Int32)), .unset] rfl ?_
  refine o_iload 8 X0 hx rfl (hb hby d2_6) rfl ?_
  refine o_aloadN 9 X0 hx rfl (hb hby d2_8) rfl rfl ?_
  refine o_alen 10 X0 hx rfl hZ e0 Ac (hb hby d2_9) ?_
  refine o_icmpNo 13 X0 hx rfl (hb hby d2_10) (tlt (show (0 : Int32) < (1 : Int32) by decide)).2.1 ?_
  refine o_iload 15 X0 hx rfl (hb hby d2_13) rfl ?_
  refine o_aloadN 16 X0 hx rfl (hb hby d2_15) rfl rfl ?_
  refine o_iload 18 X0 hx rfl (hb hby d2_16) rfl ?_
  refine o_ialoadX 19 X0 hx rfl hZ e0 Ac (by decide) (hb hby d2_18) y0 rfl ?_
  refine o_iadd 20 X0 hx rfl (hb hby d2_19) ?_
  refine o_istore 22 X0 hx rfl (hb hby d2_20) #[.val (.ref r0), .val (.int (0 : Int32)), .val (.int s2), .val (.ref r3), .val (.int ((0 : Int32) + y0)), .val (.int (0 : Int32)), .unset] rfl ?_
  refine o_iinc 25 X0 hx rfl (hb hby d2_22) (1 : Int32) rfl rfl #[.val (.ref r0), .val (.int (0 : Int32)), .val (.int s2), .val (.ref r3), .val (.int ((0 : Int32) + y0)), .val (.int (1 : Int32)), .unset] rfl ?_
  refine o_goto 6 X0 hx (hb hby d2_25) (by decide) (by decide) ?_
  refine o_iload 8 X0 hx rfl (hb hby d2_6) rfl ?_
  refine o_aloadN 9 X0 hx rfl (hb hby d2_8) rfl rfl ?_
  refine o_alen 10 X0 hx rfl hZ e0 Ac (hb hby d2_9) ?_
  refine o_icmpYes 28 X0 hx (hb hby d2_10) (flt (show ¬ ((1 : Int32) < (1 : Int32)) by decide)).2.1 (by decide) (by decide) ?_
  refine o_iloadN 29 X0 hx rfl (hb hby d2_28) rfl ?_
  refine o_istore 31 X0 hx rfl (hb hby d2_29) #[.val (.ref r0), .val (.int (0 : Int32)), .val (.int s2), .val (.ref r3), .val (.int ((0 : Int32) + y0)), .val (.int s2), .unset] rfl ?_
  refine o_iloadN 32 X0 hx rfl (hb hby d2_31) rfl ?_
  refine o_istore 34 X0 hx rfl (hb hby d2_32) #[.val (.ref r0), .val (.int (0 : Int32)), .val (.int s2), .val (.ref r3), .val (.int ((0 : Int32) + y0)), .val (.int s2), .val (.int (0 : Int32))] rfl ?_
  refine o_iload 36 X0 hx rfl (hb hby d2_34) rfl ?_
  refine o_aloadN 37 X0 hx rfl (hb hby d2_36) rfl rfl ?_
  refine o_alen 38 X0 hx rfl hZ e0 Ac (hb hby d2_37) ?_
  refine o_icmpNo 41 X0 hx rfl (hb hby d2_38) (tlt (show (0 : Int32) < (1 : Int32) by decide)).2.1 ?_
  refine o_iload 43 X0 hx rfl (hb hby d2_41) rfl ?_
  refine o_aloadN 44 X0 hx rfl (hb hby d2_43) rfl rfl ?_
  refine o_iload 46 X0 hx rfl (hb hby d2_44) rfl ?_
  refine o_ialoadX 47 X0 hx rfl hZ e0 Ac (by decide) (hb hby d2_46) y0 rfl ?_
  refine o_isub 48 X0 hx rfl (hb hby d2_47) ?_
  refine o_istore 50 X0 hx rfl (hb hby d2_48) #[.val (.ref r0), .val (.int (0 : Int32)), .val (.int s2), .val (.ref r3), .val (.int (((0 : Int32) + y0) - y0)), .val (.int s2), .val (.int (0 : Int32))] rfl ?_
  refine o_aloadN 51 X0 hx rfl (hb hby d2_50) rfl rfl ?_
  refine o_iload 53 X0 hx rfl (hb hby d2_51) rfl ?_
  refine o_iconst 54 X0 hx rfl (hb hby d2_53) (0 : Int32) rfl ?_
  refine o_iload 56 X0 hx rfl (hb hby d2_54) rfl ?_
  refine o_iload 58 X0 hx rfl (hb hby d2_56) rfl ?_
  refine o_isub 59 X0 hx rfl (hb hby d2_58) ?_
  refine o_callP (rv := (.int (fn3 (0 : Int32) (s2 - (((0 : Int32) + y0) - y0))))) 62 X0 hx rfl hZ hown (wd_10 hw) (wd_11 hw) (wd_12 hw) (wd_13 hw) (by decide) e0 (rm3 l Z a0 hw (0 : Int32) (s2 - (((0 : Int32) + y0) - y0)) h0) pd_lIIrI [(.int (0 : Int32)), (.int (s2 - (((0 : Int32) + y0) - y0)))] [(.int (0 : Int32)), (.ref r0)] rfl rfl (by rw [hml]; rfl) rfl (hb hby d2_59) 2 (Nat.le_of_eq rfl) (by decide) (by decide) (by decide) (by decide) rfl rfl fun T1 X1 e1 => ?_
  refine o_iastoreX 63 X1 hx rfl hZ e1 Av (by decide) (Nat.le_of_ble_eq_true rfl) [(fn3 (0 : Int32) (s2 - (((0 : Int32) + y0) - y0)))] rfl N0 ga (hb hby d2_62) fun T2 h2 L2 X2 N2 e2 W2 A2 => ?_
  have F3 : Arv Z h2 r3 kc .int (1 : Int32) ([y0].map Value.int) (.int 0) := Ac.other W2 hne
  have sz4 : n0 ≤ h2.size := Nat.le_trans Z0 (Keep.of_wr W2).1
  have K5 : Keep h0 h2 [r0] := K0.wr W2 (Or.inl (by simp))
  refine o_iload 65 X2 hx rfl (hb hby d2_63) rfl ?_
  refine o_aloadN 66 X2 hx rfl (hb hby d2_65) rfl rfl ?_
  refine o_iload 68 X2 hx rfl (hb hby d2_66) rfl ?_
  refine o_ialoadX 69 X2 hx rfl hZ e2 A2 (by decide) (hb hby d2_68) (fn3 (0 : Int32) (s2 - (((0 : Int32) + y0) - y0))) rfl ?_
  refine o_isub 70 X2 hx rfl (hb hby d2_69) ?_
  refine o_istore 72 X2 hx rfl (hb hby d2_70) #[.val (.ref r0), .val (.int (0 : Int32)), .val (.int s2), .val (.ref r3), .val (.int (((0 : Int32) + y0) - y0)), .val (.int (f2_70 s2 y0)), .val (.int (0 : Int32))] rfl ?_
  refine o_iinc 75 X2 hx rfl (hb hby d2_72) (1 : Int32) rfl rfl #[.val (.ref r0), .val (.int (0 : Int32)), .val (.int s2), .val (.ref r3), .val (.int (((0 : Int32) + y0) - y0)), .val (.int (f2_70 s2 y0)), .val (.int (1 : Int32))] rfl ?_
  refine o_goto 34 X2 hx (hb hby d2_75) (by decide) (by decide) ?_
  refine o_iload 36 X2 hx rfl (hb hby d2_34) rfl ?_
  refine o_aloadN 37 X2 hx rfl (hb hby d2_36) rfl rfl ?_
  refine o_alen 38 X2 hx rfl hZ e2 F3 (hb hby d2_37) ?_
  refine o_icmpYes 78 X2 hx (hb hby d2_38) (flt (show ¬ ((1 : Int32) < (1 : Int32)) by decide)).2.1 (by decide) (by decide) ?_
  refine o_retV X2 hx hret hlk (hb hby d2_78) (by decide) (by decide) ?_
  rw [e2]
  exact ⟨rfl, N2, K5, A2, F3⟩
set_option maxRecDepth 65536 in
set_option maxHeartbeats 40000000 in
theorem rm1n_1 (l : Launch) (Z : State) (a0 : Array Value) (hw : ∀ d ∈ tables_1, d.before a0 Z = true) (r1 : Addr) (kc : ClassId) (s2 y0 : Int32) (h0 : Heap) (Ac : Arv Z h0 r1 kc .int (1 : Int32) ([y0].map Value.int) (.int 0)) (hnull : s2 < (0 : Int32) ∨ ((0 : Int32) + y0) < s2) : MetP l (⟨"com/example/discernibility/discernibility/Lookahead", "firstVector", "(I[I)[I"⟩ : MethodName) prog_17_method_13_code 7 (some (.array .int)) [] ({ frames := 0, cells := 0, slots := 0, locals := 0 } : Room) Z #[(.int s2), (.ref r1)] h0 (Pure .null h0) := by
  refine met_go pn_1 ?_
  intro p e s m below meth c s₁ hx hby hml hown hnm hret hlk hZ e0 X0
  rw [ef_1 m s2 r1]
  refine o_iconst 1 X0 hx rfl (hb hby d1_0) (0 : Int32) rfl ?_
  refine o_istoreN 2 X0 hx rfl (hb hby d1_1) #[.val (.int s2), .val (.ref r1), .val (.int (0 : Int32)), .unset, .unset, .unset, .unset] rfl ?_
  refine o_aloadN 3 X0 hx rfl (hb hby d1_2) rfl rfl ?_
  refine o_astoreN 4 X0 hx rfl (hb hby d1_3) rfl #[.val (.int s2), .val (.ref r1), .val (.int (0 : Int32)), .val (.ref r1), .unset, .unset, .unset] rfl ?_
  refine o_aloadN 5 X0 hx rfl (hb hby d1_4) rfl rfl ?_
  refine o_alen 6 X0 hx rfl hZ e0 Ac (hb hby d1_5) ?_
  refine o_istore 8 X0 hx rfl (hb hby d1_6) #[.val (.int s2), .val (.ref r1), .val (.int (0 : Int32)), .val (.ref r1), .val (.int (1 : Int32)), .unset, .unset] rfl ?_
  refine o_iconst 9 X0 hx rfl (hb hby d1_8) (0 : Int32) rfl ?_
  refine o_istore 11 X0 hx rfl (hb hby d1_9) #[.val (.int s2), .val (.ref r1), .val (.int (0 : Int32)), .val (.ref r1), .val (.int (1 : Int32)), .val (.int (0 : Int32)), .unset] rfl ?_
  refine o_iload 13 X0 hx rfl (hb hby d1_11) rfl ?_
  refine o_iload 15 X0 hx rfl (hb hby d1_13) rfl ?_
  refine o_icmpNo 18 X0 hx rfl (hb hby d1_15) (tlt (show (0 : Int32) < (1 : Int32) by decide)).2.1 ?_
  refine o_aloadN 19 X0 hx rfl (hb hby d1_18) rfl rfl ?_
  refine o_iload 21 X0 hx rfl (hb hby d1_19) rfl ?_
  refine o_ialoadX 22 X0 hx rfl hZ e0 Ac (by decide) (hb hby d1_21) y0 rfl ?_
  refine o_istore 24 X0 hx rfl (hb hby d1_22) #[.val (.int s2), .val (.ref r1), .val (.int (0 : Int32)), .val (.ref r1), .val (.int (1 : Int32)), .val (.int (0 : Int32)), .val (.int y0)] rfl ?_
  refine o_iloadN 25 X0 hx rfl (hb hby d1_24) rfl ?_
  refine o_iload 27 X0 hx rfl (hb hby d1_25) rfl ?_
  refine o_iadd 28 X0 hx rfl (hb hby d1_27) ?_
  refine o_istoreN 29 X0 hx rfl (hb hby d1_28) #[.val (.int s2), .val (.ref r1), .val (.int ((0 : Int32) + y0)), .val (.ref r1), .val (.int (1 : Int32)), .val (.int (0 : Int32)), .val (.int y0)] rfl ?_
  refine o_iinc 32 X0 hx rfl (hb hby d1_29) (1 : Int32) rfl rfl #[.val (.int s2), .val (.ref r1), .val (.int ((0 : Int32) + y0)), .val (.ref r1), .val (.int (1 : Int32)), .val (.int (1 : Int32)), .val (.int y0)] rfl ?_
  refine o_goto 11 X0 hx (hb hby d1_32) (by decide) (by decide) ?_
  refine o_iload 13 X0 hx rfl (hb hby d1_11) rfl ?_
  refine o_iload 15 X0 hx rfl (hb hby d1_13) rfl ?_
  refine o_icmpYes 35 X0 hx (hb hby d1_15) (flt (show ¬ ((1 : Int32) < (1 : Int32)) by decide)).2.1 (by decide) (by decide) ?_
  refine o_iloadN 36 X0 hx rfl (hb hby d1_35) rfl ?_
  by_cases hneg : s2 < (0 : Int32)
  · refine o_ifYes 44 X0 hx (hb hby d1_36) (tlt hneg).1 (by decide) (by decide) ?_
    refine o_aconst_null 45 X0 hx rfl (hb hby d1_44) ?_
    refine o_retA X0 hx rfl rfl hret hlk (hb hby d1_45) (by decide) (by decide) ?_
    exact ⟨rfl, rfl, e0⟩
  · refine o_ifNo 39 X0 hx rfl (hb hby d1_36) (flt hneg).1 ?_
    refine o_iloadN 40 X0 hx rfl (hb hby d1_39) rfl ?_
    refine o_iloadN 41 X0 hx rfl (hb hby d1_40) rfl ?_
    refine o_icmpNo 44 X0 hx rfl (hb hby d1_41) (tlt (hnull.resolve_left hneg)).2.2.2 ?_
    refine o_aconst_null 45 X0 hx rfl (hb hby d1_44) ?_
    refine o_retA X0 hx rfl rfl hret hlk (hb hby d1_45) (by decide) (by decide) ?_
    exact ⟨rfl, rfl, e0⟩
set_option maxRecDepth 65536 in
set_option maxHeartbeats 40000000 in
theorem rm1v_1 (l : Launch) (Z : State) (a0 : Array Value) (hw : ∀ d ∈ tables_1, d.before a0 Z = true) (r1 : Addr) (kc : ClassId) (s2 y0 : Int32) (h0 : Heap) (n0 : Nat) (Z0 : n0 ≤ h0.size) (Ac : Arv Z h0 r1 kc .int (1 : Int32) ([y0].map Value.int) (.int 0)) (hneg : ¬ s2 < (0 : Int32)) (hbig : ¬ ((0 : Int32) + y0) < s2) : MetP l (⟨"com/example/discernibility/discernibility/Lookahead", "firstVector", "(I[I)[I"⟩ : MethodName) prog_17_method_13_code 7 (some (.array .int)) [] ({ frames := 2, cells := 1, slots := 1, locals := 33 } : Room) Z #[(.int s2), (.ref r1)] h0 (fun v h L => ∃ (a : Addr) (ka : ClassId), v = some (.ref a) ∧ Fr n0 L ∧ Keep h0 h [] ∧ n0 ≤ a ∧ h0.size ≤ a ∧ Arv Z h a ka .int (1 : Int32) ([(fn3 (0 : Int32) (s2 - (((0 : Int32) + y0) - y0)))].map Value.int) (.int 0) ∧ Arv Z h r1 kc .int (1 : Int32) ([y0].map Value.int) (.int 0)) := by
  refine met_go pn_1 ?_
  intro p e s m below meth c s₁ hx hby hml hown hnm hret hlk hZ e0 X0
  have N0 := Fr.nil n0
  have K0 : Keep h0 h0 [] := Keep.refl _ _
  rw [ef_1 m s2 r1]
  refine o_iconst 1 X0 hx rfl (hb hby d1_0) (0 : Int32) rfl ?_
  refine o_istoreN 2 X0 hx rfl (hb hby d1_1) #[.val (.int s2), .val (.ref r1), .val (.int (0 : Int32)), .unset, .unset, .unset, .unset] rfl ?_
  refine o_aloadN 3 X0 hx rfl (hb hby d1_2) rfl rfl ?_
  refine o_astoreN 4 X0 hx rfl (hb hby d1_3) rfl #[.val (.int s2), .val (.ref r1), .val (.int (0 : Int32)), .val (.ref r1), .unset, .unset, .unset] rfl ?_
  refine o_aloadN 5 X0 hx rfl (hb hby d1_4) rfl rfl ?_
  refine o_alen 6 X0 hx rfl hZ e0 Ac (hb hby d1_5) ?_
  refine o_istore 8 X0 hx rfl (hb hby d1_6) #[.val (.int s2), .val (.ref r1), .val (.int (0 : Int32)), .val (.ref r1), .val (.int (1 : Int32)), .unset, .unset] rfl ?_
  refine o_iconst 9 X0 hx rfl (hb hby d1_8) (0 : Int32) rfl ?_
  refine o_istore 11 X0 hx rfl (hb hby d1_9) #[.val (.int s2), .val (.ref r1), .val (.int (0 : Int32)), .val (.ref r1), .val (.int (1 : Int32)), .val (.int (0 : Int32)), .unset] rfl ?_
  refine o_iload 13 X0 hx rfl (hb hby d1_11) rfl ?_
  refine o_iload 15 X0 hx rfl (hb hby d1_13) rfl ?_
  refine o_icmpNo 18 X0 hx rfl (hb hby d1_15) (tlt (show (0 : Int32) < (1 : Int32) by decide)).2.1 ?_
  refine o_aloadN 19 X0 hx rfl (hb hby d1_18) rfl rfl ?_
  refine o_iload 21 X0 hx rfl (hb hby d1_19) rfl ?_
  refine o_ialoadX 22 X0 hx rfl hZ e0 Ac (by decide) (hb hby d1_21) y0 rfl ?_
  refine o_istore 24 X0 hx rfl (hb hby d1_22) #[.val (.int s2), .val (.ref r1), .val (.int (0 : Int32)), .val (.ref r1), .val (.int (1 : Int32)), .val (.int (0 : Int32)), .val (.int y0)] rfl ?_
  refine o_iloadN 25 X0 hx rfl (hb hby d1_24) rfl ?_
  refine o_iload 27 X0 hx rfl (hb hby d1_25) rfl ?_
  refine o_iadd 28 X0 hx rfl (hb hby d1_27) ?_
  refine o_istoreN 29 X0 hx rfl (hb hby d1_28) #[.val (.int s2), .val (.ref r1), .val (.int ((0 : Int32) + y0)), .val (.ref r1), .val (.int (1 : Int32)), .val (.int (0 : Int32)), .val (.int y0)] rfl ?_
  refine o_iinc 32 X0 hx rfl (hb hby d1_29) (1 : Int32) rfl rfl #[.val (.int s2), .val (.ref r1), .val (.int ((0 : Int32) + y0)), .val (.ref r1), .val (.int (1 : Int32)), .val (.int (1 : Int32)), .val (.int y0)] rfl ?_
  refine o_goto 11 X0 hx (hb hby d1_32) (by decide) (by decide) ?_
  refine o_iload 13 X0 hx rfl (hb hby d1_11) rfl ?_
  refine o_iload 15 X0 hx rfl (hb hby d1_13) rfl ?_
  refine o_icmpYes 35 X0 hx (hb hby d1_15) (flt (show ¬ ((1 : Int32) < (1 : Int32)) by decide)).2.1 (by decide) (by decide) ?_
  refine o_iloadN 36 X0 hx rfl (hb hby d1_35) rfl ?_
  refine o_ifNo 39 X0 hx rfl (hb hby d1_36) (flt hneg).1 ?_
  refine o_iloadN 40 X0 hx rfl (hb hby d1_39) rfl ?_
  refine o_iloadN 41 X0 hx rfl (hb hby d1_40) rfl ?_
  refine o_icmpYes 46 X0 hx (hb hby d1_41) (flt hbig).2.2.2 (by decide) (by decide) ?_
  refine o_aloadN 47 X0 hx rfl (hb hby d1_46) rfl rfl ?_
  refine o_alen 48 X0 hx rfl hZ e0 Ac (hb hby d1_47) ?_
  refine o_newarrI 50 X0 hx rfl hZ .int .int rfl rfl (wd_0 hw) e0 (hb hby d1_48) (by decide) 1 (by decide) (by decide) (by decide) (by decide) [(0 : Int32)] rfl fun T1 h1 a1 k1 g1 X1 e1 E1 A1 => ?_
  have gz2 : h0.size ≤ a1 := Nat.le_trans K0.1 (Nat.le_of_eq g1.symm)
  have ne3 : r1 ≠ a1 := Nat.ne_of_lt (Nat.lt_of_lt_of_eq Ac.lt g1.symm)
  have ge4 : n0 ≤ a1 := Nat.le_trans Z0 (Nat.le_of_eq g1.symm)
  have F5 : Arv Z h1 r1 kc .int (1 : Int32) ([y0].map Value.int) (.int 0) := Ac.ext E1
  have sz6 : n0 ≤ h1.size := Nat.le_trans Z0 E1.1
  have K7 : Keep h0 h1 [] := K0.ext E1
  refine o_astoreN 51 X1 hx rfl (hb hby d1_50) rfl #[.val (.int s2), .val (.ref r1), .val (.int ((0 : Int32) + y0)), .val (.ref a1), .val (.int (1 : Int32)), .val (.int (1 : Int32)), .val (.int y0)] rfl ?_
  refine o_aloadN 52 X1 hx rfl (hb hby d1_51) rfl rfl ?_
  refine o_iconst 53 X1 hx rfl (hb hby d1_52) (0 : Int32) rfl ?_
  refine o_iloadN 54 X1 hx rfl (hb hby d1_53) rfl ?_
  refine o_aloadN 55 X1 hx rfl (hb hby d1_54) rfl rfl ?_
  refine o_callSw 58 X1 hx rfl hZ hown (wd_6 hw) (wd_7 hw) (wd_4 hw) (wd_8 hw) (by decide) e1 N0 (rm2_1 l Z a0 hw a1 r1 k1 kc s2 y0 h1 n0 sz6 ge4 ne3 A1 F5) pd_laIIIaIrV [(.ref a1), (.int (0 : Int32)), (.int s2), (.ref r1)] [] rfl rfl (by rw [hml]; rfl) rfl (hb hby d1_55) 0 (Nat.le_of_eq rfl) (by decide) (by decide) (by decide) (by decide) fun v8 T8 L8 LL8 X8 Q8 NF8 => ?_
  obtain ⟨rfl, M8, K8, Av8, Ac8⟩ := Q8
  have NN8 := NF8 M8
  have K9 : Keep h0 T8.heap [] := K7.trans K8 (allS (P := fun x => x ∈ [] ∨ h0.size ≤ x) (Or.inr gz2) all0)
  have sz10 : n0 ≤ T8.heap.size := Nat.le_trans sz6 K8.1
  show Go p.tables e below (EndE s ({ frames := 2, cells := 1, slots := 1, locals := 33 } : Room) (fun v h L => ∃ (a : Addr) (ka : ClassId), v = some (.ref a) ∧ Fr n0 L ∧ Keep h0 h [] ∧ n0 ≤ a ∧ h0.size ≤ a ∧ Arv Z h a ka .int (1 : Int32) ([(fn3 (0 : Int32) (s2 - (((0 : Int32) + y0) - y0)))].map Value.int) (.int 0) ∧ Arv Z h r1 kc .int (1 : Int32) ([y0].map Value.int) (.int 0))) (T8.setTop (mkF m 58 #[.val (.int s2), .val (.ref r1), .val (.int ((0 : Int32) + y0)), .val (.ref a1), .val (.int (1 : Int32)), .val (.int (1 : Int32)), .val (.int y0)] []))
  refine o_aloadN 59 X8 hx rfl (hb hby d1_58) rfl rfl ?_
  refine o_retA X8 hx rfl rfl hret hlk (hb hby d1_59) (by decide) (by decide) ?_
  exact ⟨a1, k1, rfl, NN8, K9, ge4, gz2, Av8, Ac8⟩
def f2_48 (y0 : Int32) (y1 : Int32) : Int32 := ((((0 : Int32) + y0) + y1) - y0)
def f2_70' (s2 : Int32) (y0 : Int32) (y1 : Int32) : Int32 := (s2 - (fn3 (0 : Int32) (s2 - (f2_48 y0 y1))))
def f2_70'' (s2 : Int32) (y0 : Int32) (y1 : Int32) : Int32 := ((f2_70' s2 y0 y1) - (fn3 (0 : Int32) ((f2_70' s2 y0 y1) - ((f2_48 y0 y1) - y1))))
set_option maxRecDepth 65536 in
set_option maxHeartbeats 40000000 in
theorem rm2_2 (l : Launch) (Z : State) (a0 : Array Value) (hw : ∀ d ∈ tables_1, d.before a0 Z = true) (r0 r3 : Addr) (ka kc : ClassId) (s2 y0 y1 : Int32) (h0 : Heap) (n0 : Nat) (Z0 : n0 ≤ h0.size) (ga : n0 ≤ r0) (hne : r3 ≠ r0) (Av : Arv Z h0 r0 ka .int (2 : Int32) ([(0 : Int32), (0 : Int32)].map Value.int) (.int 0)) (Ac : Arv Z h0 r3 kc .int (2 : Int32) ([y0, y1].map Value.int) (.int 0)) : MetP l (⟨"com/example/discernibility/discernibility/Lookahead", "fill", "([III[I)V"⟩ : MethodName) prog_17_method_15_code 7 none [] ({ frames := 1, cells := 0, slots := 0, locals := 15 } : Room) Z #[(.ref r0), (.int (0 : Int32)), (.int s2), (.ref r3)] h0 (fun v h L => v = none ∧ Fr n0 L ∧ Keep h0 h [r0] ∧ Arv Z h r0 ka .int (2 : Int32) ([(fn3 (0 : Int32) (s2 - (f2_48 y0 y1))), (fn3 (0 : Int32) ((f2_70' s2 y0 y1) - ((f2_48 y0 y1) - y1)))].map Value.int) (.int 0) ∧ Arv Z h r3 kc .int (2 : Int32) ([y0, y1].map Value.int) (.int 0)) := by
  refine met_go pn_2 ?_
  intro p e s m below meth c s₁ hx hby hml hown hnm hret hlk hZ e0 X0
  have N0 := Fr.nil n0
  have K0 : Keep h0 h0 [r0] := Keep.refl _ _
  rw [ef_2 m r0 (0 : Int32) s2 r3]
  refine o_iconst 1 X0 hx rfl (hb hby d2_0) (0 : Int32) rfl ?_
  refine o_istore 3 X0 hx rfl (hb hby d2_1) #[.val (.ref r0), .val (.int (0 : Int32)), .val (.int s2), .val (.ref r3), .val (.int (0 : Int32)), .unset, .unset] rfl ?_
  refine o_iloadN 4 X0 hx rfl (hb hby d2_3) rfl ?_
  refine o_istore 6 X0 hx rfl (hb hby d2_4) #[.val (.ref r0), .val (.int (0 : Int32)), .val (.int s2), .val (.ref r3), .val (.int (0 : Int32)), .val (.int (0 : Int32)), .unset] rfl ?_
  refine o_iload 8 X0 hx rfl (hb hby d2_6) rfl ?_
  refine o_aloadN 9 X0 hx rfl (hb hby d2_8) rfl rfl ?_
  refine o_alen 10 X0 hx rfl hZ e0 Ac (hb hby d2_9) ?_
  refine o_icmpNo 13 X0 hx rfl (hb hby d2_10) (tlt (show (0 : Int32) < (2 : Int32) by decide)).2.1 ?_
  refine o_iload 15 X0 hx rfl (hb hby d2_13) rfl ?_
  refine o_aloadN 16 X0 hx rfl (hb hby d2_15) rfl rfl ?_
  refine o_iload 18 X0 hx rfl (hb hby d2_16) rfl ?_
  refine o_ialoadX 19 X0 hx rfl hZ e0 Ac (by decide) (hb hby d2_18) y0 rfl ?_
  refine o_iadd 20 X0 hx rfl (hb hby d2_19) ?_
  refine o_istore 22 X0 hx rfl (hb hby d2_20) #[.val (.ref r0), .val (.int (0 : Int32)), .val (.int s2), .val (.ref r3), .val (.int ((0 : Int32) + y0)), .val (.int (0 : Int32)), .unset] rfl ?_
  refine o_iinc 25 X0 hx rfl (hb hby d2_22) (1 : Int32) rfl rfl #[.val (.ref r0), .val (.int (0 : Int32)), .val (.int s2), .val (.ref r3), .val (.int ((0 : Int32) + y0)), .val (.int (1 : Int32)), .unset] rfl ?_
  refine o_goto 6 X0 hx (hb hby d2_25) (by decide) (by decide) ?_
  refine o_iload 8 X0 hx rfl (hb hby d2_6) rfl ?_
  refine o_aloadN 9 X0 hx rfl (hb hby d2_8) rfl rfl ?_
  refine o_alen 10 X0 hx rfl hZ e0 Ac (hb hby d2_9) ?_
  refine o_icmpNo 13 X0 hx rfl (hb hby d2_10) (tlt (show (1 : Int32) < (2 : Int32) by decide)).2.1 ?_
  refine o_iload 15 X0 hx rfl (hb hby d2_13) rfl ?_
  refine o_aloadN 16 X0 hx rfl (hb hby d2_15) rfl rfl ?_
  refine o_iload 18 X0 hx rfl (hb hby d2_16) rfl ?_
  refine o_ialoadX 19 X0 hx rfl hZ e0 Ac (by decide) (hb hby d2_18) y1 rfl ?_
  refine o_iadd 20 X0 hx rfl (hb hby d2_19) ?_
  refine o_istore 22 X0 hx rfl (hb hby d2_20) #[.val (.ref r0), .val (.int (0 : Int32)), .val (.int s2), .val (.ref r3), .val (.int (((0 : Int32) + y0) + y1)), .val (.int (1 : Int32)), .unset] rfl ?_
  refine o_iinc 25 X0 hx rfl (hb hby d2_22) (1 : Int32) rfl rfl #[.val (.ref r0), .val (.int (0 : Int32)), .val (.int s2), .val (.ref r3), .val (.int (((0 : Int32) + y0) + y1)), .val (.int (2 : Int32)), .unset] rfl ?_
  refine o_goto 6 X0 hx (hb hby d2_25) (by decide) (by decide) ?_
  refine o_iload 8 X0 hx rfl (hb hby d2_6) rfl ?_
  refine o_aloadN 9 X0 hx rfl (hb hby d2_8) rfl rfl ?_
  refine o_alen 10 X0 hx rfl hZ e0 Ac (hb hby d2_9) ?_
  refine o_icmpYes 28 X0 hx (hb hby d2_10) (flt (show ¬ ((2 : Int32) < (2 : Int32)) by decide)).2.1 (by decide) (by decide) ?_
  refine o_iloadN 29 X0 hx rfl (hb hby d2_28) rfl ?_
  refine o_istore 31 X0 hx rfl (hb hby d2_29) #[.val (.ref r0), .val (.int (0 : Int32)), .val (.int s2), .val (.ref r3), .val (.int (((0 : Int32) + y0) + y1)), .val (.int s2), .unset] rfl ?_
  refine o_iloadN 32 X0 hx rfl (hb hby d2_31) rfl ?_
  refine o_istore 34 X0 hx rfl (hb hby d2_32) #[.val (.ref r0), .val (.int (0 : Int32)), .val (.int s2), .val (.ref r3), .val (.int (((0 : Int32) + y0) + y1)), .val (.int s2), .val (.int (0 : Int32))] rfl ?_
  refine o_iload 36 X0 hx rfl (hb hby d2_34) rfl ?_
  refine o_aloadN 37 X0 hx rfl (hb hby d2_36) rfl rfl ?_
  refine o_alen 38 X0 hx rfl hZ e0 Ac (hb hby d2_37) ?_
  refine o_icmpNo 41 X0 hx rfl (hb hby d2_38) (tlt (show (0 : Int32) < (2 : Int32) by decide)).2.1 ?_
  refine o_iload 43 X0 hx rfl (hb hby d2_41) rfl ?_
  refine o_aloadN 44 X0 hx rfl (hb hby d2_43) rfl rfl ?_
  refine o_iload 46 X0 hx rfl (hb hby d2_44) rfl ?_
  refine o_ialoadX 47 X0 hx rfl hZ e0 Ac (by decide) (hb hby d2_46) y0 rfl ?_
  refine o_isub 48 X0 hx rfl (hb hby d2_47) ?_
  refine o_istore 50 X0 hx rfl (hb hby d2_48) #[.val (.ref r0), .val (.int (0 : Int32)), .val (.int s2), .val (.ref r3), .val (.int (f2_48 y0 y1)), .val (.int s2), .val (.int (0 : Int32))] rfl ?_
  refine o_aloadN 51 X0 hx rfl (hb hby d2_50) rfl rfl ?_
  refine o_iload 53 X0 hx rfl (hb hby d2_51) rfl ?_
  refine o_iconst 54 X0 hx rfl (hb hby d2_53) (0 : Int32) rfl ?_
  refine o_iload 56 X0 hx rfl (hb hby d2_54) rfl ?_
  refine o_iload 58 X0 hx rfl (hb hby d2_56) rfl ?_
  refine o_isub 59 X0 hx rfl (hb hby d2_58) ?_
  refine o_callP (rv := (.int (fn3 (0 : Int32) (s2 - (f2_48 y0 y1))))) 62 X0 hx rfl hZ hown (wd_10 hw) (wd_11 hw) (wd_12 hw) (wd_13 hw) (by decide) e0 (rm3 l Z a0 hw (0 : Int32) (s2 - (f2_48 y0 y1)) h0) pd_lIIrI [(.int (0 : Int32)), (.int (s2 - (f2_48 y0 y1)))] [(.int (0 : Int32)), (.ref r0)] rfl rfl (by rw [hml]; rfl) rfl (hb hby d2_59) 2 (Nat.le_of_eq rfl) (by decide) (by decide) (by decide) (by decide) rfl rfl fun T1 X1 e1 => ?_
  refine o_iastoreX 63 X1 hx rfl hZ e1 Av (by decide) (Nat.le_of_ble_eq_true rfl) [(fn3 (0 : Int32) (s2 - (f2_48 y0 y1))), (0 : Int32)] rfl N0 ga (hb hby d2_62) fun T2 h2 L2 X2 N2 e2 W2 A2 => ?_
  have F3 : Arv Z h2 r3 kc .int (2 : Int32) ([y0, y1].map Value.int) (.int 0) := Ac.other W2 hne
  have sz4 : n0 ≤ h2.size := Nat.le_trans Z0 (Keep.of_wr W2).1
  have K5 : Keep h0 h2 [r0] := K0.wr W2 (Or.inl (by simp))
  refine o_iload 65 X2 hx rfl (hb hby d2_63) rfl ?_
  refine o_aloadN 66 X2 hx rfl (hb hby d2_65) rfl rfl ?_
  refine o_iload 68 X2 hx rfl (hb hby d2_66) rfl ?_
  refine o_ialoadX 69 X2 hx rfl hZ e2 A2 (by decide) (hb hby d2_68) (fn3 (0 : Int32) (s2 - (f2_48 y0 y1))) rfl ?_
  refine o_isub 70 X2 hx rfl (hb hby d2_69) ?_
  refine o_istore 72 X2 hx rfl (hb hby d2_70) #[.val (.ref r0), .val (.int (0 : Int32)), .val (.int s2), .val (.ref r3), .val (.int (f2_48 y0 y1)), .val (.int (f2_70' s2 y0 y1)), .val (.int (0 : Int32))] rfl ?_
  refine o_iinc 75 X2 hx rfl (hb hby d2_72) (1 : Int32) rfl rfl #[.val (.ref r0), .val (.int (0 : Int32)), .val (.int s2), .val (.ref r3), .val (.int (f2_48 y0 y1)), .val (.int (f2_70' s2 y0 y1)), .val (.int (1 : Int32))] rfl ?_
  refine o_goto 34 X2 hx (hb hby d2_75) (by decide) (by decide) ?_
  refine o_iload 36 X2 hx rfl (hb hby d2_34) rfl ?_
  refine o_aloadN 37 X2 hx rfl (hb hby d2_36) rfl rfl ?_
  refine o_alen 38 X2 hx rfl hZ e2 F3 (hb hby d2_37) ?_
  refine o_icmpNo 41 X2 hx rfl (hb hby d2_38) (tlt (show (1 : Int32) < (2 : Int32) by decide)).2.1 ?_
  refine o_iload 43 X2 hx rfl (hb hby d2_41) rfl ?_
  refine o_aloadN 44 X2 hx rfl (hb hby d2_43) rfl rfl ?_
  refine o_iload 46 X2 hx rfl (hb hby d2_44) rfl ?_
  refine o_ialoadX 47 X2 hx rfl hZ e2 F3 (by decide) (hb hby d2_46) y1 rfl ?_
  refine o_isub 48 X2 hx rfl (hb hby d2_47) ?_
  refine o_istore 50 X2 hx rfl (hb hby d2_48) #[.val (.ref r0), .val (.int (0 : Int32)), .val (.int s2), .val (.ref r3), .val (.int ((f2_48 y0 y1) - y1)), .val (.int (f2_70' s2 y0 y1)), .val (.int (1 : Int32))] rfl ?_
  refine o_aloadN 51 X2 hx rfl (hb hby d2_50) rfl rfl ?_
  refine o_iload 53 X2 hx rfl (hb hby d2_51) rfl ?_
  refine o_iconst 54 X2 hx rfl (hb hby d2_53) (0 : Int32) rfl ?_
  refine o_iload 56 X2 hx rfl (hb hby d2_54) rfl ?_
  refine o_iload 58 X2 hx rfl (hb hby d2_56) rfl ?_
  refine o_isub 59 X2 hx rfl (hb hby d2_58) ?_
  refine o_callP (rv := (.int (fn3 (0 : Int32) ((f2_70' s2 y0 y1) - ((f2_48 y0 y1) - y1))))) 62 X2 hx rfl hZ hown (wd_10 hw) (wd_11 hw) (wd_12 hw) (wd_13 hw) (by decide) e2 (rm3 l Z a0 hw (0 : Int32) ((f2_70' s2 y0 y1) - ((f2_48 y0 y1) - y1)) h2) pd_lIIrI [(.int (0 : Int32)), (.int ((f2_70' s2 y0 y1) - ((f2_48 y0 y1) - y1)))] [(.int (1 : Int32)), (.ref r0)] rfl rfl (by rw [hml]; rfl) rfl (hb hby d2_59) 2 (Nat.le_of_eq rfl) (by decide) (by decide) (by decide) (by decide) rfl rfl fun T6 X6 e6 => ?_
  refine o_iastoreX 63 X6 hx rfl hZ e6 A2 (by decide) (Nat.le_of_ble_eq_true rfl) [(fn3 (0 : Int32) (s2 - (f2_48 y0 y1))), (fn3 (0 : Int32) ((f2_70' s2 y0 y1) - ((f2_48 y0 y1) - y1)))] rfl N2 ga (hb hby d2_62) fun T7 h7 L7 X7 N7 e7 W7 A7 => ?_
  have F8 : Arv Z h7 r3 kc .int (2 : Int32) ([y0, y1].map Value.int) (.int 0) := F3.other W7 hne
  have sz9 : n0 ≤ h7.size := Nat.le_trans sz4 (Keep.of_wr W7).1
  have K10 : Keep h0 h7 [r0] := K5.wr W7 (Or.inl (by simp))
  refine o_iload 65 X7 hx rfl (hb hby d2_63) rfl ?_
  refine o_aloadN 66 X7 hx rfl (hb hby d2_65) rfl rfl ?_
  refine o_iload 68 X7 hx rfl (hb hby d2_66) rfl ?_
  refine o_ialoadX 69 X7 hx rfl hZ e7 A7 (by decide) (hb hby d2_68) (fn3 (0 : Int32) ((f2_70' s2 y0 y1) - ((f2_48 y0 y1) - y1))) rfl ?_
  refine o_isub 70 X7 hx rfl (hb hby d2_69) ?_
  refine o_istore 72 X7 hx rfl (hb hby d2_70) #[.val (.ref r0), .val (.int (0 : Int32)), .val (.int s2), .val (.ref r3), .val (.int ((f2_48 y0 y1) - y1)), .val (.int (f2_70'' s2 y0 y1)), .val (.int (1 : Int32))] rfl ?_
  refine o_iinc 75 X7 hx rfl (hb hby d2_72) (1 : Int32) rfl rfl #[.val (.ref r0), .val (.int (0 : Int32)), .val (.int s2), .val (.ref r3), .val (.int ((f2_48 y0 y1) - y1)), .val (.int (f2_70'' s2 y0 y1)), .val (.int (2 : Int32))] rfl ?_
  refine o_goto 34 X7 hx (hb hby d2_75) (by decide) (by decide) ?_
  refine o_iload 36 X7 hx rfl (hb hby d2_34) rfl ?_
  refine o_aloadN 37 X7 hx rfl (hb hby d2_36) rfl rfl ?_
  refine o_alen 38 X7 hx rfl hZ e7 F8 (hb hby d2_37) ?_
  refine o_icmpYes 78 X7 hx (hb hby d2_38) (flt (show ¬ ((2 : Int32) < (2 : Int32)) by decide)).2.1 (by decide) (by decide) ?_
  refine o_retV X7 hx hret hlk (hb hby d2_78) (by decide) (by decide) ?_
  rw [e7]
  exact ⟨rfl, N7, K10, A7, F8⟩
set_option maxRecDepth 65536 in
set_option maxHeartbeats 40000000 in
theorem rm1n_2 (l : Launch) (Z : State) (a0 : Array Value) (hw : ∀ d ∈ tables_1, d.before a0 Z = true) (r1 : Addr) (kc : ClassId) (s2 y0 y1 : Int32) (h0 : Heap) (Ac : Arv Z h0 r1 kc .int (2 : Int32) ([y0, y1].map Value.int) (.int 0)) (hnull : s2 < (0 : Int32) ∨ (((0 : Int32) + y0) + y1) < s2) : MetP l (⟨"com/example/discernibility/discernibility/Lookahead", "firstVector", "(I[I)[I"⟩ : MethodName) prog_17_method_13_code 7 (some (.array .int)) [] ({ frames := 0, cells := 0, slots := 0, locals := 0 } : Room) Z #[(.int s2), (.ref r1)] h0 (Pure .null h0) := by
  refine met_go pn_1 ?_
  intro p e s m below meth c s₁ hx hby hml hown hnm hret hlk hZ e0 X0
  rw [ef_1 m s2 r1]
  refine o_iconst 1 X0 hx rfl (hb hby d1_0) (0 : Int32) rfl ?_
  refine o_istoreN 2 X0 hx rfl (hb hby d1_1) #[.val (.int s2), .val (.ref r1), .val (.int (0 : Int32)), .unset, .unset, .unset, .unset] rfl ?_
  refine o_aloadN 3 X0 hx rfl (hb hby d1_2) rfl rfl ?_
  refine o_astoreN 4 X0 hx rfl (hb hby d1_3) rfl #[.val (.int s2), .val (.ref r1), .val (.int (0 : Int32)), .val (.ref r1), .unset, .unset, .unset] rfl ?_
  refine o_aloadN 5 X0 hx rfl (hb hby d1_4) rfl rfl ?_
  refine o_alen 6 X0 hx rfl hZ e0 Ac (hb hby d1_5) ?_
  refine o_istore 8 X0 hx rfl (hb hby d1_6) #[.val (.int s2), .val (.ref r1), .val (.int (0 : Int32)), .val (.ref r1), .val (.int (2 : Int32)), .unset, .unset] rfl ?_
  refine o_iconst 9 X0 hx rfl (hb hby d1_8) (0 : Int32) rfl ?_
  refine o_istore 11 X0 hx rfl (hb hby d1_9) #[.val (.int s2), .val (.ref r1), .val (.int (0 : Int32)), .val (.ref r1), .val (.int (2 : Int32)), .val (.int (0 : Int32)), .unset] rfl ?_
  refine o_iload 13 X0 hx rfl (hb hby d1_11) rfl ?_
  refine o_iload 15 X0 hx rfl (hb hby d1_13) rfl ?_
  refine o_icmpNo 18 X0 hx rfl (hb hby d1_15) (tlt (show (0 : Int32) < (2 : Int32) by decide)).2.1 ?_
  refine o_aloadN 19 X0 hx rfl (hb hby d1_18) rfl rfl ?_
  refine o_iload 21 X0 hx rfl (hb hby d1_19) rfl ?_
  refine o_ialoadX 22 X0 hx rfl hZ e0 Ac (by decide) (hb hby d1_21) y0 rfl ?_
  refine o_istore 24 X0 hx rfl (hb hby d1_22) #[.val (.int s2), .val (.ref r1), .val (.int (0 : Int32)), .val (.ref r1), .val (.int (2 : Int32)), .val (.int (0 : Int32)), .val (.int y0)] rfl ?_
  refine o_iloadN 25 X0 hx rfl (hb hby d1_24) rfl ?_
  refine o_iload 27 X0 hx rfl (hb hby d1_25) rfl ?_
  refine o_iadd 28 X0 hx rfl (hb hby d1_27) ?_
  refine o_istoreN 29 X0 hx rfl (hb hby d1_28) #[.val (.int s2), .val (.ref r1), .val (.int ((0 : Int32) + y0)), .val (.ref r1), .val (.int (2 : Int32)), .val (.int (0 : Int32)), .val (.int y0)] rfl ?_
  refine o_iinc 32 X0 hx rfl (hb hby d1_29) (1 : Int32) rfl rfl #[.val (.int s2), .val (.ref r1), .val (.int ((0 : Int32) + y0)), .val (.ref r1), .val (.int (2 : Int32)), .val (.int (1 : Int32)), .val (.int y0)] rfl ?_
  refine o_goto 11 X0 hx (hb hby d1_32) (by decide) (by decide) ?_
  refine o_iload 13 X0 hx rfl (hb hby d1_11) rfl ?_
  refine o_iload 15 X0 hx rfl (hb hby d1_13) rfl ?_
  refine o_icmpNo 18 X0 hx rfl (hb hby d1_15) (tlt (show (1 : Int32) < (2 : Int32) by decide)).2.1 ?_
  refine o_aloadN 19 X0 hx rfl (hb hby d1_18) rfl rfl ?_
  refine o_iload 21 X0 hx rfl (hb hby d1_19) rfl ?_
  refine o_ialoadX 22 X0 hx rfl hZ e0 Ac (by decide) (hb hby d1_21) y1 rfl ?_
  refine o_istore 24 X0 hx rfl (hb hby d1_22) #[.val (.int s2), .val (.ref r1), .val (.int ((0 : Int32) + y0)), .val (.ref r1), .val (.int (2 : Int32)), .val (.int (1 : Int32)), .val (.int y1)] rfl ?_
  refine o_iloadN 25 X0 hx rfl (hb hby d1_24) rfl ?_
  refine o_iload 27 X0 hx rfl (hb hby d1_25) rfl ?_
  refine o_iadd 28 X0 hx rfl (hb hby d1_27) ?_
  refine o_istoreN 29 X0 hx rfl (hb hby d1_28) #[.val (.int s2), .val (.ref r1), .val (.int (((0 : Int32) + y0) + y1)), .val (.ref r1), .val (.int (2 : Int32)), .val (.int (1 : Int32)), .val (.int y1)] rfl ?_
  refine o_iinc 32 X0 hx rfl (hb hby d1_29) (1 : Int32) rfl rfl #[.val (.int s2), .val (.ref r1), .val (.int (((0 : Int32) + y0) + y1)), .val (.ref r1), .val (.int (2 : Int32)), .val (.int (2 : Int32)), .val (.int y1)] rfl ?_
  refine o_goto 11 X0 hx (hb hby d1_32) (by decide) (by decide) ?_
  refine o_iload 13 X0 hx rfl (hb hby d1_11) rfl ?_
  refine o_iload 15 X0 hx rfl (hb hby d1_13) rfl ?_
  refine o_icmpYes 35 X0 hx (hb hby d1_15) (flt (show ¬ ((2 : Int32) < (2 : Int32)) by decide)).2.1 (by decide) (by decide) ?_
  refine o_iloadN 36 X0 hx rfl (hb hby d1_35) rfl ?_
  by_cases hneg : s2 < (0 : Int32)
  · refine o_ifYes 44 X0 hx (hb hby d1_36) (tlt hneg).1 (by decide) (by decide) ?_
    refine o_aconst_null 45 X0 hx rfl (hb hby d1_44) ?_
    refine o_retA X0 hx rfl rfl hret hlk (hb hby d1_45) (by decide) (by decide) ?_
    exact ⟨rfl, rfl, e0⟩
  · refine o_ifNo 39 X0 hx rfl (hb hby d1_36) (flt hneg).1 ?_
    refine o_iloadN 40 X0 hx rfl (hb hby d1_39) rfl ?_
    refine o_iloadN 41 X0 hx rfl (hb hby d1_40) rfl ?_
    refine o_icmpNo 44 X0 hx rfl (hb hby d1_41) (tlt (hnull.resolve_left hneg)).2.2.2 ?_
    refine o_aconst_null 45 X0 hx rfl (hb hby d1_44) ?_
    refine o_retA X0 hx rfl rfl hret hlk (hb hby d1_45) (by decide) (by decide) ?_
    exact ⟨rfl, rfl, e0⟩
set_option maxRecDepth 65536 in
set_option maxHeartbeats 40000000 in
theorem rm1v_2 (l : Launch) (Z : State) (a0 : Array Value) (hw : ∀ d ∈ tables_1, d.before a0 Z = true) (r1 : Addr) (kc : ClassId) (s2 y0 y1 : Int32) (h0 : Heap) (n0 : Nat) (Z0 : n0 ≤ h0.size) (Ac : Arv Z h0 r1 kc .int (2 : Int32) ([y0, y1].map Value.int) (.int 0)) (hneg : ¬ s2 < (0 : Int32)) (hbig : ¬ (((0 : Int32) + y0) + y1) < s2) : MetP l (⟨"com/example/discernibility/discernibility/Lookahead", "firstVector", "(I[I)[I"⟩ : MethodName) prog_17_method_13_code 7 (some (.array .int)) [] ({ frames := 2, cells := 1, slots := 2, locals := 33 } : Room) Z #[(.int s2), (.ref r1)] h0 (fun v h L => ∃ (a : Addr) (ka : ClassId), v = some (.ref a) ∧ Fr n0 L ∧ Keep h0 h [] ∧ n0 ≤ a ∧ h0.size ≤ a ∧ Arv Z h a ka .int (2 : Int32) ([(fn3 (0 : Int32) (s2 - (f2_48 y0 y1))), (fn3 (0 : Int32) ((f2_70' s2 y0 y1) - ((f2_48 y0 y1) - y1)))].map Value.int) (.int 0) ∧ Arv Z h r1 kc .int (2 : Int32) ([y0, y1].map Value.int) (.int 0)) := by
  refine met_go pn_1 ?_
  intro p e s m below meth c s₁ hx hby hml hown hnm hret hlk hZ e0 X0
  have N0 := Fr.nil n0
  have K0 : Keep h0 h0 [] := Keep.refl _ _
  rw [ef_1 m s2 r1]
  refine o_iconst 1 X0 hx rfl (hb hby d1_0) (0 : Int32) rfl ?_
  refine o_istoreN 2 X0 hx rfl (hb hby d1_1) #[.val (.int s2), .val (.ref r1), .val (.int (0 : Int32)), .unset, .unset, .unset, .unset] rfl ?_
  refine o_aloadN 3 X0 hx rfl (hb hby d1_2) rfl rfl ?_
  refine o_astoreN 4 X0 hx rfl (hb hby d1_3) rfl #[.val (.int s2), .val (.ref r1), .val (.int (0 : Int32)), .val (.ref r1), .unset, .unset, .unset] rfl ?_
  refine o_aloadN 5 X0 hx rfl (hb hby d1_4) rfl rfl ?_
  refine o_alen 6 X0 hx rfl hZ e0 Ac (hb hby d1_5) ?_
  refine o_istore 8 X0 hx rfl (hb hby d1_6) #[.val (.int s2), .val (.ref r1), .val (.int (0 : Int32)), .val (.ref r1), .val (.int (2 : Int32)), .unset, .unset] rfl ?_
  refine o_iconst 9 X0 hx rfl (hb hby d1_8) (0 : Int32) rfl ?_
  refine o_istore 11 X0 hx rfl (hb hby d1_9) #[.val (.int s2), .val (.ref r1), .val (.int (0 : Int32)), .val (.ref r1), .val (.int (2 : Int32)), .val (.int (0 : Int32)), .unset] rfl ?_
  refine o_iload 13 X0 hx rfl (hb hby d1_11) rfl ?_
  refine o_iload 15 X0 hx rfl (hb hby d1_13) rfl ?_
  refine o_icmpNo 18 X0 hx rfl (hb hby d1_15) (tlt (show (0 : Int32) < (2 : Int32) by decide)).2.1 ?_
  refine o_aloadN 19 X0 hx rfl (hb hby d1_18) rfl rfl ?_
  refine o_iload 21 X0 hx rfl (hb hby d1_19) rfl ?_
  refine o_ialoadX 22 X0 hx rfl hZ e0 Ac (by decide) (hb hby d1_21) y0 rfl ?_
  refine o_istore 24 X0 hx rfl (hb hby d1_22) #[.val (.int s2), .val (.ref r1), .val (.int (0 : Int32)), .val (.ref r1), .val (.int (2 : Int32)), .val (.int (0 : Int32)), .val (.int y0)] rfl ?_
  refine o_iloadN 25 X0 hx rfl (hb hby d1_24) rfl ?_
  refine o_iload 27 X0 hx rfl (hb hby d1_25) rfl ?_
  refine o_iadd 28 X0 hx rfl (hb hby d1_27) ?_
  refine o_istoreN 29 X0 hx rfl (hb hby d1_28) #[.val (.int s2), .val (.ref r1), .val (.int ((0 : Int32) + y0)), .val (.ref r1), .val (.int (2 : Int32)), .val (.int (0 : Int32)), .val (.int y0)] rfl ?_
  refine o_iinc 32 X0 hx rfl (hb hby d1_29) (1 : Int32) rfl rfl #[.val (.int s2), .val (.ref r1), .val (.int ((0 : Int32) + y0)), .val (.ref r1), .val (.int (2 : Int32)), .val (.int (1 : Int32)), .val (.int y0)] rfl ?_
  refine o_goto 11 X0 hx (hb hby d1_32) (by decide) (by decide) ?_
  refine o_iload 13 X0 hx rfl (hb hby d1_11) rfl ?_
  refine o_iload 15 X0 hx rfl (hb hby d1_13) rfl ?_
  refine o_icmpNo 18 X0 hx rfl (hb hby d1_15) (tlt (show (1 : Int32) < (2 : Int32) by decide)).2.1 ?_
  refine o_aloadN 19 X0 hx rfl (hb hby d1_18) rfl rfl ?_
  refine o_iload 21 X0 hx rfl (hb hby d1_19) rfl ?_
  refine o_ialoadX 22 X0 hx rfl hZ e0 Ac (by decide) (hb hby d1_21) y1 rfl ?_
  refine o_istore 24 X0 hx rfl (hb hby d1_22) #[.val (.int s2), .val (.ref r1), .val (.int ((0 : Int32) + y0)), .val (.ref r1), .val (.int (2 : Int32)), .val (.int (1 : Int32)), .val (.int y1)] rfl ?_
  refine o_iloadN 25 X0 hx rfl (hb hby d1_24) rfl ?_
  refine o_iload 27 X0 hx rfl (hb hby d1_25) rfl ?_
  refine o_iadd 28 X0 hx rfl (hb hby d1_27) ?_
  refine o_istoreN 29 X0 hx rfl (hb hby d1_28) #[.val (.int s2), .val (.ref r1), .val (.int (((0 : Int32) + y0) + y1)), .val (.ref r1), .val (.int (2 : Int32)), .val (.int (1 : Int32)), .val (.int y1)] rfl ?_
  refine o_iinc 32 X0 hx rfl (hb hby d1_29) (1 : Int32) rfl rfl #[.val (.int s2), .val (.ref r1), .val (.int (((0 : Int32) + y0) + y1)), .val (.ref r1), .val (.int (2 : Int32)), .val (.int (2 : Int32)), .val (.int y1)] rfl ?_
  refine o_goto 11 X0 hx (hb hby d1_32) (by decide) (by decide) ?_
  refine o_iload 13 X0 hx rfl (hb hby d1_11) rfl ?_
  refine o_iload 15 X0 hx rfl (hb hby d1_13) rfl ?_
  refine o_icmpYes 35 X0 hx (hb hby d1_15) (flt (show ¬ ((2 : Int32) < (2 : Int32)) by decide)).2.1 (by decide) (by decide) ?_
  refine o_iloadN 36 X0 hx rfl (hb hby d1_35) rfl ?_
  refine o_ifNo 39 X0 hx rfl (hb hby d1_36) (flt hneg).1 ?_
  refine o_iloadN 40 X0 hx rfl (hb hby d1_39) rfl ?_
  refine o_iloadN 41 X0 hx rfl (hb hby d1_40) rfl ?_
  refine o_icmpYes 46 X0 hx (hb hby d1_41) (flt hbig).2.2.2 (by decide) (by decide) ?_
  refine o_aloadN 47 X0 hx rfl (hb hby d1_46) rfl rfl ?_
  refine o_alen 48 X0 hx rfl hZ e0 Ac (hb hby d1_47) ?_
  refine o_newarrI 50 X0 hx rfl hZ .int .int rfl rfl (wd_0 hw) e0 (hb hby d1_48) (by decide) 2 (by decide) (by decide) (by decide) (by decide) [(0 : Int32), (0 : Int32)] rfl fun T1 h1 a1 k1 g1 X1 e1 E1 A1 => ?_
  have gz2 : h0.size ≤ a1 := Nat.le_trans K0.1 (Nat.le_of_eq g1.symm)
  have ne3 : r1 ≠ a1 := Nat.ne_of_lt (Nat.lt_of_lt_of_eq Ac.lt g1.symm)
  have ge4 : n0 ≤ a1 := Nat.le_trans Z0 (Nat.le_of_eq g1.symm)
  have F5 : Arv Z h1 r1 kc .int (2 : Int32) ([y0, y1].map Value.int) (.int 0) := Ac.ext E1
  have sz6 : n0 ≤ h1.size := Nat.le_trans Z0 E1.1
  have K7 : Keep h0 h1 [] := K0.ext E1
  refine o_astoreN 51 X1 hx rfl (hb hby d1_50) rfl #[.val (.int s2), .val (.ref r1), .val (.int (((0 : Int32) + y0) + y1)), .val (.ref a1), .val (.int (2 : Int32)), .val (.int (2 : Int32)), .val (.int y1)] rfl ?_
  refine o_aloadN 52 X1 hx rfl (hb hby d1_51) rfl rfl ?_
  refine o_iconst 53 X1 hx rfl (hb hby d1_52) (0 : Int32) rfl ?_
  refine o_iloadN 54 X1 hx rfl (hb hby d1_53) rfl ?_
  refine o_aloadN 55 X1 hx rfl (hb hby d1_54) rfl rfl ?_
  refine o_callSw 58 X1 hx rfl hZ hown (wd_6 hw) (wd_7 hw) (wd_4 hw) (wd_8 hw) (by decide) e1 N0 (rm2_2 l Z a0 hw a1 r1 k1 kc s2 y0 y1 h1 n0 sz6 ge4 ne3 A1 F5) pd_laIIIaIrV [(.ref a1), (.int (0 : Int32)), (.int s2), (.ref r1)] [] rfl rfl (by rw [hml]; rfl) rfl (hb hby d1_55) 0 (Nat.le_of_eq rfl) (by decide) (by decide) (by decide) (by decide) fun v8 T8 L8 LL8 X8 Q8 NF8 => ?_
  obtain ⟨rfl, M8, K8, Av8, Ac8⟩ := Q8
  have NN8 := NF8 M8
  have K9 : Keep h0 T8.heap [] := K7.trans K8 (allS (P := fun x => x ∈ [] ∨ h0.size ≤ x) (Or.inr gz2) all0)
  have sz10 : n0 ≤ T8.heap.size := Nat.le_trans sz6 K8.1
  show Go p.tables e below (EndE s ({ frames := 2, cells := 1, slots := 2, locals := 33 } : Room) (fun v h L => ∃ (a : Addr) (ka : ClassId), v = some (.ref a) ∧ Fr n0 L ∧ Keep h0 h [] ∧ n0 ≤ a ∧ h0.size ≤ a ∧ Arv Z h a ka .int (2 : Int32) ([(fn3 (0 : Int32) (s2 - (f2_48 y0 y1))), (fn3 (0 : Int32) ((f2_70' s2 y0 y1) - ((f2_48 y0 y1) - y1)))].map Value.int) (.int 0) ∧ Arv Z h r1 kc .int (2 : Int32) ([y0, y1].map Value.int) (.int 0))) (T8.setTop (mkF m 58 #[.val (.int s2), .val (.ref r1), .val (.int (((0 : Int32) + y0) + y1)), .val (.ref a1), .val (.int (2 : Int32)), .val (.int (2 : Int32)), .val (.int y1)] []))
  refine o_aloadN 59 X8 hx rfl (hb hby d1_58) rfl rfl ?_
  refine o_retA X8 hx rfl rfl hret hlk (hb hby d1_59) (by decide) (by decide) ?_
  exact ⟨a1, k1, rfl, NN8, K9, ge4, gz2, Av8, Ac8⟩
def f2_20 (y0 : Int32) (y1 : Int32) (y2 : Int32) : Int32 := ((((0 : Int32) + y0) + y1) + y2)
def f2_70''' (s2 : Int32) (y0 : Int32) (y1 : Int32) (y2 : Int32) : Int32 := (s2 - (fn3 (0 : Int32) (s2 - ((f2_20 y0 y1 y2) - y0))))
def f2_70'''' (s2 : Int32) (y0 : Int32) (y1 : Int32) (y2 : Int32) : Int32 := ((f2_70''' s2 y0 y1 y2) - (fn3 (0 : Int32) ((f2_70''' s2 y0 y1 y2) - (((f2_20 y0 y1 y2) - y0) - y1))))
def f2_48' (y0 : Int32) (y1 : Int32) (y2 : Int32) : Int32 := ((((f2_20 y0 y1 y2) - y0) - y1) - y2)
def f2_70''''' (s2 : Int32) (y0 : Int32) (y1 : Int32) (y2 : Int32) : Int32 := ((f2_70'''' s2 y0 y1 y2) - (fn3 (0 : Int32) ((f2_70'''' s2 y0 y1 y2) - (f2_48' y0 y1 y2))))
set_option maxRecDepth 65536 in
set_option maxHeartbeats 40000000 in
theorem rm2_3 (l : Launch) (Z : State) (a0 : Array Value) (hw : ∀ d ∈ tables_1, d.before a0 Z = true) (r0 r3 : Addr) (ka kc : ClassId) (s2 y0 y1 y2 : Int32) (h0 : Heap) (n0 : Nat) (Z0 : n0 ≤ h0.size) (ga : n0 ≤ r0) (hne : r3 ≠ r0) (Av : Arv Z h0 r0 ka .int (3 : Int32) ([(0 : Int32), (0 : Int32), (0 : Int32)].map Value.int) (.int 0)) (Ac : Arv Z h0 r3 kc .int (3 : Int32) ([y0, y1, y2].map Value.int) (.int 0)) : MetP l (⟨"com/example/discernibility/discernibility/Lookahead", "fill", "([III[I)V"⟩ : MethodName) prog_17_method_15_code 7 none [] ({ frames := 1, cells := 0, slots := 0, locals := 15 } : Room) Z #[(.ref r0), (.int (0 : Int32)), (.int s2), (.ref r3)] h0 (fun v h L => v = none ∧ Fr n0 L ∧ Keep h0 h [r0] ∧ Arv Z h r0 ka .int (3 : Int32) ([(fn3 (0 : Int32) (s2 - ((f2_20 y0 y1 y2) - y0))), (fn3 (0 : Int32) ((f2_70''' s2 y0 y1 y2) - (((f2_20 y0 y1 y2) - y0) - y1))), (fn3 (0 : Int32) ((f2_70'''' s2 y0 y1 y2) - (f2_48' y0 y1 y2)))].map Value.int) (.int 0) ∧ Arv Z h r3 kc .int (3 : Int32) ([y0, y1, y2].map Value.int) (.int 0)) := by
  refine met_go pn_2 ?_
  intro p e s m below meth c s₁ hx hby hml hown hnm hret hlk hZ e0 X0
  have N0 := Fr.nil n0
  have K0 : Keep h0 h0 [r0] := Keep.refl _ _
  rw [ef_2 m r0 (0 : Int32) s2 r3]
  refine o_iconst 1 X0 hx rfl (hb hby d2_0) (0 : Int32) rfl ?_
  refine o_istore 3 X0 hx rfl (hb hby d2_1) #[.val (.ref r0), .val (.int (0 : Int32)), .val (.int s2), .val (.ref r3), .val (.int (0 : Int32)), .unset, .unset] rfl ?_
  refine o_iloadN 4 X0 hx rfl (hb hby d2_3) rfl ?_
  refine o_istore 6 X0 hx rfl (hb hby d2_4) #[.val (.ref r0), .val (.int (0 : Int32)), .val (.int s2), .val (.ref r3), .val (.int (0 : Int32)), .val (.int (0 : Int32)), .unset] rfl ?_
  refine o_iload 8 X0 hx rfl (hb hby d2_6) rfl ?_
  refine o_aloadN 9 X0 hx rfl (hb hby d2_8) rfl rfl ?_
  refine o_alen 10 X0 hx rfl hZ e0 Ac (hb hby d2_9) ?_
  refine o_icmpNo 13 X0 hx rfl (hb hby d2_10) (tlt (show (0 : Int32) < (3 : Int32) by decide)).2.1 ?_
  refine o_iload 15 X0 hx rfl (hb hby d2_13) rfl ?_
  refine o_aloadN 16 X0 hx rfl (hb hby d2_15) rfl rfl ?_
  refine o_iload 18 X0 hx rfl (hb hby d2_16) rfl ?_
  refine o_ialoadX 19 X0 hx rfl hZ e0 Ac (by decide) (hb hby d2_18) y0 rfl ?_
  refine o_iadd 20 X0 hx rfl (hb hby d2_19) ?_
  refine o_istore 22 X0 hx rfl (hb hby d2_20) #[.val (.ref r0), .val (.int (0 : Int32)), .val (.int s2), .val (.ref r3), .val (.int ((0 : Int32) + y0)), .val (.int (0 : Int32)), .unset] rfl ?_
  refine o_iinc 25 X0 hx rfl (hb hby d2_22) (1 : Int32) rfl rfl #[.val (.ref r0), .val (.int (0 : Int32)), .val (.int s2), .val (.ref r3), .val (.int ((0 : Int32) + y0)), .val (.int (1 : Int32)), .unset] rfl ?_
  refine o_goto 6 X0 hx (hb hby d2_25) (by decide) (by decide) ?_
  refine o_iload 8 X0 hx rfl (hb hby d2_6) rfl ?_
  refine o_aloadN 9 X0 hx rfl (hb hby d2_8) rfl rfl ?_
  refine o_alen 10 X0 hx rfl hZ e0 Ac (hb hby d2_9) ?_
  refine o_icmpNo 13 X0 hx rfl (hb hby d2_10) (tlt (show (1 : Int32) < (3 : Int32) by decide)).2.1 ?_
  refine o_iload 15 X0 hx rfl (hb hby d2_13) rfl ?_
  refine o_aloadN 16 X0 hx rfl (hb hby d2_15) rfl rfl ?_
  refine o_iload 18 X0 hx rfl (hb hby d2_16) rfl ?_
  refine o_ialoadX 19 X0 hx rfl hZ e0 Ac (by decide) (hb hby d2_18) y1 rfl ?_
  refine o_iadd 20 X0 hx rfl (hb hby d2_19) ?_
  refine o_istore 22 X0 hx rfl (hb hby d2_20) #[.val (.ref r0), .val (.int (0 : Int32)), .val (.int s2), .val (.ref r3), .val (.int (((0 : Int32) + y0) + y1)), .val (.int (1 : Int32)), .unset] rfl ?_
  refine o_iinc 25 X0 hx rfl (hb hby d2_22) (1 : Int32) rfl rfl #[.val (.ref r0), .val (.int (0 : Int32)), .val (.int s2), .val (.ref r3), .val (.int (((0 : Int32) + y0) + y1)), .val (.int (2 : Int32)), .unset] rfl ?_
  refine o_goto 6 X0 hx (hb hby d2_25) (by decide) (by decide) ?_
  refine o_iload 8 X0 hx rfl (hb hby d2_6) rfl ?_
  refine o_aloadN 9 X0 hx rfl (hb hby d2_8) rfl rfl ?_
  refine o_alen 10 X0 hx rfl hZ e0 Ac (hb hby d2_9) ?_
  refine o_icmpNo 13 X0 hx rfl (hb hby d2_10) (tlt (show (2 : Int32) < (3 : Int32) by decide)).2.1 ?_
  refine o_iload 15 X0 hx rfl (hb hby d2_13) rfl ?_
  refine o_aloadN 16 X0 hx rfl (hb hby d2_15) rfl rfl ?_
  refine o_iload 18 X0 hx rfl (hb hby d2_16) rfl ?_
  refine o_ialoadX 19 X0 hx rfl hZ e0 Ac (by decide) (hb hby d2_18) y2 rfl ?_
  refine o_iadd 20 X0 hx rfl (hb hby d2_19) ?_
  refine o_istore 22 X0 hx rfl (hb hby d2_20) #[.val (.ref r0), .val (.int (0 : Int32)), .val (.int s2), .val (.ref r3), .val (.int (f2_20 y0 y1 y2)), .val (.int (2 : Int32)), .unset] rfl ?_
  refine o_iinc 25 X0 hx rfl (hb hby d2_22) (1 : Int32) rfl rfl #[.val (.ref r0), .val (.int (0 : Int32)), .val (.int s2), .val (.ref r3), .val (.int (f2_20 y0 y1 y2)), .val (.int (3 : Int32)), .unset] rfl ?_
  refine o_goto 6 X0 hx (hb hby d2_25) (by decide) (by decide) ?_
  refine o_iload 8 X0 hx rfl (hb hby d2_6) rfl ?_
  refine o_aloadN 9 X0 hx rfl (hb hby d2_8) rfl rfl ?_
  refine o_alen 10 X0 hx rfl hZ e0 Ac (hb hby d2_9) ?_
  refine o_icmpYes 28 X0 hx (hb hby d2_10) (flt (show ¬ ((3 : Int32) < (3 : Int32)) by decide)).2.1 (by decide) (by decide) ?_
  refine o_iloadN 29 X0 hx rfl (hb hby d2_28) rfl ?_
  refine o_istore 31 X0 hx rfl (hb hby d2_29) #[.val (.ref r0), .val (.int (0 : Int32)), .val (.int s2), .val (.ref r3), .val (.int (f2_20 y0 y1 y2)), .val (.int s2), .unset] rfl ?_
  refine o_iloadN 32 X0 hx rfl (hb hby d2_31) rfl ?_
  refine o_istore 34 X0 hx rfl (hb hby d2_32) #[.val (.ref r0), .val (.int (0 : Int32)), .val (.int s2), .val (.ref r3), .val (.int (f2_20 y0 y1 y2)), .val (.int s2), .val (.int (0 : Int32))] rfl ?_
  refine o_iload 36 X0 hx rfl (hb hby d2_34) rfl ?_
  refine o_aloadN 37 X0 hx rfl (hb hby d2_36) rfl rfl ?_
  refine o_alen 38 X0 hx rfl hZ e0 Ac (hb hby d2_37) ?_
  refine o_icmpNo 41 X0 hx rfl (hb hby d2_38) (tlt (show (0 : Int32) < (3 : Int32) by decide)).2.1 ?_
  refine o_iload 43 X0 hx rfl (hb hby d2_41) rfl ?_
  refine o_aloadN 44 X0 hx rfl (hb hby d2_43) rfl rfl ?_
  refine o_iload 46 X0 hx rfl (hb hby d2_44) rfl ?_
  refine o_ialoadX 47 X0 hx rfl hZ e0 Ac (by decide) (hb hby d2_46) y0 rfl ?_
  refine o_isub 48 X0 hx rfl (hb hby d2_47) ?_
  refine o_istore 50 X0 hx rfl (hb hby d2_48) #[.val (.ref r0), .val (.int (0 : Int32)), .val (.int s2), .val (.ref r3), .val (.int ((f2_20 y0 y1 y2) - y0)), .val (.int s2), .val (.int (0 : Int32))] rfl ?_
  refine o_aloadN 51 X0 hx rfl (hb hby d2_50) rfl rfl ?_
  refine o_iload 53 X0 hx rfl (hb hby d2_51) rfl ?_
  refine o_iconst 54 X0 hx rfl (hb hby d2_53) (0 : Int32) rfl ?_
  refine o_iload 56 X0 hx rfl (hb hby d2_54) rfl ?_
  refine o_iload 58 X0 hx rfl (hb hby d2_56) rfl ?_
  refine o_isub 59 X0 hx rfl (hb hby d2_58) ?_
  refine o_callP (rv := (.int (fn3 (0 : Int32) (s2 - ((f2_20 y0 y1 y2) - y0))))) 62 X0 hx rfl hZ hown (wd_10 hw) (wd_11 hw) (wd_12 hw) (wd_13 hw) (by decide) e0 (rm3 l Z a0 hw (0 : Int32) (s2 - ((f2_20 y0 y1 y2) - y0)) h0) pd_lIIrI [(.int (0 : Int32)), (.int (s2 - ((f2_20 y0 y1 y2) - y0)))] [(.int (0 : Int32)), (.ref r0)] rfl rfl (by rw [hml]; rfl) rfl (hb hby d2_59) 2 (Nat.le_of_eq rfl) (by decide) (by decide) (by decide) (by decide) rfl rfl fun T1 X1 e1 => ?_
  refine o_iastoreX 63 X1 hx rfl hZ e1 Av (by decide) (Nat.le_of_ble_eq_true rfl) [(fn3 (0 : Int32) (s2 - ((f2_20 y0 y1 y2) - y0))), (0 : Int32), (0 : Int32)] rfl N0 ga (hb hby d2_62) fun T2 h2 L2 X2 N2 e2 W2 A2 => ?_
  have F3 : Arv Z h2 r3 kc .int (3 : Int32) ([y0, y1, y2].map Value.int) (.int 0) := Ac.other W2 hne
  have sz4 : n0 ≤ h2.size := Nat.le_trans Z0 (Keep.of_wr W2).1
  have K5 : Keep h0 h2 [r0] := K0.wr W2 (Or.inl (by simp))
  refine o_iload 65 X2 hx rfl (hb hby d2_63) rfl ?_
  refine o_aloadN 66 X2 hx rfl (hb hby d2_65) rfl rfl ?_
  refine o_iload 68 X2 hx rfl (hb hby d2_66) rfl ?_
  refine o_ialoadX 69 X2 hx rfl hZ e2 A2 (by decide) (hb hby d2_68) (fn3 (0 : Int32) (s2 - ((f2_20 y0 y1 y2) - y0))) rfl ?_
  refine o_isub 70 X2 hx rfl (hb hby d2_69) ?_
  refine o_istore 72 X2 hx rfl (hb hby d2_70) #[.val (.ref r0), .val (.int (0 : Int32)), .val (.int s2), .val (.ref r3), .val (.int ((f2_20 y0 y1 y2) - y0)), .val (.int (f2_70''' s2 y0 y1 y2)), .val (.int (0 : Int32))] rfl ?_
  refine o_iinc 75 X2 hx rfl (hb hby d2_72) (1 : Int32) rfl rfl #[.val (.ref r0), .val (.int (0 : Int32)), .val (.int s2), .val (.ref r3), .val (.int ((f2_20 y0 y1 y2) - y0)), .val (.int (f2_70''' s2 y0 y1 y2)), .val (.int (1 : Int32))] rfl ?_
  refine o_goto 34 X2 hx (hb hby d2_75) (by decide) (by decide) ?_
  refine o_iload 36 X2 hx rfl (hb hby d2_34) rfl ?_
  refine o_aloadN 37 X2 hx rfl (hb hby d2_36) rfl rfl ?_
  refine o_alen 38 X2 hx rfl hZ e2 F3 (hb hby d2_37) ?_
  refine o_icmpNo 41 X2 hx rfl (hb hby d2_38) (tlt (show (1 : Int32) < (3 : Int32) by decide)).2.1 ?_
  refine o_iload 43 X2 hx rfl (hb hby d2_41) rfl ?_
  refine o_aloadN 44 X2 hx rfl (hb hby d2_43) rfl rfl ?_
  refine o_iload 46 X2 hx rfl (hb hby d2_44) rfl ?_
  refine o_ialoadX 47 X2 hx rfl hZ e2 F3 (by decide) (hb hby d2_46) y1 rfl ?_
  refine o_isub 48 X2 hx rfl (hb hby d2_47) ?_
  refine o_istore 50 X2 hx rfl (hb hby d2_48) #[.val (.ref r0), .val (.int (0 : Int32)), .val (.int s2), .val (.ref r3), .val (.int (((f2_20 y0 y1 y2) - y0) - y1)), .val (.int (f2_70''' s2 y0 y1 y2)), .val (.int (1 : Int32))] rfl ?_
  refine o_aloadN 51 X2 hx rfl (hb hby d2_50) rfl rfl ?_
  refine o_iload 53 X2 hx rfl (hb hby d2_51) rfl ?_
  refine o_iconst 54 X2 hx rfl (hb hby d2_53) (0 : Int32) rfl ?_
  refine o_iload 56 X2 hx rfl (hb hby d2_54) rfl ?_
  refine o_iload 58 X2 hx rfl (hb hby d2_56) rfl ?_
  refine o_isub 59 X2 hx rfl (hb hby d2_58) ?_
  refine o_callP (rv := (.int (fn3 (0 : Int32) ((f2_70''' s2 y0 y1 y2) - (((f2_20 y0 y1 y2) - y0) - y1))))) 62 X2 hx rfl hZ hown (wd_10 hw) (wd_11 hw) (wd_12 hw) (wd_13 hw) (by decide) e2 (rm3 l Z a0 hw (0 : Int32) ((f2_70''' s2 y0 y1 y2) - (((f2_20 y0 y1 y2) - y0) - y1)) h2) pd_lIIrI [(.int (0 : Int32)), (.int ((f2_70''' s2 y0 y1 y2) - (((f2_20 y0 y1 y2) - y0) - y1)))] [(.int (1 : Int32)), (.ref r0)] rfl rfl (by rw [hml]; rfl) rfl (hb hby d2_59) 2 (Nat.le_of_eq rfl) (by decide) (by decide) (by decide) (by decide) rfl rfl fun T6 X6 e6 => ?_
  refine o_iastoreX 63 X6 hx rfl hZ e6 A2 (by decide) (Nat.le_of_ble_eq_true rfl) [(fn3 (0 : Int32) (s2 - ((f2_20 y0 y1 y2) - y0))), (fn3 (0 : Int32) ((f2_70''' s2 y0 y1 y2) - (((f2_20 y0 y1 y2) - y0) - y1))), (0 : Int32)] rfl N2 ga (hb hby d2_62) fun T7 h7 L7 X7 N7 e7 W7 A7 => ?_
  have F8 : Arv Z h7 r3 kc .int (3 : Int32) ([y0, y1, y2].map Value.int) (.int 0) := F3.other W7 hne
  have sz9 : n0 ≤ h7.size := Nat.le_trans sz4 (Keep.of_wr W7).1
  have K10 : Keep h0 h7 [r0] := K5.wr W7 (Or.inl (by simp))
  refine o_iload 65 X7 hx rfl (hb hby d2_63) rfl ?_
  refine o_aloadN 66 X7 hx rfl (hb hby d2_65) rfl rfl ?_
  refine o_iload 68 X7 hx rfl (hb hby d2_66) rfl ?_
  refine o_ialoadX 69 X7 hx rfl hZ e7 A7 (by decide) (hb hby d2_68) (fn3 (0 : Int32) ((f2_70''' s2 y0 y1 y2) - (((f2_20 y0 y1 y2) - y0) - y1))) rfl ?_
  refine o_isub 70 X7 hx rfl (hb hby d2_69) ?_
  refine o_istore 72 X7 hx rfl (hb hby d2_70) #[.val (.ref r0), .val (.int (0 : Int32)), .val (.int s2), .val (.ref r3), .val (.int (((f2_20 y0 y1 y2) - y0) - y1)), .val (.int (f2_70'''' s2 y0 y1 y2)), .val (.int (1 : Int32))] rfl ?_
  refine o_iinc 75 X7 hx rfl (hb hby d2_72) (1 : Int32) rfl rfl #[.val (.ref r0), .val (.int (0 : Int32)), .val (.int s2), .val (.ref r3), .val (.int (((f2_20 y0 y1 y2) - y0) - y1)), .val (.int (f2_70'''' s2 y0 y1 y2)), .val (.int (2 : Int32))] rfl ?_
  refine o_goto 34 X7 hx (hb hby d2_75) (by decide) (by decide) ?_
  refine o_iload 36 X7 hx rfl (hb hby d2_34) rfl ?_
  refine o_aloadN 37 X7 hx rfl (hb hby d2_36) rfl rfl ?_
  refine o_alen 38 X7 hx rfl hZ e7 F8 (hb hby d2_37) ?_
  refine o_icmpNo 41 X7 hx rfl (hb hby d2_38) (tlt (show (2 : Int32) < (3 : Int32) by decide)).2.1 ?_
  refine o_iload 43 X7 hx rfl (hb hby d2_41) rfl ?_
  refine o_aloadN 44 X7 hx rfl (hb hby d2_43) rfl rfl ?_
  refine o_iload 46 X7 hx rfl (hb hby d2_44) rfl ?_
  refine o_ialoadX 47 X7 hx rfl hZ e7 F8 (by decide) (hb hby d2_46) y2 rfl ?_
  refine o_isub 48 X7 hx rfl (hb hby d2_47) ?_
  refine o_istore 50 X7 hx rfl (hb hby d2_48) #[.val (.ref r0), .val (.int (0 : Int32)), .val (.int s2), .val (.ref r3), .val (.int (f2_48' y0 y1 y2)), .val (.int (f2_70'''' s2 y0 y1 y2)), .val (.int (2 : Int32))] rfl ?_
  refine o_aloadN 51 X7 hx rfl (hb hby d2_50) rfl rfl ?_
  refine o_iload 53 X7 hx rfl (hb hby d2_51) rfl ?_
  refine o_iconst 54 X7 hx rfl (hb hby d2_53) (0 : Int32) rfl ?_
  refine o_iload 56 X7 hx rfl (hb hby d2_54) rfl ?_
  refine o_iload 58 X7 hx rfl (hb hby d2_56) rfl ?_
  refine o_isub 59 X7 hx rfl (hb hby d2_58) ?_
  refine o_callP (rv := (.int (fn3 (0 : Int32) ((f2_70'''' s2 y0 y1 y2) - (f2_48' y0 y1 y2))))) 62 X7 hx rfl hZ hown (wd_10 hw) (wd_11 hw) (wd_12 hw) (wd_13 hw) (by decide) e7 (rm3 l Z a0 hw (0 : Int32) ((f2_70'''' s2 y0 y1 y2) - (f2_48' y0 y1 y2)) h7) pd_lIIrI [(.int (0 : Int32)), (.int ((f2_70'''' s2 y0 y1 y2) - (f2_48' y0 y1 y2)))] [(.int (2 : Int32)), (.ref r0)] rfl rfl (by rw [hml]; rfl) rfl (hb hby d2_59) 2 (Nat.le_of_eq rfl) (by decide) (by decide) (by decide) (by decide) rfl rfl fun T11 X11 e11 => ?_
  refine o_iastoreX 63 X11 hx rfl hZ e11 A7 (by decide) (Nat.le_of_ble_eq_true rfl) [(fn3 (0 : Int32) (s2 - ((f2_20 y0 y1 y2) - y0))), (fn3 (0 : Int32) ((f2_70''' s2 y0 y1 y2) - (((f2_20 y0 y1 y2) - y0) - y1))), (fn3 (0 : Int32) ((f2_70'''' s2 y0 y1 y2) - (f2_48' y0 y1 y2)))] rfl N7 ga (hb hby d2_62) fun T12 h12 L12 X12 N12 e12 W12 A12 => ?_
  have F13 : Arv Z h12 r3 kc .int (3 : Int32) ([y0, y1, y2].map Value.int) (.int 0) := F8.other W12 hne
  have sz14 : n0 ≤ h12.size := Nat.le_trans sz9 (Keep.of_wr W12).1
  have K15 : Keep h0 h12 [r0] := K10.wr W12 (Or.inl (by simp))
  refine o_iload 65 X12 hx rfl (hb hby d2_63) rfl ?_
  refine o_aloadN 66 X12 hx rfl (hb hby d2_65) rfl rfl ?_
  refine o_iload 68 X12 hx rfl (hb hby d2_66) rfl ?_
  refine o_ialoadX 69 X12 hx rfl hZ e12 A12 (by decide) (hb hby d2_68) (fn3 (0 : Int32) ((f2_70'''' s2 y0 y1 y2) - (f2_48' y0 y1 y2))) rfl ?_
  refine o_isub 70 X12 hx rfl (hb hby d2_69) ?_
  refine o_istore 72 X12 hx rfl (hb hby d2_70) #[.val (.ref r0), .val (.int (0 : Int32)), .val (.int s2), .val (.ref r3), .val (.int (f2_48' y0 y1 y2)), .val (.int (f2_70''''' s2 y0 y1 y2)), .val (.int (2 : Int32))] rfl ?_
  refine o_iinc 75 X12 hx rfl (hb hby d2_72) (1 : Int32) rfl rfl #[.val (.ref r0), .val (.int (0 : Int32)), .val (.int s2), .val (.ref r3), .val (.int (f2_48' y0 y1 y2)), .val (.int (f2_70''''' s2 y0 y1 y2)), .val (.int (3 : Int32))] rfl ?_
  refine o_goto 34 X12 hx (hb hby d2_75) (by decide) (by decide) ?_
  refine o_iload 36 X12 hx rfl (hb hby d2_34) rfl ?_
  refine o_aloadN 37 X12 hx rfl (hb hby d2_36) rfl rfl ?_
  refine o_alen 38 X12 hx rfl hZ e12 F13 (hb hby d2_37) ?_
  refine o_icmpYes 78 X12 hx (hb hby d2_38) (flt (show ¬ ((3 : Int32) < (3 : Int32)) by decide)).2.1 (by decide) (by decide) ?_
  refine o_retV X12 hx hret hlk (hb hby d2_78) (by decide) (by decide) ?_
  rw [e12]
  exact ⟨rfl, N12, K15, A12, F13⟩
set_option maxRecDepth 65536 in
set_option maxHeartbeats 40000000 in
theorem rm1n_3 (l : Launch) (Z : State) (a0 : Array Value) (hw : ∀ d ∈ tables_1, d.before a0 Z = true) (r1 : Addr) (kc : ClassId) (s2 y0 y1 y2 : Int32) (h0 : Heap) (Ac : Arv Z h0 r1 kc .int (3 : Int32) ([y0, y1, y2].map Value.int) (.int 0)) (hnull : s2 < (0 : Int32) ∨ ((((0 : Int32) + y0) + y1) + y2) < s2) : MetP l (⟨"com/example/discernibility/discernibility/Lookahead", "firstVector", "(I[I)[I"⟩ : MethodName) prog_17_method_13_code 7 (some (.array .int)) [] ({ frames := 0, cells := 0, slots := 0, locals := 0 } : Room) Z #[(.int s2), (.ref r1)] h0 (Pure .null h0) := by
  refine met_go pn_1 ?_
  intro p e s m below meth c s₁ hx hby hml hown hnm hret hlk hZ e0 X0
  rw [ef_1 m s2 r1]
  refine o_iconst 1 X0 hx rfl (hb hby d1_0) (0 : Int32) rfl ?_
  refine o_istoreN 2 X0 hx rfl (hb hby d1_1) #[.val (.int s2), .val (.ref r1), .val (.int (0 : Int32)), .unset, .unset, .unset, .unset] rfl ?_
  refine o_aloadN 3 X0 hx rfl (hb hby d1_2) rfl rfl ?_
  refine o_astoreN 4 X0 hx rfl (hb hby d1_3) rfl #[.val (.int s2), .val (.ref r1), .val (.int (0 : Int32)), .val (.ref r1), .unset, .unset, .unset] rfl ?_
  refine o_aloadN 5 X0 hx rfl (hb hby d1_4) rfl rfl ?_
  refine o_alen 6 X0 hx rfl hZ e0 Ac (hb hby d1_5) ?_
  refine o_istore 8 X0 hx rfl (hb hby d1_6) #[.val (.int s2), .val (.ref r1), .val (.int (0 : Int32)), .val (.ref r1), .val (.int (3 : Int32)), .unset, .unset] rfl ?_
  refine o_iconst 9 X0 hx rfl (hb hby d1_8) (0 : Int32) rfl ?_
  refine o_istore 11 X0 hx rfl (hb hby d1_9) #[.val (.int s2), .val (.ref r1), .val (.int (0 : Int32)), .val (.ref r1), .val (.int (3 : Int32)), .val (.int (0 : Int32)), .unset] rfl ?_
  refine o_iload 13 X0 hx rfl (hb hby d1_11) rfl ?_
  refine o_iload 15 X0 hx rfl (hb hby d1_13) rfl ?_
  refine o_icmpNo 18 X0 hx rfl (hb hby d1_15) (tlt (show (0 : Int32) < (3 : Int32) by decide)).2.1 ?_
  refine o_aloadN 19 X0 hx rfl (hb hby d1_18) rfl rfl ?_
  refine o_iload 21 X0 hx rfl (hb hby d1_19) rfl ?_
  refine o_ialoadX 22 X0 hx rfl hZ e0 Ac (by decide) (hb hby d1_21) y0 rfl ?_
  refine o_istore 24 X0 hx rfl (hb hby d1_22) #[.val (.int s2), .val (.ref r1), .val (.int (0 : Int32)), .val (.ref r1), .val (.int (3 : Int32)), .val (.int (0 : Int32)), .val (.int y0)] rfl ?_
  refine o_iloadN 25 X0 hx rfl (hb hby d1_24) rfl ?_
  refine o_iload 27 X0 hx rfl (hb hby d1_25) rfl ?_
  refine o_iadd 28 X0 hx rfl (hb hby d1_27) ?_
  refine o_istoreN 29 X0 hx rfl (hb hby d1_28) #[.val (.int s2), .val (.ref r1), .val (.int ((0 : Int32) + y0)), .val (.ref r1), .val (.int (3 : Int32)), .val (.int (0 : Int32)), .val (.int y0)] rfl ?_
  refine o_iinc 32 X0 hx rfl (hb hby d1_29) (1 : Int32) rfl rfl #[.val (.int s2), .val (.ref r1), .val (.int ((0 : Int32) + y0)), .val (.ref r1), .val (.int (3 : Int32)), .val (.int (1 : Int32)), .val (.int y0)] rfl ?_
  refine o_goto 11 X0 hx (hb hby d1_32) (by decide) (by decide) ?_
  refine o_iload 13 X0 hx rfl (hb hby d1_11) rfl ?_
  refine o_iload 15 X0 hx rfl (hb hby d1_13) rfl ?_
  refine o_icmpNo 18 X0 hx rfl (hb hby d1_15) (tlt (show (1 : Int32) < (3 : Int32) by decide)).2.1 ?_
  refine o_aloadN 19 X0 hx rfl (hb hby d1_18) rfl rfl ?_
  refine o_iload 21 X0 hx rfl (hb hby d1_19) rfl ?_
  refine o_ialoadX 22 X0 hx rfl hZ e0 Ac (by decide) (hb hby d1_21) y1 rfl ?_
  refine o_istore 24 X0 hx rfl (hb hby d1_22) #[.val (.int s2), .val (.ref r1), .val (.int ((0 : Int32) + y0)), .val (.ref r1), .val (.int (3 : Int32)), .val (.int (1 : Int32)), .val (.int y1)] rfl ?_
  refine o_iloadN 25 X0 hx rfl (hb hby d1_24) rfl ?_
  refine o_iload 27 X0 hx rfl (hb hby d1_25) rfl ?_
  refine o_iadd 28 X0 hx rfl (hb hby d1_27) ?_
  refine o_istoreN 29 X0 hx rfl (hb hby d1_28) #[.val (.int s2), .val (.ref r1), .val (.int (((0 : Int32) + y0) + y1)), .val (.ref r1), .val (.int (3 : Int32)), .val (.int (1 : Int32)), .val (.int y1)] rfl ?_
  refine o_iinc 32 X0 hx rfl (hb hby d1_29) (1 : Int32) rfl rfl #[.val (.int s2), .val (.ref r1), .val (.int (((0 : Int32) + y0) + y1)), .val (.ref r1), .val (.int (3 : Int32)), .val (.int (2 : Int32)), .val (.int y1)] rfl ?_
  refine o_goto 11 X0 hx (hb hby d1_32) (by decide) (by decide) ?_
  refine o_iload 13 X0 hx rfl (hb hby d1_11) rfl ?_
  refine o_iload 15 X0 hx rfl (hb hby d1_13) rfl ?_
  refine o_icmpNo 18 X0 hx rfl (hb hby d1_15) (tlt (show (2 : Int32) < (3 : Int32) by decide)).2.1 ?_
  refine o_aloadN 19 X0 hx rfl (hb hby d1_18) rfl rfl ?_
  refine o_iload 21 X0 hx rfl (hb hby d1_19) rfl ?_
  refine o_ialoadX 22 X0 hx rfl hZ e0 Ac (by decide) (hb hby d1_21) y2 rfl ?_
  refine o_istore 24 X0 hx rfl (hb hby d1_22) #[.val (.int s2), .val (.ref r1), .val (.int (((0 : Int32) + y0) + y1)), .val (.ref r1), .val (.int (3 : Int32)), .val (.int (2 : Int32)), .val (.int y2)] rfl ?_
  refine o_iloadN 25 X0 hx rfl (hb hby d1_24) rfl ?_
  refine o_iload 27 X0 hx rfl (hb hby d1_25) rfl ?_
  refine o_iadd 28 X0 hx rfl (hb hby d1_27) ?_
  refine o_istoreN 29 X0 hx rfl (hb hby d1_28) #[.val (.int s2), .val (.ref r1), .val (.int ((((0 : Int32) + y0) + y1) + y2)), .val (.ref r1), .val (.int (3 : Int32)), .val (.int (2 : Int32)), .val (.int y2)] rfl ?_
  refine o_iinc 32 X0 hx rfl (hb hby d1_29) (1 : Int32) rfl rfl #[.val (.int s2), .val (.ref r1), .val (.int ((((0 : Int32) + y0) + y1) + y2)), .val (.ref r1), .val (.int (3 : Int32)), .val (.int (3 : Int32)), .val (.int y2)] rfl ?_
  refine o_goto 11 X0 hx (hb hby d1_32) (by decide) (by decide) ?_
  refine o_iload 13 X0 hx rfl (hb hby d1_11) rfl ?_
  refine o_iload 15 X0 hx rfl (hb hby d1_13) rfl ?_
  refine o_icmpYes 35 X0 hx (hb hby d1_15) (flt (show ¬ ((3 : Int32) < (3 : Int32)) by decide)).2.1 (by decide) (by decide) ?_
  refine o_iloadN 36 X0 hx rfl (hb hby d1_35) rfl ?_
  by_cases hneg : s2 < (0 : Int32)
  · refine o_ifYes 44 X0 hx (hb hby d1_36) (tlt hneg).1 (by decide) (by decide) ?_
    refine o_aconst_null 45 X0 hx rfl (hb hby d1_44) ?_
    refine o_retA X0 hx rfl rfl hret hlk (hb hby d1_45) (by decide) (by decide) ?_
    exact ⟨rfl, rfl, e0⟩
  · refine o_ifNo 39 X0 hx rfl (hb hby d1_36) (flt hneg).1 ?_
    refine o_iloadN 40 X0 hx rfl (hb hby d1_39) rfl ?_
    refine o_iloadN 41 X0 hx rfl (hb hby d1_40) rfl ?_
    refine o_icmpNo 44 X0 hx rfl (hb hby d1_41) (tlt (hnull.resolve_left hneg)).2.2.2 ?_
    refine o_aconst_null 45 X0 hx rfl (hb hby d1_44) ?_
    refine o_retA X0 hx rfl rfl hret hlk (hb hby d1_45) (by decide) (by decide) ?_
    exact ⟨rfl, rfl, e0⟩
set_option maxRecDepth 65536 in
set_option maxHeartbeats 40000000 in
theorem rm1v_3 (l : Launch) (Z : State) (a0 : Array Value) (hw : ∀ d ∈ tables_1, d.before a0 Z = true) (r1 : Addr) (kc : ClassId) (s2 y0 y1 y2 : Int32) (h0 : Heap) (n0 : Nat) (Z0 : n0 ≤ h0.size) (Ac : Arv Z h0 r1 kc .int (3 : Int32) ([y0, y1, y2].map Value.int) (.int 0)) (hneg : ¬ s2 < (0 : Int32)) (hbig : ¬ ((((0 : Int32) + y0) + y1) + y2) < s2) : MetP l (⟨"com/example/discernibility/discernibility/Lookahead", "firstVector", "(I[I)[I"⟩ : MethodName) prog_17_method_13_code 7 (some (.array .int)) [] ({ frames := 2, cells := 1, slots := 3, locals := 33 } : Room) Z #[(.int s2), (.ref r1)] h0 (fun v h L => ∃ (a : Addr) (ka : ClassId), v = some (.ref a) ∧ Fr n0 L ∧ Keep h0 h [] ∧ n0 ≤ a ∧ h0.size ≤ a ∧ Arv Z h a ka .int (3 : Int32) ([(fn3 (0 : Int32) (s2 - ((f2_20 y0 y1 y2) - y0))), (fn3 (0 : Int32) ((f2_70''' s2 y0 y1 y2) - (((f2_20 y0 y1 y2) - y0) - y1))), (fn3 (0 : Int32) ((f2_70'''' s2 y0 y1 y2) - (f2_48' y0 y1 y2)))].map Value.int) (.int 0) ∧ Arv Z h r1 kc .int (3 : Int32) ([y0, y1, y2].map Value.int) (.int 0)) := by
  refine met_go pn_1 ?_
  intro p e s m below meth c s₁ hx hby hml hown hnm hret hlk hZ e0 X0
  have N0 := Fr.nil n0
  have K0 : Keep h0 h0 [] := Keep.refl _ _
  rw [ef_1 m s2 r1]
  refine o_iconst 1 X0 hx rfl (hb hby d1_0) (0 : Int32) rfl ?_
  refine o_istoreN 2 X0 hx rfl (hb hby d1_1) #[.val (.int s2), .val (.ref r1), .val (.int (0 : Int32)), .unset, .unset, .unset, .unset] rfl ?_
  refine o_aloadN 3 X0 hx rfl (hb hby d1_2) rfl rfl ?_
  refine o_astoreN 4 X0 hx rfl (hb hby d1_3) rfl #[.val (.int s2), .val (.ref r1), .val (.int (0 : Int32)), .val (.ref r1), .unset, .unset, .unset] rfl ?_
  refine o_aloadN 5 X0 hx rfl (hb hby d1_4) rfl rfl ?_
  refine o_alen 6 X0 hx rfl hZ e0 Ac (hb hby d1_5) ?_
  refine o_istore 8 X0 hx rfl (hb hby d1_6) #[.val (.int s2), .val (.ref r1), .val (.int (0 : Int32)), .val (.ref r1), .val (.int (3 : Int32)), .unset, .unset] rfl ?_
  refine o_iconst 9 X0 hx rfl (hb hby d1_8) (0 : Int32) rfl ?_
  refine o_istore 11 X0 hx rfl (hb hby d1_9) #[.val (.int s2), .val (.ref r1), .val (.int (0 : Int32)), .val (.ref r1), .val (.int (3 : Int32)), .val (.int (0 : Int32)), .unset] rfl ?_
  refine o_iload 13 X0 hx rfl (hb hby d1_11) rfl ?_
  refine o_iload 15 X0 hx rfl (hb hby d1_13) rfl ?_
  refine o_icmpNo 18 X0 hx rfl (hb hby d1_15) (tlt (show (0 : Int32) < (3 : Int32) by decide)).2.1 ?_
  refine o_aloadN 19 X0 hx rfl (hb hby d1_18) rfl rfl ?_
  refine o_iload 21 X0 hx rfl (hb hby d1_19) rfl ?_
  refine o_ialoadX 22 X0 hx rfl hZ e0 Ac (by decide) (hb hby d1_21) y0 rfl ?_
  refine o_istore 24 X0 hx rfl (hb hby d1_22) #[.val (.int s2), .val (.ref r1), .val (.int (0 : Int32)), .val (.ref r1), .val (.int (3 : Int32)), .val (.int (0 : Int32)), .val (.int y0)] rfl ?_
  refine o_iloadN 25 X0 hx rfl (hb hby d1_24) rfl ?_
  refine o_iload 27 X0 hx rfl (hb hby d1_25) rfl ?_
  refine o_iadd 28 X0 hx rfl (hb hby d1_27) ?_
  refine o_istoreN 29 X0 hx rfl (hb hby d1_28) #[.val (.int s2), .val (.ref r1), .val (.int ((0 : Int32) + y0)), .val (.ref r1), .val (.int (3 : Int32)), .val (.int (0 : Int32)), .val (.int y0)] rfl ?_
  refine o_iinc 32 X0 hx rfl (hb hby d1_29) (1 : Int32) rfl rfl #[.val (.int s2), .val (.ref r1), .val (.int ((0 : Int32) + y0)), .val (.ref r1), .val (.int (3 : Int32)), .val (.int (1 : Int32)), .val (.int y0)] rfl ?_
  refine o_goto 11 X0 hx (hb hby d1_32) (by decide) (by decide) ?_
  refine o_iload 13 X0 hx rfl (hb hby d1_11) rfl ?_
  refine o_iload 15 X0 hx rfl (hb hby d1_13) rfl ?_
  refine o_icmpNo 18 X0 hx rfl (hb hby d1_15) (tlt (show (1 : Int32) < (3 : Int32) by decide)).2.1 ?_
  refine o_aloadN 19 X0 hx rfl (hb hby d1_18) rfl rfl ?_
  refine o_iload 21 X0 hx rfl (hb hby d1_19) rfl ?_
  refine o_ialoadX 22 X0 hx rfl hZ e0 Ac (by decide) (hb hby d1_21) y1 rfl ?_
  refine o_istore 24 X0 hx rfl (hb hby d1_22) #[.val (.int s2), .val (.ref r1), .val (.int ((0 : Int32) + y0)), .val (.ref r1), .val (.int (3 : Int32)), .val (.int (1 : Int32)), .val (.int y1)] rfl ?_
  refine o_iloadN 25 X0 hx rfl (hb hby d1_24) rfl ?_
  refine o_iload 27 X0 hx rfl (hb hby d1_25) rfl ?_
  refine o_iadd 28 X0 hx rfl (hb hby d1_27) ?_
  refine o_istoreN 29 X0 hx rfl (hb hby d1_28) #[.val (.int s2), .val (.ref r1), .val (.int (((0 : Int32) + y0) + y1)), .val (.ref r1), .val (.int (3 : Int32)), .val (.int (1 : Int32)), .val (.int y1)] rfl ?_
  refine o_iinc 32 X0 hx rfl (hb hby d1_29) (1 : Int32) rfl rfl #[.val (.int s2), .val (.ref r1), .val (.int (((0 : Int32) + y0) + y1)), .val (.ref r1), .val (.int (3 : Int32)), .val (.int (2 : Int32)), .val (.int y1)] rfl ?_
  refine o_goto 11 X0 hx (hb hby d1_32) (by decide) (by decide) ?_
  refine o_iload 13 X0 hx rfl (hb hby d1_11) rfl ?_
  refine o_iload 15 X0 hx rfl (hb hby d1_13) rfl ?_
  refine o_icmpNo 18 X0 hx rfl (hb hby d1_15) (tlt (show (2 : Int32) < (3 : Int32) by decide)).2.1 ?_
  refine o_aloadN 19 X0 hx rfl (hb hby d1_18) rfl rfl ?_
  refine o_iload 21 X0 hx rfl (hb hby d1_19) rfl ?_
  refine o_ialoadX 22 X0 hx rfl hZ e0 Ac (by decide) (hb hby d1_21) y2 rfl ?_
  refine o_istore 24 X0 hx rfl (hb hby d1_22) #[.val (.int s2), .val (.ref r1), .val (.int (((0 : Int32) + y0) + y1)), .val (.ref r1), .val (.int (3 : Int32)), .val (.int (2 : Int32)), .val (.int y2)] rfl ?_
  refine o_iloadN 25 X0 hx rfl (hb hby d1_24) rfl ?_
  refine o_iload 27 X0 hx rfl (hb hby d1_25) rfl ?_
  refine o_iadd 28 X0 hx rfl (hb hby d1_27) ?_
  refine o_istoreN 29 X0 hx rfl (hb hby d1_28) #[.val (.int s2), .val (.ref r1), .val (.int ((((0 : Int32) + y0) + y1) + y2)), .val (.ref r1), .val (.int (3 : Int32)), .val (.int (2 : Int32)), .val (.int y2)] rfl ?_
  refine o_iinc 32 X0 hx rfl (hb hby d1_29) (1 : Int32) rfl rfl #[.val (.int s2), .val (.ref r1), .val (.int ((((0 : Int32) + y0) + y1) + y2)), .val (.ref r1), .val (.int (3 : Int32)), .val (.int (3 : Int32)), .val (.int y2)] rfl ?_
  refine o_goto 11 X0 hx (hb hby d1_32) (by decide) (by decide) ?_
  refine o_iload 13 X0 hx rfl (hb hby d1_11) rfl ?_
  refine o_iload 15 X0 hx rfl (hb hby d1_13) rfl ?_
  refine o_icmpYes 35 X0 hx (hb hby d1_15) (flt (show ¬ ((3 : Int32) < (3 : Int32)) by decide)).2.1 (by decide) (by decide) ?_
  refine o_iloadN 36 X0 hx rfl (hb hby d1_35) rfl ?_
  refine o_ifNo 39 X0 hx rfl (hb hby d1_36) (flt hneg).1 ?_
  refine o_iloadN 40 X0 hx rfl (hb hby d1_39) rfl ?_
  refine o_iloadN 41 X0 hx rfl (hb hby d1_40) rfl ?_
  refine o_icmpYes 46 X0 hx (hb hby d1_41) (flt hbig).2.2.2 (by decide) (by decide) ?_
  refine o_aloadN 47 X0 hx rfl (hb hby d1_46) rfl rfl ?_
  refine o_alen 48 X0 hx rfl hZ e0 Ac (hb hby d1_47) ?_
  refine o_newarrI 50 X0 hx rfl hZ .int .int rfl rfl (wd_0 hw) e0 (hb hby d1_48) (by decide) 3 (by decide) (by decide) (by decide) (by decide) [(0 : Int32), (0 : Int32), (0 : Int32)] rfl fun T1 h1 a1 k1 g1 X1 e1 E1 A1 => ?_
  have gz2 : h0.size ≤ a1 := Nat.le_trans K0.1 (Nat.le_of_eq g1.symm)
  have ne3 : r1 ≠ a1 := Nat.ne_of_lt (Nat.lt_of_lt_of_eq Ac.lt g1.symm)
  have ge4 : n0 ≤ a1 := Nat.le_trans Z0 (Nat.le_of_eq g1.symm)
  have F5 : Arv Z h1 r1 kc .int (3 : Int32) ([y0, y1, y2].map Value.int) (.int 0) := Ac.ext E1
  have sz6 : n0 ≤ h1.size := Nat.le_trans Z0 E1.1
  have K7 : Keep h0 h1 [] := K0.ext E1
  refine o_astoreN 51 X1 hx rfl (hb hby d1_50) rfl #[.val (.int s2), .val (.ref r1), .val (.int ((((0 : Int32) + y0) + y1) + y2)), .val (.ref a1), .val (.int (3 : Int32)), .val (.int (3 : Int32)), .val (.int y2)] rfl ?_
  refine o_aloadN 52 X1 hx rfl (hb hby d1_51) rfl rfl ?_
  refine o_iconst 53 X1 hx rfl (hb hby d1_52) (0 : Int32) rfl ?_
  refine o_iloadN 54 X1 hx rfl (hb hby d1_53) rfl ?_
  refine o_aloadN 55 X1 hx rfl (hb hby d1_54) rfl rfl ?_
  refine o_callSw 58 X1 hx rfl hZ hown (wd_6 hw) (wd_7 hw) (wd_4 hw) (wd_8 hw) (by decide) e1 N0 (rm2_3 l Z a0 hw a1 r1 k1 kc s2 y0 y1 y2 h1 n0 sz6 ge4 ne3 A1 F5) pd_laIIIaIrV [(.ref a1), (.int (0 : Int32)), (.int s2), (.ref r1)] [] rfl rfl (by rw [hml]; rfl) rfl (hb hby d1_55) 0 (Nat.le_of_eq rfl) (by decide) (by decide) (by decide) (by decide) fun v8 T8 L8 LL8 X8 Q8 NF8 => ?_
  obtain ⟨rfl, M8, K8, Av8, Ac8⟩ := Q8
  have NN8 := NF8 M8
  have K9 : Keep h0 T8.heap [] := K7.trans K8 (allS (P := fun x => x ∈ [] ∨ h0.size ≤ x) (Or.inr gz2) all0)
  have sz10 : n0 ≤ T8.heap.size := Nat.le_trans sz6 K8.1
  show Go p.tables e below (EndE s ({ frames := 2, cells := 1, slots := 3, locals := 33 } : Room) (fun v h L => ∃ (a : Addr) (ka : ClassId), v = some (.ref a) ∧ Fr n0 L ∧ Keep h0 h [] ∧ n0 ≤ a ∧ h0.size ≤ a ∧ Arv Z h a ka .int (3 : Int32) ([(fn3 (0 : Int32) (s2 - ((f2_20 y0 y1 y2) - y0))), (fn3 (0 : Int32) ((f2_70''' s2 y0 y1 y2) - (((f2_20 y0 y1 y2) - y0) - y1))), (fn3 (0 : Int32) ((f2_70'''' s2 y0 y1 y2) - (f2_48' y0 y1 y2)))].map Value.int) (.int 0) ∧ Arv Z h r1 kc .int (3 : Int32) ([y0, y1, y2].map Value.int) (.int 0))) (T8.setTop (mkF m 58 #[.val (.int s2), .val (.ref r1), .val (.int ((((0 : Int32) + y0) + y1) + y2)), .val (.ref a1), .val (.int (3 : Int32)), .val (.int (3 : Int32)), .val (.int y2)] []))
  refine o_aloadN 59 X8 hx rfl (hb hby d1_58) rfl rfl ?_
  refine o_retA X8 hx rfl rfl hret hlk (hb hby d1_59) (by decide) (by decide) ?_
  exact ⟨a1, k1, rfl, NN8, K9, ge4, gz2, Av8, Ac8⟩
theorem ef_0 (m : MethodId) (y0 : Int32) (y1 : Int32) (y2 : Int32) (y3 : Int32) (y4 : Int32) : entryFrame m #[(.int y0), (.int y1), (.int y2), (.int y3), (.int y4)] maxLocals = mkF m 0 #[.val (.int y0), .val (.int y1), .val (.int y2), .val (.int y3), .val (.int y4), .unset, .unset, .unset, .unset, .unset, .unset, .unset, .unset, .unset, .unset, .unset, .unset, .unset, .unset, .unset, .unset] [] := by first | (simp [entryFrame, mkF, argsToLocals, Value.category, maxLocals]; done) | rfl
theorem own_cases (i4 : Int32) : (i4 &&& (3 : Int32)) = 0 ∨ (i4 &&& (3 : Int32)) = 1 ∨ (i4 &&& (3 : Int32)) = 2 ∨ (i4 &&& (3 : Int32)) = 3 := by
  have e1 : (i4 &&& (3 : Int32)).toInt = i4.toInt % (2 ^ 2 : Nat) := c_mask i4 3 2 (by decide) (by decide)
  have h : (i4 &&& (3 : Int32)).toInt = 0 ∨ (i4 &&& (3 : Int32)).toInt = 1 ∨ (i4 &&& (3 : Int32)).toInt = 2 ∨ (i4 &&& (3 : Int32)).toInt = 3 := by omega
  rcases h with h | h | h | h
  · exact Or.inl (Int32.toInt_inj.mp h)
  · exact Or.inr (Or.inl (Int32.toInt_inj.mp h))
  · exact Or.inr (Or.inr (Or.inl (Int32.toInt_inj.mp h)))
  · exact Or.inr (Or.inr (Or.inr (Int32.toInt_inj.mp h)))
theorem own_bd (x : Int32) : 0 ≤ (x &&& (1048575 : Int32)).toInt ∧ (x &&& (1048575 : Int32)).toInt ≤ 1048575 := by
  have e1 : (x &&& (1048575 : Int32)).toInt = x.toInt % (2 ^ 20 : Nat) := c_mask x 1048575 20 (by decide) (by decide)
  omega
theorem own_ad (x y : Int32) (h1 : 0 ≤ x.toInt) (h2 : x.toInt ≤ 4000000) (h3 : 0 ≤ y.toInt) (h4 : y.toInt ≤ 4000000) : (x + y).toInt = x.toInt + y.toInt := by
  have e := c_iadd x y
  have r := rng32 (x + y)
  omega
theorem own_sb (x y : Int32) (h1 : -8000000 ≤ x.toInt) (h2 : x.toInt ≤ 8000000) (h3 : -8000000 ≤ y.toInt) (h4 : y.toInt ≤ 8000000) : (x - y).toInt = x.toInt - y.toInt := by
  have e := c_isub x y
  have r := rng32 (x - y)
  omega
theorem own_room0 : (0 : Int32).toInt = 0 := rfl
theorem own_room1 {k0 : Int32} (h0 : 0 ≤ k0.toInt ∧ k0.toInt ≤ 1048575) : ((k0 + (0 : Int32)) + (0 : Int32)).toInt = k0.toInt := by rw [Int32.add_zero, Int32.add_zero]
theorem own_room2 {k0 k1 : Int32} (h0 : 0 ≤ k0.toInt ∧ k0.toInt ≤ 1048575) (h1 : 0 ≤ k1.toInt ∧ k1.toInt ≤ 1048575) : ((k0 + k1) + (0 : Int32)).toInt = k0.toInt + k1.toInt := by rw [Int32.add_zero]; exact own_ad k0 k1 (by omega) (by omega) (by omega) (by omega)
theorem own_room3 {k0 k1 k2 : Int32} (h0 : 0 ≤ k0.toInt ∧ k0.toInt ≤ 1048575) (h1 : 0 ≤ k1.toInt ∧ k1.toInt ≤ 1048575) (h2 : 0 ≤ k2.toInt ∧ k2.toInt ≤ 1048575) : ((k0 + k1) + k2).toInt = k0.toInt + k1.toInt + k2.toInt := by
  have e := own_ad k0 k1 (by omega) (by omega) (by omega) (by omega)
  rw [own_ad (k0 + k1) k2 (by omega) (by omega) (by omega) (by omega), e]
theorem own_nz {rm : Int32} (h1 : 0 ≤ rm.toInt) (h2 : rm.toInt ≤ 4000000) : rm + (3 : Int32) ≠ 0 := fun z => by
  have e := own_ad rm 3 h1 h2 (by decide) (by decide)
  rw [z, show (0 : Int32).toInt = 0 from rfl, show (3 : Int32).toInt = 3 from rfl] at e
  omega
theorem own_r0 : (0 : Int32) = (0 : Int32) := rfl
theorem own_r1 (k0 : Int32) : ((0 : Int32) + k0) = ((k0 + (0 : Int32)) + (0 : Int32)) := by rw [Int32.zero_add, Int32.add_zero, Int32.add_zero]
theorem own_r2 (k0 k1 : Int32) : (((0 : Int32) + k0) + k1) = ((k0 + k1) + (0 : Int32)) := by rw [Int32.zero_add, Int32.add_zero]
theorem own_r3 (k0 k1 k2 : Int32) : ((((0 : Int32) + k0) + k1) + k2) = ((k0 + k1) + k2) := by rw [Int32.zero_add]
theorem own_mx (x : Int32) : (x.toInt ≤ 0 ∧ (fn3 (0 : Int32) x).toInt = 0) ∨ (0 < x.toInt ∧ (fn3 (0 : Int32) x).toInt = x.toInt) := by
  unfold fn3 f3_10_s0
  by_cases h : (0 : Int32) < x
  · rw [if_pos h]; right; exact ⟨Int32.lt_iff_toInt_lt.mp h, rfl⟩
  · rw [if_neg h]; left; exact ⟨Int.not_lt.mp (fun q => h (Int32.lt_iff_toInt_lt.mpr q)), rfl⟩
theorem own_step (s R k : Int32) (h1 : 0 ≤ s.toInt) (h2 : s.toInt ≤ R.toInt) (h3 : 0 ≤ k.toInt) (h4 : k.toInt ≤ R.toInt) (h5 : R.toInt ≤ 4000000) : 0 ≤ (fn3 (0 : Int32) (s - (R - k))).toInt ∧ (fn3 (0 : Int32) (s - (R - k))).toInt ≤ k.toInt ∧ (R - k).toInt = R.toInt - k.toInt ∧ (s - (fn3 (0 : Int32) (s - (R - k)))).toInt = s.toInt - (fn3 (0 : Int32) (s - (R - k))).toInt ∧ (s - (fn3 (0 : Int32) (s - (R - k)))).toInt ≤ (R - k).toInt ∧ 0 ≤ (s - (fn3 (0 : Int32) (s - (R - k)))).toInt ∧ ((fn3 (0 : Int32) (s - (R - k))).toInt = 0 ∨ (s - (fn3 (0 : Int32) (s - (R - k)))).toInt = (R - k).toInt) := by
  have e1 := own_sb R k (by omega) (by omega) (by omega) (by omega)
  have e2 := own_sb s (R - k) (by omega) (by omega) (by omega) (by omega)
  have e3 := own_mx (s - (R - k))
  have e4 := own_sb s (fn3 (0 : Int32) (s - (R - k))) (by omega) (by omega) (by omega) (by omega)
  omega
theorem own_v0 (sm rm : Int32) (hrm : rm.toInt = 0) (hneg : ¬ sm < (0 : Int32)) (hbig : ¬ rm < sm) : sm = 0 := by
  rw [Int32.lt_iff_toInt_lt] at hneg hbig
  rw [show (0 : Int32).toInt = 0 from rfl] at hneg
  apply Int32.toInt_inj.mp
  rw [show (0 : Int32).toInt = 0 from rfl]
  omega
theorem own_t0 {sm : Int32} (h : sm = 0) : ((((0 : Int32).toInt64) + ((0 : Int32).toInt64)) + ((0 : Int32).toInt64)) = (sm.toInt64) := by rw [h]; rfl
theorem own_t3 {k0 k1 k2 sm : Int32} (w0 w1 w2 : Int32) (h0l : 0 ≤ w0.toInt) (hk0 : 0 ≤ k0.toInt ∧ k0.toInt ≤ 1048575) (h0u : w0.toInt ≤ k0.toInt) (h1l : 0 ≤ w1.toInt) (hk1 : 0 ≤ k1.toInt ∧ k1.toInt ≤ 1048575) (h1u : w1.toInt ≤ k1.toInt) (h2l : 0 ≤ w2.toInt) (hk2 : 0 ≤ k2.toInt ∧ k2.toInt ≤ 1048575) (h2u : w2.toInt ≤ k2.toInt) (hsum : w0.toInt + w1.toInt + w2.toInt = sm.toInt) : (((w0.toInt64) + (w1.toInt64)) + (w2.toInt64)) = (sm.toInt64) := by
  have a0 := c_i2l w0
  have a1 := c_i2l w1
  have a2 := c_i2l w2
  have a3 := c_i2l sm
  have e1 := c_ladd w0.toInt64 w1.toInt64
  have e2 := c_ladd (w0.toInt64 + w1.toInt64) w2.toInt64
  have r1 := rng64 (w0.toInt64 + w1.toInt64)
  have r2 := rng64 (w0.toInt64 + w1.toInt64 + w2.toInt64)
  apply Int64.toInt_inj.mp
  omega
theorem own_z0 : 0 ≤ (0 : Int32).toInt ∧ (0 : Int32).toInt ≤ 1048575 := by decide
theorem own_t2 {k0 k1 sm : Int32} (w0 w1 : Int32) (h0l : 0 ≤ w0.toInt) (hk0 : 0 ≤ k0.toInt ∧ k0.toInt ≤ 1048575) (h0u : w0.toInt ≤ k0.toInt) (h1l : 0 ≤ w1.toInt) (hk1 : 0 ≤ k1.toInt ∧ k1.toInt ≤ 1048575) (h1u : w1.toInt ≤ k1.toInt) (hsum : w0.toInt + w1.toInt = sm.toInt) : (((w0.toInt64) + (w1.toInt64)) + ((0 : Int32).toInt64)) = (sm.toInt64) :=
  own_t3 w0 w1 0 h0l hk0 h0u h1l hk1 h1u (Int.le_refl _) own_z0 (Int.le_refl _) (by rw [show (0 : Int32).toInt = 0 from rfl]; omega)
theorem own_t1 {k0 sm : Int32} (w0 : Int32) (h0l : 0 ≤ w0.toInt) (hk0 : 0 ≤ k0.toInt ∧ k0.toInt ≤ 1048575) (h0u : w0.toInt ≤ k0.toInt) (hsum : w0.toInt = sm.toInt) : (((w0.toInt64) + ((0 : Int32).toInt64)) + ((0 : Int32).toInt64)) = (sm.toInt64) :=
  own_t2 w0 0 h0l hk0 h0u (Int.le_refl _) own_z0 (Int.le_refl _) (by rw [show (0 : Int32).toInt = 0 from rfl]; omega)
theorem own_v1 (sm y0 : Int32) (hy0 : 0 ≤ y0.toInt ∧ y0.toInt ≤ 1048575) (rm : Int32) (hrm : rm.toInt = y0.toInt) (hneg : ¬ sm < (0 : Int32)) (hbig : ¬ rm < sm) : 0 ≤ (fn3 (0 : Int32) (sm - (((0 : Int32) + y0) - y0))).toInt ∧ (fn3 (0 : Int32) (sm - (((0 : Int32) + y0) - y0))).toInt ≤ y0.toInt ∧ (fn3 (0 : Int32) (sm - (((0 : Int32) + y0) - y0))).toInt = sm.toInt ∧ True ∧ True := by
  rw [Int32.lt_iff_toInt_lt] at hneg hbig
  rw [show (0 : Int32).toInt = 0 from rfl] at hneg
  have hR : ((0 : Int32) + y0).toInt = y0.toInt := by rw [own_r1 y0]; exact own_room1 hy0
  have S0 := own_step sm ((0 : Int32) + y0) y0 (by omega) (by omega) (by omega) (by omega) (by omega)
  refine ⟨by omega, by omega, by omega, trivial, trivial⟩
theorem own_v2 (sm y0 y1 : Int32) (hy0 : 0 ≤ y0.toInt ∧ y0.toInt ≤ 1048575) (hy1 : 0 ≤ y1.toInt ∧ y1.toInt ≤ 1048575) (rm : Int32) (hrm : rm.toInt = y0.toInt + y1.toInt) (hneg : ¬ sm < (0 : Int32)) (hbig : ¬ rm < sm) : 0 ≤ (fn3 (0 : Int32) (sm - (f2_48 y0 y1))).toInt ∧ (fn3 (0 : Int32) (sm - (f2_48 y0 y1))).toInt ≤ y0.toInt ∧ 0 ≤ (fn3 (0 : Int32) ((f2_70' sm y0 y1) - ((f2_48 y0 y1) - y1))).toInt ∧ (fn3 (0 : Int32) ((f2_70' sm y0 y1) - ((f2_48 y0 y1) - y1))).toInt ≤ y1.toInt ∧ (fn3 (0 : Int32) (sm - (f2_48 y0 y1))).toInt + (fn3 (0 : Int32) ((f2_70' sm y0 y1) - ((f2_48 y0 y1) - y1))).toInt = sm.toInt ∧ ((fn3 (0 : Int32) (sm - (f2_48 y0 y1))) = 0 ∨ ((fn3 (0 : Int32) ((f2_70' sm y0 y1) - ((f2_48 y0 y1) - y1))) = y1 ∧ True)) ∧ True := by
  rw [Int32.lt_iff_toInt_lt] at hneg hbig
  rw [show (0 : Int32).toInt = 0 from rfl] at hneg
  have hR : (((0 : Int32) + y0) + y1).toInt = y0.toInt + y1.toInt := by rw [own_r2 y0 y1]; exact own_room2 hy0 hy1
  simp only [f2_70, f2_48, f2_70', f2_70'', f2_20, f2_70''', f2_70'''', f2_48', f2_70''''']
  have S0 := own_step sm (((0 : Int32) + y0) + y1) y0 (by omega) (by omega) (by omega) (by omega) (by omega)
  have S1 := own_step (sm - (fn3 (0 : Int32) (sm - ((((0 : Int32) + y0) + y1) - y0)))) ((((0 : Int32) + y0) + y1) - y0) y1 (by omega) (by omega) (by omega) (by omega) (by omega)
  refine ⟨by omega, by omega, by omega, by omega, by omega, ?_, trivial⟩
  · by_cases q : (fn3 (0 : Int32) (sm - ((((0 : Int32) + y0) + y1) - y0))).toInt = 0
    · left; exact Int32.toInt_inj.mp (by rw [show (0 : Int32).toInt = 0 from rfl]; omega)
    · right; exact ⟨Int32.toInt_inj.mp (by omega), trivial⟩
theorem own_v3 (sm y0 y1 y2 : Int32) (hy0 : 0 ≤ y0.toInt ∧ y0.toInt ≤ 1048575) (hy1 : 0 ≤ y1.toInt ∧ y1.toInt ≤ 1048575) (hy2 : 0 ≤ y2.toInt ∧ y2.toInt ≤ 1048575) (rm : Int32) (hrm : rm.toInt = y0.toInt + y1.toInt + y2.toInt) (hneg : ¬ sm < (0 : Int32)) (hbig : ¬ rm < sm) : 0 ≤ (fn3 (0 : Int32) (sm - ((f2_20 y0 y1 y2) - y0))).toInt ∧ (fn3 (0 : Int32) (sm - ((f2_20 y0 y1 y2) - y0))).toInt ≤ y0.toInt ∧ 0 ≤ (fn3 (0 : Int32) ((f2_70''' sm y0 y1 y2) - (((f2_20 y0 y1 y2) - y0) - y1))).toInt ∧ (fn3 (0 : Int32) ((f2_70''' sm y0 y1 y2) - (((f2_20 y0 y1 y2) - y0) - y1))).toInt ≤ y1.toInt ∧ 0 ≤ (fn3 (0 : Int32) ((f2_70'''' sm y0 y1 y2) - (f2_48' y0 y1 y2))).toInt ∧ (fn3 (0 : Int32) ((f2_70'''' sm y0 y1 y2) - (f2_48' y0 y1 y2))).toInt ≤ y2.toInt ∧ (fn3 (0 : Int32) (sm - ((f2_20 y0 y1 y2) - y0))).toInt + (fn3 (0 : Int32) ((f2_70''' sm y0 y1 y2) - (((f2_20 y0 y1 y2) - y0) - y1))).toInt + (fn3 (0 : Int32) ((f2_70'''' sm y0 y1 y2) - (f2_48' y0 y1 y2))).toInt = sm.toInt ∧ ((fn3 (0 : Int32) (sm - ((f2_20 y0 y1 y2) - y0))) = 0 ∨ ((fn3 (0 : Int32) ((f2_70''' sm y0 y1 y2) - (((f2_20 y0 y1 y2) - y0) - y1))) = y1 ∧ (fn3 (0 : Int32) ((f2_70'''' sm y0 y1 y2) - (f2_48' y0 y1 y2))) = y2)) ∧ ((fn3 (0 : Int32) ((f2_70''' sm y0 y1 y2) - (((f2_20 y0 y1 y2) - y0) - y1))) = 0 ∨ (fn3 (0 : Int32) ((f2_70'''' sm y0 y1 y2) - (f2_48' y0 y1 y2))) = y2) := by
  rw [Int32.lt_iff_toInt_lt] at hneg hbig
  rw [show (0 : Int32).toInt = 0 from rfl] at hneg
  have hR : ((((0 : Int32) + y0) + y1) + y2).toInt = y0.toInt + y1.toInt + y2.toInt := by rw [own_r3 y0 y1 y2]; exact own_room3 hy0 hy1 hy2
  simp only [f2_70, f2_48, f2_70', f2_70'', f2_20, f2_70''', f2_70'''', f2_48', f2_70''''']
  have S0 := own_step sm ((((0 : Int32) + y0) + y1) + y2) y0 (by omega) (by omega) (by omega) (by omega) (by omega)
  have S1 := own_step (sm - (fn3 (0 : Int32) (sm - (((((0 : Int32) + y0) + y1) + y2) - y0)))) (((((0 : Int32) + y0) + y1) + y2) - y0) y1 (by omega) (by omega) (by omega) (by omega) (by omega)
  have S2 := own_step ((sm - (fn3 (0 : Int32) (sm - (((((0 : Int32) + y0) + y1) + y2) - y0)))) - (fn3 (0 : Int32) ((sm - (fn3 (0 : Int32) (sm - (((((0 : Int32) + y0) + y1) + y2) - y0)))) - ((((((0 : Int32) + y0) + y1) + y2) - y0) - y1)))) ((((((0 : Int32) + y0) + y1) + y2) - y0) - y1) y2 (by omega) (by omega) (by omega) (by omega) (by omega)
  refine ⟨by omega, by omega, by omega, by omega, by omega, by omega, by omega, ?_, ?_⟩
  · by_cases q : (fn3 (0 : Int32) (sm - (((((0 : Int32) + y0) + y1) + y2) - y0))).toInt = 0
    · left; exact Int32.toInt_inj.mp (by rw [show (0 : Int32).toInt = 0 from rfl]; omega)
    · right; exact ⟨Int32.toInt_inj.mp (by omega), Int32.toInt_inj.mp (by omega)⟩
  · by_cases q : (fn3 (0 : Int32) ((sm - (fn3 (0 : Int32) (sm - (((((0 : Int32) + y0) + y1) + y2) - y0)))) - ((((((0 : Int32) + y0) + y1) + y2) - y0) - y1))).toInt = 0
    · left; exact Int32.toInt_inj.mp (by rw [show (0 : Int32).toInt = 0 from rfl]; omega)
    · right; exact Int32.toInt_inj.mp (by omega)
set_option maxRecDepth 65536 in
set_option maxHeartbeats 40000000 in
theorem rm0 (l : Launch) (Z : State) (a0 : Array Value) (hw : ∀ d ∈ tables_1, d.before a0 Z = true) (ws : List Jvm.Cond) (i0 : Int32) (i1 : Int32) (i2 : Int32) (i3 : Int32) (i4 : Int32) (h0 : Heap) (n0 : Nat) (Z0 : n0 ≤ h0.size) : MetP l x code maxLocals ret ws room_1 Z #[(.int i0), (.int i1), (.int i2), (.int i3), (.int i4)] h0 (fun v h L => v = some (.int (1 : Int32)) ∧ Fr n0 L) := by
  refine met_go pn_0 ?_
  intro p e s m below meth c s₁ hx hby hml hown hnm hret hlk hZ e0 X0
  have N0 := Fr.nil n0
  rw [ef_0 m i0 i1 i2 i3 i4]
  refine o_iload 2 X0 hx rfl (hb hby at_0) rfl ?_
  refine o_iconst 3 X0 hx rfl (hb hby at_2) (3 : Int32) rfl ?_
  refine o_iand 4 X0 hx rfl (hb hby at_3) ?_
  refine o_istore 6 X0 hx rfl (hb hby at_4) #[.val (.int i0), .val (.int i1), .val (.int i2), .val (.int i3), .val (.int i4), .val (.int (i4 &&& (3 : Int32))), .unset, .unset, .unset, .unset, .unset, .unset, .unset, .unset, .unset, .unset, .unset, .unset, .unset, .unset, .unset] rfl ?_
  have hcase := own_cases i4
  generalize (i4 &&& (3 : Int32)) = n at hcase ⊢
  rcases hcase with rfl | rfl | rfl | rfl
  · refine o_iload 8 X0 hx rfl (hb hby at_6) rfl ?_
    refine o_ifYes 18 X0 hx (hb hby at_8) (flt (show ¬ ((0 : Int32) < (0 : Int32)) by decide)).2.2.2 (by decide) (by decide) ?_
    refine o_iconst 19 X0 hx rfl (hb hby at_18) (0 : Int32) rfl ?_
    refine o_istore 21 X0 hx rfl (hb hby at_19) #[.val (.int i0), .val (.int i1), .val (.int i2), .val (.int i3), .val (.int i4), .val (.int (0 : Int32)), .val (.int (0 : Int32)), .unset, .unset, .unset, .unset, .unset, .unset, .unset, .unset, .unset, .unset, .unset, .unset, .unset, .unset] rfl ?_
    refine o_iload 23 X0 hx rfl (hb hby at_21) rfl ?_
    refine o_iconst 24 X0 hx rfl (hb hby at_23) (1 : Int32) rfl ?_
    refine o_icmpYes 34 X0 hx (hb hby at_24) (flt (show ¬ ((1 : Int32) < (0 : Int32)) by decide)).2.2.2 (by decide) (by decide) ?_
    refine o_iconst 35 X0 hx rfl (hb hby at_34) (0 : Int32) rfl ?_
    refine o_istore 37 X0 hx rfl (hb hby at_35) #[.val (.int i0), .val (.int i1), .val (.int i2), .val (.int i3), .val (.int i4), .val (.int (0 : Int32)), .val (.int (0 : Int32)), .val (.int (0 : Int32)), .unset, .unset, .unset, .unset, .unset, .unset, .unset, .unset, .unset, .unset, .unset, .unset, .unset] rfl ?_
    refine o_iload 39 X0 hx rfl (hb hby at_37) rfl ?_
    refine o_iconst 40 X0 hx rfl (hb hby at_39) (2 : Int32) rfl ?_
    refine o_icmpYes 50 X0 hx (hb hby at_40) (flt (show ¬ ((2 : Int32) < (0 : Int32)) by decide)).2.2.2 (by decide) (by decide) ?_
    refine o_iconst 51 X0 hx rfl (hb hby at_50) (0 : Int32) rfl ?_
    refine o_istore 53 X0 hx rfl (hb hby at_51) #[.val (.int i0), .val (.int i1), .val (.int i2), .val (.int i3), .val (.int i4), .val (.int (0 : Int32)), .val (.int (0 : Int32)), .val (.int (0 : Int32)), .val (.int (0 : Int32)), .unset, .unset, .unset, .unset, .unset, .unset, .unset, .unset, .unset, .unset, .unset, .unset] rfl ?_
    refine o_iload 55 X0 hx rfl (hb hby at_53) rfl ?_
    refine o_newarrI 57 X0 hx rfl hZ .int .int rfl rfl (wd_0 hw) e0 (hb hby at_55) (by decide) 0 (by decide) (by decide) (by decide) (by decide) ([] : List Int32) rfl fun T1 h1 a1 k1 g1 X1 e1 E1 A1 => ?_
    have ge2 : n0 ≤ a1 := Nat.le_trans Z0 (Nat.le_of_eq g1.symm)
    have sz3 : n0 ≤ h1.size := Nat.le_trans Z0 E1.1
    refine o_astore 59 X1 hx rfl (hb hby at_57) rfl #[.val (.int i0), .val (.int i1), .val (.int i2), .val (.int i3), .val (.int i4), .val (.int (0 : Int32)), .val (.int (0 : Int32)), .val (.int (0 : Int32)), .val (.int (0 : Int32)), .val (.ref a1), .unset, .unset, .unset, .unset, .unset, .unset, .unset, .unset, .unset, .unset, .unset] rfl ?_
    refine o_iload 61 X1 hx rfl (hb hby at_59) rfl ?_
    refine o_ifYes 70 X1 hx (hb hby at_61) (flt (show ¬ ((0 : Int32) < (0 : Int32)) by decide)).2.2.2 (by decide) (by decide) ?_
    refine o_iload 72 X1 hx rfl (hb hby at_70) rfl ?_
    refine o_iconst 73 X1 hx rfl (hb hby at_72) (1 : Int32) rfl ?_
    refine o_icmpYes 82 X1 hx (hb hby at_73) (flt (show ¬ ((1 : Int32) < (0 : Int32)) by decide)).2.2.2 (by decide) (by decide) ?_
    refine o_iload 84 X1 hx rfl (hb hby at_82) rfl ?_
    refine o_iconst 85 X1 hx rfl (hb hby at_84) (2 : Int32) rfl ?_
    refine o_icmpYes 94 X1 hx (hb hby at_85) (flt (show ¬ ((2 : Int32) < (0 : Int32)) by decide)).2.2.2 (by decide) (by decide) ?_
    refine o_iload 96 X1 hx rfl (hb hby at_94) rfl ?_
    refine o_iload 98 X1 hx rfl (hb hby at_96) rfl ?_
    refine o_iadd 99 X1 hx rfl (hb hby at_98) ?_
    refine o_iload 101 X1 hx rfl (hb hby at_99) rfl ?_
    refine o_iadd 102 X1 hx rfl (hb hby at_101) ?_
    refine o_istore 104 X1 hx rfl (hb hby at_102) #[.val (.int i0), .val (.int i1), .val (.int i2), .val (.int i3), .val (.int i4), .val (.int (0 : Int32)), .val (.int (0 : Int32)), .val (.int (0 : Int32)), .val (.int (0 : Int32)), .val (.ref a1), .val (.int (0 : Int32)), .unset, .unset, .unset, .unset, .unset, .unset, .unset, .unset, .unset, .unset] rfl ?_
    have hrm : (0 : Int32).toInt = 0 := rfl
    refine o_iload 106 X1 hx rfl (hb hby at_104) rfl ?_
    refine o_iconst 107 X1 hx rfl (hb hby at_106) (4 : Int32) rfl ?_
    refine o_iand 108 X1 hx rfl (hb hby at_107) ?_
    by_cases hc108_4 : (i4 &&& (4 : Int32)) = (0 : Int32)
    · refine o_ifYes 115 X1 hx (hb hby at_108) (teq hc108_4).1 (by decide) (by decide) ?_
      refine o_iloadN 116 X1 hx rfl (hb hby at_115) rfl ?_
      refine o_ldcInt 118 X1 hx rfl hZ hown (wd_1 hw) (hb hby at_116) ?_
      refine o_iand 119 X1 hx rfl (hb hby at_118) ?_
      refine o_iload 121 X1 hx rfl (hb hby at_119) rfl ?_
      refine o_iconst 122 X1 hx rfl (hb hby at_121) (3 : Int32) rfl ?_
      refine o_iadd 123 X1 hx rfl (hb hby at_122) ?_
      refine o_irem 124 X1 hx rfl (hb hby at_123) (by decide) ?_
      refine o_iconst 125 X1 hx rfl (hb hby at_124) (1 : Int32) rfl ?_
      refine o_isub 126 X1 hx rfl (hb hby at_125) ?_
      rw [show ((0 : Int32) + (3 : Int32)) = (3 : Int32) from rfl]
      obtain ⟨sm, hsm⟩ : ∃ sm, (((i3 &&& (2147483647 : Int32)) % (3 : Int32)) - (1 : Int32)) = sm := ⟨_, rfl⟩
      rw [hsm]
      refine o_istore 128 X1 hx rfl (hb hby at_126) #[.val (.int i0), .val (.int i1), .val (.int i2), .val (.int i3), .val (.int i4), .val (.int (0 : Int32)), .val (.int (0 : Int32)), .val (.int (0 : Int32)), .val (.int (0 : Int32)), .val (.ref a1), .val (.int (0 : Int32)), .val (.int sm), .unset, .unset, .unset, .unset, .unset, .unset, .unset, .unset, .unset] rfl ?_
      refine o_iload 130 X1 hx rfl (hb hby at_128) rfl ?_
      refine o_aload 132 X1 hx rfl (hb hby at_130) rfl rfl ?_
      have hroom : (0 : Int32) = (0 : Int32) := rfl
      by_cases hout : sm < (0 : Int32) ∨ (0 : Int32) < sm
      · refine o_callP (rv := .null) 135 X1 hx rfl hZ hown (wd_2 hw) (wd_3 hw) (wd_4 hw) (wd_5 hw) (by decide) e1 (rm1n_0 l Z a0 hw a1 k1 sm h1 A1 (by rw [hroom]; exact hout)) pd_lIaIraI [(.int sm), (.ref a1)] [] rfl rfl (by rw [hml]; rfl) rfl (hb hby at_132) 0 (Nat.le_of_eq rfl) (by decide) (by decide) (by decide) (by decide) rfl rfl fun T5 X5 e5 => ?_
        refine o_astore 137 X5 hx rfl (hb hby at_135) rfl #[.val (.int i0), .val (.int i1), .val (.int i2), .val (.int i3), .val (.int i4), .val (.int (0 : Int32)), .val (.int (0 : Int32)), .val (.int (0 : Int32)), .val (.int (0 : Int32)), .val (.ref a1), .val (.int (0 : Int32)), .val (.int sm), .val .null, .unset, .unset, .unset, .unset, .unset, .unset, .unset, .unset] rfl ?_
        refine o_iload 139 X5 hx rfl (hb hby at_137) rfl ?_
        refine o_iconst 140 X5 hx rfl (hb hby at_139) (1 : Int32) rfl ?_
        refine o_icmpYes 152 X5 hx (hb hby at_140) (tlt (show (0 : Int32) < (1 : Int32) by decide)).1 (by decide) (by decide) ?_
        refine o_iload 154 X5 hx rfl (hb hby at_152) rfl ?_
        refine o_iconst 155 X5 hx rfl (hb hby at_154) (2 : Int32) rfl ?_
        refine o_icmpYes 167 X5 hx (hb hby at_155) (tlt (show (0 : Int32) < (2 : Int32) by decide)).1 (by decide) (by decide) ?_
        refine o_iload 169 X5 hx rfl (hb hby at_167) rfl ?_
        refine o_iconst 170 X5 hx rfl (hb hby at_169) (3 : Int32) rfl ?_
        refine o_icmpYes 182 X5 hx (hb hby at_170) (tlt (show (0 : Int32) < (3 : Int32) by decide)).1 (by decide) (by decide) ?_
        refine o_iconst 183 X5 hx rfl (hb hby at_182) (1 : Int32) rfl ?_
        refine o_goto 187 X5 hx (hb hby at_183) (by decide) (by decide) ?_
        refine o_istore 189 X5 hx rfl (hb hby at_187) #[.val (.int i0), .val (.int i1), .val (.int i2), .val (.int i3), .val (.int i4), .val (.int (0 : Int32)), .val (.int (0 : Int32)), .val (.int (0 : Int32)), .val (.int (0 : Int32)), .val (.ref a1), .val (.int (0 : Int32)), .val (.int sm), .val .null, .val (.int (1 : Int32)), .unset, .unset, .unset, .unset, .unset, .unset, .unset] rfl ?_
        refine o_iload 191 X5 hx rfl (hb hby at_189) rfl ?_
        refine o_ifYes 196 X5 hx (hb hby at_191) (feq (show ¬ ((1 : Int32) = (0 : Int32)) by decide)).2 (by decide) (by decide) ?_
        refine o_iload 198 X5 hx rfl (hb hby at_196) rfl ?_
        by_cases hneg : sm < (0 : Int32)
        · refine o_ifYes 208 X5 hx (hb hby at_198) (tlt hneg).1 (by decide) (by decide) ?_
          refine o_aload 210 X5 hx rfl (hb hby at_208) rfl rfl ?_
          refine o_ifnonnullNo 213 X5 hx rfl (hb hby at_210) ?_
          refine o_iconst 214 X5 hx rfl (hb hby at_213) (1 : Int32) rfl ?_
          refine o_goto 218 X5 hx (hb hby at_214) (by decide) (by decide) ?_
          refine o_retN X5 hx .boolean (by simp) hret hlk (hb hby at_218) (by decide) (by decide) ?_
          exact ⟨rfl, N0⟩
        · refine o_ifNo 201 X5 hx rfl (hb hby at_198) (flt hneg).1 ?_
          refine o_iload 203 X5 hx rfl (hb hby at_201) rfl ?_
          refine o_iload 205 X5 hx rfl (hb hby at_203) rfl ?_
          refine o_icmpNo 208 X5 hx rfl (hb hby at_205) (tlt (hout.resolve_left hneg)).2.2.2 ?_
          refine o_aload 210 X5 hx rfl (hb hby at_208) rfl rfl ?_
          refine o_ifnonnullNo 213 X5 hx rfl (hb hby at_210) ?_
          refine o_iconst 214 X5 hx rfl (hb hby at_213) (1 : Int32) rfl ?_
          refine o_goto 218 X5 hx (hb hby at_214) (by decide) (by decide) ?_
          refine o_retN X5 hx .boolean (by simp) hret hlk (hb hby at_218) (by decide) (by decide) ?_
          exact ⟨rfl, N0⟩
      · have hneg : ¬ sm < (0 : Int32) := fun q => hout (Or.inl q)
        have hbig : ¬ (0 : Int32) < sm := fun q => hout (Or.inr q)
        refine o_callSw 135 X1 hx rfl hZ hown (wd_2 hw) (wd_3 hw) (wd_4 hw) (wd_5 hw) (by decide) e1 N0 (rm1v_0 l Z a0 hw a1 k1 sm h1 n0 sz3 A1 hneg (by rw [hroom]; exact hbig)) pd_lIaIraI [(.int sm), (.ref a1)] [] rfl rfl (by rw [hml]; rfl) rfl (hb hby at_132) 0 (Nat.le_of_eq rfl) (by decide) (by decide) (by decide) (by decide) fun v6 T6 L6 LL6 X6 Q6 NF6 => ?_
        obtain ⟨a6, k6, rfl, M6, K6, ga6, gz6, A6, Ac6⟩ := Q6
        have NN6 := NF6 M6
        have nev6 : a6 ≠ a1 := Nat.ne_of_gt (Nat.lt_of_lt_of_le A1.lt gz6)
        have sz7 : n0 ≤ T6.heap.size := Nat.le_trans sz3 K6.1
        show Go p.tables e below (EndE s room_1 (fun v h L => v = some (.int (1 : Int32)) ∧ Fr n0 L)) (T6.setTop (mkF m 135 #[.val (.int i0), .val (.int i1), .val (.int i2), .val (.int i3), .val (.int i4), .val (.int (0 : Int32)), .val (.int (0 : Int32)), .val (.int (0 : Int32)), .val (.int (0 : Int32)), .val (.ref a1), .val (.int (0 : Int32)), .val (.int sm), .unset, .unset, .unset, .unset, .unset, .unset, .unset, .unset, .unset] [(.ref a6)]))
        have HV := own_v0 sm 0 hrm hneg hbig
        refine o_astore 137 X6 hx rfl (hb hby at_135) rfl #[.val (.int i0), .val (.int i1), .val (.int i2), .val (.int i3), .val (.int i4), .val (.int (0 : Int32)), .val (.int (0 : Int32)), .val (.int (0 : Int32)), .val (.int (0 : Int32)), .val (.ref a1), .val (.int (0 : Int32)), .val (.int sm), .val (.ref a6), .unset, .unset, .unset, .unset, .unset, .unset, .unset, .unset] rfl ?_
        refine o_iload 139 X6 hx rfl (hb hby at_137) rfl ?_
        refine o_iconst 140 X6 hx rfl (hb hby at_139) (1 : Int32) rfl ?_
        refine o_icmpYes 152 X6 hx (hb hby at_140) (tlt (show (0 : Int32) < (1 : Int32) by decide)).1 (by decide) (by decide) ?_
        refine o_iload 154 X6 hx rfl (hb hby at_152) rfl ?_
        refine o_iconst 155 X6 hx rfl (hb hby at_154) (2 : Int32) rfl ?_
        refine o_icmpYes 167 X6 hx (hb hby at_155) (tlt (show (0 : Int32) < (2 : Int32) by decide)).1 (by decide) (by decide) ?_
        refine o_iload 169 X6 hx rfl (hb hby at_167) rfl ?_
        refine o_iconst 170 X6 hx rfl (hb hby at_169) (3 : Int32) rfl ?_
        refine o_icmpYes 182 X6 hx (hb hby at_170) (tlt (show (0 : Int32) < (3 : Int32) by decide)).1 (by decide) (by decide) ?_
        refine o_iconst 183 X6 hx rfl (hb hby at_182) (1 : Int32) rfl ?_
        refine o_goto 187 X6 hx (hb hby at_183) (by decide) (by decide) ?_
        refine o_istore 189 X6 hx rfl (hb hby at_187) #[.val (.int i0), .val (.int i1), .val (.int i2), .val (.int i3), .val (.int i4), .val (.int (0 : Int32)), .val (.int (0 : Int32)), .val (.int (0 : Int32)), .val (.int (0 : Int32)), .val (.ref a1), .val (.int (0 : Int32)), .val (.int sm), .val (.ref a6), .val (.int (1 : Int32)), .unset, .unset, .unset, .unset, .unset, .unset, .unset] rfl ?_
        refine o_iload 191 X6 hx rfl (hb hby at_189) rfl ?_
        refine o_ifYes 196 X6 hx (hb hby at_191) (feq (show ¬ ((1 : Int32) = (0 : Int32)) by decide)).2 (by decide) (by decide) ?_
        refine o_iload 198 X6 hx rfl (hb hby at_196) rfl ?_
        refine o_ifNo 201 X6 hx rfl (hb hby at_198) (flt hneg).1 ?_
        refine o_iload 203 X6 hx rfl (hb hby at_201) rfl ?_
        refine o_iload 205 X6 hx rfl (hb hby at_203) rfl ?_
        refine o_icmpYes 219 X6 hx (hb hby at_205) (flt hbig).2.2.2 (by decide) (by decide) ?_
        refine o_aload 221 X6 hx rfl (hb hby at_219) rfl rfl ?_
        refine o_ifnullNo 224 X6 hx rfl (hb hby at_221) ?_
        refine o_aload 226 X6 hx rfl (hb hby at_224) rfl rfl ?_
        refine o_alen 227 X6 hx rfl hZ rfl A6 (hb hby at_226) ?_
        refine o_iload 229 X6 hx rfl (hb hby at_227) rfl ?_
        refine o_icmpNo 232 X6 hx rfl (hb hby at_229) (teq rfl).2 ?_
        refine o_aload 234 X6 hx rfl (hb hby at_232) rfl rfl ?_
        refine o_aload 236 X6 hx rfl (hb hby at_234) rfl rfl ?_
        refine o_acmpne 241 X6 hx (hb hby at_236) nev6 (by decide) (by decide) ?_
        refine o_iload 243 X6 hx rfl (hb hby at_241) rfl ?_
        refine o_ifYes 253 X6 hx (hb hby at_243) (flt (show ¬ ((0 : Int32) < (0 : Int32)) by decide)).2.2.2 (by decide) (by decide) ?_
        refine o_iconst 254 X6 hx rfl (hb hby at_253) (0 : Int32) rfl ?_
        refine o_istore 256 X6 hx rfl (hb hby at_254) #[.val (.int i0), .val (.int i1), .val (.int i2), .val (.int i3), .val (.int i4), .val (.int (0 : Int32)), .val (.int (0 : Int32)), .val (.int (0 : Int32)), .val (.int (0 : Int32)), .val (.ref a1), .val (.int (0 : Int32)), .val (.int sm), .val (.ref a6), .val (.int (1 : Int32)), .val (.int (0 : Int32)), .unset, .unset, .unset, .unset, .unset, .unset] rfl ?_
        refine o_iload 258 X6 hx rfl (hb hby at_256) rfl ?_
        refine o_iconst 259 X6 hx rfl (hb hby at_258) (1 : Int32) rfl ?_
        refine o_icmpYes 269 X6 hx (hb hby at_259) (flt (show ¬ ((1 : Int32) < (0 : Int32)) by decide)).2.2.2 (by decide) (by decide) ?_
        refine o_iconst 270 X6 hx rfl (hb hby at_269) (0 : Int32) rfl ?_
        refine o_istore 272 X6 hx rfl (hb hby at_270) #[.val (.int i0), .val (.int i1), .val (.int i2), .val (.int i3), .val (.int i4), .val (.int (0 : Int32)), .val (.int (0 : Int32)), .val (.int (0 : Int32)), .val (.int (0 : Int32)), .val (.ref a1), .val (.int (0 : Int32)), .val (.int sm), .val (.ref a6), .val (.int (1 : Int32)), .val (.int (0 : Int32)), .val (.int (0 : Int32)), .unset, .unset, .unset, .unset, .unset] rfl ?_
        refine o_iload 274 X6 hx rfl (hb hby at_272) rfl ?_
        refine o_iconst 275 X6 hx rfl (hb hby at_274) (2 : Int32) rfl ?_
        refine o_icmpYes 285 X6 hx (hb hby at_275) (flt (show ¬ ((2 : Int32) < (0 : Int32)) by decide)).2.2.2 (by decide) (by decide) ?_
        refine o_iconst 286 X6 hx rfl (hb hby at_285) (0 : Int32) rfl ?_
        refine o_istore 288 X6 hx rfl (hb hby at_286) #[.val (.int i0), .val (.int i1), .val (.int i2), .val (.int i3), .val (.int i4), .val (.int (0 : Int32)), .val (.int (0 : Int32)), .val (.int (0 : Int32)), .val (.int (0 : Int32)), .val (.ref a1), .val (.int (0 : Int32)), .val (.int sm), .val (.ref a6), .val (.int (1 : Int32)), .val (.int (0 : Int32)), .val (.int (0 : Int32)), .val (.int (0 : Int32)), .unset, .unset, .unset, .unset] rfl ?_
        refine o_iload 290 X6 hx rfl (hb hby at_288) rfl ?_
        refine o_ifNo 293 X6 hx rfl (hb hby at_290) (flt (show ¬ ((0 : Int32) < (0 : Int32)) by decide)).1 ?_
        refine o_iload 295 X6 hx rfl (hb hby at_293) rfl ?_
        refine o_iload 297 X6 hx rfl (hb hby at_295) rfl ?_
        refine o_icmpNo 300 X6 hx rfl (hb hby at_297) (flt (show ¬ ((0 : Int32) < (0 : Int32)) by decide)).2.2.1 ?_
        refine o_iload 302 X6 hx rfl (hb hby at_300) rfl ?_
        refine o_ifNo 305 X6 hx rfl (hb hby at_302) (flt (show ¬ ((0 : Int32) < (0 : Int32)) by decide)).1 ?_
        refine o_iload 307 X6 hx rfl (hb hby at_305) rfl ?_
        refine o_iload 309 X6 hx rfl (hb hby at_307) rfl ?_
        refine o_icmpNo 312 X6 hx rfl (hb hby at_309) (flt (show ¬ ((0 : Int32) < (0 : Int32)) by decide)).2.2.1 ?_
        refine o_iload 314 X6 hx rfl (hb hby at_312) rfl ?_
        refine o_ifNo 317 X6 hx rfl (hb hby at_314) (flt (show ¬ ((0 : Int32) < (0 : Int32)) by decide)).1 ?_
        refine o_iload 319 X6 hx rfl (hb hby at_317) rfl ?_
        refine o_iload 321 X6 hx rfl (hb hby at_319) rfl ?_
        refine o_icmpNo 324 X6 hx rfl (hb hby at_321) (flt (show ¬ ((0 : Int32) < (0 : Int32)) by decide)).2.2.1 ?_
        refine o_iconst 325 X6 hx rfl (hb hby at_324) (1 : Int32) rfl ?_
        refine o_goto 329 X6 hx (hb hby at_325) (by decide) (by decide) ?_
        refine o_istore 331 X6 hx rfl (hb hby at_329) #[.val (.int i0), .val (.int i1), .val (.int i2), .val (.int i3), .val (.int i4), .val (.int (0 : Int32)), .val (.int (0 : Int32)), .val (.int (0 : Int32)), .val (.int (0 : Int32)), .val (.ref a1), .val (.int (0 : Int32)), .val (.int sm), .val (.ref a6), .val (.int (1 : Int32)), .val (.int (0 : Int32)), .val (.int (0 : Int32)), .val (.int (0 : Int32)), .val (.int (1 : Int32)), .unset, .unset, .unset] rfl ?_
        refine o_iload 333 X6 hx rfl (hb hby at_331) rfl ?_
        refine o_ifYes 338 X6 hx (hb hby at_333) (feq (show ¬ ((1 : Int32) = (0 : Int32)) by decide)).2 (by decide) (by decide) ?_
        refine o_iload 340 X6 hx rfl (hb hby at_338) rfl ?_
        refine o_i2l 341 X6 hx rfl (hb hby at_340) ?_
        refine o_iload 343 X6 hx rfl (hb hby at_341) rfl ?_
        refine o_i2l 344 X6 hx rfl (hb hby at_343) ?_
        refine o_ladd 345 X6 hx rfl (hb hby at_344) ?_
        refine o_iload 347 X6 hx rfl (hb hby at_345) rfl ?_
        refine o_i2l 348 X6 hx rfl (hb hby at_347) ?_
        refine o_ladd 349 X6 hx rfl (hb hby at_348) ?_
        refine o_lstore 351 X6 hx rfl (hb hby at_349) #[.val (.int i0), .val (.int i1), .val (.int i2), .val (.int i3), .val (.int i4), .val (.int (0 : Int32)), .val (.int (0 : Int32)), .val (.int (0 : Int32)), .val (.int (0 : Int32)), .val (.ref a1), .val (.int (0 : Int32)), .val (.int sm), .val (.ref a6), .val (.int (1 : Int32)), .val (.int (0 : Int32)), .val (.int (0 : Int32)), .val (.int (0 : Int32)), .val (.int (1 : Int32)), .val (.long ((((0 : Int32).toInt64) + ((0 : Int32).toInt64)) + ((0 : Int32).toInt64))), .second, .unset] rfl ?_
        refine o_lload 353 X6 hx rfl (hb hby at_351) rfl ?_
        refine o_iload 355 X6 hx rfl (hb hby at_353) rfl ?_
        refine o_i2l 356 X6 hx rfl (hb hby at_355) ?_
        refine o_lcmp 357 X6 hx rfl (hb hby at_356) ?_
        refine o_ifYes 362 X6 hx (hb hby at_357) (teq (l_teq (own_t0 HV))).1 (by decide) (by decide) ?_
        refine o_iload 364 X6 hx rfl (hb hby at_362) rfl ?_
        refine o_ifYes 381 X6 hx (hb hby at_364) (teq (show (0 : Int32) = (0 : Int32) by decide)).1 (by decide) (by decide) ?_
        refine o_iload 383 X6 hx rfl (hb hby at_381) rfl ?_
        refine o_ifYes 393 X6 hx (hb hby at_383) (teq (show (0 : Int32) = (0 : Int32) by decide)).1 (by decide) (by decide) ?_
        refine o_iconst 394 X6 hx rfl (hb hby at_393) (1 : Int32) rfl ?_
        refine o_goto 398 X6 hx (hb hby at_394) (by decide) (by decide) ?_
        refine o_istore 400 X6 hx rfl (hb hby at_398) #[.val (.int i0), .val (.int i1), .val (.int i2), .val (.int i3), .val (.int i4), .val (.int (0 : Int32)), .val (.int (0 : Int32)), .val (.int (0 : Int32)), .val (.int (0 : Int32)), .val (.ref a1), .val (.int (0 : Int32)), .val (.int sm), .val (.ref a6), .val (.int (1 : Int32)), .val (.int (0 : Int32)), .val (.int (0 : Int32)), .val (.int (0 : Int32)), .val (.int (1 : Int32)), .val (.long ((((0 : Int32).toInt64) + ((0 : Int32).toInt64)) + ((0 : Int32).toInt64))), .second, .val (.int (1 : Int32))] rfl ?_
        refine o_iload 402 X6 hx rfl (hb hby at_400) rfl ?_
        refine o_retN X6 hx .boolean (by simp) hret hlk (hb hby at_402) (by decide) (by decide) ?_
        exact ⟨rfl, NN6⟩
    · refine o_ifNo 111 X1 hx rfl (hb hby at_108) (feq hc108_4).1 ?_
      refine o_iloadN 112 X1 hx rfl (hb hby at_111) rfl ?_
      refine o_goto 126 X1 hx (hb hby at_112) (by decide) (by decide) ?_
      obtain ⟨sm, hsm⟩ : ∃ sm, i3 = sm := ⟨_, rfl⟩
      rw [hsm]
      refine o_istore 128 X1 hx rfl (hb hby at_126) #[.val (.int i0), .val (.int i1), .val (.int i2), .val (.int sm), .val (.int i4), .val (.int (0 : Int32)), .val (.int (0 : Int32)), .val (.int (0 : Int32)), .val (.int (0 : Int32)), .val (.ref a1), .val (.int (0 : Int32)), .val (.int sm), .unset, .unset, .unset, .unset, .unset, .unset, .unset, .unset, .unset] rfl ?_
      refine o_iload 130 X1 hx rfl (hb hby at_128) rfl ?_
      refine o_aload 132 X1 hx rfl (hb hby at_130) rfl rfl ?_
      have hroom : (0 : Int32) = (0 : Int32) := rfl
      by_cases hout : sm < (0 : Int32) ∨ (0 : Int32) < sm
      · refine o_callP (rv := .null) 135 X1 hx rfl hZ hown (wd_2 hw) (wd_3 hw) (wd_4 hw) (wd_5 hw) (by decide) e1 (rm1n_0 l Z a0 hw a1 k1 sm h1 A1 (by rw [hroom]; exact hout)) pd_lIaIraI [(.int sm), (.ref a1)] [] rfl rfl (by rw [hml]; rfl) rfl (hb hby at_132) 0 (Nat.le_of_eq rfl) (by decide) (by decide) (by decide) (by decide) rfl rfl fun T8 X8 e8 => ?_
        refine o_astore 137 X8 hx rfl (hb hby at_135) rfl #[.val (.int i0), .val (.int i1), .val (.int i2), .val (.int sm), .val (.int i4), .val (.int (0 : Int32)), .val (.int (0 : Int32)), .val (.int (0 : Int32)), .val (.int (0 : Int32)), .val (.ref a1), .val (.int (0 : Int32)), .val (.int sm), .val .null, .unset, .unset, .unset, .unset, .unset, .unset, .unset, .unset] rfl ?_
        refine o_iload 139 X8 hx rfl (hb hby at_137) rfl ?_
        refine o_iconst 140 X8 hx rfl (hb hby at_139) (1 : Int32) rfl ?_
        refine o_icmpYes 152 X8 hx (hb hby at_140) (tlt (show (0 : Int32) < (1 : Int32) by decide)).1 (by decide) (by decide) ?_
        refine o_iload 154 X8 hx rfl (hb hby at_152) rfl ?_
        refine o_iconst 155 X8 hx rfl (hb hby at_154) (2 : Int32) rfl ?_
        refine o_icmpYes 167 X8 hx (hb hby at_155) (tlt (show (0 : Int32) < (2 : Int32) by decide)).1 (by decide) (by decide) ?_
        refine o_iload 169 X8 hx rfl (hb hby at_167) rfl ?_
        refine o_iconst 170 X8 hx rfl (hb hby at_169) (3 : Int32) rfl ?_
        refine o_icmpYes 182 X8 hx (hb hby at_170) (tlt (show (0 : Int32) < (3 : Int32) by decide)).1 (by decide) (by decide) ?_
        refine o_iconst 183 X8 hx rfl (hb hby at_182) (1 : Int32) rfl ?_
        refine o_goto 187 X8 hx (hb hby at_183) (by decide) (by decide) ?_
        refine o_istore 189 X8 hx rfl (hb hby at_187) #[.val (.int i0), .val (.int i1), .val (.int i2), .val (.int sm), .val (.int i4), .val (.int (0 : Int32)), .val (.int (0 : Int32)), .val (.int (0 : Int32)), .val (.int (0 : Int32)), .val (.ref a1), .val (.int (0 : Int32)), .val (.int sm), .val .null, .val (.int (1 : Int32)), .unset, .unset, .unset, .unset, .unset, .unset, .unset] rfl ?_
        refine o_iload 191 X8 hx rfl (hb hby at_189) rfl ?_
        refine o_ifYes 196 X8 hx (hb hby at_191) (feq (show ¬ ((1 : Int32) = (0 : Int32)) by decide)).2 (by decide) (by decide) ?_
        refine o_iload 198 X8 hx rfl (hb hby at_196) rfl ?_
        by_cases hneg : sm < (0 : Int32)
        · refine o_ifYes 208 X8 hx (hb hby at_198) (tlt hneg).1 (by decide) (by decide) ?_
          refine o_aload 210 X8 hx rfl (hb hby at_208) rfl rfl ?_
          refine o_ifnonnullNo 213 X8 hx rfl (hb hby at_210) ?_
          refine o_iconst 214 X8 hx rfl (hb hby at_213) (1 : Int32) rfl ?_
          refine o_goto 218 X8 hx (hb hby at_214) (by decide) (by decide) ?_
          refine o_retN X8 hx .boolean (by simp) hret hlk (hb hby at_218) (by decide) (by decide) ?_
          exact ⟨rfl, N0⟩
        · refine o_ifNo 201 X8 hx rfl (hb hby at_198) (flt hneg).1 ?_
          refine o_iload 203 X8 hx rfl (hb hby at_201) rfl ?_
          refine o_iload 205 X8 hx rfl (hb hby at_203) rfl ?_
          refine o_icmpNo 208 X8 hx rfl (hb hby at_205) (tlt (hout.resolve_left hneg)).2.2.2 ?_
          refine o_aload 210 X8 hx rfl (hb hby at_208) rfl rfl ?_
          refine o_ifnonnullNo 213 X8 hx rfl (hb hby at_210) ?_
          refine o_iconst 214 X8 hx rfl (hb hby at_213) (1 : Int32) rfl ?_
          refine o_goto 218 X8 hx (hb hby at_214) (by decide) (by decide) ?_
          refine o_retN X8 hx .boolean (by simp) hret hlk (hb hby at_218) (by decide) (by decide) ?_
          exact ⟨rfl, N0⟩
      · have hneg : ¬ sm < (0 : Int32) := fun q => hout (Or.inl q)
        have hbig : ¬ (0 : Int32) < sm := fun q => hout (Or.inr q)
        refine o_callSw 135 X1 hx rfl hZ hown (wd_2 hw) (wd_3 hw) (wd_4 hw) (wd_5 hw) (by decide) e1 N0 (rm1v_0 l Z a0 hw a1 k1 sm h1 n0 sz3 A1 hneg (by rw [hroom]; exact hbig)) pd_lIaIraI [(.int sm), (.ref a1)] [] rfl rfl (by rw [hml]; rfl) rfl (hb hby at_132) 0 (Nat.le_of_eq rfl) (by decide) (by decide) (by decide) (by decide) fun v9 T9 L9 LL9 X9 Q9 NF9 => ?_
        obtain ⟨a9, k9, rfl, M9, K9, ga9, gz9, A9, Ac9⟩ := Q9
        have NN9 := NF9 M9
        have nev9 : a9 ≠ a1 := Nat.ne_of_gt (Nat.lt_of_lt_of_le A1.lt gz9)
        have sz10 : n0 ≤ T9.heap.size := Nat.le_trans sz3 K9.1
        show Go p.tables e below (EndE s room_1 (fun v h L => v = some (.int (1 : Int32)) ∧ Fr n0 L)) (T9.setTop (mkF m 135 #[.val (.int i0), .val (.int i1), .val (.int i2), .val (.int sm), .val (.int i4), .val (.int (0 : Int32)), .val (.int (0 : Int32)), .val (.int (0 : Int32)), .val (.int (0 : Int32)), .val (.ref a1), .val (.int (0 : Int32)), .val (.int sm), .unset, .unset, .unset, .unset, .unset, .unset, .unset, .unset, .unset] [(.ref a9)]))
        have HV := own_v0 sm 0 hrm hneg hbig
        refine o_astore 137 X9 hx rfl (hb hby at_135) rfl #[.val (.int i0), .val (.int i1), .val (.int i2), .val (.int sm), .val (.int i4), .val (.int (0 : Int32)), .val (.int (0 : Int32)), .val (.int (0 : Int32)), .val (.int (0 : Int32)), .val (.ref a1), .val (.int (0 : Int32)), .val (.int sm), .val (.ref a9), .unset, .unset, .unset, .unset, .unset, .unset, .unset, .unset] rfl ?_
        refine o_iload 139 X9 hx rfl (hb hby at_137) rfl ?_
        refine o_iconst 140 X9 hx rfl (hb hby at_139) (1 : Int32) rfl ?_
        refine o_icmpYes 152 X9 hx (hb hby at_140) (tlt (show (0 : Int32) < (1 : Int32) by decide)).1 (by decide) (by decide) ?_
        refine o_iload 154 X9 hx rfl (hb hby at_152) rfl ?_
        refine o_iconst 155 X9 hx rfl (hb hby at_154) (2 : Int32) rfl ?_
        refine o_icmpYes 167 X9 hx (hb hby at_155) (tlt (show (0 : Int32) < (2 : Int32) by decide)).1 (by decide) (by decide) ?_
        refine o_iload 169 X9 hx rfl (hb hby at_167) rfl ?_
        refine o_iconst 170 X9 hx rfl (hb hby at_169) (3 : Int32) rfl ?_
        refine o_icmpYes 182 X9 hx (hb hby at_170) (tlt (show (0 : Int32) < (3 : Int32) by decide)).1 (by decide) (by decide) ?_
        refine o_iconst 183 X9 hx rfl (hb hby at_182) (1 : Int32) rfl ?_
        refine o_goto 187 X9 hx (hb hby at_183) (by decide) (by decide) ?_
        refine o_istore 189 X9 hx rfl (hb hby at_187) #[.val (.int i0), .val (.int i1), .val (.int i2), .val (.int sm), .val (.int i4), .val (.int (0 : Int32)), .val (.int (0 : Int32)), .val (.int (0 : Int32)), .val (.int (0 : Int32)), .val (.ref a1), .val (.int (0 : Int32)), .val (.int sm), .val (.ref a9), .val (.int (1 : Int32)), .unset, .unset, .unset, .unset, .unset, .unset, .unset] rfl ?_
        refine o_iload 191 X9 hx rfl (hb hby at_189) rfl ?_
        refine o_ifYes 196 X9 hx (hb hby at_191) (feq (show ¬ ((1 : Int32) = (0 : Int32)) by decide)).2 (by decide) (by decide) ?_
        refine o_iload 198 X9 hx rfl (hb hby at_196) rfl ?_
        refine o_ifNo 201 X9 hx rfl (hb hby at_198) (flt hneg).1 ?_
        refine o_iload 203 X9 hx rfl (hb hby at_201) rfl ?_
        refine o_iload 205 X9 hx rfl (hb hby at_203) rfl ?_
        refine o_icmpYes 219 X9 hx (hb hby at_205) (flt hbig).2.2.2 (by decide) (by decide) ?_
        refine o_aload 221 X9 hx rfl (hb hby at_219) rfl rfl ?_
        refine o_ifnullNo 224 X9 hx rfl (hb hby at_221) ?_
        refine o_aload 226 X9 hx rfl (hb hby at_224) rfl rfl ?_
        refine o_alen 227 X9 hx rfl hZ rfl A9 (hb hby at_226) ?_
        refine o_iload 229 X9 hx rfl (hb hby at_227) rfl ?_
        refine o_icmpNo 232 X9 hx rfl (hb hby at_229) (teq rfl).2 ?_
        refine o_aload 234 X9 hx rfl (hb hby at_232) rfl rfl ?_
        refine o_aload 236 X9 hx rfl (hb hby at_234) rfl rfl ?_
        refine o_acmpne 241 X9 hx (hb hby at_236) nev9 (by decide) (by decide) ?_
        refine o_iload 243 X9 hx rfl (hb hby at_241) rfl ?_
        refine o_ifYes 253 X9 hx (hb hby at_243) (flt (show ¬ ((0 : Int32) < (0 : Int32)) by decide)).2.2.2 (by decide) (by decide) ?_
        refine o_iconst 254 X9 hx rfl (hb hby at_253) (0 : Int32) rfl ?_
        refine o_istore 256 X9 hx rfl (hb hby at_254) #[.val (.int i0), .val (.int i1), .val (.int i2), .val (.int sm), .val (.int i4), .val (.int (0 : Int32)), .val (.int (0 : Int32)), .val (.int (0 : Int32)), .val (.int (0 : Int32)), .val (.ref a1), .val (.int (0 : Int32)), .val (.int sm), .val (.ref a9), .val (.int (1 : Int32)), .val (.int (0 : Int32)), .unset, .unset, .unset, .unset, .unset, .unset] rfl ?_
        refine o_iload 258 X9 hx rfl (hb hby at_256) rfl ?_
        refine o_iconst 259 X9 hx rfl (hb hby at_258) (1 : Int32) rfl ?_
        refine o_icmpYes 269 X9 hx (hb hby at_259) (flt (show ¬ ((1 : Int32) < (0 : Int32)) by decide)).2.2.2 (by decide) (by decide) ?_
        refine o_iconst 270 X9 hx rfl (hb hby at_269) (0 : Int32) rfl ?_
        refine o_istore 272 X9 hx rfl (hb hby at_270) #[.val (.int i0), .val (.int i1), .val (.int i2), .val (.int sm), .val (.int i4), .val (.int (0 : Int32)), .val (.int (0 : Int32)), .val (.int (0 : Int32)), .val (.int (0 : Int32)), .val (.ref a1), .val (.int (0 : Int32)), .val (.int sm), .val (.ref a9), .val (.int (1 : Int32)), .val (.int (0 : Int32)), .val (.int (0 : Int32)), .unset, .unset, .unset, .unset, .unset] rfl ?_
        refine o_iload 274 X9 hx rfl (hb hby at_272) rfl ?_
        refine o_iconst 275 X9 hx rfl (hb hby at_274) (2 : Int32) rfl ?_
        refine o_icmpYes 285 X9 hx (hb hby at_275) (flt (show ¬ ((2 : Int32) < (0 : Int32)) by decide)).2.2.2 (by decide) (by decide) ?_
        refine o_iconst 286 X9 hx rfl (hb hby at_285) (0 : Int32) rfl ?_
        refine o_istore 288 X9 hx rfl (hb hby at_286) #[.val (.int i0), .val (.int i1), .val (.int i2), .val (.int sm), .val (.int i4), .val (.int (0 : Int32)), .val (.int (0 : Int32)), .val (.int (0 : Int32)), .val (.int (0 : Int32)), .val (.ref a1), .val (.int (0 : Int32)), .val (.int sm), .val (.ref a9), .val (.int (1 : Int32)), .val (.int (0 : Int32)), .val (.int (0 : Int32)), .val (.int (0 : Int32)), .unset, .unset, .unset, .unset] rfl ?_
        refine o_iload 290 X9 hx rfl (hb hby at_288) rfl ?_
        refine o_ifNo 293 X9 hx rfl (hb hby at_290) (flt (show ¬ ((0 : Int32) < (0 : Int32)) by decide)).1 ?_
        refine o_iload 295 X9 hx rfl (hb hby at_293) rfl ?_
        refine o_iload 297 X9 hx rfl (hb hby at_295) rfl ?_
        refine o_icmpNo 300 X9 hx rfl (hb hby at_297) (flt (show ¬ ((0 : Int32) < (0 : Int32)) by decide)).2.2.1 ?_
        refine o_iload 302 X9 hx rfl (hb hby at_300) rfl ?_
        refine o_ifNo 305 X9 hx rfl (hb hby at_302) (flt (show ¬ ((0 : Int32) < (0 : Int32)) by decide)).1 ?_
        refine o_iload 307 X9 hx rfl (hb hby at_305) rfl ?_
        refine o_iload 309 X9 hx rfl (hb hby at_307) rfl ?_
        refine o_icmpNo 312 X9 hx rfl (hb hby at_309) (flt (show ¬ ((0 : Int32) < (0 : Int32)) by decide)).2.2.1 ?_
        refine o_iload 314 X9 hx rfl (hb hby at_312) rfl ?_
        refine o_ifNo 317 X9 hx rfl (hb hby at_314) (flt (show ¬ ((0 : Int32) < (0 : Int32)) by decide)).1 ?_
        refine o_iload 319 X9 hx rfl (hb hby at_317) rfl ?_
        refine o_iload 321 X9 hx rfl (hb hby at_319) rfl ?_
        refine o_icmpNo 324 X9 hx rfl (hb hby at_321) (flt (show ¬ ((0 : Int32) < (0 : Int32)) by decide)).2.2.1 ?_
        refine o_iconst 325 X9 hx rfl (hb hby at_324) (1 : Int32) rfl ?_
        refine o_goto 329 X9 hx (hb hby at_325) (by decide) (by decide) ?_
        refine o_istore 331 X9 hx rfl (hb hby at_329) #[.val (.int i0), .val (.int i1), .val (.int i2), .val (.int sm), .val (.int i4), .val (.int (0 : Int32)), .val (.int (0 : Int32)), .val (.int (0 : Int32)), .val (.int (0 : Int32)), .val (.ref a1), .val (.int (0 : Int32)), .val (.int sm), .val (.ref a9), .val (.int (1 : Int32)), .val (.int (0 : Int32)), .val (.int (0 : Int32)), .val (.int (0 : Int32)), .val (.int (1 : Int32)), .unset, .unset, .unset] rfl ?_
        refine o_iload 333 X9 hx rfl (hb hby at_331) rfl ?_
        refine o_ifYes 338 X9 hx (hb hby at_333) (feq (show ¬ ((1 : Int32) = (0 : Int32)) by decide)).2 (by decide) (by decide) ?_
        refine o_iload 340 X9 hx rfl (hb hby at_338) rfl ?_
        refine o_i2l 341 X9 hx rfl (hb hby at_340) ?_
        refine o_iload 343 X9 hx rfl (hb hby at_341) rfl ?_
        refine o_i2l 344 X9 hx rfl (hb hby at_343) ?_
        refine o_ladd 345 X9 hx rfl (hb hby at_344) ?_
        refine o_iload 347 X9 hx rfl (hb hby at_345) rfl ?_
        refine o_i2l 348 X9 hx rfl (hb hby at_347) ?_
        refine o_ladd 349 X9 hx rfl (hb hby at_348) ?_
        refine o_lstore 351 X9 hx rfl (hb hby at_349) #[.val (.int i0), .val (.int i1), .val (.int i2), .val (.int sm), .val (.int i4), .val (.int (0 : Int32)), .val (.int (0 : Int32)), .val (.int (0 : Int32)), .val (.int (0 : Int32)), .val (.ref a1), .val (.int (0 : Int32)), .val (.int sm), .val (.ref a9), .val (.int (1 : Int32)), .val (.int (0 : Int32)), .val (.int (0 : Int32)), .val (.int (0 : Int32)), .val (.int (1 : Int32)), .val (.long ((((0 : Int32).toInt64) + ((0 : Int32).toInt64)) + ((0 : Int32).toInt64))), .second, .unset] rfl ?_
        refine o_lload 353 X9 hx rfl (hb hby at_351) rfl ?_
        refine o_iload 355 X9 hx rfl (hb hby at_353) rfl ?_
        refine o_i2l 356 X9 hx rfl (hb hby at_355) ?_
        refine o_lcmp 357 X9 hx rfl (hb hby at_356) ?_
        refine o_ifYes 362 X9 hx (hb hby at_357) (teq (l_teq (own_t0 HV))).1 (by decide) (by decide) ?_
        refine o_iload 364 X9 hx rfl (hb hby at_362) rfl ?_
        refine o_ifYes 381 X9 hx (hb hby at_364) (teq (show (0 : Int32) = (0 : Int32) by decide)).1 (by decide) (by decide) ?_
        refine o_iload 383 X9 hx rfl (hb hby at_381) rfl ?_
        refine o_ifYes 393 X9 hx (hb hby at_383) (teq (show (0 : Int32) = (0 : Int32) by decide)).1 (by decide) (by decide) ?_
        refine o_iconst 394 X9 hx rfl (hb hby at_393) (1 : Int32) rfl ?_
        refine o_goto 398 X9 hx (hb hby at_394) (by decide) (by decide) ?_
        refine o_istore 400 X9 hx rfl (hb hby at_398) #[.val (.int i0), .val (.int i1), .val (.int i2), .val (.int sm), .val (.int i4), .val (.int (0 : Int32)), .val (.int (0 : Int32)), .val (.int (0 : Int32)), .val (.int (0 : Int32)), .val (.ref a1), .val (.int (0 : Int32)), .val (.int sm), .val (.ref a9), .val (.int (1 : Int32)), .val (.int (0 : Int32)), .val (.int (0 : Int32)), .val (.int (0 : Int32)), .val (.int (1 : Int32)), .val (.long ((((0 : Int32).toInt64) + ((0 : Int32).toInt64)) + ((0 : Int32).toInt64))), .second, .val (.int (1 : Int32))] rfl ?_
        refine o_iload 402 X9 hx rfl (hb hby at_400) rfl ?_
        refine o_retN X9 hx .boolean (by simp) hret hlk (hb hby at_402) (by decide) (by decide) ?_
        exact ⟨rfl, NN9⟩
  · refine o_iload 8 X0 hx rfl (hb hby at_6) rfl ?_
    refine o_ifNo 11 X0 hx rfl (hb hby at_8) (tlt (show (0 : Int32) < (1 : Int32) by decide)).2.2.2 ?_
    refine o_iloadN 12 X0 hx rfl (hb hby at_11) rfl ?_
    refine o_ldcInt 14 X0 hx rfl hZ hown (wd_9 hw) (hb hby at_12) ?_
    refine o_iand 15 X0 hx rfl (hb hby at_14) ?_
    refine o_goto 19 X0 hx (hb hby at_15) (by decide) (by decide) ?_
    refine o_istore 21 X0 hx rfl (hb hby at_19) #[.val (.int i0), .val (.int i1), .val (.int i2), .val (.int i3), .val (.int i4), .val (.int (1 : Int32)), .val (.int (i0 &&& (1048575 : Int32))), .unset, .unset, .unset, .unset, .unset, .unset, .unset, .unset, .unset, .unset, .unset, .unset, .unset, .unset] rfl ?_
    refine o_iload 23 X0 hx rfl (hb hby at_21) rfl ?_
    refine o_iconst 24 X0 hx rfl (hb hby at_23) (1 : Int32) rfl ?_
    refine o_icmpYes 34 X0 hx (hb hby at_24) (flt (show ¬ ((1 : Int32) < (1 : Int32)) by decide)).2.2.2 (by decide) (by decide) ?_
    refine o_iconst 35 X0 hx rfl (hb hby at_34) (0 : Int32) rfl ?_
    refine o_istore 37 X0 hx rfl (hb hby at_35) #[.val (.int i0), .val (.int i1), .val (.int i2), .val (.int i3), .val (.int i4), .val (.int (1 : Int32)), .val (.int (i0 &&& (1048575 : Int32))), .val (.int (0 : Int32)), .unset, .unset, .unset, .unset, .unset, .unset, .unset, .unset, .unset, .unset, .unset, .unset, .unset] rfl ?_
    refine o_iload 39 X0 hx rfl (hb hby at_37) rfl ?_
    refine o_iconst 40 X0 hx rfl (hb hby at_39) (2 : Int32) rfl ?_
    refine o_icmpYes 50 X0 hx (hb hby at_40) (flt (show ¬ ((2 : Int32) < (1 : Int32)) by decide)).2.2.2 (by decide) (by decide) ?_
    refine o_iconst 51 X0 hx rfl (hb hby at_50) (0 : Int32) rfl ?_
    refine o_istore 53 X0 hx rfl (hb hby at_51) #[.val (.int i0), .val (.int i1), .val (.int i2), .val (.int i3), .val (.int i4), .val (.int (1 : Int32)), .val (.int (i0 &&& (1048575 : Int32))), .val (.int (0 : Int32)), .val (.int (0 : Int32)), .unset, .unset, .unset, .unset, .unset, .unset, .unset, .unset, .unset, .unset, .unset, .unset] rfl ?_
    obtain ⟨y0, hy0, ey0⟩ : ∃ y0 : Int32, (0 ≤ y0.toInt ∧ y0.toInt ≤ 1048575) ∧ (i0 &&& (1048575 : Int32)) = y0 := ⟨_, own_bd i0, rfl⟩
    rw [ey0]
    refine o_iload 55 X0 hx rfl (hb hby at_53) rfl ?_
    refine o_newarrI 57 X0 hx rfl hZ .int .int rfl rfl (wd_0 hw) e0 (hb hby at_55) (by decide) 1 (by decide) (by decide) (by decide) (by decide) [(0 : Int32)] rfl fun T11 h11 a11 k11 g11 X11 e11 E11 A11 => ?_
    have ge12 : n0 ≤ a11 := Nat.le_trans Z0 (Nat.le_of_eq g11.symm)
    have sz13 : n0 ≤ h11.size := Nat.le_trans Z0 E11.1
    refine o_astore 59 X11 hx rfl (hb hby at_57) rfl #[.val (.int i0), .val (.int i1), .val (.int i2), .val (.int i3), .val (.int i4), .val (.int (1 : Int32)), .val (.int y0), .val (.int (0 : Int32)), .val (.int (0 : Int32)), .val (.ref a11), .unset, .unset, .unset, .unset, .unset, .unset, .unset, .unset, .unset, .unset, .unset] rfl ?_
    refine o_iload 61 X11 hx rfl (hb hby at_59) rfl ?_
    refine o_ifNo 64 X11 hx rfl (hb hby at_61) (tlt (show (0 : Int32) < (1 : Int32) by decide)).2.2.2 ?_
    refine o_aload 66 X11 hx rfl (hb hby at_64) rfl rfl ?_
    refine o_iconst 67 X11 hx rfl (hb hby at_66) (0 : Int32) rfl ?_
    refine o_iload 69 X11 hx rfl (hb hby at_67) rfl ?_
    refine o_iastoreX 70 X11 hx rfl hZ e11 A11 (by decide) (Nat.le_of_ble_eq_true rfl) [y0] rfl N0 ge12 (hb hby at_69) fun T14 h14 L14 X14 N14 e14 W14 A14 => ?_
    have sz15 : n0 ≤ h14.size := Nat.le_trans sz13 (Keep.of_wr W14).1
    refine o_iload 72 X14 hx rfl (hb hby at_70) rfl ?_
    refine o_iconst 73 X14 hx rfl (hb hby at_72) (1 : Int32) rfl ?_
    refine o_icmpYes 82 X14 hx (hb hby at_73) (flt (show ¬ ((1 : Int32) < (1 : Int32)) by decide)).2.2.2 (by decide) (by decide) ?_
    refine o_iload 84 X14 hx rfl (hb hby at_82) rfl ?_
    refine o_iconst 85 X14 hx rfl (hb hby at_84) (2 : Int32) rfl ?_
    refine o_icmpYes 94 X14 hx (hb hby at_85) (flt (show ¬ ((2 : Int32) < (1 : Int32)) by decide)).2.2.2 (by decide) (by decide) ?_
    refine o_iload 96 X14 hx rfl (hb hby at_94) rfl ?_
    refine o_iload 98 X14 hx rfl (hb hby at_96) rfl ?_
    refine o_iadd 99 X14 hx rfl (hb hby at_98) ?_
    refine o_iload 101 X14 hx rfl (hb hby at_99) rfl ?_
    refine o_iadd 102 X14 hx rfl (hb hby at_101) ?_
    refine o_istore 104 X14 hx rfl (hb hby at_102) #[.val (.int i0), .val (.int i1), .val (.int i2), .val (.int i3), .val (.int i4), .val (.int (1 : Int32)), .val (.int y0), .val (.int (0 : Int32)), .val (.int (0 : Int32)), .val (.ref a11), .val (.int ((y0 + (0 : Int32)) + (0 : Int32))), .unset, .unset, .unset, .unset, .unset, .unset, .unset, .unset, .unset, .unset] rfl ?_
    obtain ⟨rm, hrm, erm⟩ : ∃ rm : Int32, rm.toInt = y0.toInt ∧ ((y0 + (0 : Int32)) + (0 : Int32)) = rm := ⟨_, own_room1 hy0, rfl⟩
    rw [erm]
    refine o_iload 106 X14 hx rfl (hb hby at_104) rfl ?_
    refine o_iconst 107 X14 hx rfl (hb hby at_106) (4 : Int32) rfl ?_
    refine o_iand 108 X14 hx rfl (hb hby at_107) ?_
    by_cases hc108_16 : (i4 &&& (4 : Int32)) = (0 : Int32)
    · refine o_ifYes 115 X14 hx (hb hby at_108) (teq hc108_16).1 (by decide) (by decide) ?_
      refine o_iloadN 116 X14 hx rfl (hb hby at_115) rfl ?_
      refine o_ldcInt 118 X14 hx rfl hZ hown (wd_1 hw) (hb hby at_116) ?_
      refine o_iand 119 X14 hx rfl (hb hby at_118) ?_
      refine o_iload 121 X14 hx rfl (hb hby at_119) rfl ?_
      refine o_iconst 122 X14 hx rfl (hb hby at_121) (3 : Int32) rfl ?_
      refine o_iadd 123 X14 hx rfl (hb hby at_122) ?_
      refine o_irem 124 X14 hx rfl (hb hby at_123) (own_nz (by omega) (by omega)) ?_
      refine o_iconst 125 X14 hx rfl (hb hby at_124) (1 : Int32) rfl ?_
      refine o_isub 126 X14 hx rfl (hb hby at_125) ?_
      obtain ⟨sm, hsm⟩ : ∃ sm, (((i3 &&& (2147483647 : Int32)) % (rm + (3 : Int32))) - (1 : Int32)) = sm := ⟨_, rfl⟩
      rw [hsm]
      refine o_istore 128 X14 hx rfl (hb hby at_126) #[.val (.int i0), .val (.int i1), .val (.int i2), .val (.int i3), .val (.int i4), .val (.int (1 : Int32)), .val (.int y0), .val (.int (0 : Int32)), .val (.int (0 : Int32)), .val (.ref a11), .val (.int rm), .val (.int sm), .unset, .unset, .unset, .unset, .unset, .unset, .unset, .unset, .unset] rfl ?_
      refine o_iload 130 X14 hx rfl (hb hby at_128) rfl ?_
      refine o_aload 132 X14 hx rfl (hb hby at_130) rfl rfl ?_
      have hroom : ((0 : Int32) + y0) = rm := (own_r1 y0).trans erm
      by_cases hout : sm < (0 : Int32) ∨ rm < sm
      · refine o_callP (rv := .null) 135 X14 hx rfl hZ hown (wd_2 hw) (wd_3 hw) (wd_4 hw) (wd_5 hw) (by decide) e14 (rm1n_1 l Z a0 hw a11 k11 sm y0 h14 A14 (by rw [hroom]; exact hout)) pd_lIaIraI [(.int sm), (.ref a11)] [] rfl rfl (by rw [hml]; rfl) rfl (hb hby at_132) 0 (Nat.le_of_eq rfl) (by decide) (by decide) (by decide) (by decide) rfl rfl fun T17 X17 e17 => ?_
        refine o_astore 137 X17 hx rfl (hb hby at_135) rfl #[.val (.int i0), .val (.int i1), .val (.int i2), .val (.int i3), .val (.int i4), .val (.int (1 : Int32)), .val (.int y0), .val (.int (0 : Int32)), .val (.int (0 : Int32)), .val (.ref a11), .val (.int rm), .val (.int sm), .val .null, .unset, .unset, .unset, .unset, .unset, .unset, .unset, .unset] rfl ?_
        refine o_iload 139 X17 hx rfl (hb hby at_137) rfl ?_
        refine o_iconst 140 X17 hx rfl (hb hby at_139) (1 : Int32) rfl ?_
        refine o_icmpNo 143 X17 hx rfl (hb hby at_140) (flt (show ¬ ((1 : Int32) < (1 : Int32)) by decide)).1 ?_
        refine o_aload 145 X17 hx rfl (hb hby at_143) rfl rfl ?_
        refine o_iconst 146 X17 hx rfl (hb hby at_145) (0 : Int32) rfl ?_
        refine o_ialoadX 147 X17 hx rfl hZ e17 A14 (by decide) (hb hby at_146) y0 rfl ?_
        refine o_iload 149 X17 hx rfl (hb hby at_147) rfl ?_
        refine o_icmpNo 152 X17 hx rfl (hb hby at_149) (teq rfl).2 ?_
        refine o_iload 154 X17 hx rfl (hb hby at_152) rfl ?_
        refine o_iconst 155 X17 hx rfl (hb hby at_154) (2 : Int32) rfl ?_
        refine o_icmpYes 167 X17 hx (hb hby at_155) (tlt (show (1 : Int32) < (2 : Int32) by decide)).1 (by decide) (by decide) ?_
        refine o_iload 169 X17 hx rfl (hb hby at_167) rfl ?_
        refine o_iconst 170 X17 hx rfl (hb hby at_169) (3 : Int32) rfl ?_
        refine o_icmpYes 182 X17 hx (hb hby at_170) (tlt (show (1 : Int32) < (3 : Int32) by decide)).1 (by decide) (by decide) ?_
        refine o_iconst 183 X17 hx rfl (hb hby at_182) (1 : Int32) rfl ?_
        refine o_goto 187 X17 hx (hb hby at_183) (by decide) (by decide) ?_
        refine o_istore 189 X17 hx rfl (hb hby at_187) #[.val (.int i0), .val (.int i1), .val (.int i2), .val (.int i3), .val (.int i4), .val (.int (1 : Int32)), .val (.int y0), .val (.int (0 : Int32)), .val (.int (0 : Int32)), .val (.ref a11), .val (.int rm), .val (.int sm), .val .null, .val (.int (1 : Int32)), .unset, .unset, .unset, .unset, .unset, .unset, .unset] rfl ?_
        refine o_iload 191 X17 hx rfl (hb hby at_189) rfl ?_
        refine o_ifYes 196 X17 hx (hb hby at_191) (feq (show ¬ ((1 : Int32) = (0 : Int32)) by decide)).2 (by decide) (by decide) ?_
        refine o_iload 198 X17 hx rfl (hb hby at_196) rfl ?_
        by_cases hneg : sm < (0 : Int32)
        · refine o_ifYes 208 X17 hx (hb hby at_198) (tlt hneg).1 (by decide) (by decide) ?_
          refine o_aload 210 X17 hx rfl (hb hby at_208) rfl rfl ?_
          refine o_ifnonnullNo 213 X17 hx rfl (hb hby at_210) ?_
          refine o_iconst 214 X17 hx rfl (hb hby at_213) (1 : Int32) rfl ?_
          refine o_goto 218 X17 hx (hb hby at_214) (by decide) (by decide) ?_
          refine o_retN X17 hx .boolean (by simp) hret hlk (hb hby at_218) (by decide) (by decide) ?_
          exact ⟨rfl, N14⟩
        · refine o_ifNo 201 X17 hx rfl (hb hby at_198) (flt hneg).1 ?_
          refine o_iload 203 X17 hx rfl (hb hby at_201) rfl ?_
          refine o_iload 205 X17 hx rfl (hb hby at_203) rfl ?_
          refine o_icmpNo 208 X17 hx rfl (hb hby at_205) (tlt (hout.resolve_left hneg)).2.2.2 ?_
          refine o_aload 210 X17 hx rfl (hb hby at_208) rfl rfl ?_
          refine o_ifnonnullNo 213 X17 hx rfl (hb hby at_210) ?_
          refine o_iconst 214 X17 hx rfl (hb hby at_213) (1 : Int32) rfl ?_
          refine o_goto 218 X17 hx (hb hby at_214) (by decide) (by decide) ?_
          refine o_retN X17 hx .boolean (by simp) hret hlk (hb hby at_218) (by decide) (by decide) ?_
          exact ⟨rfl, N14⟩
      · have hneg : ¬ sm < (0 : Int32) := fun q => hout (Or.inl q)
        have hbig : ¬ rm < sm := fun q => hout (Or.inr q)
        refine o_callSw 135 X14 hx rfl hZ hown (wd_2 hw) (wd_3 hw) (wd_4 hw) (wd_5 hw) (by decide) e14 N14 (rm1v_1 l Z a0 hw a11 k11 sm y0 h14 n0 sz15 A14 hneg (by rw [hroom]; exact hbig)) pd_lIaIraI [(.int sm), (.ref a11)] [] rfl rfl (by rw [hml]; rfl) rfl (hb hby at_132) 0 (Nat.le_of_eq rfl) (by decide) (by decide) (by decide) (by decide) fun v18 T18 L18 LL18 X18 Q18 NF18 => ?_
        obtain ⟨a18, k18, rfl, M18, K18, ga18, gz18, A18, Ac18⟩ := Q18
        have NN18 := NF18 M18
        have nev18 : a18 ≠ a11 := Nat.ne_of_gt (Nat.lt_of_lt_of_le A14.lt gz18)
        have sz19 : n0 ≤ T18.heap.size := Nat.le_trans sz15 K18.1
        show Go p.tables e below (EndE s room_1 (fun v h L => v = some (.int (1 : Int32)) ∧ Fr n0 L)) (T18.setTop (mkF m 135 #[.val (.int i0), .val (.int i1), .val (.int i2), .val (.int i3), .val (.int i4), .val (.int (1 : Int32)), .val (.int y0), .val (.int (0 : Int32)), .val (.int (0 : Int32)), .val (.ref a11), .val (.int rm), .val (.int sm), .unset, .unset, .unset, .unset, .unset, .unset, .unset, .unset, .unset] [(.ref a18)]))
        have HV := own_v1 sm y0 hy0 rm hrm hneg hbig
        obtain ⟨w0, hw0⟩ : ∃ w, (fn3 (0 : Int32) (sm - (((0 : Int32) + y0) - y0))) = w := ⟨_, rfl⟩
        simp only [hw0] at HV
        have F20 : Arv Z T18.heap a18 k18 .int (1 : Int32) ([w0].map Value.int) (.int 0) := by rw [← hw0]; exact A18
        obtain ⟨h0l, h0u, hsum, hf0, hf1⟩ := HV
        refine o_astore 137 X18 hx rfl (hb hby at_135) rfl #[.val (.int i0), .val (.int i1), .val (.int i2), .val (.int i3), .val (.int i4), .val (.int (1 : Int32)), .val (.int y0), .val (.int (0 : Int32)), .val (.int (0 : Int32)), .val (.ref a11), .val (.int rm), .val (.int sm), .val (.ref a18), .unset, .unset, .unset, .unset, .unset, .unset, .unset, .unset] rfl ?_
        refine o_iload 139 X18 hx rfl (hb hby at_137) rfl ?_
        refine o_iconst 140 X18 hx rfl (hb hby at_139) (1 : Int32) rfl ?_
        refine o_icmpNo 143 X18 hx rfl (hb hby at_140) (flt (show ¬ ((1 : Int32) < (1 : Int32)) by decide)).1 ?_
        refine o_aload 145 X18 hx rfl (hb hby at_143) rfl rfl ?_
        refine o_iconst 146 X18 hx rfl (hb hby at_145) (0 : Int32) rfl ?_
        refine o_ialoadX 147 X18 hx rfl hZ rfl Ac18 (by decide) (hb hby at_146) y0 rfl ?_
        refine o_iload 149 X18 hx rfl (hb hby at_147) rfl ?_
        refine o_icmpNo 152 X18 hx rfl (hb hby at_149) (teq rfl).2 ?_
        refine o_iload 154 X18 hx rfl (hb hby at_152) rfl ?_
        refine o_iconst 155 X18 hx rfl (hb hby at_154) (2 : Int32) rfl ?_
        refine o_icmpYes 167 X18 hx (hb hby at_155) (tlt (show (1 : Int32) < (2 : Int32) by decide)).1 (by decide) (by decide) ?_
        refine o_iload 169 X18 hx rfl (hb hby at_167) rfl ?_
        refine o_iconst 170 X18 hx rfl (hb hby at_169) (3 : Int32) rfl ?_
        refine o_icmpYes 182 X18 hx (hb hby at_170) (tlt (show (1 : Int32) < (3 : Int32) by decide)).1 (by decide) (by decide) ?_
        refine o_iconst 183 X18 hx rfl (hb hby at_182) (1 : Int32) rfl ?_
        refine o_goto 187 X18 hx (hb hby at_183) (by decide) (by decide) ?_
        refine o_istore 189 X18 hx rfl (hb hby at_187) #[.val (.int i0), .val (.int i1), .val (.int i2), .val (.int i3), .val (.int i4), .val (.int (1 : Int32)), .val (.int y0), .val (.int (0 : Int32)), .val (.int (0 : Int32)), .val (.ref a11), .val (.int rm), .val (.int sm), .val (.ref a18), .val (.int (1 : Int32)), .unset, .unset, .unset, .unset, .unset, .unset, .unset] rfl ?_
        refine o_iload 191 X18 hx rfl (hb hby at_189) rfl ?_
        refine o_ifYes 196 X18 hx (hb hby at_191) (feq (show ¬ ((1 : Int32) = (0 : Int32)) by decide)).2 (by decide) (by decide) ?_
        refine o_iload 198 X18 hx rfl (hb hby at_196) rfl ?_
        refine o_ifNo 201 X18 hx rfl (hb hby at_198) (flt hneg).1 ?_
        refine o_iload 203 X18 hx rfl (hb hby at_201) rfl ?_
        refine o_iload 205 X18 hx rfl (hb hby at_203) rfl ?_
        refine o_icmpYes 219 X18 hx (hb hby at_205) (flt hbig).2.2.2 (by decide) (by decide) ?_
        refine o_aload 221 X18 hx rfl (hb hby at_219) rfl rfl ?_
        refine o_ifnullNo 224 X18 hx rfl (hb hby at_221) ?_
        refine o_aload 226 X18 hx rfl (hb hby at_224) rfl rfl ?_
        refine o_alen 227 X18 hx rfl hZ rfl F20 (hb hby at_226) ?_
        refine o_iload 229 X18 hx rfl (hb hby at_227) rfl ?_
        refine o_icmpNo 232 X18 hx rfl (hb hby at_229) (teq rfl).2 ?_
        refine o_aload 234 X18 hx rfl (hb hby at_232) rfl rfl ?_
        refine o_aload 236 X18 hx rfl (hb hby at_234) rfl rfl ?_
        refine o_acmpne 241 X18 hx (hb hby at_236) nev18 (by decide) (by decide) ?_
        refine o_iload 243 X18 hx rfl (hb hby at_241) rfl ?_
        refine o_ifNo 246 X18 hx rfl (hb hby at_243) (tlt (show (0 : Int32) < (1 : Int32) by decide)).2.2.2 ?_
        refine o_aload 248 X18 hx rfl (hb hby at_246) rfl rfl ?_
        refine o_iconst 249 X18 hx rfl (hb hby at_248) (0 : Int32) rfl ?_
        refine o_ialoadX 250 X18 hx rfl hZ rfl F20 (by decide) (hb hby at_249) w0 rfl ?_
        refine o_goto 254 X18 hx (hb hby at_250) (by decide) (by decide) ?_
        refine o_istore 256 X18 hx rfl (hb hby at_254) #[.val (.int i0), .val (.int i1), .val (.int i2), .val (.int i3), .val (.int i4), .val (.int (1 : Int32)), .val (.int y0), .val (.int (0 : Int32)), .val (.int (0 : Int32)), .val (.ref a11), .val (.int rm), .val (.int sm), .val (.ref a18), .val (.int (1 : Int32)), .val (.int w0), .unset, .unset, .unset, .unset, .unset, .unset] rfl ?_
        refine o_iload 258 X18 hx rfl (hb hby at_256) rfl ?_
        refine o_iconst 259 X18 hx rfl (hb hby at_258) (1 : Int32) rfl ?_
        refine o_icmpYes 269 X18 hx (hb hby at_259) (flt (show ¬ ((1 : Int32) < (1 : Int32)) by decide)).2.2.2 (by decide) (by decide) ?_
        refine o_iconst 270 X18 hx rfl (hb hby at_269) (0 : Int32) rfl ?_
        refine o_istore 272 X18 hx rfl (hb hby at_270) #[.val (.int i0), .val (.int i1), .val (.int i2), .val (.int i3), .val (.int i4), .val (.int (1 : Int32)), .val (.int y0), .val (.int (0 : Int32)), .val (.int (0 : Int32)), .val (.ref a11), .val (.int rm), .val (.int sm), .val (.ref a18), .val (.int (1 : Int32)), .val (.int w0), .val (.int (0 : Int32)), .unset, .unset, .unset, .unset, .unset] rfl ?_
        refine o_iload 274 X18 hx rfl (hb hby at_272) rfl ?_
        refine o_iconst 275 X18 hx rfl (hb hby at_274) (2 : Int32) rfl ?_
        refine o_icmpYes 285 X18 hx (hb hby at_275) (flt (show ¬ ((2 : Int32) < (1 : Int32)) by decide)).2.2.2 (by decide) (by decide) ?_
        refine o_iconst 286 X18 hx rfl (hb hby at_285) (0 : Int32) rfl ?_
        refine o_istore 288 X18 hx rfl (hb hby at_286) #[.val (.int i0), .val (.int i1), .val (.int i2), .val (.int i3), .val (.int i4), .val (.int (1 : Int32)), .val (.int y0), .val (.int (0 : Int32)), .val (.int (0 : Int32)), .val (.ref a11), .val (.int rm), .val (.int sm), .val (.ref a18), .val (.int (1 : Int32)), .val (.int w0), .val (.int (0 : Int32)), .val (.int (0 : Int32)), .unset, .unset, .unset, .unset] rfl ?_
        refine o_iload 290 X18 hx rfl (hb hby at_288) rfl ?_
        refine o_ifNo 293 X18 hx rfl (hb hby at_290) (flt (by rw [Int32.lt_iff_toInt_lt]; (try rw [show (0 : Int32).toInt = 0 from rfl]); omega)).1 ?_
        refine o_iload 295 X18 hx rfl (hb hby at_293) rfl ?_
        refine o_iload 297 X18 hx rfl (hb hby at_295) rfl ?_
        refine o_icmpNo 300 X18 hx rfl (hb hby at_297) (flt (by rw [Int32.lt_iff_toInt_lt]; (try rw [show (0 : Int32).toInt = 0 from rfl]); omega)).2.2.1 ?_
        refine o_iload 302 X18 hx rfl (hb hby at_300) rfl ?_
        refine o_ifNo 305 X18 hx rfl (hb hby at_302) (flt (show ¬ ((0 : Int32) < (0 : Int32)) by decide)).1 ?_
        refine o_iload 307 X18 hx rfl (hb hby at_305) rfl ?_
        refine o_iload 309 X18 hx rfl (hb hby at_307) rfl ?_
        refine o_icmpNo 312 X18 hx rfl (hb hby at_309) (flt (show ¬ ((0 : Int32) < (0 : Int32)) by decide)).2.2.1 ?_
        refine o_iload 314 X18 hx rfl (hb hby at_312) rfl ?_
        refine o_ifNo 317 X18 hx rfl (hb hby at_314) (flt (show ¬ ((0 : Int32) < (0 : Int32)) by decide)).1 ?_
        refine o_iload 319 X18 hx rfl (hb hby at_317) rfl ?_
        refine o_iload 321 X18 hx rfl (hb hby at_319) rfl ?_
        refine o_icmpNo 324 X18 hx rfl (hb hby at_321) (flt (show ¬ ((0 : Int32) < (0 : Int32)) by decide)).2.2.1 ?_
        refine o_iconst 325 X18 hx rfl (hb hby at_324) (1 : Int32) rfl ?_
        refine o_goto 329 X18 hx (hb hby at_325) (by decide) (by decide) ?_
        refine o_istore 331 X18 hx rfl (hb hby at_329) #[.val (.int i0), .val (.int i1), .val (.int i2), .val (.int i3), .val (.int i4), .val (.int (1 : Int32)), .val (.int y0), .val (.int (0 : Int32)), .val (.int (0 : Int32)), .val (.ref a11), .val (.int rm), .val (.int sm), .val (.ref a18), .val (.int (1 : Int32)), .val (.int w0), .val (.int (0 : Int32)), .val (.int (0 : Int32)), .val (.int (1 : Int32)), .unset, .unset, .unset] rfl ?_
        refine o_iload 333 X18 hx rfl (hb hby at_331) rfl ?_
        refine o_ifYes 338 X18 hx (hb hby at_333) (feq (show ¬ ((1 : Int32) = (0 : Int32)) by decide)).2 (by decide) (by decide) ?_
        refine o_iload 340 X18 hx rfl (hb hby at_338) rfl ?_
        refine o_i2l 341 X18 hx rfl (hb hby at_340) ?_
        refine o_iload 343 X18 hx rfl (hb hby at_341) rfl ?_
        refine o_i2l 344 X18 hx rfl (hb hby at_343) ?_
        refine o_ladd 345 X18 hx rfl (hb hby at_344) ?_
        refine o_iload 347 X18 hx rfl (hb hby at_345) rfl ?_
        refine o_i2l 348 X18 hx rfl (hb hby at_347) ?_
        refine o_ladd 349 X18 hx rfl (hb hby at_348) ?_
        refine o_lstore 351 X18 hx rfl (hb hby at_349) #[.val (.int i0), .val (.int i1), .val (.int i2), .val (.int i3), .val (.int i4), .val (.int (1 : Int32)), .val (.int y0), .val (.int (0 : Int32)), .val (.int (0 : Int32)), .val (.ref a11), .val (.int rm), .val (.int sm), .val (.ref a18), .val (.int (1 : Int32)), .val (.int w0), .val (.int (0 : Int32)), .val (.int (0 : Int32)), .val (.int (1 : Int32)), .val (.long (((w0.toInt64) + ((0 : Int32).toInt64)) + ((0 : Int32).toInt64))), .second, .unset] rfl ?_
        refine o_lload 353 X18 hx rfl (hb hby at_351) rfl ?_
        refine o_iload 355 X18 hx rfl (hb hby at_353) rfl ?_
        refine o_i2l 356 X18 hx rfl (hb hby at_355) ?_
        refine o_lcmp 357 X18 hx rfl (hb hby at_356) ?_
        refine o_ifYes 362 X18 hx (hb hby at_357) (teq (l_teq (own_t1 w0 h0l hy0 h0u hsum))).1 (by decide) (by decide) ?_
        refine o_iload 364 X18 hx rfl (hb hby at_362) rfl ?_
        by_cases z0 : w0 = (0 : Int32)
        · refine o_ifYes 381 X18 hx (hb hby at_364) (teq z0).1 (by decide) (by decide) ?_
          refine o_iload 383 X18 hx rfl (hb hby at_381) rfl ?_
          refine o_ifYes 393 X18 hx (hb hby at_383) (teq (show (0 : Int32) = (0 : Int32) by decide)).1 (by decide) (by decide) ?_
          refine o_iconst 394 X18 hx rfl (hb hby at_393) (1 : Int32) rfl ?_
          refine o_goto 398 X18 hx (hb hby at_394) (by decide) (by decide) ?_
          refine o_istore 400 X18 hx rfl (hb hby at_398) #[.val (.int i0), .val (.int i1), .val (.int i2), .val (.int i3), .val (.int i4), .val (.int (1 : Int32)), .val (.int y0), .val (.int (0 : Int32)), .val (.int (0 : Int32)), .val (.ref a11), .val (.int rm), .val (.int sm), .val (.ref a18), .val (.int (1 : Int32)), .val (.int w0), .val (.int (0 : Int32)), .val (.int (0 : Int32)), .val (.int (1 : Int32)), .val (.long (((w0.toInt64) + ((0 : Int32).toInt64)) + ((0 : Int32).toInt64))), .second, .val (.int (1 : Int32))] rfl ?_
          refine o_iload 402 X18 hx rfl (hb hby at_400) rfl ?_
          refine o_retN X18 hx .boolean (by simp) hret hlk (hb hby at_402) (by decide) (by decide) ?_
          exact ⟨rfl, NN18⟩
        · refine o_ifNo 367 X18 hx rfl (hb hby at_364) (feq z0).1 ?_
          refine o_iload 369 X18 hx rfl (hb hby at_367) rfl ?_
          refine o_iload 371 X18 hx rfl (hb hby at_369) rfl ?_
          refine o_icmpNo 374 X18 hx rfl (hb hby at_371) (teq (show (0 : Int32) = (0 : Int32) by decide)).2 ?_
          refine o_iload 376 X18 hx rfl (hb hby at_374) rfl ?_
          refine o_iload 378 X18 hx rfl (hb hby at_376) rfl ?_
          refine o_icmpNo 381 X18 hx rfl (hb hby at_378) (teq (show (0 : Int32) = (0 : Int32) by decide)).2 ?_
          refine o_iload 383 X18 hx rfl (hb hby at_381) rfl ?_
          refine o_ifYes 393 X18 hx (hb hby at_383) (teq (show (0 : Int32) = (0 : Int32) by decide)).1 (by decide) (by decide) ?_
          refine o_iconst 394 X18 hx rfl (hb hby at_393) (1 : Int32) rfl ?_
          refine o_goto 398 X18 hx (hb hby at_394) (by decide) (by decide) ?_
          refine o_istore 400 X18 hx rfl (hb hby at_398) #[.val (.int i0), .val (.int i1), .val (.int i2), .val (.int i3), .val (.int i4), .val (.int (1 : Int32)), .val (.int y0), .val (.int (0 : Int32)), .val (.int (0 : Int32)), .val (.ref a11), .val (.int rm), .val (.int sm), .val (.ref a18), .val (.int (1 : Int32)), .val (.int w0), .val (.int (0 : Int32)), .val (.int (0 : Int32)), .val (.int (1 : Int32)), .val (.long (((w0.toInt64) + ((0 : Int32).toInt64)) + ((0 : Int32).toInt64))), .second, .val (.int (1 : Int32))] rfl ?_
          refine o_iload 402 X18 hx rfl (hb hby at_400) rfl ?_
          refine o_retN X18 hx .boolean (by simp) hret hlk (hb hby at_402) (by decide) (by decide) ?_
          exact ⟨rfl, NN18⟩
    · refine o_ifNo 111 X14 hx rfl (hb hby at_108) (feq hc108_16).1 ?_
      refine o_iloadN 112 X14 hx rfl (hb hby at_111) rfl ?_
      refine o_goto 126 X14 hx (hb hby at_112) (by decide) (by decide) ?_
      obtain ⟨sm, hsm⟩ : ∃ sm, i3 = sm := ⟨_, rfl⟩
      rw [hsm]
      refine o_istore 128 X14 hx rfl (hb hby at_126) #[.val (.int i0), .val (.int i1), .val (.int i2), .val (.int sm), .val (.int i4), .val (.int (1 : Int32)), .val (.int y0), .val (.int (0 : Int32)), .val (.int (0 : Int32)), .val (.ref a11), .val (.int rm), .val (.int sm), .unset, .unset, .unset, .unset, .unset, .unset, .unset, .unset, .unset] rfl ?_
      refine o_iload 130 X14 hx rfl (hb hby at_128) rfl ?_
      refine o_aload 132 X14 hx rfl (hb hby at_130) rfl rfl ?_
      have hroom : ((0 : Int32) + y0) = rm := (own_r1 y0).trans erm
      by_cases hout : sm < (0 : Int32) ∨ rm < sm
      · refine o_callP (rv := .null) 135 X14 hx rfl hZ hown (wd_2 hw) (wd_3 hw) (wd_4 hw) (wd_5 hw) (by decide) e14 (rm1n_1 l Z a0 hw a11 k11 sm y0 h14 A14 (by rw [hroom]; exact hout)) pd_lIaIraI [(.int sm), (.ref a11)] [] rfl rfl (by rw [hml]; rfl) rfl (hb hby at_132) 0 (Nat.le_of_eq rfl) (by decide) (by decide) (by decide) (by decide) rfl rfl fun T21 X21 e21 => ?_
        refine o_astore 137 X21 hx rfl (hb hby at_135) rfl #[.val (.int i0), .val (.int i1), .val (.int i2), .val (.int sm), .val (.int i4), .val (.int (1 : Int32)), .val (.int y0), .val (.int (0 : Int32)), .val (.int (0 : Int32)), .val (.ref a11), .val (.int rm), .val (.int sm), .val .null, .unset, .unset, .unset, .unset, .unset, .unset, .unset, .unset] rfl ?_
        refine o_iload 139 X21 hx rfl (hb hby at_137) rfl ?_
        refine o_iconst 140 X21 hx rfl (hb hby at_139) (1 : Int32) rfl ?_
        refine o_icmpNo 143 X21 hx rfl (hb hby at_140) (flt (show ¬ ((1 : Int32) < (1 : Int32)) by decide)).1 ?_
        refine o_aload 145 X21 hx rfl (hb hby at_143) rfl rfl ?_
        refine o_iconst 146 X21 hx rfl (hb hby at_145) (0 : Int32) rfl ?_
        refine o_ialoadX 147 X21 hx rfl hZ e21 A14 (by decide) (hb hby at_146) y0 rfl ?_
        refine o_iload 149 X21 hx rfl (hb hby at_147) rfl ?_
        refine o_icmpNo 152 X21 hx rfl (hb hby at_149) (teq rfl).2 ?_
        refine o_iload 154 X21 hx rfl (hb hby at_152) rfl ?_
        refine o_iconst 155 X21 hx rfl (hb hby at_154) (2 : Int32) rfl ?_
        refine o_icmpYes 167 X21 hx (hb hby at_155) (tlt (show (1 : Int32) < (2 : Int32) by decide)).1 (by decide) (by decide) ?_
        refine o_iload 169 X21 hx rfl (hb hby at_167) rfl ?_
        refine o_iconst 170 X21 hx rfl (hb hby at_169) (3 : Int32) rfl ?_
        refine o_icmpYes 182 X21 hx (hb hby at_170) (tlt (show (1 : Int32) < (3 : Int32) by decide)).1 (by decide) (by decide) ?_
        refine o_iconst 183 X21 hx rfl (hb hby at_182) (1 : Int32) rfl ?_
        refine o_goto 187 X21 hx (hb hby at_183) (by decide) (by decide) ?_
        refine o_istore 189 X21 hx rfl (hb hby at_187) #[.val (.int i0), .val (.int i1), .val (.int i2), .val (.int sm), .val (.int i4), .val (.int (1 : Int32)), .val (.int y0), .val (.int (0 : Int32)), .val (.int (0 : Int32)), .val (.ref a11), .val (.int rm), .val (.int sm), .val .null, .val (.int (1 : Int32)), .unset, .unset, .unset, .unset, .unset, .unset, .unset] rfl ?_
        refine o_iload 191 X21 hx rfl (hb hby at_189) rfl ?_
        refine o_ifYes 196 X21 hx (hb hby at_191) (feq (show ¬ ((1 : Int32) = (0 : Int32)) by decide)).2 (by decide) (by decide) ?_
        refine o_iload 198 X21 hx rfl (hb hby at_196) rfl ?_
        by_cases hneg : sm < (0 : Int32)
        · refine o_ifYes 208 X21 hx (hb hby at_198) (tlt hneg).1 (by decide) (by decide) ?_
          refine o_aload 210 X21 hx rfl (hb hby at_208) rfl rfl ?_
          refine o_ifnonnullNo 213 X21 hx rfl (hb hby at_210) ?_
          refine o_iconst 214 X21 hx rfl (hb hby at_213) (1 : Int32) rfl ?_
          refine o_goto 218 X21 hx (hb hby at_214) (by decide) (by decide) ?_
          refine o_retN X21 hx .boolean (by simp) hret hlk (hb hby at_218) (by decide) (by decide) ?_
          exact ⟨rfl, N14⟩
        · refine o_ifNo 201 X21 hx rfl (hb hby at_198) (flt hneg).1 ?_
          refine o_iload 203 X21 hx rfl (hb hby at_201) rfl ?_
          refine o_iload 205 X21 hx rfl (hb hby at_203) rfl ?_
          refine o_icmpNo 208 X21 hx rfl (hb hby at_205) (tlt (hout.resolve_left hneg)).2.2.2 ?_
          refine o_aload 210 X21 hx rfl (hb hby at_208) rfl rfl ?_
          refine o_ifnonnullNo 213 X21 hx rfl (hb hby at_210) ?_
          refine o_iconst 214 X21 hx rfl (hb hby at_213) (1 : Int32) rfl ?_
          refine o_goto 218 X21 hx (hb hby at_214) (by decide) (by decide) ?_
          refine o_retN X21 hx .boolean (by simp) hret hlk (hb hby at_218) (by decide) (by decide) ?_
          exact ⟨rfl, N14⟩
      · have hneg : ¬ sm < (0 : Int32) := fun q => hout (Or.inl q)
        have hbig : ¬ rm < sm := fun q => hout (Or.inr q)
        refine o_callSw 135 X14 hx rfl hZ hown (wd_2 hw) (wd_3 hw) (wd_4 hw) (wd_5 hw) (by decide) e14 N14 (rm1v_1 l Z a0 hw a11 k11 sm y0 h14 n0 sz15 A14 hneg (by rw [hroom]; exact hbig)) pd_lIaIraI [(.int sm), (.ref a11)] [] rfl rfl (by rw [hml]; rfl) rfl (hb hby at_132) 0 (Nat.le_of_eq rfl) (by decide) (by decide) (by decide) (by decide) fun v22 T22 L22 LL22 X22 Q22 NF22 => ?_
        obtain ⟨a22, k22, rfl, M22, K22, ga22, gz22, A22, Ac22⟩ := Q22
        have NN22 := NF22 M22
        have nev22 : a22 ≠ a11 := Nat.ne_of_gt (Nat.lt_of_lt_of_le A14.lt gz22)
        have sz23 : n0 ≤ T22.heap.size := Nat.le_trans sz15 K22.1
        show Go p.tables e below (EndE s room_1 (fun v h L => v = some (.int (1 : Int32)) ∧ Fr n0 L)) (T22.setTop (mkF m 135 #[.val (.int i0), .val (.int i1), .val (.int i2), .val (.int sm), .val (.int i4), .val (.int (1 : Int32)), .val (.int y0), .val (.int (0 : Int32)), .val (.int (0 : Int32)), .val (.ref a11), .val (.int rm), .val (.int sm), .unset, .unset, .unset, .unset, .unset, .unset, .unset, .unset, .unset] [(.ref a22)]))
        have HV := own_v1 sm y0 hy0 rm hrm hneg hbig
        obtain ⟨w0, hw0⟩ : ∃ w, (fn3 (0 : Int32) (sm - (((0 : Int32) + y0) - y0))) = w := ⟨_, rfl⟩
        simp only [hw0] at HV
        have F24 : Arv Z T22.heap a22 k22 .int (1 : Int32) ([w0].map Value.int) (.int 0) := by rw [← hw0]; exact A22
        obtain ⟨h0l, h0u, hsum, hf0, hf1⟩ := HV
        refine o_astore 137 X22 hx rfl (hb hby at_135) rfl #[.val (.int i0), .val (.int i1), .val (.int i2), .val (.int sm), .val (.int i4), .val (.int (1 : Int32)), .val (.int y0), .val (.int (0 : Int32)), .val (.int (0 : Int32)), .val (.ref a11), .val (.int rm), .val (.int sm), .val (.ref a22), .unset, .unset, .unset, .unset, .unset, .unset, .unset, .unset] rfl ?_
        refine o_iload 139 X22 hx rfl (hb hby at_137) rfl ?_
        refine o_iconst 140 X22 hx rfl (hb hby at_139) (1 : Int32) rfl ?_
        refine o_icmpNo 143 X22 hx rfl (hb hby at_140) (flt (show ¬ ((1 : Int32) < (1 : Int32)) by decide)).1 ?_
        refine o_aload 145 X22 hx rfl (hb hby at_143) rfl rfl ?_
        refine o_iconst 146 X22 hx rfl (hb hby at_145) (0 : Int32) rfl ?_
        refine o_ialoadX 147 X22 hx rfl hZ rfl Ac22 (by decide) (hb hby at_146) y0 rfl ?_
        refine o_iload 149 X22 hx rfl (hb hby at_147) rfl ?_
        refine o_icmpNo 152 X22 hx rfl (hb hby at_149) (teq rfl).2 ?_
        refine o_iload 154 X22 hx rfl (hb hby at_152) rfl ?_
        refine o_iconst 155 X22 hx rfl (hb hby at_154) (2 : Int32) rfl ?_
        refine o_icmpYes 167 X22 hx (hb hby at_155) (tlt (show (1 : Int32) < (2 : Int32) by decide)).1 (by decide) (by decide) ?_
        refine o_iload 169 X22 hx rfl (hb hby at_167) rfl ?_
        refine o_iconst 170 X22 hx rfl (hb hby at_169) (3 : Int32) rfl ?_
        refine o_icmpYes 182 X22 hx (hb hby at_170) (tlt (show (1 : Int32) < (3 : Int32) by decide)).1 (by decide) (by decide) ?_
        refine o_iconst 183 X22 hx rfl (hb hby at_182) (1 : Int32) rfl ?_
        refine o_goto 187 X22 hx (hb hby at_183) (by decide) (by decide) ?_
        refine o_istore 189 X22 hx rfl (hb hby at_187) #[.val (.int i0), .val (.int i1), .val (.int i2), .val (.int sm), .val (.int i4), .val (.int (1 : Int32)), .val (.int y0), .val (.int (0 : Int32)), .val (.int (0 : Int32)), .val (.ref a11), .val (.int rm), .val (.int sm), .val (.ref a22), .val (.int (1 : Int32)), .unset, .unset, .unset, .unset, .unset, .unset, .unset] rfl ?_
        refine o_iload 191 X22 hx rfl (hb hby at_189) rfl ?_
        refine o_ifYes 196 X22 hx (hb hby at_191) (feq (show ¬ ((1 : Int32) = (0 : Int32)) by decide)).2 (by decide) (by decide) ?_
        refine o_iload 198 X22 hx rfl (hb hby at_196) rfl ?_
        refine o_ifNo 201 X22 hx rfl (hb hby at_198) (flt hneg).1 ?_
        refine o_iload 203 X22 hx rfl (hb hby at_201) rfl ?_
        refine o_iload 205 X22 hx rfl (hb hby at_203) rfl ?_
        refine o_icmpYes 219 X22 hx (hb hby at_205) (flt hbig).2.2.2 (by decide) (by decide) ?_
        refine o_aload 221 X22 hx rfl (hb hby at_219) rfl rfl ?_
        refine o_ifnullNo 224 X22 hx rfl (hb hby at_221) ?_
        refine o_aload 226 X22 hx rfl (hb hby at_224) rfl rfl ?_
        refine o_alen 227 X22 hx rfl hZ rfl F24 (hb hby at_226) ?_
        refine o_iload 229 X22 hx rfl (hb hby at_227) rfl ?_
        refine o_icmpNo 232 X22 hx rfl (hb hby at_229) (teq rfl).2 ?_
        refine o_aload 234 X22 hx rfl (hb hby at_232) rfl rfl ?_
        refine o_aload 236 X22 hx rfl (hb hby at_234) rfl rfl ?_
        refine o_acmpne 241 X22 hx (hb hby at_236) nev22 (by decide) (by decide) ?_
        refine o_iload 243 X22 hx rfl (hb hby at_241) rfl ?_
        refine o_ifNo 246 X22 hx rfl (hb hby at_243) (tlt (show (0 : Int32) < (1 : Int32) by decide)).2.2.2 ?_
        refine o_aload 248 X22 hx rfl (hb hby at_246) rfl rfl ?_
        refine o_iconst 249 X22 hx rfl (hb hby at_248) (0 : Int32) rfl ?_
        refine o_ialoadX 250 X22 hx rfl hZ rfl F24 (by decide) (hb hby at_249) w0 rfl ?_
        refine o_goto 254 X22 hx (hb hby at_250) (by decide) (by decide) ?_
        refine o_istore 256 X22 hx rfl (hb hby at_254) #[.val (.int i0), .val (.int i1), .val (.int i2), .val (.int sm), .val (.int i4), .val (.int (1 : Int32)), .val (.int y0), .val (.int (0 : Int32)), .val (.int (0 : Int32)), .val (.ref a11), .val (.int rm), .val (.int sm), .val (.ref a22), .val (.int (1 : Int32)), .val (.int w0), .unset, .unset, .unset, .unset, .unset, .unset] rfl ?_
        refine o_iload 258 X22 hx rfl (hb hby at_256) rfl ?_
        refine o_iconst 259 X22 hx rfl (hb hby at_258) (1 : Int32) rfl ?_
        refine o_icmpYes 269 X22 hx (hb hby at_259) (flt (show ¬ ((1 : Int32) < (1 : Int32)) by decide)).2.2.2 (by decide) (by decide) ?_
        refine o_iconst 270 X22 hx rfl (hb hby at_269) (0 : Int32) rfl ?_
        refine o_istore 272 X22 hx rfl (hb hby at_270) #[.val (.int i0), .val (.int i1), .val (.int i2), .val (.int sm), .val (.int i4), .val (.int (1 : Int32)), .val (.int y0), .val (.int (0 : Int32)), .val (.int (0 : Int32)), .val (.ref a11), .val (.int rm), .val (.int sm), .val (.ref a22), .val (.int (1 : Int32)), .val (.int w0), .val (.int (0 : Int32)), .unset, .unset, .unset, .unset, .unset] rfl ?_
        refine o_iload 274 X22 hx rfl (hb hby at_272) rfl ?_
        refine o_iconst 275 X22 hx rfl (hb hby at_274) (2 : Int32) rfl ?_
        refine o_icmpYes 285 X22 hx (hb hby at_275) (flt (show ¬ ((2 : Int32) < (1 : Int32)) by decide)).2.2.2 (by decide) (by decide) ?_
        refine o_iconst 286 X22 hx rfl (hb hby at_285) (0 : Int32) rfl ?_
        refine o_istore 288 X22 hx rfl (hb hby at_286) #[.val (.int i0), .val (.int i1), .val (.int i2), .val (.int sm), .val (.int i4), .val (.int (1 : Int32)), .val (.int y0), .val (.int (0 : Int32)), .val (.int (0 : Int32)), .val (.ref a11), .val (.int rm), .val (.int sm), .val (.ref a22), .val (.int (1 : Int32)), .val (.int w0), .val (.int (0 : Int32)), .val (.int (0 : Int32)), .unset, .unset, .unset, .unset] rfl ?_
        refine o_iload 290 X22 hx rfl (hb hby at_288) rfl ?_
        refine o_ifNo 293 X22 hx rfl (hb hby at_290) (flt (by rw [Int32.lt_iff_toInt_lt]; (try rw [show (0 : Int32).toInt = 0 from rfl]); omega)).1 ?_
        refine o_iload 295 X22 hx rfl (hb hby at_293) rfl ?_
        refine o_iload 297 X22 hx rfl (hb hby at_295) rfl ?_
        refine o_icmpNo 300 X22 hx rfl (hb hby at_297) (flt (by rw [Int32.lt_iff_toInt_lt]; (try rw [show (0 : Int32).toInt = 0 from rfl]); omega)).2.2.1 ?_
        refine o_iload 302 X22 hx rfl (hb hby at_300) rfl ?_
        refine o_ifNo 305 X22 hx rfl (hb hby at_302) (flt (show ¬ ((0 : Int32) < (0 : Int32)) by decide)).1 ?_
        refine o_iload 307 X22 hx rfl (hb hby at_305) rfl ?_
        refine o_iload 309 X22 hx rfl (hb hby at_307) rfl ?_
        refine o_icmpNo 312 X22 hx rfl (hb hby at_309) (flt (show ¬ ((0 : Int32) < (0 : Int32)) by decide)).2.2.1 ?_
        refine o_iload 314 X22 hx rfl (hb hby at_312) rfl ?_
        refine o_ifNo 317 X22 hx rfl (hb hby at_314) (flt (show ¬ ((0 : Int32) < (0 : Int32)) by decide)).1 ?_
        refine o_iload 319 X22 hx rfl (hb hby at_317) rfl ?_
        refine o_iload 321 X22 hx rfl (hb hby at_319) rfl ?_
        refine o_icmpNo 324 X22 hx rfl (hb hby at_321) (flt (show ¬ ((0 : Int32) < (0 : Int32)) by decide)).2.2.1 ?_
        refine o_iconst 325 X22 hx rfl (hb hby at_324) (1 : Int32) rfl ?_
        refine o_goto 329 X22 hx (hb hby at_325) (by decide) (by decide) ?_
        refine o_istore 331 X22 hx rfl (hb hby at_329) #[.val (.int i0), .val (.int i1), .val (.int i2), .val (.int sm), .val (.int i4), .val (.int (1 : Int32)), .val (.int y0), .val (.int (0 : Int32)), .val (.int (0 : Int32)), .val (.ref a11), .val (.int rm), .val (.int sm), .val (.ref a22), .val (.int (1 : Int32)), .val (.int w0), .val (.int (0 : Int32)), .val (.int (0 : Int32)), .val (.int (1 : Int32)), .unset, .unset, .unset] rfl ?_
        refine o_iload 333 X22 hx rfl (hb hby at_331) rfl ?_
        refine o_ifYes 338 X22 hx (hb hby at_333) (feq (show ¬ ((1 : Int32) = (0 : Int32)) by decide)).2 (by decide) (by decide) ?_
        refine o_iload 340 X22 hx rfl (hb hby at_338) rfl ?_
        refine o_i2l 341 X22 hx rfl (hb hby at_340) ?_
        refine o_iload 343 X22 hx rfl (hb hby at_341) rfl ?_
        refine o_i2l 344 X22 hx rfl (hb hby at_343) ?_
        refine o_ladd 345 X22 hx rfl (hb hby at_344) ?_
        refine o_iload 347 X22 hx rfl (hb hby at_345) rfl ?_
        refine o_i2l 348 X22 hx rfl (hb hby at_347) ?_
        refine o_ladd 349 X22 hx rfl (hb hby at_348) ?_
        refine o_lstore 351 X22 hx rfl (hb hby at_349) #[.val (.int i0), .val (.int i1), .val (.int i2), .val (.int sm), .val (.int i4), .val (.int (1 : Int32)), .val (.int y0), .val (.int (0 : Int32)), .val (.int (0 : Int32)), .val (.ref a11), .val (.int rm), .val (.int sm), .val (.ref a22), .val (.int (1 : Int32)), .val (.int w0), .val (.int (0 : Int32)), .val (.int (0 : Int32)), .val (.int (1 : Int32)), .val (.long (((w0.toInt64) + ((0 : Int32).toInt64)) + ((0 : Int32).toInt64))), .second, .unset] rfl ?_
        refine o_lload 353 X22 hx rfl (hb hby at_351) rfl ?_
        refine o_iload 355 X22 hx rfl (hb hby at_353) rfl ?_
        refine o_i2l 356 X22 hx rfl (hb hby at_355) ?_
        refine o_lcmp 357 X22 hx rfl (hb hby at_356) ?_
        refine o_ifYes 362 X22 hx (hb hby at_357) (teq (l_teq (own_t1 w0 h0l hy0 h0u hsum))).1 (by decide) (by decide) ?_
        refine o_iload 364 X22 hx rfl (hb hby at_362) rfl ?_
        by_cases z0 : w0 = (0 : Int32)
        · refine o_ifYes 381 X22 hx (hb hby at_364) (teq z0).1 (by decide) (by decide) ?_
          refine o_iload 383 X22 hx rfl (hb hby at_381) rfl ?_
          refine o_ifYes 393 X22 hx (hb hby at_383) (teq (show (0 : Int32) = (0 : Int32) by decide)).1 (by decide) (by decide) ?_
          refine o_iconst 394 X22 hx rfl (hb hby at_393) (1 : Int32) rfl ?_
          refine o_goto 398 X22 hx (hb hby at_394) (by decide) (by decide) ?_
          refine o_istore 400 X22 hx rfl (hb hby at_398) #[.val (.int i0), .val (.int i1), .val (.int i2), .val (.int sm), .val (.int i4), .val (.int (1 : Int32)), .val (.int y0), .val (.int (0 : Int32)), .val (.int (0 : Int32)), .val (.ref a11), .val (.int rm), .val (.int sm), .val (.ref a22), .val (.int (1 : Int32)), .val (.int w0), .val (.int (0 : Int32)), .val (.int (0 : Int32)), .val (.int (1 : Int32)), .val (.long (((w0.toInt64) + ((0 : Int32).toInt64)) + ((0 : Int32).toInt64))), .second, .val (.int (1 : Int32))] rfl ?_
          refine o_iload 402 X22 hx rfl (hb hby at_400) rfl ?_
          refine o_retN X22 hx .boolean (by simp) hret hlk (hb hby at_402) (by decide) (by decide) ?_
          exact ⟨rfl, NN22⟩
        · refine o_ifNo 367 X22 hx rfl (hb hby at_364) (feq z0).1 ?_
          refine o_iload 369 X22 hx rfl (hb hby at_367) rfl ?_
          refine o_iload 371 X22 hx rfl (hb hby at_369) rfl ?_
          refine o_icmpNo 374 X22 hx rfl (hb hby at_371) (teq (show (0 : Int32) = (0 : Int32) by decide)).2 ?_
          refine o_iload 376 X22 hx rfl (hb hby at_374) rfl ?_
          refine o_iload 378 X22 hx rfl (hb hby at_376) rfl ?_
          refine o_icmpNo 381 X22 hx rfl (hb hby at_378) (teq (show (0 : Int32) = (0 : Int32) by decide)).2 ?_
          refine o_iload 383 X22 hx rfl (hb hby at_381) rfl ?_
          refine o_ifYes 393 X22 hx (hb hby at_383) (teq (show (0 : Int32) = (0 : Int32) by decide)).1 (by decide) (by decide) ?_
          refine o_iconst 394 X22 hx rfl (hb hby at_393) (1 : Int32) rfl ?_
          refine o_goto 398 X22 hx (hb hby at_394) (by decide) (by decide) ?_
          refine o_istore 400 X22 hx rfl (hb hby at_398) #[.val (.int i0), .val (.int i1), .val (.int i2), .val (.int sm), .val (.int i4), .val (.int (1 : Int32)), .val (.int y0), .val (.int (0 : Int32)), .val (.int (0 : Int32)), .val (.ref a11), .val (.int rm), .val (.int sm), .val (.ref a22), .val (.int (1 : Int32)), .val (.int w0), .val (.int (0 : Int32)), .val (.int (0 : Int32)), .val (.int (1 : Int32)), .val (.long (((w0.toInt64) + ((0 : Int32).toInt64)) + ((0 : Int32).toInt64))), .second, .val (.int (1 : Int32))] rfl ?_
          refine o_iload 402 X22 hx rfl (hb hby at_400) rfl ?_
          refine o_retN X22 hx .boolean (by simp) hret hlk (hb hby at_402) (by decide) (by decide) ?_
          exact ⟨rfl, NN22⟩
  · refine o_iload 8 X0 hx rfl (hb hby at_6) rfl ?_
    refine o_ifNo 11 X0 hx rfl (hb hby at_8) (tlt (show (0 : Int32) < (2 : Int32) by decide)).2.2.2 ?_
    refine o_iloadN 12 X0 hx rfl (hb hby at_11) rfl ?_
    refine o_ldcInt 14 X0 hx rfl hZ hown (wd_9 hw) (hb hby at_12) ?_
    refine o_iand 15 X0 hx rfl (hb hby at_14) ?_
    refine o_goto 19 X0 hx (hb hby at_15) (by decide) (by decide) ?_
    refine o_istore 21 X0 hx rfl (hb hby at_19) #[.val (.int i0), .val (.int i1), .val (.int i2), .val (.int i3), .val (.int i4), .val (.int (2 : Int32)), .val (.int (i0 &&& (1048575 : Int32))), .unset, .unset, .unset, .unset, .unset, .unset, .unset, .unset, .unset, .unset, .unset, .unset, .unset, .unset] rfl ?_
    refine o_iload 23 X0 hx rfl (hb hby at_21) rfl ?_
    refine o_iconst 24 X0 hx rfl (hb hby at_23) (1 : Int32) rfl ?_
    refine o_icmpNo 27 X0 hx rfl (hb hby at_24) (tlt (show (1 : Int32) < (2 : Int32) by decide)).2.2.2 ?_
    refine o_iloadN 28 X0 hx rfl (hb hby at_27) rfl ?_
    refine o_ldcInt 30 X0 hx rfl hZ hown (wd_9 hw) (hb hby at_28) ?_
    refine o_iand 31 X0 hx rfl (hb hby at_30) ?_
    refine o_goto 35 X0 hx (hb hby at_31) (by decide) (by decide) ?_
    refine o_istore 37 X0 hx rfl (hb hby at_35) #[.val (.int i0), .val (.int i1), .val (.int i2), .val (.int i3), .val (.int i4), .val (.int (2 : Int32)), .val (.int (i0 &&& (1048575 : Int32))), .val (.int (i1 &&& (1048575 : Int32))), .unset, .unset, .unset, .unset, .unset, .unset, .unset, .unset, .unset, .unset, .unset, .unset, .unset] rfl ?_
    refine o_iload 39 X0 hx rfl (hb hby at_37) rfl ?_
    refine o_iconst 40 X0 hx rfl (hb hby at_39) (2 : Int32) rfl ?_
    refine o_icmpYes 50 X0 hx (hb hby at_40) (flt (show ¬ ((2 : Int32) < (2 : Int32)) by decide)).2.2.2 (by decide) (by decide) ?_
    refine o_iconst 51 X0 hx rfl (hb hby at_50) (0 : Int32) rfl ?_
    refine o_istore 53 X0 hx rfl (hb hby at_51) #[.val (.int i0), .val (.int i1), .val (.int i2), .val (.int i3), .val (.int i4), .val (.int (2 : Int32)), .val (.int (i0 &&& (1048575 : Int32))), .val (.int (i1 &&& (1048575 : Int32))), .val (.int (0 : Int32)), .unset, .unset, .unset, .unset, .unset, .unset, .unset, .unset, .unset, .unset, .unset, .unset] rfl ?_
    obtain ⟨y0, hy0, ey0⟩ : ∃ y0 : Int32, (0 ≤ y0.toInt ∧ y0.toInt ≤ 1048575) ∧ (i0 &&& (1048575 : Int32)) = y0 := ⟨_, own_bd i0, rfl⟩
    rw [ey0]
    obtain ⟨y1, hy1, ey1⟩ : ∃ y1 : Int32, (0 ≤ y1.toInt ∧ y1.toInt ≤ 1048575) ∧ (i1 &&& (1048575 : Int32)) = y1 := ⟨_, own_bd i1, rfl⟩
    rw [ey1]
    refine o_iload 55 X0 hx rfl (hb hby at_53) rfl ?_
    refine o_newarrI 57 X0 hx rfl hZ .int .int rfl rfl (wd_0 hw) e0 (hb hby at_55) (by decide) 2 (by decide) (by decide) (by decide) (by decide) [(0 : Int32), (0 : Int32)] rfl fun T25 h25 a25 k25 g25 X25 e25 E25 A25 => ?_
    have ge26 : n0 ≤ a25 := Nat.le_trans Z0 (Nat.le_of_eq g25.symm)
    have sz27 : n0 ≤ h25.size := Nat.le_trans Z0 E25.1
    refine o_astore 59 X25 hx rfl (hb hby at_57) rfl #[.val (.int i0), .val (.int i1), .val (.int i2), .val (.int i3), .val (.int i4), .val (.int (2 : Int32)), .val (.int y0), .val (.int y1), .val (.int (0 : Int32)), .val (.ref a25), .unset, .unset, .unset, .unset, .unset, .unset, .unset, .unset, .unset, .unset, .unset] rfl ?_
    refine o_iload 61 X25 hx rfl (hb hby at_59) rfl ?_
    refine o_ifNo 64 X25 hx rfl (hb hby at_61) (tlt (show (0 : Int32) < (2 : Int32) by decide)).2.2.2 ?_
    refine o_aload 66 X25 hx rfl (hb hby at_64) rfl rfl ?_
    refine o_iconst 67 X25 hx rfl (hb hby at_66) (0 : Int32) rfl ?_
    refine o_iload 69 X25 hx rfl (hb hby at_67) rfl ?_
    refine o_iastoreX 70 X25 hx rfl hZ e25 A25 (by decide) (Nat.le_of_ble_eq_true rfl) [y0, (0 : Int32)] rfl N0 ge26 (hb hby at_69) fun T28 h28 L28 X28 N28 e28 W28 A28 => ?_
    have sz29 : n0 ≤ h28.size := Nat.le_trans sz27 (Keep.of_wr W28).1
    refine o_iload 72 X28 hx rfl (hb hby at_70) rfl ?_
    refine o_iconst 73 X28 hx rfl (hb hby at_72) (1 : Int32) rfl ?_
    refine o_icmpNo 76 X28 hx rfl (hb hby at_73) (tlt (show (1 : Int32) < (2 : Int32) by decide)).2.2.2 ?_
    refine o_aload 78 X28 hx rfl (hb hby at_76) rfl rfl ?_
    refine o_iconst 79 X28 hx rfl (hb hby at_78) (1 : Int32) rfl ?_
    refine o_iload 81 X28 hx rfl (hb hby at_79) rfl ?_
    refine o_iastoreX 82 X28 hx rfl hZ e28 A28 (by decide) (Nat.le_of_ble_eq_true rfl) [y0, y1] rfl N28 ge26 (hb hby at_81) fun T30 h30 L30 X30 N30 e30 W30 A30 => ?_
    have sz31 : n0 ≤ h30.size := Nat.le_trans sz29 (Keep.of_wr W30).1
    refine o_iload 84 X30 hx rfl (hb hby at_82) rfl ?_
    refine o_iconst 85 X30 hx rfl (hb hby at_84) (2 : Int32) rfl ?_
    refine o_icmpYes 94 X30 hx (hb hby at_85) (flt (show ¬ ((2 : Int32) < (2 : Int32)) by decide)).2.2.2 (by decide) (by decide) ?_
    refine o_iload 96 X30 hx rfl (hb hby at_94) rfl ?_
    refine o_iload 98 X30 hx rfl (hb hby at_96) rfl ?_
    refine o_iadd 99 X30 hx rfl (hb hby at_98) ?_
    refine o_iload 101 X30 hx rfl (hb hby at_99) rfl ?_
    refine o_iadd 102 X30 hx rfl (hb hby at_101) ?_
    refine o_istore 104 X30 hx rfl (hb hby at_102) #[.val (.int i0), .val (.int i1), .val (.int i2), .val (.int i3), .val (.int i4), .val (.int (2 : Int32)), .val (.int y0), .val (.int y1), .val (.int (0 : Int32)), .val (.ref a25), .val (.int ((y0 + y1) + (0 : Int32))), .unset, .unset, .unset, .unset, .unset, .unset, .unset, .unset, .unset, .unset] rfl ?_
    obtain ⟨rm, hrm, erm⟩ : ∃ rm : Int32, rm.toInt = y0.toInt + y1.toInt ∧ ((y0 + y1) + (0 : Int32)) = rm := ⟨_, own_room2 hy0 hy1, rfl⟩
    rw [erm]
    refine o_iload 106 X30 hx rfl (hb hby at_104) rfl ?_
    refine o_iconst 107 X30 hx rfl (hb hby at_106) (4 : Int32) rfl ?_
    refine o_iand 108 X30 hx rfl (hb hby at_107) ?_
    by_cases hc108_32 : (i4 &&& (4 : Int32)) = (0 : Int32)
    · refine o_ifYes 115 X30 hx (hb hby at_108) (teq hc108_32).1 (by decide) (by decide) ?_
      refine o_iloadN 116 X30 hx rfl (hb hby at_115) rfl ?_
      refine o_ldcInt 118 X30 hx rfl hZ hown (wd_1 hw) (hb hby at_116) ?_
      refine o_iand 119 X30 hx rfl (hb hby at_118) ?_
      refine o_iload 121 X30 hx rfl (hb hby at_119) rfl ?_
      refine o_iconst 122 X30 hx rfl (hb hby at_121) (3 : Int32) rfl ?_
      refine o_iadd 123 X30 hx rfl (hb hby at_122) ?_
      refine o_irem 124 X30 hx rfl (hb hby at_123) (own_nz (by omega) (by omega)) ?_
      refine o_iconst 125 X30 hx rfl (hb hby at_124) (1 : Int32) rfl ?_
      refine o_isub 126 X30 hx rfl (hb hby at_125) ?_
      obtain ⟨sm, hsm⟩ : ∃ sm, (((i3 &&& (2147483647 : Int32)) % (rm + (3 : Int32))) - (1 : Int32)) = sm := ⟨_, rfl⟩
      rw [hsm]
      refine o_istore 128 X30 hx rfl (hb hby at_126) #[.val (.int i0), .val (.int i1), .val (.int i2), .val (.int i3), .val (.int i4), .val (.int (2 : Int32)), .val (.int y0), .val (.int y1), .val (.int (0 : Int32)), .val (.ref a25), .val (.int rm), .val (.int sm), .unset, .unset, .unset, .unset, .unset, .unset, .unset, .unset, .unset] rfl ?_
      refine o_iload 130 X30 hx rfl (hb hby at_128) rfl ?_
      refine o_aload 132 X30 hx rfl (hb hby at_130) rfl rfl ?_
      have hroom : (((0 : Int32) + y0) + y1) = rm := (own_r2 y0 y1).trans erm
      by_cases hout : sm < (0 : Int32) ∨ rm < sm
      · refine o_callP (rv := .null) 135 X30 hx rfl hZ hown (wd_2 hw) (wd_3 hw) (wd_4 hw) (wd_5 hw) (by decide) e30 (rm1n_2 l Z a0 hw a25 k25 sm y0 y1 h30 A30 (by rw [hroom]; exact hout)) pd_lIaIraI [(.int sm), (.ref a25)] [] rfl rfl (by rw [hml]; rfl) rfl (hb hby at_132) 0 (Nat.le_of_eq rfl) (by decide) (by decide) (by decide) (by decide) rfl rfl fun T33 X33 e33 => ?_
        refine o_astore 137 X33 hx rfl (hb hby at_135) rfl #[.val (.int i0), .val (.int i1), .val (.int i2), .val (.int i3), .val (.int i4), .val (.int (2 : Int32)), .val (.int y0), .val (.int y1), .val (.int (0 : Int32)), .val (.ref a25), .val (.int rm), .val (.int sm), .val .null, .unset, .unset, .unset, .unset, .unset, .unset, .unset, .unset] rfl ?_
        refine o_iload 139 X33 hx rfl (hb hby at_137) rfl ?_
        refine o_iconst 140 X33 hx rfl (hb hby at_139) (1 : Int32) rfl ?_
        refine o_icmpNo 143 X33 hx rfl (hb hby at_140) (flt (show ¬ ((2 : Int32) < (1 : Int32)) by decide)).1 ?_
        refine o_aload 145 X33 hx rfl (hb hby at_143) rfl rfl ?_
        refine o_iconst 146 X33 hx rfl (hb hby at_145) (0 : Int32) rfl ?_
        refine o_ialoadX 147 X33 hx rfl hZ e33 A30 (by decide) (hb hby at_146) y0 rfl ?_
        refine o_iload 149 X33 hx rfl (hb hby at_147) rfl ?_
        refine o_icmpNo 152 X33 hx rfl (hb hby at_149) (teq rfl).2 ?_
        refine o_iload 154 X33 hx rfl (hb hby at_152) rfl ?_
        refine o_iconst 155 X33 hx rfl (hb hby at_154) (2 : Int32) rfl ?_
        refine o_icmpNo 158 X33 hx rfl (hb hby at_155) (flt (show ¬ ((2 : Int32) < (2 : Int32)) by decide)).1 ?_
        refine o_aload 160 X33 hx rfl (hb hby at_158) rfl rfl ?_
        refine o_iconst 161 X33 hx rfl (hb hby at_160) (1 : Int32) rfl ?_
        refine o_ialoadX 162 X33 hx rfl hZ e33 A30 (by decide) (hb hby at_161) y1 rfl ?_
        refine o_iload 164 X33 hx rfl (hb hby at_162) rfl ?_
        refine o_icmpNo 167 X33 hx rfl (hb hby at_164) (teq rfl).2 ?_
        refine o_iload 169 X33 hx rfl (hb hby at_167) rfl ?_
        refine o_iconst 170 X33 hx rfl (hb hby at_169) (3 : Int32) rfl ?_
        refine o_icmpYes 182 X33 hx (hb hby at_170) (tlt (show (2 : Int32) < (3 : Int32) by decide)).1 (by decide) (by decide) ?_
        refine o_iconst 183 X33 hx rfl (hb hby at_182) (1 : Int32) rfl ?_
        refine o_goto 187 X33 hx (hb hby at_183) (by decide) (by decide) ?_
        refine o_istore 189 X33 hx rfl (hb hby at_187) #[.val (.int i0), .val (.int i1), .val (.int i2), .val (.int i3), .val (.int i4), .val (.int (2 : Int32)), .val (.int y0), .val (.int y1), .val (.int (0 : Int32)), .val (.ref a25), .val (.int rm), .val (.int sm), .val .null, .val (.int (1 : Int32)), .unset, .unset, .unset, .unset, .unset, .unset, .unset] rfl ?_
        refine o_iload 191 X33 hx rfl (hb hby at_189) rfl ?_
        refine o_ifYes 196 X33 hx (hb hby at_191) (feq (show ¬ ((1 : Int32) = (0 : Int32)) by decide)).2 (by decide) (by decide) ?_
        refine o_iload 198 X33 hx rfl (hb hby at_196) rfl ?_
        by_cases hneg : sm < (0 : Int32)
        · refine o_ifYes 208 X33 hx (hb hby at_198) (tlt hneg).1 (by decide) (by decide) ?_
          refine o_aload 210 X33 hx rfl (hb hby at_208) rfl rfl ?_
          refine o_ifnonnullNo 213 X33 hx rfl (hb hby at_210) ?_
          refine o_iconst 214 X33 hx rfl (hb hby at_213) (1 : Int32) rfl ?_
          refine o_goto 218 X33 hx (hb hby at_214) (by decide) (by decide) ?_
          refine o_retN X33 hx .boolean (by simp) hret hlk (hb hby at_218) (by decide) (by decide) ?_
          exact ⟨rfl, N30⟩
        · refine o_ifNo 201 X33 hx rfl (hb hby at_198) (flt hneg).1 ?_
          refine o_iload 203 X33 hx rfl (hb hby at_201) rfl ?_
          refine o_iload 205 X33 hx rfl (hb hby at_203) rfl ?_
          refine o_icmpNo 208 X33 hx rfl (hb hby at_205) (tlt (hout.resolve_left hneg)).2.2.2 ?_
          refine o_aload 210 X33 hx rfl (hb hby at_208) rfl rfl ?_
          refine o_ifnonnullNo 213 X33 hx rfl (hb hby at_210) ?_
          refine o_iconst 214 X33 hx rfl (hb hby at_213) (1 : Int32) rfl ?_
          refine o_goto 218 X33 hx (hb hby at_214) (by decide) (by decide) ?_
          refine o_retN X33 hx .boolean (by simp) hret hlk (hb hby at_218) (by decide) (by decide) ?_
          exact ⟨rfl, N30⟩
      · have hneg : ¬ sm < (0 : Int32) := fun q => hout (Or.inl q)
        have hbig : ¬ rm < sm := fun q => hout (Or.inr q)
        refine o_callSw 135 X30 hx rfl hZ hown (wd_2 hw) (wd_3 hw) (wd_4 hw) (wd_5 hw) (by decide) e30 N30 (rm1v_2 l Z a0 hw a25 k25 sm y0 y1 h30 n0 sz31 A30 hneg (by rw [hroom]; exact hbig)) pd_lIaIraI [(.int sm), (.ref a25)] [] rfl rfl (by rw [hml]; rfl) rfl (hb hby at_132) 0 (Nat.le_of_eq rfl) (by decide) (by decide) (by decide) (by decide) fun v34 T34 L34 LL34 X34 Q34 NF34 => ?_
        obtain ⟨a34, k34, rfl, M34, K34, ga34, gz34, A34, Ac34⟩ := Q34
        have NN34 := NF34 M34
        have nev34 : a34 ≠ a25 := Nat.ne_of_gt (Nat.lt_of_lt_of_le A30.lt gz34)
        have sz35 : n0 ≤ T34.heap.size := Nat.le_trans sz31 K34.1
        show Go p.tables e below (EndE s room_1 (fun v h L => v = some (.int (1 : Int32)) ∧ Fr n0 L)) (T34.setTop (mkF m 135 #[.val (.int i0), .val (.int i1), .val (.int i2), .val (.int i3), .val (.int i4), .val (.int (2 : Int32)), .val (.int y0), .val (.int y1), .val (.int (0 : Int32)), .val (.ref a25), .val (.int rm), .val (.int sm), .unset, .unset, .unset, .unset, .unset, .unset, .unset, .unset, .unset] [(.ref a34)]))
        have HV := own_v2 sm y0 y1 hy0 hy1 rm hrm hneg hbig
        obtain ⟨w0, hw0⟩ : ∃ w, (fn3 (0 : Int32) (sm - (f2_48 y0 y1))) = w := ⟨_, rfl⟩
        obtain ⟨w1, hw1⟩ : ∃ w, (fn3 (0 : Int32) ((f2_70' sm y0 y1) - ((f2_48 y0 y1) - y1))) = w := ⟨_, rfl⟩
        simp only [hw0, hw1] at HV
        have F36 : Arv Z T34.heap a34 k34 .int (2 : Int32) ([w0, w1].map Value.int) (.int 0) := by rw [← hw0, ← hw1]; exact A34
        obtain ⟨h0l, h0u, h1l, h1u, hsum, hf0, hf1⟩ := HV
        refine o_astore 137 X34 hx rfl (hb hby at_135) rfl #[.val (.int i0), .val (.int i1), .val (.int i2), .val (.int i3), .val (.int i4), .val (.int (2 : Int32)), .val (.int y0), .val (.int y1), .val (.int (0 : Int32)), .val (.ref a25), .val (.int rm), .val (.int sm), .val (.ref a34), .unset, .unset, .unset, .unset, .unset, .unset, .unset, .unset] rfl ?_
        refine o_iload 139 X34 hx rfl (hb hby at_137) rfl ?_
        refine o_iconst 140 X34 hx rfl (hb hby at_139) (1 : Int32) rfl ?_
        refine o_icmpNo 143 X34 hx rfl (hb hby at_140) (flt (show ¬ ((2 : Int32) < (1 : Int32)) by decide)).1 ?_
        refine o_aload 145 X34 hx rfl (hb hby at_143) rfl rfl ?_
        refine o_iconst 146 X34 hx rfl (hb hby at_145) (0 : Int32) rfl ?_
        refine o_ialoadX 147 X34 hx rfl hZ rfl Ac34 (by decide) (hb hby at_146) y0 rfl ?_
        refine o_iload 149 X34 hx rfl (hb hby at_147) rfl ?_
        refine o_icmpNo 152 X34 hx rfl (hb hby at_149) (teq rfl).2 ?_
        refine o_iload 154 X34 hx rfl (hb hby at_152) rfl ?_
        refine o_iconst 155 X34 hx rfl (hb hby at_154) (2 : Int32) rfl ?_
        refine o_icmpNo 158 X34 hx rfl (hb hby at_155) (flt (show ¬ ((2 : Int32) < (2 : Int32)) by decide)).1 ?_
        refine o_aload 160 X34 hx rfl (hb hby at_158) rfl rfl ?_
        refine o_iconst 161 X34 hx rfl (hb hby at_160) (1 : Int32) rfl ?_
        refine o_ialoadX 162 X34 hx rfl hZ rfl Ac34 (by decide) (hb hby at_161) y1 rfl ?_
        refine o_iload 164 X34 hx rfl (hb hby at_162) rfl ?_
        refine o_icmpNo 167 X34 hx rfl (hb hby at_164) (teq rfl).2 ?_
        refine o_iload 169 X34 hx rfl (hb hby at_167) rfl ?_
        refine o_iconst 170 X34 hx rfl (hb hby at_169) (3 : Int32) rfl ?_
        refine o_icmpYes 182 X34 hx (hb hby at_170) (tlt (show (2 : Int32) < (3 : Int32) by decide)).1 (by decide) (by decide) ?_
        refine o_iconst 183 X34 hx rfl (hb hby at_182) (1 : Int32) rfl ?_
        refine o_goto 187 X34 hx (hb hby at_183) (by decide) (by decide) ?_
        refine o_istore 189 X34 hx rfl (hb hby at_187) #[.val (.int i0), .val (.int i1), .val (.int i2), .val (.int i3), .val (.int i4), .val (.int (2 : Int32)), .val (.int y0), .val (.int y1), .val (.int (0 : Int32)), .val (.ref a25), .val (.int rm), .val (.int sm), .val (.ref a34), .val (.int (1 : Int32)), .unset, .unset, .unset, .unset, .unset, .unset, .unset] rfl ?_
        refine o_iload 191 X34 hx rfl (hb hby at_189) rfl ?_
        refine o_ifYes 196 X34 hx (hb hby at_191) (feq (show ¬ ((1 : Int32) = (0 : Int32)) by decide)).2 (by decide) (by decide) ?_
        refine o_iload 198 X34 hx rfl (hb hby at_196) rfl ?_
        refine o_ifNo 201 X34 hx rfl (hb hby at_198) (flt hneg).1 ?_
        refine o_iload 203 X34 hx rfl (hb hby at_201) rfl ?_
        refine o_iload 205 X34 hx rfl (hb hby at_203) rfl ?_
        refine o_icmpYes 219 X34 hx (hb hby at_205) (flt hbig).2.2.2 (by decide) (by decide) ?_
        refine o_aload 221 X34 hx rfl (hb hby at_219) rfl rfl ?_
        refine o_ifnullNo 224 X34 hx rfl (hb hby at_221) ?_
        refine o_aload 226 X34 hx rfl (hb hby at_224) rfl rfl ?_
        refine o_alen 227 X34 hx rfl hZ rfl F36 (hb hby at_226) ?_
        refine o_iload 229 X34 hx rfl (hb hby at_227) rfl ?_
        refine o_icmpNo 232 X34 hx rfl (hb hby at_229) (teq rfl).2 ?_
        refine o_aload 234 X34 hx rfl (hb hby at_232) rfl rfl ?_
        refine o_aload 236 X34 hx rfl (hb hby at_234) rfl rfl ?_
        refine o_acmpne 241 X34 hx (hb hby at_236) nev34 (by decide) (by decide) ?_
        refine o_iload 243 X34 hx rfl (hb hby at_241) rfl ?_
        refine o_ifNo 246 X34 hx rfl (hb hby at_243) (tlt (show (0 : Int32) < (2 : Int32) by decide)).2.2.2 ?_
        refine o_aload 248 X34 hx rfl (hb hby at_246) rfl rfl ?_
        refine o_iconst 249 X34 hx rfl (hb hby at_248) (0 : Int32) rfl ?_
        refine o_ialoadX 250 X34 hx rfl hZ rfl F36 (by decide) (hb hby at_249) w0 rfl ?_
        refine o_goto 254 X34 hx (hb hby at_250) (by decide) (by decide) ?_
        refine o_istore 256 X34 hx rfl (hb hby at_254) #[.val (.int i0), .val (.int i1), .val (.int i2), .val (.int i3), .val (.int i4), .val (.int (2 : Int32)), .val (.int y0), .val (.int y1), .val (.int (0 : Int32)), .val (.ref a25), .val (.int rm), .val (.int sm), .val (.ref a34), .val (.int (1 : Int32)), .val (.int w0), .unset, .unset, .unset, .unset, .unset, .unset] rfl ?_
        refine o_iload 258 X34 hx rfl (hb hby at_256) rfl ?_
        refine o_iconst 259 X34 hx rfl (hb hby at_258) (1 : Int32) rfl ?_
        refine o_icmpNo 262 X34 hx rfl (hb hby at_259) (tlt (show (1 : Int32) < (2 : Int32) by decide)).2.2.2 ?_
        refine o_aload 264 X34 hx rfl (hb hby at_262) rfl rfl ?_
        refine o_iconst 265 X34 hx rfl (hb hby at_264) (1 : Int32) rfl ?_
        refine o_ialoadX 266 X34 hx rfl hZ rfl F36 (by decide) (hb hby at_265) w1 rfl ?_
        refine o_goto 270 X34 hx (hb hby at_266) (by decide) (by decide) ?_
        refine o_istore 272 X34 hx rfl (hb hby at_270) #[.val (.int i0), .val (.int i1), .val (.int i2), .val (.int i3), .val (.int i4), .val (.int (2 : Int32)), .val (.int y0), .val (.int y1), .val (.int (0 : Int32)), .val (.ref a25), .val (.int rm), .val (.int sm), .val (.ref a34), .val (.int (1 : Int32)), .val (.int w0), .val (.int w1), .unset, .unset, .unset, .unset, .unset] rfl ?_
        refine o_iload 274 X34 hx rfl (hb hby at_272) rfl ?_
        refine o_iconst 275 X34 hx rfl (hb hby at_274) (2 : Int32) rfl ?_
        refine o_icmpYes 285 X34 hx (hb hby at_275) (flt (show ¬ ((2 : Int32) < (2 : Int32)) by decide)).2.2.2 (by decide) (by decide) ?_
        refine o_iconst 286 X34 hx rfl (hb hby at_285) (0 : Int32) rfl ?_
        refine o_istore 288 X34 hx rfl (hb hby at_286) #[.val (.int i0), .val (.int i1), .val (.int i2), .val (.int i3), .val (.int i4), .val (.int (2 : Int32)), .val (.int y0), .val (.int y1), .val (.int (0 : Int32)), .val (.ref a25), .val (.int rm), .val (.int sm), .val (.ref a34), .val (.int (1 : Int32)), .val (.int w0), .val (.int w1), .val (.int (0 : Int32)), .unset, .unset, .unset, .unset] rfl ?_
        refine o_iload 290 X34 hx rfl (hb hby at_288) rfl ?_
        refine o_ifNo 293 X34 hx rfl (hb hby at_290) (flt (by rw [Int32.lt_iff_toInt_lt]; (try rw [show (0 : Int32).toInt = 0 from rfl]); omega)).1 ?_
        refine o_iload 295 X34 hx rfl (hb hby at_293) rfl ?_
        refine o_iload 297 X34 hx rfl (hb hby at_295) rfl ?_
        refine o_icmpNo 300 X34 hx rfl (hb hby at_297) (flt (by rw [Int32.lt_iff_toInt_lt]; (try rw [show (0 : Int32).toInt = 0 from rfl]); omega)).2.2.1 ?_
        refine o_iload 302 X34 hx rfl (hb hby at_300) rfl ?_
        refine o_ifNo 305 X34 hx rfl (hb hby at_302) (flt (by rw [Int32.lt_iff_toInt_lt]; (try rw [show (0 : Int32).toInt = 0 from rfl]); omega)).1 ?_
        refine o_iload 307 X34 hx rfl (hb hby at_305) rfl ?_
        refine o_iload 309 X34 hx rfl (hb hby at_307) rfl ?_
        refine o_icmpNo 312 X34 hx rfl (hb hby at_309) (flt (by rw [Int32.lt_iff_toInt_lt]; (try rw [show (0 : Int32).toInt = 0 from rfl]); omega)).2.2.1 ?_
        refine o_iload 314 X34 hx rfl (hb hby at_312) rfl ?_
        refine o_ifNo 317 X34 hx rfl (hb hby at_314) (flt (show ¬ ((0 : Int32) < (0 : Int32)) by decide)).1 ?_
        refine o_iload 319 X34 hx rfl (hb hby at_317) rfl ?_
        refine o_iload 321 X34 hx rfl (hb hby at_319) rfl ?_
        refine o_icmpNo 324 X34 hx rfl (hb hby at_321) (flt (show ¬ ((0 : Int32) < (0 : Int32)) by decide)).2.2.1 ?_
        refine o_iconst 325 X34 hx rfl (hb hby at_324) (1 : Int32) rfl ?_
        refine o_goto 329 X34 hx (hb hby at_325) (by decide) (by decide) ?_
        refine o_istore 331 X34 hx rfl (hb hby at_329) #[.val (.int i0), .val (.int i1), .val (.int i2), .val (.int i3), .val (.int i4), .val (.int (2 : Int32)), .val (.int y0), .val (.int y1), .val (.int (0 : Int32)), .val (.ref a25), .val (.int rm), .val (.int sm), .val (.ref a34), .val (.int (1 : Int32)), .val (.int w0), .val (.int w1), .val (.int (0 : Int32)), .val (.int (1 : Int32)), .unset, .unset, .unset] rfl ?_
        refine o_iload 333 X34 hx rfl (hb hby at_331) rfl ?_
        refine o_ifYes 338 X34 hx (hb hby at_333) (feq (show ¬ ((1 : Int32) = (0 : Int32)) by decide)).2 (by decide) (by decide) ?_
        refine o_iload 340 X34 hx rfl (hb hby at_338) rfl ?_
        refine o_i2l 341 X34 hx rfl (hb hby at_340) ?_
        refine o_iload 343 X34 hx rfl (hb hby at_341) rfl ?_
        refine o_i2l 344 X34 hx rfl (hb hby at_343) ?_
        refine o_ladd 345 X34 hx rfl (hb hby at_344) ?_
        refine o_iload 347 X34 hx rfl (hb hby at_345) rfl ?_
        refine o_i2l 348 X34 hx rfl (hb hby at_347) ?_
        refine o_ladd 349 X34 hx rfl (hb hby at_348) ?_
        refine o_lstore 351 X34 hx rfl (hb hby at_349) #[.val (.int i0), .val (.int i1), .val (.int i2), .val (.int i3), .val (.int i4), .val (.int (2 : Int32)), .val (.int y0), .val (.int y1), .val (.int (0 : Int32)), .val (.ref a25), .val (.int rm), .val (.int sm), .val (.ref a34), .val (.int (1 : Int32)), .val (.int w0), .val (.int w1), .val (.int (0 : Int32)), .val (.int (1 : Int32)), .val (.long (((w0.toInt64) + (w1.toInt64)) + ((0 : Int32).toInt64))), .second, .unset] rfl ?_
        refine o_lload 353 X34 hx rfl (hb hby at_351) rfl ?_
        refine o_iload 355 X34 hx rfl (hb hby at_353) rfl ?_
        refine o_i2l 356 X34 hx rfl (hb hby at_355) ?_
        refine o_lcmp 357 X34 hx rfl (hb hby at_356) ?_
        refine o_ifYes 362 X34 hx (hb hby at_357) (teq (l_teq (own_t2 w0 w1 h0l hy0 h0u h1l hy1 h1u hsum))).1 (by decide) (by decide) ?_
        refine o_iload 364 X34 hx rfl (hb hby at_362) rfl ?_
        by_cases z0 : w0 = (0 : Int32)
        · refine o_ifYes 381 X34 hx (hb hby at_364) (teq z0).1 (by decide) (by decide) ?_
          refine o_iload 383 X34 hx rfl (hb hby at_381) rfl ?_
          by_cases z1 : w1 = (0 : Int32)
          · refine o_ifYes 393 X34 hx (hb hby at_383) (teq z1).1 (by decide) (by decide) ?_
            refine o_iconst 394 X34 hx rfl (hb hby at_393) (1 : Int32) rfl ?_
            refine o_goto 398 X34 hx (hb hby at_394) (by decide) (by decide) ?_
            refine o_istore 400 X34 hx rfl (hb hby at_398) #[.val (.int i0), .val (.int i1), .val (.int i2), .val (.int i3), .val (.int i4), .val (.int (2 : Int32)), .val (.int y0), .val (.int y1), .val (.int (0 : Int32)), .val (.ref a25), .val (.int rm), .val (.int sm), .val (.ref a34), .val (.int (1 : Int32)), .val (.int w0), .val (.int w1), .val (.int (0 : Int32)), .val (.int (1 : Int32)), .val (.long (((w0.toInt64) + (w1.toInt64)) + ((0 : Int32).toInt64))), .second, .val (.int (1 : Int32))] rfl ?_
            refine o_iload 402 X34 hx rfl (hb hby at_400) rfl ?_
            refine o_retN X34 hx .boolean (by simp) hret hlk (hb hby at_402) (by decide) (by decide) ?_
            exact ⟨rfl, NN34⟩
          · refine o_ifNo 386 X34 hx rfl (hb hby at_383) (feq z1).1 ?_
            refine o_iload 388 X34 hx rfl (hb hby at_386) rfl ?_
            refine o_iload 390 X34 hx rfl (hb hby at_388) rfl ?_
            refine o_icmpNo 393 X34 hx rfl (hb hby at_390) (teq (show (0 : Int32) = (0 : Int32) by decide)).2 ?_
            refine o_iconst 394 X34 hx rfl (hb hby at_393) (1 : Int32) rfl ?_
            refine o_goto 398 X34 hx (hb hby at_394) (by decide) (by decide) ?_
            refine o_istore 400 X34 hx rfl (hb hby at_398) #[.val (.int i0), .val (.int i1), .val (.int i2), .val (.int i3), .val (.int i4), .val (.int (2 : Int32)), .val (.int y0), .val (.int y1), .val (.int (0 : Int32)), .val (.ref a25), .val (.int rm), .val (.int sm), .val (.ref a34), .val (.int (1 : Int32)), .val (.int w0), .val (.int w1), .val (.int (0 : Int32)), .val (.int (1 : Int32)), .val (.long (((w0.toInt64) + (w1.toInt64)) + ((0 : Int32).toInt64))), .second, .val (.int (1 : Int32))] rfl ?_
            refine o_iload 402 X34 hx rfl (hb hby at_400) rfl ?_
            refine o_retN X34 hx .boolean (by simp) hret hlk (hb hby at_402) (by decide) (by decide) ?_
            exact ⟨rfl, NN34⟩
        · refine o_ifNo 367 X34 hx rfl (hb hby at_364) (feq z0).1 ?_
          refine o_iload 369 X34 hx rfl (hb hby at_367) rfl ?_
          refine o_iload 371 X34 hx rfl (hb hby at_369) rfl ?_
          refine o_icmpNo 374 X34 hx rfl (hb hby at_371) (teq (hf0.resolve_left z0).1).2 ?_
          refine o_iload 376 X34 hx rfl (hb hby at_374) rfl ?_
          refine o_iload 378 X34 hx rfl (hb hby at_376) rfl ?_
          refine o_icmpNo 381 X34 hx rfl (hb hby at_378) (teq (show (0 : Int32) = (0 : Int32) by decide)).2 ?_
          refine o_iload 383 X34 hx rfl (hb hby at_381) rfl ?_
          by_cases z1 : w1 = (0 : Int32)
          · refine o_ifYes 393 X34 hx (hb hby at_383) (teq z1).1 (by decide) (by decide) ?_
            refine o_iconst 394 X34 hx rfl (hb hby at_393) (1 : Int32) rfl ?_
            refine o_goto 398 X34 hx (hb hby at_394) (by decide) (by decide) ?_
            refine o_istore 400 X34 hx rfl (hb hby at_398) #[.val (.int i0), .val (.int i1), .val (.int i2), .val (.int i3), .val (.int i4), .val (.int (2 : Int32)), .val (.int y0), .val (.int y1), .val (.int (0 : Int32)), .val (.ref a25), .val (.int rm), .val (.int sm), .val (.ref a34), .val (.int (1 : Int32)), .val (.int w0), .val (.int w1), .val (.int (0 : Int32)), .val (.int (1 : Int32)), .val (.long (((w0.toInt64) + (w1.toInt64)) + ((0 : Int32).toInt64))), .second, .val (.int (1 : Int32))] rfl ?_
            refine o_iload 402 X34 hx rfl (hb hby at_400) rfl ?_
            refine o_retN X34 hx .boolean (by simp) hret hlk (hb hby at_402) (by decide) (by decide) ?_
            exact ⟨rfl, NN34⟩
          · refine o_ifNo 386 X34 hx rfl (hb hby at_383) (feq z1).1 ?_
            refine o_iload 388 X34 hx rfl (hb hby at_386) rfl ?_
            refine o_iload 390 X34 hx rfl (hb hby at_388) rfl ?_
            refine o_icmpNo 393 X34 hx rfl (hb hby at_390) (teq (show (0 : Int32) = (0 : Int32) by decide)).2 ?_
            refine o_iconst 394 X34 hx rfl (hb hby at_393) (1 : Int32) rfl ?_
            refine o_goto 398 X34 hx (hb hby at_394) (by decide) (by decide) ?_
            refine o_istore 400 X34 hx rfl (hb hby at_398) #[.val (.int i0), .val (.int i1), .val (.int i2), .val (.int i3), .val (.int i4), .val (.int (2 : Int32)), .val (.int y0), .val (.int y1), .val (.int (0 : Int32)), .val (.ref a25), .val (.int rm), .val (.int sm), .val (.ref a34), .val (.int (1 : Int32)), .val (.int w0), .val (.int w1), .val (.int (0 : Int32)), .val (.int (1 : Int32)), .val (.long (((w0.toInt64) + (w1.toInt64)) + ((0 : Int32).toInt64))), .second, .val (.int (1 : Int32))] rfl ?_
            refine o_iload 402 X34 hx rfl (hb hby at_400) rfl ?_
            refine o_retN X34 hx .boolean (by simp) hret hlk (hb hby at_402) (by decide) (by decide) ?_
            exact ⟨rfl, NN34⟩
    · refine o_ifNo 111 X30 hx rfl (hb hby at_108) (feq hc108_32).1 ?_
      refine o_iloadN 112 X30 hx rfl (hb hby at_111) rfl ?_
      refine o_goto 126 X30 hx (hb hby at_112) (by decide) (by decide) ?_
      obtain ⟨sm, hsm⟩ : ∃ sm, i3 = sm := ⟨_, rfl⟩
      rw [hsm]
      refine o_istore 128 X30 hx rfl (hb hby at_126) #[.val (.int i0), .val (.int i1), .val (.int i2), .val (.int sm), .val (.int i4), .val (.int (2 : Int32)), .val (.int y0), .val (.int y1), .val (.int (0 : Int32)), .val (.ref a25), .val (.int rm), .val (.int sm), .unset, .unset, .unset, .unset, .unset, .unset, .unset, .unset, .unset] rfl ?_
      refine o_iload 130 X30 hx rfl (hb hby at_128) rfl ?_
      refine o_aload 132 X30 hx rfl (hb hby at_130) rfl rfl ?_
      have hroom : (((0 : Int32) + y0) + y1) = rm := (own_r2 y0 y1).trans erm
      by_cases hout : sm < (0 : Int32) ∨ rm < sm
      · refine o_callP (rv := .null) 135 X30 hx rfl hZ hown (wd_2 hw) (wd_3 hw) (wd_4 hw) (wd_5 hw) (by decide) e30 (rm1n_2 l Z a0 hw a25 k25 sm y0 y1 h30 A30 (by rw [hroom]; exact hout)) pd_lIaIraI [(.int sm), (.ref a25)] [] rfl rfl (by rw [hml]; rfl) rfl (hb hby at_132) 0 (Nat.le_of_eq rfl) (by decide) (by decide) (by decide) (by decide) rfl rfl fun T37 X37 e37 => ?_
        refine o_astore 137 X37 hx rfl (hb hby at_135) rfl #[.val (.int i0), .val (.int i1), .val (.int i2), .val (.int sm), .val (.int i4), .val (.int (2 : Int32)), .val (.int y0), .val (.int y1), .val (.int (0 : Int32)), .val (.ref a25), .val (.int rm), .val (.int sm), .val .null, .unset, .unset, .unset, .unset, .unset, .unset, .unset, .unset] rfl ?_
        refine o_iload 139 X37 hx rfl (hb hby at_137) rfl ?_
        refine o_iconst 140 X37 hx rfl (hb hby at_139) (1 : Int32) rfl ?_
        refine o_icmpNo 143 X37 hx rfl (hb hby at_140) (flt (show ¬ ((2 : Int32) < (1 : Int32)) by decide)).1 ?_
        refine o_aload 145 X37 hx rfl (hb hby at_143) rfl rfl ?_
        refine o_iconst 146 X37 hx rfl (hb hby at_145) (0 : Int32) rfl ?_
        refine o_ialoadX 147 X37 hx rfl hZ e37 A30 (by decide) (hb hby at_146) y0 rfl ?_
        refine o_iload 149 X37 hx rfl (hb hby at_147) rfl ?_
        refine o_icmpNo 152 X37 hx rfl (hb hby at_149) (teq rfl).2 ?_
        refine o_iload 154 X37 hx rfl (hb hby at_152) rfl ?_
        refine o_iconst 155 X37 hx rfl (hb hby at_154) (2 : Int32) rfl ?_
        refine o_icmpNo 158 X37 hx rfl (hb hby at_155) (flt (show ¬ ((2 : Int32) < (2 : Int32)) by decide)).1 ?_
        refine o_aload 160 X37 hx rfl (hb hby at_158) rfl rfl ?_
        refine o_iconst 161 X37 hx rfl (hb hby at_160) (1 : Int32) rfl ?_
        refine o_ialoadX 162 X37 hx rfl hZ e37 A30 (by decide) (hb hby at_161) y1 rfl ?_
        refine o_iload 164 X37 hx rfl (hb hby at_162) rfl ?_
        refine o_icmpNo 167 X37 hx rfl (hb hby at_164) (teq rfl).2 ?_
        refine o_iload 169 X37 hx rfl (hb hby at_167) rfl ?_
        refine o_iconst 170 X37 hx rfl (hb hby at_169) (3 : Int32) rfl ?_
        refine o_icmpYes 182 X37 hx (hb hby at_170) (tlt (show (2 : Int32) < (3 : Int32) by decide)).1 (by decide) (by decide) ?_
        refine o_iconst 183 X37 hx rfl (hb hby at_182) (1 : Int32) rfl ?_
        refine o_goto 187 X37 hx (hb hby at_183) (by decide) (by decide) ?_
        refine o_istore 189 X37 hx rfl (hb hby at_187) #[.val (.int i0), .val (.int i1), .val (.int i2), .val (.int sm), .val (.int i4), .val (.int (2 : Int32)), .val (.int y0), .val (.int y1), .val (.int (0 : Int32)), .val (.ref a25), .val (.int rm), .val (.int sm), .val .null, .val (.int (1 : Int32)), .unset, .unset, .unset, .unset, .unset, .unset, .unset] rfl ?_
        refine o_iload 191 X37 hx rfl (hb hby at_189) rfl ?_
        refine o_ifYes 196 X37 hx (hb hby at_191) (feq (show ¬ ((1 : Int32) = (0 : Int32)) by decide)).2 (by decide) (by decide) ?_
        refine o_iload 198 X37 hx rfl (hb hby at_196) rfl ?_
        by_cases hneg : sm < (0 : Int32)
        · refine o_ifYes 208 X37 hx (hb hby at_198) (tlt hneg).1 (by decide) (by decide) ?_
          refine o_aload 210 X37 hx rfl (hb hby at_208) rfl rfl ?_
          refine o_ifnonnullNo 213 X37 hx rfl (hb hby at_210) ?_
          refine o_iconst 214 X37 hx rfl (hb hby at_213) (1 : Int32) rfl ?_
          refine o_goto 218 X37 hx (hb hby at_214) (by decide) (by decide) ?_
          refine o_retN X37 hx .boolean (by simp) hret hlk (hb hby at_218) (by decide) (by decide) ?_
          exact ⟨rfl, N30⟩
        · refine o_ifNo 201 X37 hx rfl (hb hby at_198) (flt hneg).1 ?_
          refine o_iload 203 X37 hx rfl (hb hby at_201) rfl ?_
          refine o_iload 205 X37 hx rfl (hb hby at_203) rfl ?_
          refine o_icmpNo 208 X37 hx rfl (hb hby at_205) (tlt (hout.resolve_left hneg)).2.2.2 ?_
          refine o_aload 210 X37 hx rfl (hb hby at_208) rfl rfl ?_
          refine o_ifnonnullNo 213 X37 hx rfl (hb hby at_210) ?_
          refine o_iconst 214 X37 hx rfl (hb hby at_213) (1 : Int32) rfl ?_
          refine o_goto 218 X37 hx (hb hby at_214) (by decide) (by decide) ?_
          refine o_retN X37 hx .boolean (by simp) hret hlk (hb hby at_218) (by decide) (by decide) ?_
          exact ⟨rfl, N30⟩
      · have hneg : ¬ sm < (0 : Int32) := fun q => hout (Or.inl q)
        have hbig : ¬ rm < sm := fun q => hout (Or.inr q)
        refine o_callSw 135 X30 hx rfl hZ hown (wd_2 hw) (wd_3 hw) (wd_4 hw) (wd_5 hw) (by decide) e30 N30 (rm1v_2 l Z a0 hw a25 k25 sm y0 y1 h30 n0 sz31 A30 hneg (by rw [hroom]; exact hbig)) pd_lIaIraI [(.int sm), (.ref a25)] [] rfl rfl (by rw [hml]; rfl) rfl (hb hby at_132) 0 (Nat.le_of_eq rfl) (by decide) (by decide) (by decide) (by decide) fun v38 T38 L38 LL38 X38 Q38 NF38 => ?_
        obtain ⟨a38, k38, rfl, M38, K38, ga38, gz38, A38, Ac38⟩ := Q38
        have NN38 := NF38 M38
        have nev38 : a38 ≠ a25 := Nat.ne_of_gt (Nat.lt_of_lt_of_le A30.lt gz38)
        have sz39 : n0 ≤ T38.heap.size := Nat.le_trans sz31 K38.1
        show Go p.tables e below (EndE s room_1 (fun v h L => v = some (.int (1 : Int32)) ∧ Fr n0 L)) (T38.setTop (mkF m 135 #[.val (.int i0), .val (.int i1), .val (.int i2), .val (.int sm), .val (.int i4), .val (.int (2 : Int32)), .val (.int y0), .val (.int y1), .val (.int (0 : Int32)), .val (.ref a25), .val (.int rm), .val (.int sm), .unset, .unset, .unset, .unset, .unset, .unset, .unset, .unset, .unset] [(.ref a38)]))
        have HV := own_v2 sm y0 y1 hy0 hy1 rm hrm hneg hbig
        obtain ⟨w0, hw0⟩ : ∃ w, (fn3 (0 : Int32) (sm - (f2_48 y0 y1))) = w := ⟨_, rfl⟩
        obtain ⟨w1, hw1⟩ : ∃ w, (fn3 (0 : Int32) ((f2_70' sm y0 y1) - ((f2_48 y0 y1) - y1))) = w := ⟨_, rfl⟩
        simp only [hw0, hw1] at HV
        have F40 : Arv Z T38.heap a38 k38 .int (2 : Int32) ([w0, w1].map Value.int) (.int 0) := by rw [← hw0, ← hw1]; exact A38
        obtain ⟨h0l, h0u, h1l, h1u, hsum, hf0, hf1⟩ := HV
        refine o_astore 137 X38 hx rfl (hb hby at_135) rfl #[.val (.int i0), .val (.int i1), .val (.int i2), .val (.int sm), .val (.int i4), .val (.int (2 : Int32)), .val (.int y0), .val (.int y1), .val (.int (0 : Int32)), .val (.ref a25), .val (.int rm), .val (.int sm), .val (.ref a38), .unset, .unset, .unset, .unset, .unset, .unset, .unset, .unset] rfl ?_
        refine o_iload 139 X38 hx rfl (hb hby at_137) rfl ?_
        refine o_iconst 140 X38 hx rfl (hb hby at_139) (1 : Int32) rfl ?_
        refine o_icmpNo 143 X38 hx rfl (hb hby at_140) (flt (show ¬ ((2 : Int32) < (1 : Int32)) by decide)).1 ?_
        refine o_aload 145 X38 hx rfl (hb hby at_143) rfl rfl ?_
        refine o_iconst 146 X38 hx rfl (hb hby at_145) (0 : Int32) rfl ?_
        refine o_ialoadX 147 X38 hx rfl hZ rfl Ac38 (by decide) (hb hby at_146) y0 rfl ?_
        refine o_iload 149 X38 hx rfl (hb hby at_147) rfl ?_
        refine o_icmpNo 152 X38 hx rfl (hb hby at_149) (teq rfl).2 ?_
        refine o_iload 154 X38 hx rfl (hb hby at_152) rfl ?_
        refine o_iconst 155 X38 hx rfl (hb hby at_154) (2 : Int32) rfl ?_
        refine o_icmpNo 158 X38 hx rfl (hb hby at_155) (flt (show ¬ ((2 : Int32) < (2 : Int32)) by decide)).1 ?_
        refine o_aload 160 X38 hx rfl (hb hby at_158) rfl rfl ?_
        refine o_iconst 161 X38 hx rfl (hb hby at_160) (1 : Int32) rfl ?_
        refine o_ialoadX 162 X38 hx rfl hZ rfl Ac38 (by decide) (hb hby at_161) y1 rfl ?_
        refine o_iload 164 X38 hx rfl (hb hby at_162) rfl ?_
        refine o_icmpNo 167 X38 hx rfl (hb hby at_164) (teq rfl).2 ?_
        refine o_iload 169 X38 hx rfl (hb hby at_167) rfl ?_
        refine o_iconst 170 X38 hx rfl (hb hby at_169) (3 : Int32) rfl ?_
        refine o_icmpYes 182 X38 hx (hb hby at_170) (tlt (show (2 : Int32) < (3 : Int32) by decide)).1 (by decide) (by decide) ?_
        refine o_iconst 183 X38 hx rfl (hb hby at_182) (1 : Int32) rfl ?_
        refine o_goto 187 X38 hx (hb hby at_183) (by decide) (by decide) ?_
        refine o_istore 189 X38 hx rfl (hb hby at_187) #[.val (.int i0), .val (.int i1), .val (.int i2), .val (.int sm), .val (.int i4), .val (.int (2 : Int32)), .val (.int y0), .val (.int y1), .val (.int (0 : Int32)), .val (.ref a25), .val (.int rm), .val (.int sm), .val (.ref a38), .val (.int (1 : Int32)), .unset, .unset, .unset, .unset, .unset, .unset, .unset] rfl ?_
        refine o_iload 191 X38 hx rfl (hb hby at_189) rfl ?_
        refine o_ifYes 196 X38 hx (hb hby at_191) (feq (show ¬ ((1 : Int32) = (0 : Int32)) by decide)).2 (by decide) (by decide) ?_
        refine o_iload 198 X38 hx rfl (hb hby at_196) rfl ?_
        refine o_ifNo 201 X38 hx rfl (hb hby at_198) (flt hneg).1 ?_
        refine o_iload 203 X38 hx rfl (hb hby at_201) rfl ?_
        refine o_iload 205 X38 hx rfl (hb hby at_203) rfl ?_
        refine o_icmpYes 219 X38 hx (hb hby at_205) (flt hbig).2.2.2 (by decide) (by decide) ?_
        refine o_aload 221 X38 hx rfl (hb hby at_219) rfl rfl ?_
        refine o_ifnullNo 224 X38 hx rfl (hb hby at_221) ?_
        refine o_aload 226 X38 hx rfl (hb hby at_224) rfl rfl ?_
        refine o_alen 227 X38 hx rfl hZ rfl F40 (hb hby at_226) ?_
        refine o_iload 229 X38 hx rfl (hb hby at_227) rfl ?_
        refine o_icmpNo 232 X38 hx rfl (hb hby at_229) (teq rfl).2 ?_
        refine o_aload 234 X38 hx rfl (hb hby at_232) rfl rfl ?_
        refine o_aload 236 X38 hx rfl (hb hby at_234) rfl rfl ?_
        refine o_acmpne 241 X38 hx (hb hby at_236) nev38 (by decide) (by decide) ?_
        refine o_iload 243 X38 hx rfl (hb hby at_241) rfl ?_
        refine o_ifNo 246 X38 hx rfl (hb hby at_243) (tlt (show (0 : Int32) < (2 : Int32) by decide)).2.2.2 ?_
        refine o_aload 248 X38 hx rfl (hb hby at_246) rfl rfl ?_
        refine o_iconst 249 X38 hx rfl (hb hby at_248) (0 : Int32) rfl ?_
        refine o_ialoadX 250 X38 hx rfl hZ rfl F40 (by decide) (hb hby at_249) w0 rfl ?_
        refine o_goto 254 X38 hx (hb hby at_250) (by decide) (by decide) ?_
        refine o_istore 256 X38 hx rfl (hb hby at_254) #[.val (.int i0), .val (.int i1), .val (.int i2), .val (.int sm), .val (.int i4), .val (.int (2 : Int32)), .val (.int y0), .val (.int y1), .val (.int (0 : Int32)), .val (.ref a25), .val (.int rm), .val (.int sm), .val (.ref a38), .val (.int (1 : Int32)), .val (.int w0), .unset, .unset, .unset, .unset, .unset, .unset] rfl ?_
        refine o_iload 258 X38 hx rfl (hb hby at_256) rfl ?_
        refine o_iconst 259 X38 hx rfl (hb hby at_258) (1 : Int32) rfl ?_
        refine o_icmpNo 262 X38 hx rfl (hb hby at_259) (tlt (show (1 : Int32) < (2 : Int32) by decide)).2.2.2 ?_
        refine o_aload 264 X38 hx rfl (hb hby at_262) rfl rfl ?_
        refine o_iconst 265 X38 hx rfl (hb hby at_264) (1 : Int32) rfl ?_
        refine o_ialoadX 266 X38 hx rfl hZ rfl F40 (by decide) (hb hby at_265) w1 rfl ?_
        refine o_goto 270 X38 hx (hb hby at_266) (by decide) (by decide) ?_
        refine o_istore 272 X38 hx rfl (hb hby at_270) #[.val (.int i0), .val (.int i1), .val (.int i2), .val (.int sm), .val (.int i4), .val (.int (2 : Int32)), .val (.int y0), .val (.int y1), .val (.int (0 : Int32)), .val (.ref a25), .val (.int rm), .val (.int sm), .val (.ref a38), .val (.int (1 : Int32)), .val (.int w0), .val (.int w1), .unset, .unset, .unset, .unset, .unset] rfl ?_
        refine o_iload 274 X38 hx rfl (hb hby at_272) rfl ?_
        refine o_iconst 275 X38 hx rfl (hb hby at_274) (2 : Int32) rfl ?_
        refine o_icmpYes 285 X38 hx (hb hby at_275) (flt (show ¬ ((2 : Int32) < (2 : Int32)) by decide)).2.2.2 (by decide) (by decide) ?_
        refine o_iconst 286 X38 hx rfl (hb hby at_285) (0 : Int32) rfl ?_
        refine o_istore 288 X38 hx rfl (hb hby at_286) #[.val (.int i0), .val (.int i1), .val (.int i2), .val (.int sm), .val (.int i4), .val (.int (2 : Int32)), .val (.int y0), .val (.int y1), .val (.int (0 : Int32)), .val (.ref a25), .val (.int rm), .val (.int sm), .val (.ref a38), .val (.int (1 : Int32)), .val (.int w0), .val (.int w1), .val (.int (0 : Int32)), .unset, .unset, .unset, .unset] rfl ?_
        refine o_iload 290 X38 hx rfl (hb hby at_288) rfl ?_
        refine o_ifNo 293 X38 hx rfl (hb hby at_290) (flt (by rw [Int32.lt_iff_toInt_lt]; (try rw [show (0 : Int32).toInt = 0 from rfl]); omega)).1 ?_
        refine o_iload 295 X38 hx rfl (hb hby at_293) rfl ?_
        refine o_iload 297 X38 hx rfl (hb hby at_295) rfl ?_
        refine o_icmpNo 300 X38 hx rfl (hb hby at_297) (flt (by rw [Int32.lt_iff_toInt_lt]; (try rw [show (0 : Int32).toInt = 0 from rfl]); omega)).2.2.1 ?_
        refine o_iload 302 X38 hx rfl (hb hby at_300) rfl ?_
        refine o_ifNo 305 X38 hx rfl (hb hby at_302) (flt (by rw [Int32.lt_iff_toInt_lt]; (try rw [show (0 : Int32).toInt = 0 from rfl]); omega)).1 ?_
        refine o_iload 307 X38 hx rfl (hb hby at_305) rfl ?_
        refine o_iload 309 X38 hx rfl (hb hby at_307) rfl ?_
        refine o_icmpNo 312 X38 hx rfl (hb hby at_309) (flt (by rw [Int32.lt_iff_toInt_lt]; (try rw [show (0 : Int32).toInt = 0 from rfl]); omega)).2.2.1 ?_
        refine o_iload 314 X38 hx rfl (hb hby at_312) rfl ?_
        refine o_ifNo 317 X38 hx rfl (hb hby at_314) (flt (show ¬ ((0 : Int32) < (0 : Int32)) by decide)).1 ?_
        refine o_iload 319 X38 hx rfl (hb hby at_317) rfl ?_
        refine o_iload 321 X38 hx rfl (hb hby at_319) rfl ?_
        refine o_icmpNo 324 X38 hx rfl (hb hby at_321) (flt (show ¬ ((0 : Int32) < (0 : Int32)) by decide)).2.2.1 ?_
        refine o_iconst 325 X38 hx rfl (hb hby at_324) (1 : Int32) rfl ?_
        refine o_goto 329 X38 hx (hb hby at_325) (by decide) (by decide) ?_
        refine o_istore 331 X38 hx rfl (hb hby at_329) #[.val (.int i0), .val (.int i1), .val (.int i2), .val (.int sm), .val (.int i4), .val (.int (2 : Int32)), .val (.int y0), .val (.int y1), .val (.int (0 : Int32)), .val (.ref a25), .val (.int rm), .val (.int sm), .val (.ref a38), .val (.int (1 : Int32)), .val (.int w0), .val (.int w1), .val (.int (0 : Int32)), .val (.int (1 : Int32)), .unset, .unset, .unset] rfl ?_
        refine o_iload 333 X38 hx rfl (hb hby at_331) rfl ?_
        refine o_ifYes 338 X38 hx (hb hby at_333) (feq (show ¬ ((1 : Int32) = (0 : Int32)) by decide)).2 (by decide) (by decide) ?_
        refine o_iload 340 X38 hx rfl (hb hby at_338) rfl ?_
        refine o_i2l 341 X38 hx rfl (hb hby at_340) ?_
        refine o_iload 343 X38 hx rfl (hb hby at_341) rfl ?_
        refine o_i2l 344 X38 hx rfl (hb hby at_343) ?_
        refine o_ladd 345 X38 hx rfl (hb hby at_344) ?_
        refine o_iload 347 X38 hx rfl (hb hby at_345) rfl ?_
        refine o_i2l 348 X38 hx rfl (hb hby at_347) ?_
        refine o_ladd 349 X38 hx rfl (hb hby at_348) ?_
        refine o_lstore 351 X38 hx rfl (hb hby at_349) #[.val (.int i0), .val (.int i1), .val (.int i2), .val (.int sm), .val (.int i4), .val (.int (2 : Int32)), .val (.int y0), .val (.int y1), .val (.int (0 : Int32)), .val (.ref a25), .val (.int rm), .val (.int sm), .val (.ref a38), .val (.int (1 : Int32)), .val (.int w0), .val (.int w1), .val (.int (0 : Int32)), .val (.int (1 : Int32)), .val (.long (((w0.toInt64) + (w1.toInt64)) + ((0 : Int32).toInt64))), .second, .unset] rfl ?_
        refine o_lload 353 X38 hx rfl (hb hby at_351) rfl ?_
        refine o_iload 355 X38 hx rfl (hb hby at_353) rfl ?_
        refine o_i2l 356 X38 hx rfl (hb hby at_355) ?_
        refine o_lcmp 357 X38 hx rfl (hb hby at_356) ?_
        refine o_ifYes 362 X38 hx (hb hby at_357) (teq (l_teq (own_t2 w0 w1 h0l hy0 h0u h1l hy1 h1u hsum))).1 (by decide) (by decide) ?_
        refine o_iload 364 X38 hx rfl (hb hby at_362) rfl ?_
        by_cases z0 : w0 = (0 : Int32)
        · refine o_ifYes 381 X38 hx (hb hby at_364) (teq z0).1 (by decide) (by decide) ?_
          refine o_iload 383 X38 hx rfl (hb hby at_381) rfl ?_
          by_cases z1 : w1 = (0 : Int32)
          · refine o_ifYes 393 X38 hx (hb hby at_383) (teq z1).1 (by decide) (by decide) ?_
            refine o_iconst 394 X38 hx rfl (hb hby at_393) (1 : Int32) rfl ?_
            refine o_goto 398 X38 hx (hb hby at_394) (by decide) (by decide) ?_
            refine o_istore 400 X38 hx rfl (hb hby at_398) #[.val (.int i0), .val (.int i1), .val (.int i2), .val (.int sm), .val (.int i4), .val (.int (2 : Int32)), .val (.int y0), .val (.int y1), .val (.int (0 : Int32)), .val (.ref a25), .val (.int rm), .val (.int sm), .val (.ref a38), .val (.int (1 : Int32)), .val (.int w0), .val (.int w1), .val (.int (0 : Int32)), .val (.int (1 : Int32)), .val (.long (((w0.toInt64) + (w1.toInt64)) + ((0 : Int32).toInt64))), .second, .val (.int (1 : Int32))] rfl ?_
            refine o_iload 402 X38 hx rfl (hb hby at_400) rfl ?_
            refine o_retN X38 hx .boolean (by simp) hret hlk (hb hby at_402) (by decide) (by decide) ?_
            exact ⟨rfl, NN38⟩
          · refine o_ifNo 386 X38 hx rfl (hb hby at_383) (feq z1).1 ?_
            refine o_iload 388 X38 hx rfl (hb hby at_386) rfl ?_
            refine o_iload 390 X38 hx rfl (hb hby at_388) rfl ?_
            refine o_icmpNo 393 X38 hx rfl (hb hby at_390) (teq (show (0 : Int32) = (0 : Int32) by decide)).2 ?_
            refine o_iconst 394 X38 hx rfl (hb hby at_393) (1 : Int32) rfl ?_
            refine o_goto 398 X38 hx (hb hby at_394) (by decide) (by decide) ?_
            refine o_istore 400 X38 hx rfl (hb hby at_398) #[.val (.int i0), .val (.int i1), .val (.int i2), .val (.int sm), .val (.int i4), .val (.int (2 : Int32)), .val (.int y0), .val (.int y1), .val (.int (0 : Int32)), .val (.ref a25), .val (.int rm), .val (.int sm), .val (.ref a38), .val (.int (1 : Int32)), .val (.int w0), .val (.int w1), .val (.int (0 : Int32)), .val (.int (1 : Int32)), .val (.long (((w0.toInt64) + (w1.toInt64)) + ((0 : Int32).toInt64))), .second, .val (.int (1 : Int32))] rfl ?_
            refine o_iload 402 X38 hx rfl (hb hby at_400) rfl ?_
            refine o_retN X38 hx .boolean (by simp) hret hlk (hb hby at_402) (by decide) (by decide) ?_
            exact ⟨rfl, NN38⟩
        · refine o_ifNo 367 X38 hx rfl (hb hby at_364) (feq z0).1 ?_
          refine o_iload 369 X38 hx rfl (hb hby at_367) rfl ?_
          refine o_iload 371 X38 hx rfl (hb hby at_369) rfl ?_
          refine o_icmpNo 374 X38 hx rfl (hb hby at_371) (teq (hf0.resolve_left z0).1).2 ?_
          refine o_iload 376 X38 hx rfl (hb hby at_374) rfl ?_
          refine o_iload 378 X38 hx rfl (hb hby at_376) rfl ?_
          refine o_icmpNo 381 X38 hx rfl (hb hby at_378) (teq (show (0 : Int32) = (0 : Int32) by decide)).2 ?_
          refine o_iload 383 X38 hx rfl (hb hby at_381) rfl ?_
          by_cases z1 : w1 = (0 : Int32)
          · refine o_ifYes 393 X38 hx (hb hby at_383) (teq z1).1 (by decide) (by decide) ?_
            refine o_iconst 394 X38 hx rfl (hb hby at_393) (1 : Int32) rfl ?_
            refine o_goto 398 X38 hx (hb hby at_394) (by decide) (by decide) ?_
            refine o_istore 400 X38 hx rfl (hb hby at_398) #[.val (.int i0), .val (.int i1), .val (.int i2), .val (.int sm), .val (.int i4), .val (.int (2 : Int32)), .val (.int y0), .val (.int y1), .val (.int (0 : Int32)), .val (.ref a25), .val (.int rm), .val (.int sm), .val (.ref a38), .val (.int (1 : Int32)), .val (.int w0), .val (.int w1), .val (.int (0 : Int32)), .val (.int (1 : Int32)), .val (.long (((w0.toInt64) + (w1.toInt64)) + ((0 : Int32).toInt64))), .second, .val (.int (1 : Int32))] rfl ?_
            refine o_iload 402 X38 hx rfl (hb hby at_400) rfl ?_
            refine o_retN X38 hx .boolean (by simp) hret hlk (hb hby at_402) (by decide) (by decide) ?_
            exact ⟨rfl, NN38⟩
          · refine o_ifNo 386 X38 hx rfl (hb hby at_383) (feq z1).1 ?_
            refine o_iload 388 X38 hx rfl (hb hby at_386) rfl ?_
            refine o_iload 390 X38 hx rfl (hb hby at_388) rfl ?_
            refine o_icmpNo 393 X38 hx rfl (hb hby at_390) (teq (show (0 : Int32) = (0 : Int32) by decide)).2 ?_
            refine o_iconst 394 X38 hx rfl (hb hby at_393) (1 : Int32) rfl ?_
            refine o_goto 398 X38 hx (hb hby at_394) (by decide) (by decide) ?_
            refine o_istore 400 X38 hx rfl (hb hby at_398) #[.val (.int i0), .val (.int i1), .val (.int i2), .val (.int sm), .val (.int i4), .val (.int (2 : Int32)), .val (.int y0), .val (.int y1), .val (.int (0 : Int32)), .val (.ref a25), .val (.int rm), .val (.int sm), .val (.ref a38), .val (.int (1 : Int32)), .val (.int w0), .val (.int w1), .val (.int (0 : Int32)), .val (.int (1 : Int32)), .val (.long (((w0.toInt64) + (w1.toInt64)) + ((0 : Int32).toInt64))), .second, .val (.int (1 : Int32))] rfl ?_
            refine o_iload 402 X38 hx rfl (hb hby at_400) rfl ?_
            refine o_retN X38 hx .boolean (by simp) hret hlk (hb hby at_402) (by decide) (by decide) ?_
            exact ⟨rfl, NN38⟩
  · refine o_iload 8 X0 hx rfl (hb hby at_6) rfl ?_
    refine o_ifNo 11 X0 hx rfl (hb hby at_8) (tlt (show (0 : Int32) < (3 : Int32) by decide)).2.2.2 ?_
    refine o_iloadN 12 X0 hx rfl (hb hby at_11) rfl ?_
    refine o_ldcInt 14 X0 hx rfl hZ hown (wd_9 hw) (hb hby at_12) ?_
    refine o_iand 15 X0 hx rfl (hb hby at_14) ?_
    refine o_goto 19 X0 hx (hb hby at_15) (by decide) (by decide) ?_
    refine o_istore 21 X0 hx rfl (hb hby at_19) #[.val (.int i0), .val (.int i1), .val (.int i2), .val (.int i3), .val (.int i4), .val (.int (3 : Int32)), .val (.int (i0 &&& (1048575 : Int32))), .unset, .unset, .unset, .unset, .unset, .unset, .unset, .unset, .unset, .unset, .unset, .unset, .unset, .unset] rfl ?_
    refine o_iload 23 X0 hx rfl (hb hby at_21) rfl ?_
    refine o_iconst 24 X0 hx rfl (hb hby at_23) (1 : Int32) rfl ?_
    refine o_icmpNo 27 X0 hx rfl (hb hby at_24) (tlt (show (1 : Int32) < (3 : Int32) by decide)).2.2.2 ?_
    refine o_iloadN 28 X0 hx rfl (hb hby at_27) rfl ?_
    refine o_ldcInt 30 X0 hx rfl hZ hown (wd_9 hw) (hb hby at_28) ?_
    refine o_iand 31 X0 hx rfl (hb hby at_30) ?_
    refine o_goto 35 X0 hx (hb hby at_31) (by decide) (by decide) ?_
    refine o_istore 37 X0 hx rfl (hb hby at_35) #[.val (.int i0), .val (.int i1), .val (.int i2), .val (.int i3), .val (.int i4), .val (.int (3 : Int32)), .val (.int (i0 &&& (1048575 : Int32))), .val (.int (i1 &&& (1048575 : Int32))), .unset, .unset, .unset, .unset, .unset, .unset, .unset, .unset, .unset, .unset, .unset, .unset, .unset] rfl ?_
    refine o_iload 39 X0 hx rfl (hb hby at_37) rfl ?_
    refine o_iconst 40 X0 hx rfl (hb hby at_39) (2 : Int32) rfl ?_
    refine o_icmpNo 43 X0 hx rfl (hb hby at_40) (tlt (show (2 : Int32) < (3 : Int32) by decide)).2.2.2 ?_
    refine o_iloadN 44 X0 hx rfl (hb hby at_43) rfl ?_
    refine o_ldcInt 46 X0 hx rfl hZ hown (wd_9 hw) (hb hby at_44) ?_
    refine o_iand 47 X0 hx rfl (hb hby at_46) ?_
    refine o_goto 51 X0 hx (hb hby at_47) (by decide) (by decide) ?_
    refine o_istore 53 X0 hx rfl (hb hby at_51) #[.val (.int i0), .val (.int i1), .val (.int i2), .val (.int i3), .val (.int i4), .val (.int (3 : Int32)), .val (.int (i0 &&& (1048575 : Int32))), .val (.int (i1 &&& (1048575 : Int32))), .val (.int (i2 &&& (1048575 : Int32))), .unset, .unset, .unset, .unset, .unset, .unset, .unset, .unset, .unset, .unset, .unset, .unset] rfl ?_
    obtain ⟨y0, hy0, ey0⟩ : ∃ y0 : Int32, (0 ≤ y0.toInt ∧ y0.toInt ≤ 1048575) ∧ (i0 &&& (1048575 : Int32)) = y0 := ⟨_, own_bd i0, rfl⟩
    rw [ey0]
    obtain ⟨y1, hy1, ey1⟩ : ∃ y1 : Int32, (0 ≤ y1.toInt ∧ y1.toInt ≤ 1048575) ∧ (i1 &&& (1048575 : Int32)) = y1 := ⟨_, own_bd i1, rfl⟩
    rw [ey1]
    obtain ⟨y2, hy2, ey2⟩ : ∃ y2 : Int32, (0 ≤ y2.toInt ∧ y2.toInt ≤ 1048575) ∧ (i2 &&& (1048575 : Int32)) = y2 := ⟨_, own_bd i2, rfl⟩
    rw [ey2]
    refine o_iload 55 X0 hx rfl (hb hby at_53) rfl ?_
    refine o_newarrI 57 X0 hx rfl hZ .int .int rfl rfl (wd_0 hw) e0 (hb hby at_55) (by decide) 3 (by decide) (by decide) (by decide) (by decide) [(0 : Int32), (0 : Int32), (0 : Int32)] rfl fun T41 h41 a41 k41 g41 X41 e41 E41 A41 => ?_
    have ge42 : n0 ≤ a41 := Nat.le_trans Z0 (Nat.le_of_eq g41.symm)
    have sz43 : n0 ≤ h41.size := Nat.le_trans Z0 E41.1
    refine o_astore 59 X41 hx rfl (hb hby at_57) rfl #[.val (.int i0), .val (.int i1), .val (.int i2), .val (.int i3), .val (.int i4), .val (.int (3 : Int32)), .val (.int y0), .val (.int y1), .val (.int y2), .val (.ref a41), .unset, .unset, .unset, .unset, .unset, .unset, .unset, .unset, .unset, .unset, .unset] rfl ?_
    refine o_iload 61 X41 hx rfl (hb hby at_59) rfl ?_
    refine o_ifNo 64 X41 hx rfl (hb hby at_61) (tlt (show (0 : Int32) < (3 : Int32) by decide)).2.2.2 ?_
    refine o_aload 66 X41 hx rfl (hb hby at_64) rfl rfl ?_
    refine o_iconst 67 X41 hx rfl (hb hby at_66) (0 : Int32) rfl ?_
    refine o_iload 69 X41 hx rfl (hb hby at_67) rfl ?_
    refine o_iastoreX 70 X41 hx rfl hZ e41 A41 (by decide) (Nat.le_of_ble_eq_true rfl) [y0, (0 : Int32), (0 : Int32)] rfl N0 ge42 (hb hby at_69) fun T44 h44 L44 X44 N44 e44 W44 A44 => ?_
    have sz45 : n0 ≤ h44.size := Nat.le_trans sz43 (Keep.of_wr W44).1
    refine o_iload 72 X44 hx rfl (hb hby at_70) rfl ?_
    refine o_iconst 73 X44 hx rfl (hb hby at_72) (1 : Int32) rfl ?_
    refine o_icmpNo 76 X44 hx rfl (hb hby at_73) (tlt (show (1 : Int32) < (3 : Int32) by decide)).2.2.2 ?_
    refine o_aload 78 X44 hx rfl (hb hby at_76) rfl rfl ?_
    refine o_iconst 79 X44 hx rfl (hb hby at_78) (1 : Int32) rfl ?_
    refine o_iload 81 X44 hx rfl (hb hby at_79) rfl ?_
    refine o_iastoreX 82 X44 hx rfl hZ e44 A44 (by decide) (Nat.le_of_ble_eq_true rfl) [y0, y1, (0 : Int32)] rfl N44 ge42 (hb hby at_81) fun T46 h46 L46 X46 N46 e46 W46 A46 => ?_
    have sz47 : n0 ≤ h46.size := Nat.le_trans sz45 (Keep.of_wr W46).1
    refine o_iload 84 X46 hx rfl (hb hby at_82) rfl ?_
    refine o_iconst 85 X46 hx rfl (hb hby at_84) (2 : Int32) rfl ?_
    refine o_icmpNo 88 X46 hx rfl (hb hby at_85) (tlt (show (2 : Int32) < (3 : Int32) by decide)).2.2.2 ?_
    refine o_aload 90 X46 hx rfl (hb hby at_88) rfl rfl ?_
    refine o_iconst 91 X46 hx rfl (hb hby at_90) (2 : Int32) rfl ?_
    refine o_iload 93 X46 hx rfl (hb hby at_91) rfl ?_
    refine o_iastoreX 94 X46 hx rfl hZ e46 A46 (by decide) (Nat.le_of_ble_eq_true rfl) [y0, y1, y2] rfl N46 ge42 (hb hby at_93) fun T48 h48 L48 X48 N48 e48 W48 A48 => ?_
    have sz49 : n0 ≤ h48.size := Nat.le_trans sz47 (Keep.of_wr W48).1
    refine o_iload 96 X48 hx rfl (hb hby at_94) rfl ?_
    refine o_iload 98 X48 hx rfl (hb hby at_96) rfl ?_
    refine o_iadd 99 X48 hx rfl (hb hby at_98) ?_
    refine o_iload 101 X48 hx rfl (hb hby at_99) rfl ?_
    refine o_iadd 102 X48 hx rfl (hb hby at_101) ?_
    refine o_istore 104 X48 hx rfl (hb hby at_102) #[.val (.int i0), .val (.int i1), .val (.int i2), .val (.int i3), .val (.int i4), .val (.int (3 : Int32)), .val (.int y0), .val (.int y1), .val (.int y2), .val (.ref a41), .val (.int ((y0 + y1) + y2)), .unset, .unset, .unset, .unset, .unset, .unset, .unset, .unset, .unset, .unset] rfl ?_
    obtain ⟨rm, hrm, erm⟩ : ∃ rm : Int32, rm.toInt = y0.toInt + y1.toInt + y2.toInt ∧ ((y0 + y1) + y2) = rm := ⟨_, own_room3 hy0 hy1 hy2, rfl⟩
    rw [erm]
    refine o_iload 106 X48 hx rfl (hb hby at_104) rfl ?_
    refine o_iconst 107 X48 hx rfl (hb hby at_106) (4 : Int32) rfl ?_
    refine o_iand 108 X48 hx rfl (hb hby at_107) ?_
    by_cases hc108_50 : (i4 &&& (4 : Int32)) = (0 : Int32)
    · refine o_ifYes 115 X48 hx (hb hby at_108) (teq hc108_50).1 (by decide) (by decide) ?_
      refine o_iloadN 116 X48 hx rfl (hb hby at_115) rfl ?_
      refine o_ldcInt 118 X48 hx rfl hZ hown (wd_1 hw) (hb hby at_116) ?_
      refine o_iand 119 X48 hx rfl (hb hby at_118) ?_
      refine o_iload 121 X48 hx rfl (hb hby at_119) rfl ?_
      refine o_iconst 122 X48 hx rfl (hb hby at_121) (3 : Int32) rfl ?_
      refine o_iadd 123 X48 hx rfl (hb hby at_122) ?_
      refine o_irem 124 X48 hx rfl (hb hby at_123) (own_nz (by omega) (by omega)) ?_
      refine o_iconst 125 X48 hx rfl (hb hby at_124) (1 : Int32) rfl ?_
      refine o_isub 126 X48 hx rfl (hb hby at_125) ?_
      obtain ⟨sm, hsm⟩ : ∃ sm, (((i3 &&& (2147483647 : Int32)) % (rm + (3 : Int32))) - (1 : Int32)) = sm := ⟨_, rfl⟩
      rw [hsm]
      refine o_istore 128 X48 hx rfl (hb hby at_126) #[.val (.int i0), .val (.int i1), .val (.int i2), .val (.int i3), .val (.int i4), .val (.int (3 : Int32)), .val (.int y0), .val (.int y1), .val (.int y2), .val (.ref a41), .val (.int rm), .val (.int sm), .unset, .unset, .unset, .unset, .unset, .unset, .unset, .unset, .unset] rfl ?_
      refine o_iload 130 X48 hx rfl (hb hby at_128) rfl ?_
      refine o_aload 132 X48 hx rfl (hb hby at_130) rfl rfl ?_
      have hroom : ((((0 : Int32) + y0) + y1) + y2) = rm := (own_r3 y0 y1 y2).trans erm
      by_cases hout : sm < (0 : Int32) ∨ rm < sm
      · refine o_callP (rv := .null) 135 X48 hx rfl hZ hown (wd_2 hw) (wd_3 hw) (wd_4 hw) (wd_5 hw) (by decide) e48 (rm1n_3 l Z a0 hw a41 k41 sm y0 y1 y2 h48 A48 (by rw [hroom]; exact hout)) pd_lIaIraI [(.int sm), (.ref a41)] [] rfl rfl (by rw [hml]; rfl) rfl (hb hby at_132) 0 (Nat.le_of_eq rfl) (by decide) (by decide) (by decide) (by decide) rfl rfl fun T51 X51 e51 => ?_
        refine o_astore 137 X51 hx rfl (hb hby at_135) rfl #[.val (.int i0), .val (.int i1), .val (.int i2), .val (.int i3), .val (.int i4), .val (.int (3 : Int32)), .val (.int y0), .val (.int y1), .val (.int y2), .val (.ref a41), .val (.int rm), .val (.int sm), .val .null, .unset, .unset, .unset, .unset, .unset, .unset, .unset, .unset] rfl ?_
        refine o_iload 139 X51 hx rfl (hb hby at_137) rfl ?_
        refine o_iconst 140 X51 hx rfl (hb hby at_139) (1 : Int32) rfl ?_
        refine o_icmpNo 143 X51 hx rfl (hb hby at_140) (flt (show ¬ ((3 : Int32) < (1 : Int32)) by decide)).1 ?_
        refine o_aload 145 X51 hx rfl (hb hby at_143) rfl rfl ?_
        refine o_iconst 146 X51 hx rfl (hb hby at_145) (0 : Int32) rfl ?_
        refine o_ialoadX 147 X51 hx rfl hZ e51 A48 (by decide) (hb hby at_146) y0 rfl ?_
        refine o_iload 149 X51 hx rfl (hb hby at_147) rfl ?_
        refine o_icmpNo 152 X51 hx rfl (hb hby at_149) (teq rfl).2 ?_
        refine o_iload 154 X51 hx rfl (hb hby at_152) rfl ?_
        refine o_iconst 155 X51 hx rfl (hb hby at_154) (2 : Int32) rfl ?_
        refine o_icmpNo 158 X51 hx rfl (hb hby at_155) (flt (show ¬ ((3 : Int32) < (2 : Int32)) by decide)).1 ?_
        refine o_aload 160 X51 hx rfl (hb hby at_158) rfl rfl ?_
        refine o_iconst 161 X51 hx rfl (hb hby at_160) (1 : Int32) rfl ?_
        refine o_ialoadX 162 X51 hx rfl hZ e51 A48 (by decide) (hb hby at_161) y1 rfl ?_
        refine o_iload 164 X51 hx rfl (hb hby at_162) rfl ?_
        refine o_icmpNo 167 X51 hx rfl (hb hby at_164) (teq rfl).2 ?_
        refine o_iload 169 X51 hx rfl (hb hby at_167) rfl ?_
        refine o_iconst 170 X51 hx rfl (hb hby at_169) (3 : Int32) rfl ?_
        refine o_icmpNo 173 X51 hx rfl (hb hby at_170) (flt (show ¬ ((3 : Int32) < (3 : Int32)) by decide)).1 ?_
        refine o_aload 175 X51 hx rfl (hb hby at_173) rfl rfl ?_
        refine o_iconst 176 X51 hx rfl (hb hby at_175) (2 : Int32) rfl ?_
        refine o_ialoadX 177 X51 hx rfl hZ e51 A48 (by decide) (hb hby at_176) y2 rfl ?_
        refine o_iload 179 X51 hx rfl (hb hby at_177) rfl ?_
        refine o_icmpNo 182 X51 hx rfl (hb hby at_179) (teq rfl).2 ?_
        refine o_iconst 183 X51 hx rfl (hb hby at_182) (1 : Int32) rfl ?_
        refine o_goto 187 X51 hx (hb hby at_183) (by decide) (by decide) ?_
        refine o_istore 189 X51 hx rfl (hb hby at_187) #[.val (.int i0), .val (.int i1), .val (.int i2), .val (.int i3), .val (.int i4), .val (.int (3 : Int32)), .val (.int y0), .val (.int y1), .val (.int y2), .val (.ref a41), .val (.int rm), .val (.int sm), .val .null, .val (.int (1 : Int32)), .unset, .unset, .unset, .unset, .unset, .unset, .unset] rfl ?_
        refine o_iload 191 X51 hx rfl (hb hby at_189) rfl ?_
        refine o_ifYes 196 X51 hx (hb hby at_191) (feq (show ¬ ((1 : Int32) = (0 : Int32)) by decide)).2 (by decide) (by decide) ?_
        refine o_iload 198 X51 hx rfl (hb hby at_196) rfl ?_
        by_cases hneg : sm < (0 : Int32)
        · refine o_ifYes 208 X51 hx (hb hby at_198) (tlt hneg).1 (by decide) (by decide) ?_
          refine o_aload 210 X51 hx rfl (hb hby at_208) rfl rfl ?_
          refine o_ifnonnullNo 213 X51 hx rfl (hb hby at_210) ?_
          refine o_iconst 214 X51 hx rfl (hb hby at_213) (1 : Int32) rfl ?_
          refine o_goto 218 X51 hx (hb hby at_214) (by decide) (by decide) ?_
          refine o_retN X51 hx .boolean (by simp) hret hlk (hb hby at_218) (by decide) (by decide) ?_
          exact ⟨rfl, N48⟩
        · refine o_ifNo 201 X51 hx rfl (hb hby at_198) (flt hneg).1 ?_
          refine o_iload 203 X51 hx rfl (hb hby at_201) rfl ?_
          refine o_iload 205 X51 hx rfl (hb hby at_203) rfl ?_
          refine o_icmpNo 208 X51 hx rfl (hb hby at_205) (tlt (hout.resolve_left hneg)).2.2.2 ?_
          refine o_aload 210 X51 hx rfl (hb hby at_208) rfl rfl ?_
          refine o_ifnonnullNo 213 X51 hx rfl (hb hby at_210) ?_
          refine o_iconst 214 X51 hx rfl (hb hby at_213) (1 : Int32) rfl ?_
          refine o_goto 218 X51 hx (hb hby at_214) (by decide) (by decide) ?_
          refine o_retN X51 hx .boolean (by simp) hret hlk (hb hby at_218) (by decide) (by decide) ?_
          exact ⟨rfl, N48⟩
      · have hneg : ¬ sm < (0 : Int32) := fun q => hout (Or.inl q)
        have hbig : ¬ rm < sm := fun q => hout (Or.inr q)
        refine o_callSw 135 X48 hx rfl hZ hown (wd_2 hw) (wd_3 hw) (wd_4 hw) (wd_5 hw) (by decide) e48 N48 (rm1v_3 l Z a0 hw a41 k41 sm y0 y1 y2 h48 n0 sz49 A48 hneg (by rw [hroom]; exact hbig)) pd_lIaIraI [(.int sm), (.ref a41)] [] rfl rfl (by rw [hml]; rfl) rfl (hb hby at_132) 0 (Nat.le_of_eq rfl) (by decide) (by decide) (by decide) (by decide) fun v52 T52 L52 LL52 X52 Q52 NF52 => ?_
        obtain ⟨a52, k52, rfl, M52, K52, ga52, gz52, A52, Ac52⟩ := Q52
        have NN52 := NF52 M52
        have nev52 : a52 ≠ a41 := Nat.ne_of_gt (Nat.lt_of_lt_of_le A48.lt gz52)
        have sz53 : n0 ≤ T52.heap.size := Nat.le_trans sz49 K52.1
        show Go p.tables e below (EndE s room_1 (fun v h L => v = some (.int (1 : Int32)) ∧ Fr n0 L)) (T52.setTop (mkF m 135 #[.val (.int i0), .val (.int i1), .val (.int i2), .val (.int i3), .val (.int i4), .val (.int (3 : Int32)), .val (.int y0), .val (.int y1), .val (.int y2), .val (.ref a41), .val (.int rm), .val (.int sm), .unset, .unset, .unset, .unset, .unset, .unset, .unset, .unset, .unset] [(.ref a52)]))
        have HV := own_v3 sm y0 y1 y2 hy0 hy1 hy2 rm hrm hneg hbig
        obtain ⟨w0, hw0⟩ : ∃ w, (fn3 (0 : Int32) (sm - ((f2_20 y0 y1 y2) - y0))) = w := ⟨_, rfl⟩
        obtain ⟨w1, hw1⟩ : ∃ w, (fn3 (0 : Int32) ((f2_70''' sm y0 y1 y2) - (((f2_20 y0 y1 y2) - y0) - y1))) = w := ⟨_, rfl⟩
        obtain ⟨w2, hw2⟩ : ∃ w, (fn3 (0 : Int32) ((f2_70'''' sm y0 y1 y2) - (f2_48' y0 y1 y2))) = w := ⟨_, rfl⟩
        simp only [hw0, hw1, hw2] at HV
        have F54 : Arv Z T52.heap a52 k52 .int (3 : Int32) ([w0, w1, w2].map Value.int) (.int 0) := by rw [← hw0, ← hw1, ← hw2]; exact A52
        obtain ⟨h0l, h0u, h1l, h1u, h2l, h2u, hsum, hf0, hf1⟩ := HV
        refine o_astore 137 X52 hx rfl (hb hby at_135) rfl #[.val (.int i0), .val (.int i1), .val (.int i2), .val (.int i3), .val (.int i4), .val (.int (3 : Int32)), .val (.int y0), .val (.int y1), .val (.int y2), .val (.ref a41), .val (.int rm), .val (.int sm), .val (.ref a52), .unset, .unset, .unset, .unset, .unset, .unset, .unset, .unset] rfl ?_
        refine o_iload 139 X52 hx rfl (hb hby at_137) rfl ?_
        refine o_iconst 140 X52 hx rfl (hb hby at_139) (1 : Int32) rfl ?_
        refine o_icmpNo 143 X52 hx rfl (hb hby at_140) (flt (show ¬ ((3 : Int32) < (1 : Int32)) by decide)).1 ?_
        refine o_aload 145 X52 hx rfl (hb hby at_143) rfl rfl ?_
        refine o_iconst 146 X52 hx rfl (hb hby at_145) (0 : Int32) rfl ?_
        refine o_ialoadX 147 X52 hx rfl hZ rfl Ac52 (by decide) (hb hby at_146) y0 rfl ?_
        refine o_iload 149 X52 hx rfl (hb hby at_147) rfl ?_
        refine o_icmpNo 152 X52 hx rfl (hb hby at_149) (teq rfl).2 ?_
        refine o_iload 154 X52 hx rfl (hb hby at_152) rfl ?_
        refine o_iconst 155 X52 hx rfl (hb hby at_154) (2 : Int32) rfl ?_
        refine o_icmpNo 158 X52 hx rfl (hb hby at_155) (flt (show ¬ ((3 : Int32) < (2 : Int32)) by decide)).1 ?_
        refine o_aload 160 X52 hx rfl (hb hby at_158) rfl rfl ?_
        refine o_iconst 161 X52 hx rfl (hb hby at_160) (1 : Int32) rfl ?_
        refine o_ialoadX 162 X52 hx rfl hZ rfl Ac52 (by decide) (hb hby at_161) y1 rfl ?_
        refine o_iload 164 X52 hx rfl (hb hby at_162) rfl ?_
        refine o_icmpNo 167 X52 hx rfl (hb hby at_164) (teq rfl).2 ?_
        refine o_iload 169 X52 hx rfl (hb hby at_167) rfl ?_
        refine o_iconst 170 X52 hx rfl (hb hby at_169) (3 : Int32) rfl ?_
        refine o_icmpNo 173 X52 hx rfl (hb hby at_170) (flt (show ¬ ((3 : Int32) < (3 : Int32)) by decide)).1 ?_
        refine o_aload 175 X52 hx rfl (hb hby at_173) rfl rfl ?_
        refine o_iconst 176 X52 hx rfl (hb hby at_175) (2 : Int32) rfl ?_
        refine o_ialoadX 177 X52 hx rfl hZ rfl Ac52 (by decide) (hb hby at_176) y2 rfl ?_
        refine o_iload 179 X52 hx rfl (hb hby at_177) rfl ?_
        refine o_icmpNo 182 X52 hx rfl (hb hby at_179) (teq rfl).2 ?_
        refine o_iconst 183 X52 hx rfl (hb hby at_182) (1 : Int32) rfl ?_
        refine o_goto 187 X52 hx (hb hby at_183) (by decide) (by decide) ?_
        refine o_istore 189 X52 hx rfl (hb hby at_187) #[.val (.int i0), .val (.int i1), .val (.int i2), .val (.int i3), .val (.int i4), .val (.int (3 : Int32)), .val (.int y0), .val (.int y1), .val (.int y2), .val (.ref a41), .val (.int rm), .val (.int sm), .val (.ref a52), .val (.int (1 : Int32)), .unset, .unset, .unset, .unset, .unset, .unset, .unset] rfl ?_
        refine o_iload 191 X52 hx rfl (hb hby at_189) rfl ?_
        refine o_ifYes 196 X52 hx (hb hby at_191) (feq (show ¬ ((1 : Int32) = (0 : Int32)) by decide)).2 (by decide) (by decide) ?_
        refine o_iload 198 X52 hx rfl (hb hby at_196) rfl ?_
        refine o_ifNo 201 X52 hx rfl (hb hby at_198) (flt hneg).1 ?_
        refine o_iload 203 X52 hx rfl (hb hby at_201) rfl ?_
        refine o_iload 205 X52 hx rfl (hb hby at_203) rfl ?_
        refine o_icmpYes 219 X52 hx (hb hby at_205) (flt hbig).2.2.2 (by decide) (by decide) ?_
        refine o_aload 221 X52 hx rfl (hb hby at_219) rfl rfl ?_
        refine o_ifnullNo 224 X52 hx rfl (hb hby at_221) ?_
        refine o_aload 226 X52 hx rfl (hb hby at_224) rfl rfl ?_
        refine o_alen 227 X52 hx rfl hZ rfl F54 (hb hby at_226) ?_
        refine o_iload 229 X52 hx rfl (hb hby at_227) rfl ?_
        refine o_icmpNo 232 X52 hx rfl (hb hby at_229) (teq rfl).2 ?_
        refine o_aload 234 X52 hx rfl (hb hby at_232) rfl rfl ?_
        refine o_aload 236 X52 hx rfl (hb hby at_234) rfl rfl ?_
        refine o_acmpne 241 X52 hx (hb hby at_236) nev52 (by decide) (by decide) ?_
        refine o_iload 243 X52 hx rfl (hb hby at_241) rfl ?_
        refine o_ifNo 246 X52 hx rfl (hb hby at_243) (tlt (show (0 : Int32) < (3 : Int32) by decide)).2.2.2 ?_
        refine o_aload 248 X52 hx rfl (hb hby at_246) rfl rfl ?_
        refine o_iconst 249 X52 hx rfl (hb hby at_248) (0 : Int32) rfl ?_
        refine o_ialoadX 250 X52 hx rfl hZ rfl F54 (by decide) (hb hby at_249) w0 rfl ?_
        refine o_goto 254 X52 hx (hb hby at_250) (by decide) (by decide) ?_
        refine o_istore 256 X52 hx rfl (hb hby at_254) #[.val (.int i0), .val (.int i1), .val (.int i2), .val (.int i3), .val (.int i4), .val (.int (3 : Int32)), .val (.int y0), .val (.int y1), .val (.int y2), .val (.ref a41), .val (.int rm), .val (.int sm), .val (.ref a52), .val (.int (1 : Int32)), .val (.int w0), .unset, .unset, .unset, .unset, .unset, .unset] rfl ?_
        refine o_iload 258 X52 hx rfl (hb hby at_256) rfl ?_
        refine o_iconst 259 X52 hx rfl (hb hby at_258) (1 : Int32) rfl ?_
        refine o_icmpNo 262 X52 hx rfl (hb hby at_259) (tlt (show (1 : Int32) < (3 : Int32) by decide)).2.2.2 ?_
        refine o_aload 264 X52 hx rfl (hb hby at_262) rfl rfl ?_
        refine o_iconst 265 X52 hx rfl (hb hby at_264) (1 : Int32) rfl ?_
        refine o_ialoadX 266 X52 hx rfl hZ rfl F54 (by decide) (hb hby at_265) w1 rfl ?_
        refine o_goto 270 X52 hx (hb hby at_266) (by decide) (by decide) ?_
        refine o_istore 272 X52 hx rfl (hb hby at_270) #[.val (.int i0), .val (.int i1), .val (.int i2), .val (.int i3), .val (.int i4), .val (.int (3 : Int32)), .val (.int y0), .val (.int y1), .val (.int y2), .val (.ref a41), .val (.int rm), .val (.int sm), .val (.ref a52), .val (.int (1 : Int32)), .val (.int w0), .val (.int w1), .unset, .unset, .unset, .unset, .unset] rfl ?_
        refine o_iload 274 X52 hx rfl (hb hby at_272) rfl ?_
        refine o_iconst 275 X52 hx rfl (hb hby at_274) (2 : Int32) rfl ?_
        refine o_icmpNo 278 X52 hx rfl (hb hby at_275) (tlt (show (2 : Int32) < (3 : Int32) by decide)).2.2.2 ?_
        refine o_aload 280 X52 hx rfl (hb hby at_278) rfl rfl ?_
        refine o_iconst 281 X52 hx rfl (hb hby at_280) (2 : Int32) rfl ?_
        refine o_ialoadX 282 X52 hx rfl hZ rfl F54 (by decide) (hb hby at_281) w2 rfl ?_
        refine o_goto 286 X52 hx (hb hby at_282) (by decide) (by decide) ?_
        refine o_istore 288 X52 hx rfl (hb hby at_286) #[.val (.int i0), .val (.int i1), .val (.int i2), .val (.int i3), .val (.int i4), .val (.int (3 : Int32)), .val (.int y0), .val (.int y1), .val (.int y2), .val (.ref a41), .val (.int rm), .val (.int sm), .val (.ref a52), .val (.int (1 : Int32)), .val (.int w0), .val (.int w1), .val (.int w2), .unset, .unset, .unset, .unset] rfl ?_
        refine o_iload 290 X52 hx rfl (hb hby at_288) rfl ?_
        refine o_ifNo 293 X52 hx rfl (hb hby at_290) (flt (by rw [Int32.lt_iff_toInt_lt]; (try rw [show (0 : Int32).toInt = 0 from rfl]); omega)).1 ?_
        refine o_iload 295 X52 hx rfl (hb hby at_293) rfl ?_
        refine o_iload 297 X52 hx rfl (hb hby at_295) rfl ?_
        refine o_icmpNo 300 X52 hx rfl (hb hby at_297) (flt (by rw [Int32.lt_iff_toInt_lt]; (try rw [show (0 : Int32).toInt = 0 from rfl]); omega)).2.2.1 ?_
        refine o_iload 302 X52 hx rfl (hb hby at_300) rfl ?_
        refine o_ifNo 305 X52 hx rfl (hb hby at_302) (flt (by rw [Int32.lt_iff_toInt_lt]; (try rw [show (0 : Int32).toInt = 0 from rfl]); omega)).1 ?_
        refine o_iload 307 X52 hx rfl (hb hby at_305) rfl ?_
        refine o_iload 309 X52 hx rfl (hb hby at_307) rfl ?_
        refine o_icmpNo 312 X52 hx rfl (hb hby at_309) (flt (by rw [Int32.lt_iff_toInt_lt]; (try rw [show (0 : Int32).toInt = 0 from rfl]); omega)).2.2.1 ?_
        refine o_iload 314 X52 hx rfl (hb hby at_312) rfl ?_
        refine o_ifNo 317 X52 hx rfl (hb hby at_314) (flt (by rw [Int32.lt_iff_toInt_lt]; (try rw [show (0 : Int32).toInt = 0 from rfl]); omega)).1 ?_
        refine o_iload 319 X52 hx rfl (hb hby at_317) rfl ?_
        refine o_iload 321 X52 hx rfl (hb hby at_319) rfl ?_
        refine o_icmpNo 324 X52 hx rfl (hb hby at_321) (flt (by rw [Int32.lt_iff_toInt_lt]; (try rw [show (0 : Int32).toInt = 0 from rfl]); omega)).2.2.1 ?_
        refine o_iconst 325 X52 hx rfl (hb hby at_324) (1 : Int32) rfl ?_
        refine o_goto 329 X52 hx (hb hby at_325) (by decide) (by decide) ?_
        refine o_istore 331 X52 hx rfl (hb hby at_329) #[.val (.int i0), .val (.int i1), .val (.int i2), .val (.int i3), .val (.int i4), .val (.int (3 : Int32)), .val (.int y0), .val (.int y1), .val (.int y2), .val (.ref a41), .val (.int rm), .val (.int sm), .val (.ref a52), .val (.int (1 : Int32)), .val (.int w0), .val (.int w1), .val (.int w2), .val (.int (1 : Int32)), .unset, .unset, .unset] rfl ?_
        refine o_iload 333 X52 hx rfl (hb hby at_331) rfl ?_
        refine o_ifYes 338 X52 hx (hb hby at_333) (feq (show ¬ ((1 : Int32) = (0 : Int32)) by decide)).2 (by decide) (by decide) ?_
        refine o_iload 340 X52 hx rfl (hb hby at_338) rfl ?_
        refine o_i2l 341 X52 hx rfl (hb hby at_340) ?_
        refine o_iload 343 X52 hx rfl (hb hby at_341) rfl ?_
        refine o_i2l 344 X52 hx rfl (hb hby at_343) ?_
        refine o_ladd 345 X52 hx rfl (hb hby at_344) ?_
        refine o_iload 347 X52 hx rfl (hb hby at_345) rfl ?_
        refine o_i2l 348 X52 hx rfl (hb hby at_347) ?_
        refine o_ladd 349 X52 hx rfl (hb hby at_348) ?_
        refine o_lstore 351 X52 hx rfl (hb hby at_349) #[.val (.int i0), .val (.int i1), .val (.int i2), .val (.int i3), .val (.int i4), .val (.int (3 : Int32)), .val (.int y0), .val (.int y1), .val (.int y2), .val (.ref a41), .val (.int rm), .val (.int sm), .val (.ref a52), .val (.int (1 : Int32)), .val (.int w0), .val (.int w1), .val (.int w2), .val (.int (1 : Int32)), .val (.long (((w0.toInt64) + (w1.toInt64)) + (w2.toInt64))), .second, .unset] rfl ?_
        refine o_lload 353 X52 hx rfl (hb hby at_351) rfl ?_
        refine o_iload 355 X52 hx rfl (hb hby at_353) rfl ?_
        refine o_i2l 356 X52 hx rfl (hb hby at_355) ?_
        refine o_lcmp 357 X52 hx rfl (hb hby at_356) ?_
        refine o_ifYes 362 X52 hx (hb hby at_357) (teq (l_teq (own_t3 w0 w1 w2 h0l hy0 h0u h1l hy1 h1u h2l hy2 h2u hsum))).1 (by decide) (by decide) ?_
        refine o_iload 364 X52 hx rfl (hb hby at_362) rfl ?_
        by_cases z0 : w0 = (0 : Int32)
        · refine o_ifYes 381 X52 hx (hb hby at_364) (teq z0).1 (by decide) (by decide) ?_
          refine o_iload 383 X52 hx rfl (hb hby at_381) rfl ?_
          by_cases z1 : w1 = (0 : Int32)
          · refine o_ifYes 393 X52 hx (hb hby at_383) (teq z1).1 (by decide) (by decide) ?_
            refine o_iconst 394 X52 hx rfl (hb hby at_393) (1 : Int32) rfl ?_
            refine o_goto 398 X52 hx (hb hby at_394) (by decide) (by decide) ?_
            refine o_istore 400 X52 hx rfl (hb hby at_398) #[.val (.int i0), .val (.int i1), .val (.int i2), .val (.int i3), .val (.int i4), .val (.int (3 : Int32)), .val (.int y0), .val (.int y1), .val (.int y2), .val (.ref a41), .val (.int rm), .val (.int sm), .val (.ref a52), .val (.int (1 : Int32)), .val (.int w0), .val (.int w1), .val (.int w2), .val (.int (1 : Int32)), .val (.long (((w0.toInt64) + (w1.toInt64)) + (w2.toInt64))), .second, .val (.int (1 : Int32))] rfl ?_
            refine o_iload 402 X52 hx rfl (hb hby at_400) rfl ?_
            refine o_retN X52 hx .boolean (by simp) hret hlk (hb hby at_402) (by decide) (by decide) ?_
            exact ⟨rfl, NN52⟩
          · refine o_ifNo 386 X52 hx rfl (hb hby at_383) (feq z1).1 ?_
            refine o_iload 388 X52 hx rfl (hb hby at_386) rfl ?_
            refine o_iload 390 X52 hx rfl (hb hby at_388) rfl ?_
            refine o_icmpNo 393 X52 hx rfl (hb hby at_390) (teq (hf1.resolve_left z1)).2 ?_
            refine o_iconst 394 X52 hx rfl (hb hby at_393) (1 : Int32) rfl ?_
            refine o_goto 398 X52 hx (hb hby at_394) (by decide) (by decide) ?_
            refine o_istore 400 X52 hx rfl (hb hby at_398) #[.val (.int i0), .val (.int i1), .val (.int i2), .val (.int i3), .val (.int i4), .val (.int (3 : Int32)), .val (.int y0), .val (.int y1), .val (.int y2), .val (.ref a41), .val (.int rm), .val (.int sm), .val (.ref a52), .val (.int (1 : Int32)), .val (.int w0), .val (.int w1), .val (.int w2), .val (.int (1 : Int32)), .val (.long (((w0.toInt64) + (w1.toInt64)) + (w2.toInt64))), .second, .val (.int (1 : Int32))] rfl ?_
            refine o_iload 402 X52 hx rfl (hb hby at_400) rfl ?_
            refine o_retN X52 hx .boolean (by simp) hret hlk (hb hby at_402) (by decide) (by decide) ?_
            exact ⟨rfl, NN52⟩
        · refine o_ifNo 367 X52 hx rfl (hb hby at_364) (feq z0).1 ?_
          refine o_iload 369 X52 hx rfl (hb hby at_367) rfl ?_
          refine o_iload 371 X52 hx rfl (hb hby at_369) rfl ?_
          refine o_icmpNo 374 X52 hx rfl (hb hby at_371) (teq (hf0.resolve_left z0).1).2 ?_
          refine o_iload 376 X52 hx rfl (hb hby at_374) rfl ?_
          refine o_iload 378 X52 hx rfl (hb hby at_376) rfl ?_
          refine o_icmpNo 381 X52 hx rfl (hb hby at_378) (teq (hf0.resolve_left z0).2).2 ?_
          refine o_iload 383 X52 hx rfl (hb hby at_381) rfl ?_
          by_cases z1 : w1 = (0 : Int32)
          · refine o_ifYes 393 X52 hx (hb hby at_383) (teq z1).1 (by decide) (by decide) ?_
            refine o_iconst 394 X52 hx rfl (hb hby at_393) (1 : Int32) rfl ?_
            refine o_goto 398 X52 hx (hb hby at_394) (by decide) (by decide) ?_
            refine o_istore 400 X52 hx rfl (hb hby at_398) #[.val (.int i0), .val (.int i1), .val (.int i2), .val (.int i3), .val (.int i4), .val (.int (3 : Int32)), .val (.int y0), .val (.int y1), .val (.int y2), .val (.ref a41), .val (.int rm), .val (.int sm), .val (.ref a52), .val (.int (1 : Int32)), .val (.int w0), .val (.int w1), .val (.int w2), .val (.int (1 : Int32)), .val (.long (((w0.toInt64) + (w1.toInt64)) + (w2.toInt64))), .second, .val (.int (1 : Int32))] rfl ?_
            refine o_iload 402 X52 hx rfl (hb hby at_400) rfl ?_
            refine o_retN X52 hx .boolean (by simp) hret hlk (hb hby at_402) (by decide) (by decide) ?_
            exact ⟨rfl, NN52⟩
          · refine o_ifNo 386 X52 hx rfl (hb hby at_383) (feq z1).1 ?_
            refine o_iload 388 X52 hx rfl (hb hby at_386) rfl ?_
            refine o_iload 390 X52 hx rfl (hb hby at_388) rfl ?_
            refine o_icmpNo 393 X52 hx rfl (hb hby at_390) (teq (hf1.resolve_left z1)).2 ?_
            refine o_iconst 394 X52 hx rfl (hb hby at_393) (1 : Int32) rfl ?_
            refine o_goto 398 X52 hx (hb hby at_394) (by decide) (by decide) ?_
            refine o_istore 400 X52 hx rfl (hb hby at_398) #[.val (.int i0), .val (.int i1), .val (.int i2), .val (.int i3), .val (.int i4), .val (.int (3 : Int32)), .val (.int y0), .val (.int y1), .val (.int y2), .val (.ref a41), .val (.int rm), .val (.int sm), .val (.ref a52), .val (.int (1 : Int32)), .val (.int w0), .val (.int w1), .val (.int w2), .val (.int (1 : Int32)), .val (.long (((w0.toInt64) + (w1.toInt64)) + (w2.toInt64))), .second, .val (.int (1 : Int32))] rfl ?_
            refine o_iload 402 X52 hx rfl (hb hby at_400) rfl ?_
            refine o_retN X52 hx .boolean (by simp) hret hlk (hb hby at_402) (by decide) (by decide) ?_
            exact ⟨rfl, NN52⟩
    · refine o_ifNo 111 X48 hx rfl (hb hby at_108) (feq hc108_50).1 ?_
      refine o_iloadN 112 X48 hx rfl (hb hby at_111) rfl ?_
      refine o_goto 126 X48 hx (hb hby at_112) (by decide) (by decide) ?_
      obtain ⟨sm, hsm⟩ : ∃ sm, i3 = sm := ⟨_, rfl⟩
      rw [hsm]
      refine o_istore 128 X48 hx rfl (hb hby at_126) #[.val (.int i0), .val (.int i1), .val (.int i2), .val (.int sm), .val (.int i4), .val (.int (3 : Int32)), .val (.int y0), .val (.int y1), .val (.int y2), .val (.ref a41), .val (.int rm), .val (.int sm), .unset, .unset, .unset, .unset, .unset, .unset, .unset, .unset, .unset] rfl ?_
      refine o_iload 130 X48 hx rfl (hb hby at_128) rfl ?_
      refine o_aload 132 X48 hx rfl (hb hby at_130) rfl rfl ?_
      have hroom : ((((0 : Int32) + y0) + y1) + y2) = rm := (own_r3 y0 y1 y2).trans erm
      by_cases hout : sm < (0 : Int32) ∨ rm < sm
      · refine o_callP (rv := .null) 135 X48 hx rfl hZ hown (wd_2 hw) (wd_3 hw) (wd_4 hw) (wd_5 hw) (by decide) e48 (rm1n_3 l Z a0 hw a41 k41 sm y0 y1 y2 h48 A48 (by rw [hroom]; exact hout)) pd_lIaIraI [(.int sm), (.ref a41)] [] rfl rfl (by rw [hml]; rfl) rfl (hb hby at_132) 0 (Nat.le_of_eq rfl) (by decide) (by decide) (by decide) (by decide) rfl rfl fun T55 X55 e55 => ?_
        refine o_astore 137 X55 hx rfl (hb hby at_135) rfl #[.val (.int i0), .val (.int i1), .val (.int i2), .val (.int sm), .val (.int i4), .val (.int (3 : Int32)), .val (.int y0), .val (.int y1), .val (.int y2), .val (.ref a41), .val (.int rm), .val (.int sm), .val .null, .unset, .unset, .unset, .unset, .unset, .unset, .unset, .unset] rfl ?_
        refine o_iload 139 X55 hx rfl (hb hby at_137) rfl ?_
        refine o_iconst 140 X55 hx rfl (hb hby at_139) (1 : Int32) rfl ?_
        refine o_icmpNo 143 X55 hx rfl (hb hby at_140) (flt (show ¬ ((3 : Int32) < (1 : Int32)) by decide)).1 ?_
        refine o_aload 145 X55 hx rfl (hb hby at_143) rfl rfl ?_
        refine o_iconst 146 X55 hx rfl (hb hby at_145) (0 : Int32) rfl ?_
        refine o_ialoadX 147 X55 hx rfl hZ e55 A48 (by decide) (hb hby at_146) y0 rfl ?_
        refine o_iload 149 X55 hx rfl (hb hby at_147) rfl ?_
        refine o_icmpNo 152 X55 hx rfl (hb hby at_149) (teq rfl).2 ?_
        refine o_iload 154 X55 hx rfl (hb hby at_152) rfl ?_
        refine o_iconst 155 X55 hx rfl (hb hby at_154) (2 : Int32) rfl ?_
        refine o_icmpNo 158 X55 hx rfl (hb hby at_155) (flt (show ¬ ((3 : Int32) < (2 : Int32)) by decide)).1 ?_
        refine o_aload 160 X55 hx rfl (hb hby at_158) rfl rfl ?_
        refine o_iconst 161 X55 hx rfl (hb hby at_160) (1 : Int32) rfl ?_
        refine o_ialoadX 162 X55 hx rfl hZ e55 A48 (by decide) (hb hby at_161) y1 rfl ?_
        refine o_iload 164 X55 hx rfl (hb hby at_162) rfl ?_
        refine o_icmpNo 167 X55 hx rfl (hb hby at_164) (teq rfl).2 ?_
        refine o_iload 169 X55 hx rfl (hb hby at_167) rfl ?_
        refine o_iconst 170 X55 hx rfl (hb hby at_169) (3 : Int32) rfl ?_
        refine o_icmpNo 173 X55 hx rfl (hb hby at_170) (flt (show ¬ ((3 : Int32) < (3 : Int32)) by decide)).1 ?_
        refine o_aload 175 X55 hx rfl (hb hby at_173) rfl rfl ?_
        refine o_iconst 176 X55 hx rfl (hb hby at_175) (2 : Int32) rfl ?_
        refine o_ialoadX 177 X55 hx rfl hZ e55 A48 (by decide) (hb hby at_176) y2 rfl ?_
        refine o_iload 179 X55 hx rfl (hb hby at_177) rfl ?_
        refine o_icmpNo 182 X55 hx rfl (hb hby at_179) (teq rfl).2 ?_
        refine o_iconst 183 X55 hx rfl (hb hby at_182) (1 : Int32) rfl ?_
        refine o_goto 187 X55 hx (hb hby at_183) (by decide) (by decide) ?_
        refine o_istore 189 X55 hx rfl (hb hby at_187) #[.val (.int i0), .val (.int i1), .val (.int i2), .val (.int sm), .val (.int i4), .val (.int (3 : Int32)), .val (.int y0), .val (.int y1), .val (.int y2), .val (.ref a41), .val (.int rm), .val (.int sm), .val .null, .val (.int (1 : Int32)), .unset, .unset, .unset, .unset, .unset, .unset, .unset] rfl ?_
        refine o_iload 191 X55 hx rfl (hb hby at_189) rfl ?_
        refine o_ifYes 196 X55 hx (hb hby at_191) (feq (show ¬ ((1 : Int32) = (0 : Int32)) by decide)).2 (by decide) (by decide) ?_
        refine o_iload 198 X55 hx rfl (hb hby at_196) rfl ?_
        by_cases hneg : sm < (0 : Int32)
        · refine o_ifYes 208 X55 hx (hb hby at_198) (tlt hneg).1 (by decide) (by decide) ?_
          refine o_aload 210 X55 hx rfl (hb hby at_208) rfl rfl ?_
          refine o_ifnonnullNo 213 X55 hx rfl (hb hby at_210) ?_
          refine o_iconst 214 X55 hx rfl (hb hby at_213) (1 : Int32) rfl ?_
          refine o_goto 218 X55 hx (hb hby at_214) (by decide) (by decide) ?_
          refine o_retN X55 hx .boolean (by simp) hret hlk (hb hby at_218) (by decide) (by decide) ?_
          exact ⟨rfl, N48⟩
        · refine o_ifNo 201 X55 hx rfl (hb hby at_198) (flt hneg).1 ?_
          refine o_iload 203 X55 hx rfl (hb hby at_201) rfl ?_
          refine o_iload 205 X55 hx rfl (hb hby at_203) rfl ?_
          refine o_icmpNo 208 X55 hx rfl (hb hby at_205) (tlt (hout.resolve_left hneg)).2.2.2 ?_
          refine o_aload 210 X55 hx rfl (hb hby at_208) rfl rfl ?_
          refine o_ifnonnullNo 213 X55 hx rfl (hb hby at_210) ?_
          refine o_iconst 214 X55 hx rfl (hb hby at_213) (1 : Int32) rfl ?_
          refine o_goto 218 X55 hx (hb hby at_214) (by decide) (by decide) ?_
          refine o_retN X55 hx .boolean (by simp) hret hlk (hb hby at_218) (by decide) (by decide) ?_
          exact ⟨rfl, N48⟩
      · have hneg : ¬ sm < (0 : Int32) := fun q => hout (Or.inl q)
        have hbig : ¬ rm < sm := fun q => hout (Or.inr q)
        refine o_callSw 135 X48 hx rfl hZ hown (wd_2 hw) (wd_3 hw) (wd_4 hw) (wd_5 hw) (by decide) e48 N48 (rm1v_3 l Z a0 hw a41 k41 sm y0 y1 y2 h48 n0 sz49 A48 hneg (by rw [hroom]; exact hbig)) pd_lIaIraI [(.int sm), (.ref a41)] [] rfl rfl (by rw [hml]; rfl) rfl (hb hby at_132) 0 (Nat.le_of_eq rfl) (by decide) (by decide) (by decide) (by decide) fun v56 T56 L56 LL56 X56 Q56 NF56 => ?_
        obtain ⟨a56, k56, rfl, M56, K56, ga56, gz56, A56, Ac56⟩ := Q56
        have NN56 := NF56 M56
        have nev56 : a56 ≠ a41 := Nat.ne_of_gt (Nat.lt_of_lt_of_le A48.lt gz56)
        have sz57 : n0 ≤ T56.heap.size := Nat.le_trans sz49 K56.1
        show Go p.tables e below (EndE s room_1 (fun v h L => v = some (.int (1 : Int32)) ∧ Fr n0 L)) (T56.setTop (mkF m 135 #[.val (.int i0), .val (.int i1), .val (.int i2), .val (.int sm), .val (.int i4), .val (.int (3 : Int32)), .val (.int y0), .val (.int y1), .val (.int y2), .val (.ref a41), .val (.int rm), .val (.int sm), .unset, .unset, .unset, .unset, .unset, .unset, .unset, .unset, .unset] [(.ref a56)]))
        have HV := own_v3 sm y0 y1 y2 hy0 hy1 hy2 rm hrm hneg hbig
        obtain ⟨w0, hw0⟩ : ∃ w, (fn3 (0 : Int32) (sm - ((f2_20 y0 y1 y2) - y0))) = w := ⟨_, rfl⟩
        obtain ⟨w1, hw1⟩ : ∃ w, (fn3 (0 : Int32) ((f2_70''' sm y0 y1 y2) - (((f2_20 y0 y1 y2) - y0) - y1))) = w := ⟨_, rfl⟩
        obtain ⟨w2, hw2⟩ : ∃ w, (fn3 (0 : Int32) ((f2_70'''' sm y0 y1 y2) - (f2_48' y0 y1 y2))) = w := ⟨_, rfl⟩
        simp only [hw0, hw1, hw2] at HV
        have F58 : Arv Z T56.heap a56 k56 .int (3 : Int32) ([w0, w1, w2].map Value.int) (.int 0) := by rw [← hw0, ← hw1, ← hw2]; exact A56
        obtain ⟨h0l, h0u, h1l, h1u, h2l, h2u, hsum, hf0, hf1⟩ := HV
        refine o_astore 137 X56 hx rfl (hb hby at_135) rfl #[.val (.int i0), .val (.int i1), .val (.int i2), .val (.int sm), .val (.int i4), .val (.int (3 : Int32)), .val (.int y0), .val (.int y1), .val (.int y2), .val (.ref a41), .val (.int rm), .val (.int sm), .val (.ref a56), .unset, .unset, .unset, .unset, .unset, .unset, .unset, .unset] rfl ?_
        refine o_iload 139 X56 hx rfl (hb hby at_137) rfl ?_
        refine o_iconst 140 X56 hx rfl (hb hby at_139) (1 : Int32) rfl ?_
        refine o_icmpNo 143 X56 hx rfl (hb hby at_140) (flt (show ¬ ((3 : Int32) < (1 : Int32)) by decide)).1 ?_
        refine o_aload 145 X56 hx rfl (hb hby at_143) rfl rfl ?_
        refine o_iconst 146 X56 hx rfl (hb hby at_145) (0 : Int32) rfl ?_
        refine o_ialoadX 147 X56 hx rfl hZ rfl Ac56 (by decide) (hb hby at_146) y0 rfl ?_
        refine o_iload 149 X56 hx rfl (hb hby at_147) rfl ?_
        refine o_icmpNo 152 X56 hx rfl (hb hby at_149) (teq rfl).2 ?_
        refine o_iload 154 X56 hx rfl (hb hby at_152) rfl ?_
        refine o_iconst 155 X56 hx rfl (hb hby at_154) (2 : Int32) rfl ?_
        refine o_icmpNo 158 X56 hx rfl (hb hby at_155) (flt (show ¬ ((3 : Int32) < (2 : Int32)) by decide)).1 ?_
        refine o_aload 160 X56 hx rfl (hb hby at_158) rfl rfl ?_
        refine o_iconst 161 X56 hx rfl (hb hby at_160) (1 : Int32) rfl ?_
        refine o_ialoadX 162 X56 hx rfl hZ rfl Ac56 (by decide) (hb hby at_161) y1 rfl ?_
        refine o_iload 164 X56 hx rfl (hb hby at_162) rfl ?_
        refine o_icmpNo 167 X56 hx rfl (hb hby at_164) (teq rfl).2 ?_
        refine o_iload 169 X56 hx rfl (hb hby at_167) rfl ?_
        refine o_iconst 170 X56 hx rfl (hb hby at_169) (3 : Int32) rfl ?_
        refine o_icmpNo 173 X56 hx rfl (hb hby at_170) (flt (show ¬ ((3 : Int32) < (3 : Int32)) by decide)).1 ?_
        refine o_aload 175 X56 hx rfl (hb hby at_173) rfl rfl ?_
        refine o_iconst 176 X56 hx rfl (hb hby at_175) (2 : Int32) rfl ?_
        refine o_ialoadX 177 X56 hx rfl hZ rfl Ac56 (by decide) (hb hby at_176) y2 rfl ?_
        refine o_iload 179 X56 hx rfl (hb hby at_177) rfl ?_
        refine o_icmpNo 182 X56 hx rfl (hb hby at_179) (teq rfl).2 ?_
        refine o_iconst 183 X56 hx rfl (hb hby at_182) (1 : Int32) rfl ?_
        refine o_goto 187 X56 hx (hb hby at_183) (by decide) (by decide) ?_
        refine o_istore 189 X56 hx rfl (hb hby at_187) #[.val (.int i0), .val (.int i1), .val (.int i2), .val (.int sm), .val (.int i4), .val (.int (3 : Int32)), .val (.int y0), .val (.int y1), .val (.int y2), .val (.ref a41), .val (.int rm), .val (.int sm), .val (.ref a56), .val (.int (1 : Int32)), .unset, .unset, .unset, .unset, .unset, .unset, .unset] rfl ?_
        refine o_iload 191 X56 hx rfl (hb hby at_189) rfl ?_
        refine o_ifYes 196 X56 hx (hb hby at_191) (feq (show ¬ ((1 : Int32) = (0 : Int32)) by decide)).2 (by decide) (by decide) ?_
        refine o_iload 198 X56 hx rfl (hb hby at_196) rfl ?_
        refine o_ifNo 201 X56 hx rfl (hb hby at_198) (flt hneg).1 ?_
        refine o_iload 203 X56 hx rfl (hb hby at_201) rfl ?_
        refine o_iload 205 X56 hx rfl (hb hby at_203) rfl ?_
        refine o_icmpYes 219 X56 hx (hb hby at_205) (flt hbig).2.2.2 (by decide) (by decide) ?_
        refine o_aload 221 X56 hx rfl (hb hby at_219) rfl rfl ?_
        refine o_ifnullNo 224 X56 hx rfl (hb hby at_221) ?_
        refine o_aload 226 X56 hx rfl (hb hby at_224) rfl rfl ?_
        refine o_alen 227 X56 hx rfl hZ rfl F58 (hb hby at_226) ?_
        refine o_iload 229 X56 hx rfl (hb hby at_227) rfl ?_
        refine o_icmpNo 232 X56 hx rfl (hb hby at_229) (teq rfl).2 ?_
        refine o_aload 234 X56 hx rfl (hb hby at_232) rfl rfl ?_
        refine o_aload 236 X56 hx rfl (hb hby at_234) rfl rfl ?_
        refine o_acmpne 241 X56 hx (hb hby at_236) nev56 (by decide) (by decide) ?_
        refine o_iload 243 X56 hx rfl (hb hby at_241) rfl ?_
        refine o_ifNo 246 X56 hx rfl (hb hby at_243) (tlt (show (0 : Int32) < (3 : Int32) by decide)).2.2.2 ?_
        refine o_aload 248 X56 hx rfl (hb hby at_246) rfl rfl ?_
        refine o_iconst 249 X56 hx rfl (hb hby at_248) (0 : Int32) rfl ?_
        refine o_ialoadX 250 X56 hx rfl hZ rfl F58 (by decide) (hb hby at_249) w0 rfl ?_
        refine o_goto 254 X56 hx (hb hby at_250) (by decide) (by decide) ?_
        refine o_istore 256 X56 hx rfl (hb hby at_254) #[.val (.int i0), .val (.int i1), .val (.int i2), .val (.int sm), .val (.int i4), .val (.int (3 : Int32)), .val (.int y0), .val (.int y1), .val (.int y2), .val (.ref a41), .val (.int rm), .val (.int sm), .val (.ref a56), .val (.int (1 : Int32)), .val (.int w0), .unset, .unset, .unset, .unset, .unset, .unset] rfl ?_
        refine o_iload 258 X56 hx rfl (hb hby at_256) rfl ?_
        refine o_iconst 259 X56 hx rfl (hb hby at_258) (1 : Int32) rfl ?_
        refine o_icmpNo 262 X56 hx rfl (hb hby at_259) (tlt (show (1 : Int32) < (3 : Int32) by decide)).2.2.2 ?_
        refine o_aload 264 X56 hx rfl (hb hby at_262) rfl rfl ?_
        refine o_iconst 265 X56 hx rfl (hb hby at_264) (1 : Int32) rfl ?_
        refine o_ialoadX 266 X56 hx rfl hZ rfl F58 (by decide) (hb hby at_265) w1 rfl ?_
        refine o_goto 270 X56 hx (hb hby at_266) (by decide) (by decide) ?_
        refine o_istore 272 X56 hx rfl (hb hby at_270) #[.val (.int i0), .val (.int i1), .val (.int i2), .val (.int sm), .val (.int i4), .val (.int (3 : Int32)), .val (.int y0), .val (.int y1), .val (.int y2), .val (.ref a41), .val (.int rm), .val (.int sm), .val (.ref a56), .val (.int (1 : Int32)), .val (.int w0), .val (.int w1), .unset, .unset, .unset, .unset, .unset] rfl ?_
        refine o_iload 274 X56 hx rfl (hb hby at_272) rfl ?_
        refine o_iconst 275 X56 hx rfl (hb hby at_274) (2 : Int32) rfl ?_
        refine o_icmpNo 278 X56 hx rfl (hb hby at_275) (tlt (show (2 : Int32) < (3 : Int32) by decide)).2.2.2 ?_
        refine o_aload 280 X56 hx rfl (hb hby at_278) rfl rfl ?_
        refine o_iconst 281 X56 hx rfl (hb hby at_280) (2 : Int32) rfl ?_
        refine o_ialoadX 282 X56 hx rfl hZ rfl F58 (by decide) (hb hby at_281) w2 rfl ?_
        refine o_goto 286 X56 hx (hb hby at_282) (by decide) (by decide) ?_
        refine o_istore 288 X56 hx rfl (hb hby at_286) #[.val (.int i0), .val (.int i1), .val (.int i2), .val (.int sm), .val (.int i4), .val (.int (3 : Int32)), .val (.int y0), .val (.int y1), .val (.int y2), .val (.ref a41), .val (.int rm), .val (.int sm), .val (.ref a56), .val (.int (1 : Int32)), .val (.int w0), .val (.int w1), .val (.int w2), .unset, .unset, .unset, .unset] rfl ?_
        refine o_iload 290 X56 hx rfl (hb hby at_288) rfl ?_
        refine o_ifNo 293 X56 hx rfl (hb hby at_290) (flt (by rw [Int32.lt_iff_toInt_lt]; (try rw [show (0 : Int32).toInt = 0 from rfl]); omega)).1 ?_
        refine o_iload 295 X56 hx rfl (hb hby at_293) rfl ?_
        refine o_iload 297 X56 hx rfl (hb hby at_295) rfl ?_
        refine o_icmpNo 300 X56 hx rfl (hb hby at_297) (flt (by rw [Int32.lt_iff_toInt_lt]; (try rw [show (0 : Int32).toInt = 0 from rfl]); omega)).2.2.1 ?_
        refine o_iload 302 X56 hx rfl (hb hby at_300) rfl ?_
        refine o_ifNo 305 X56 hx rfl (hb hby at_302) (flt (by rw [Int32.lt_iff_toInt_lt]; (try rw [show (0 : Int32).toInt = 0 from rfl]); omega)).1 ?_
        refine o_iload 307 X56 hx rfl (hb hby at_305) rfl ?_
        refine o_iload 309 X56 hx rfl (hb hby at_307) rfl ?_
        refine o_icmpNo 312 X56 hx rfl (hb hby at_309) (flt (by rw [Int32.lt_iff_toInt_lt]; (try rw [show (0 : Int32).toInt = 0 from rfl]); omega)).2.2.1 ?_
        refine o_iload 314 X56 hx rfl (hb hby at_312) rfl ?_
        refine o_ifNo 317 X56 hx rfl (hb hby at_314) (flt (by rw [Int32.lt_iff_toInt_lt]; (try rw [show (0 : Int32).toInt = 0 from rfl]); omega)).1 ?_
        refine o_iload 319 X56 hx rfl (hb hby at_317) rfl ?_
        refine o_iload 321 X56 hx rfl (hb hby at_319) rfl ?_
        refine o_icmpNo 324 X56 hx rfl (hb hby at_321) (flt (by rw [Int32.lt_iff_toInt_lt]; (try rw [show (0 : Int32).toInt = 0 from rfl]); omega)).2.2.1 ?_
        refine o_iconst 325 X56 hx rfl (hb hby at_324) (1 : Int32) rfl ?_
        refine o_goto 329 X56 hx (hb hby at_325) (by decide) (by decide) ?_
        refine o_istore 331 X56 hx rfl (hb hby at_329) #[.val (.int i0), .val (.int i1), .val (.int i2), .val (.int sm), .val (.int i4), .val (.int (3 : Int32)), .val (.int y0), .val (.int y1), .val (.int y2), .val (.ref a41), .val (.int rm), .val (.int sm), .val (.ref a56), .val (.int (1 : Int32)), .val (.int w0), .val (.int w1), .val (.int w2), .val (.int (1 : Int32)), .unset, .unset, .unset] rfl ?_
        refine o_iload 333 X56 hx rfl (hb hby at_331) rfl ?_
        refine o_ifYes 338 X56 hx (hb hby at_333) (feq (show ¬ ((1 : Int32) = (0 : Int32)) by decide)).2 (by decide) (by decide) ?_
        refine o_iload 340 X56 hx rfl (hb hby at_338) rfl ?_
        refine o_i2l 341 X56 hx rfl (hb hby at_340) ?_
        refine o_iload 343 X56 hx rfl (hb hby at_341) rfl ?_
        refine o_i2l 344 X56 hx rfl (hb hby at_343) ?_
        refine o_ladd 345 X56 hx rfl (hb hby at_344) ?_
        refine o_iload 347 X56 hx rfl (hb hby at_345) rfl ?_
        refine o_i2l 348 X56 hx rfl (hb hby at_347) ?_
        refine o_ladd 349 X56 hx rfl (hb hby at_348) ?_
        refine o_lstore 351 X56 hx rfl (hb hby at_349) #[.val (.int i0), .val (.int i1), .val (.int i2), .val (.int sm), .val (.int i4), .val (.int (3 : Int32)), .val (.int y0), .val (.int y1), .val (.int y2), .val (.ref a41), .val (.int rm), .val (.int sm), .val (.ref a56), .val (.int (1 : Int32)), .val (.int w0), .val (.int w1), .val (.int w2), .val (.int (1 : Int32)), .val (.long (((w0.toInt64) + (w1.toInt64)) + (w2.toInt64))), .second, .unset] rfl ?_
        refine o_lload 353 X56 hx rfl (hb hby at_351) rfl ?_
        refine o_iload 355 X56 hx rfl (hb hby at_353) rfl ?_
        refine o_i2l 356 X56 hx rfl (hb hby at_355) ?_
        refine o_lcmp 357 X56 hx rfl (hb hby at_356) ?_
        refine o_ifYes 362 X56 hx (hb hby at_357) (teq (l_teq (own_t3 w0 w1 w2 h0l hy0 h0u h1l hy1 h1u h2l hy2 h2u hsum))).1 (by decide) (by decide) ?_
        refine o_iload 364 X56 hx rfl (hb hby at_362) rfl ?_
        by_cases z0 : w0 = (0 : Int32)
        · refine o_ifYes 381 X56 hx (hb hby at_364) (teq z0).1 (by decide) (by decide) ?_
          refine o_iload 383 X56 hx rfl (hb hby at_381) rfl ?_
          by_cases z1 : w1 = (0 : Int32)
          · refine o_ifYes 393 X56 hx (hb hby at_383) (teq z1).1 (by decide) (by decide) ?_
            refine o_iconst 394 X56 hx rfl (hb hby at_393) (1 : Int32) rfl ?_
            refine o_goto 398 X56 hx (hb hby at_394) (by decide) (by decide) ?_
            refine o_istore 400 X56 hx rfl (hb hby at_398) #[.val (.int i0), .val (.int i1), .val (.int i2), .val (.int sm), .val (.int i4), .val (.int (3 : Int32)), .val (.int y0), .val (.int y1), .val (.int y2), .val (.ref a41), .val (.int rm), .val (.int sm), .val (.ref a56), .val (.int (1 : Int32)), .val (.int w0), .val (.int w1), .val (.int w2), .val (.int (1 : Int32)), .val (.long (((w0.toInt64) + (w1.toInt64)) + (w2.toInt64))), .second, .val (.int (1 : Int32))] rfl ?_
            refine o_iload 402 X56 hx rfl (hb hby at_400) rfl ?_
            refine o_retN X56 hx .boolean (by simp) hret hlk (hb hby at_402) (by decide) (by decide) ?_
            exact ⟨rfl, NN56⟩
          · refine o_ifNo 386 X56 hx rfl (hb hby at_383) (feq z1).1 ?_
            refine o_iload 388 X56 hx rfl (hb hby at_386) rfl ?_
            refine o_iload 390 X56 hx rfl (hb hby at_388) rfl ?_
            refine o_icmpNo 393 X56 hx rfl (hb hby at_390) (teq (hf1.resolve_left z1)).2 ?_
            refine o_iconst 394 X56 hx rfl (hb hby at_393) (1 : Int32) rfl ?_
            refine o_goto 398 X56 hx (hb hby at_394) (by decide) (by decide) ?_
            refine o_istore 400 X56 hx rfl (hb hby at_398) #[.val (.int i0), .val (.int i1), .val (.int i2), .val (.int sm), .val (.int i4), .val (.int (3 : Int32)), .val (.int y0), .val (.int y1), .val (.int y2), .val (.ref a41), .val (.int rm), .val (.int sm), .val (.ref a56), .val (.int (1 : Int32)), .val (.int w0), .val (.int w1), .val (.int w2), .val (.int (1 : Int32)), .val (.long (((w0.toInt64) + (w1.toInt64)) + (w2.toInt64))), .second, .val (.int (1 : Int32))] rfl ?_
            refine o_iload 402 X56 hx rfl (hb hby at_400) rfl ?_
            refine o_retN X56 hx .boolean (by simp) hret hlk (hb hby at_402) (by decide) (by decide) ?_
            exact ⟨rfl, NN56⟩
        · refine o_ifNo 367 X56 hx rfl (hb hby at_364) (feq z0).1 ?_
          refine o_iload 369 X56 hx rfl (hb hby at_367) rfl ?_
          refine o_iload 371 X56 hx rfl (hb hby at_369) rfl ?_
          refine o_icmpNo 374 X56 hx rfl (hb hby at_371) (teq (hf0.resolve_left z0).1).2 ?_
          refine o_iload 376 X56 hx rfl (hb hby at_374) rfl ?_
          refine o_iload 378 X56 hx rfl (hb hby at_376) rfl ?_
          refine o_icmpNo 381 X56 hx rfl (hb hby at_378) (teq (hf0.resolve_left z0).2).2 ?_
          refine o_iload 383 X56 hx rfl (hb hby at_381) rfl ?_
          by_cases z1 : w1 = (0 : Int32)
          · refine o_ifYes 393 X56 hx (hb hby at_383) (teq z1).1 (by decide) (by decide) ?_
            refine o_iconst 394 X56 hx rfl (hb hby at_393) (1 : Int32) rfl ?_
            refine o_goto 398 X56 hx (hb hby at_394) (by decide) (by decide) ?_
            refine o_istore 400 X56 hx rfl (hb hby at_398) #[.val (.int i0), .val (.int i1), .val (.int i2), .val (.int sm), .val (.int i4), .val (.int (3 : Int32)), .val (.int y0), .val (.int y1), .val (.int y2), .val (.ref a41), .val (.int rm), .val (.int sm), .val (.ref a56), .val (.int (1 : Int32)), .val (.int w0), .val (.int w1), .val (.int w2), .val (.int (1 : Int32)), .val (.long (((w0.toInt64) + (w1.toInt64)) + (w2.toInt64))), .second, .val (.int (1 : Int32))] rfl ?_
            refine o_iload 402 X56 hx rfl (hb hby at_400) rfl ?_
            refine o_retN X56 hx .boolean (by simp) hret hlk (hb hby at_402) (by decide) (by decide) ?_
            exact ⟨rfl, NN56⟩
          · refine o_ifNo 386 X56 hx rfl (hb hby at_383) (feq z1).1 ?_
            refine o_iload 388 X56 hx rfl (hb hby at_386) rfl ?_
            refine o_iload 390 X56 hx rfl (hb hby at_388) rfl ?_
            refine o_icmpNo 393 X56 hx rfl (hb hby at_390) (teq (hf1.resolve_left z1)).2 ?_
            refine o_iconst 394 X56 hx rfl (hb hby at_393) (1 : Int32) rfl ?_
            refine o_goto 398 X56 hx (hb hby at_394) (by decide) (by decide) ?_
            refine o_istore 400 X56 hx rfl (hb hby at_398) #[.val (.int i0), .val (.int i1), .val (.int i2), .val (.int sm), .val (.int i4), .val (.int (3 : Int32)), .val (.int y0), .val (.int y1), .val (.int y2), .val (.ref a41), .val (.int rm), .val (.int sm), .val (.ref a56), .val (.int (1 : Int32)), .val (.int w0), .val (.int w1), .val (.int w2), .val (.int (1 : Int32)), .val (.long (((w0.toInt64) + (w1.toInt64)) + (w2.toInt64))), .second, .val (.int (1 : Int32))] rfl ?_
            refine o_iload 402 X56 hx rfl (hb hby at_400) rfl ?_
            refine o_retN X56 hx .boolean (by simp) hret hlk (hb hby at_402) (by decide) (by decide) ?_
            exact ⟨rfl, NN56⟩
set_option maxRecDepth 65536 in
set_option maxHeartbeats 40000000 in
theorem comes_1 {Post : Tables → Env → Array Value → State → Outcome → State → Prop} (hpost : ∀ tb e args s v u, (limb_1_1.after args s (.returned v) u = true ∧ limb_1_2.after args s (.returned v) u = true ∧ True) → FrameEnd s (.returned v) u (Jvm.fieldLocs frame_1_writes args s ++ Jvm.arrayLocs frame_1_arrays args s ++ Jvm.staticLocs frame_1_statics s) 16 128 → Post tb e args s (.returned v) u) :
    ArmFor flags0 classFile x code maxLocals ret World_1 tables_1 room_1 Calls_1 rest_1 Pre_1 Post := by
  intro l hfl _ _ p e ha hc hk s m args below hf hA hF happ hP
  obtain ⟨hcalls, hrest, hpre⟩ := hP
  obtain ⟨-, -, -, hnamed, -, -, -, hat⟩ := (Spec.applies_iff hf).mp happ
  obtain ⟨hg, hn⟩ := and_e (Cond.before_iff.mp (show (Jvm.Cond.and given_1 narrow_1).before args s = true from hpre))
  obtain ⟨gc, g0⟩ := and_e hg
  obtain ⟨ga0, g1⟩ := and_e g0
  obtain ⟨ga1, g2⟩ := and_e g1
  obtain ⟨ga2, g3⟩ := and_e g2
  obtain ⟨ga3, g4⟩ := and_e g3
  obtain ⟨w0, w1, w2, w3, w4, rfl⟩ : ∃ w0 w1 w2 w3 w4 : Value, args = #[w0, w1, w2, w3, w4] := by
    have hs : args.size = 5 := by simpa [Cond.value, given_1] using gc
    obtain ⟨L⟩ := args
    match L, hs with
    | [w0, w1, w2, w3, w4], _ => exact ⟨w0, w1, w2, w3, w4, rfl⟩
  have hw := fun d (hd : d ∈ tables_1) => atoms_spec (ws := Jvm.Cond.code x code maxLocals ret :: tables_1) hat d (List.mem_cons_of_mem _ hd)
  obtain ⟨i0, ei0⟩ := is_v ga0
  obtain rfl : w0 = (.int i0) := Option.some.inj ei0
  obtain ⟨i1, ei1⟩ := is_v ga1
  obtain rfl : w1 = (.int i1) := Option.some.inj ei1
  obtain ⟨i2, ei2⟩ := is_v ga2
  obtain rfl : w2 = (.int i2) := Option.some.inj ei2
  obtain ⟨i3, ei3⟩ := is_v ga3
  obtain rfl : w3 = (.int i3) := Option.some.inj ei3
  obtain ⟨i4, ei4⟩ := is_v g4
  obtain rfl : w4 = (.int i4) := Option.some.inj ei4
  obtain ⟨n, o, h1, h2, h3, _, L, rfl, ⟨rfl, N⟩, hq⟩ := rm0 l s _ hw tables_1 i0 i1 i2 i3 i4 s.heap s.heap.size (Nat.le_refl _) p e ha hc hk s m _ below hf ((Spec.applies_iff_loose hf).mp happ).1 ⟨rfl, State.Warmed39.refl s, rfl⟩ trivial
  refine ⟨n, _, h1, h2, h3, hpost _ _ _ _ _ _ ⟨Cond.after_iff.mpr rfl, Cond.after_iff.mpr (eq_i res_at (Term.int_eval (1)) rfl), trivial⟩ ⟨hq.1, hq.2.1, (hq.2.2.sift fun y hy => Or.inr (N y hy)).mono (by decide) (by decide)⟩⟩
theorem main_1_1 : Claimed_1_1 := comes_1 fun _ _ _ _ _ _ h hF => ⟨h.1, hF⟩
theorem main_1_2 : Claimed_1_2 := comes_1 fun _ _ _ _ _ _ h hF => ⟨h.2.1, hF⟩
end Jvm.Pilot.@@N@@
namespace Jvm.Pilot.@@N@@
open Jvm Jvm.ClassFile Sem Op Lib Jvm.Free Jvm.Stand Jvm.Pilot.@@N@@.Jvm.D
/-! MADE BY PROGRAM (witnessworld.py) out of the Statement's table words and the real class files: 10 classes; the members and pool entries that the words name. The judged class is class 1, her method 1. -/
namespace start1
open Jvm.ClassFile
def u (s : String) : CpInfo := .utf8 (stringToUtf16 s)
/-- a pool by its gaps: so many unusable entries, then the entry; so many at the end -/
def gap : Nat → List CpInfo → List CpInfo
  | 0, r => r
  | n + 1, r => .unusable :: gap n r
def poolList (es : List (Nat × CpInfo)) (last : Nat) : List CpInfo := es.foldr (fun e r => gap e.1 (e.2 :: r)) (gap last [])
def pool (es : List (Nat × CpInfo)) (last : Nat) : Array CpInfo := ⟨poolList es last⟩
def fileOf (pool : Array CpInfo) (this : Nat) (attrs : Array Attribute := #[]) (ms : Array MethodInfo := #[]) (fl : Nat := 33) (sup : Nat := 0) (ifs : Array Nat := #[]) (fds : Array FieldInfo := #[]) : ClassFile where
  minorVersion := 0
  majorVersion := 65
  constantPool := pool
  accessFlags := fl
  thisClass := this
  superClass := sup
  interfaces := ifs
  fields := fds
  methods := ms
  attributes := attrs
def plain (name : String) (sup : Option ClassId) : Class where
  name := name
  kind := .ordinary
  loader := none
  accessFlags := 33
  super := sup
  interfaces := #[]
  cf := none
  fields := #[]
  methods := #[]
  instanceTypes := #[]
  staticTypes := #[]
  resolved := #[]
  callSites := []
  init := .initialized
  statics := none
  mirror := none

def pool0 : Array CpInfo := pool [(5, u "<init>"), (0, u "()V"), (1, .class_ 10), (1, u "java/lang/Object")] 113

def k0m0 : Method := { name := "<init>", desc := "()V", sig := { parameters := [], returnType := none }, accessFlags := 1, code := none }
/-- java/lang/Object -/
def k0 : Class := { plain "java/lang/Object" none with
  accessFlags := 33
  interfaces := #[]
  cf := some (fileOf pool0 8 #[] #[{ accessFlags := 1, nameIndex := 5, descriptorIndex := 6, attributes := #[] }] 33 0 #[] #[])
  fields := #[]
  methods := #[k0m0]
  instanceTypes := #[]
  staticTypes := #[]
  resolved := Array.replicate 124 none
  statics := none }

def pool1 : Array CpInfo := pool [(2, .class_ 4), (1, u "java/lang/Object"), (0, u "<init>"), (0, u "()V"), (0, .integer 1048575), (0, .integer 2147483647), (0, .methodref 10 11), (0, .class_ 12), (0, .nameAndType 13 14), (0, u "com/example/discernibility/discernibility/Lookahead"), (0, u "firstVector"), (0, u "(I[I)[I"), (0, .class_ 16), (0, u "com/example/discernibility/discernibility/LookaheadFirstVectorPinLaw"), (2, u "law"), (0, u "(IIIII)Z")] 5

def k1m0 : Method := { name := "<init>", desc := "()V", sig := { parameters := [], returnType := none }, accessFlags := 1, code := none }
def k1c1 : Code := { maxStack := 4, maxLocals := 21, code := code, exceptionTable := #[], attributes := #[] }
def k1m1 : Method := { name := "law", desc := "(IIIII)Z", sig := { parameters := [.int, .int, .int, .int, .int], returnType := some .boolean }, accessFlags := 9, code := some k1c1 }
/-- com/example/discernibility/discernibility/LookaheadFirstVectorPinLaw -/
def k1 : Class := { plain "com/example/discernibility/discernibility/LookaheadFirstVectorPinLaw" (some 0) with
  accessFlags := 49
  interfaces := #[]
  cf := some (fileOf pool1 15 #[] #[{ accessFlags := 1, nameIndex := 5, descriptorIndex := 6, attributes := #[] }, { accessFlags := 9, nameIndex := 19, descriptorIndex := 20, attributes := #[] }] 49 2 #[] #[])
  fields := #[]
  methods := #[k1m0, k1m1]
  instanceTypes := #[]
  staticTypes := #[]
  resolved := Array.replicate 26 none
  statics := none }

def pool2 : Array CpInfo := pool [(2, .class_ 4), (1, u "java/lang/Object"), (9, .class_ 16), (1, u "com/example/discernibility/discernibility/Lookahead"), (0, u "hierarchies"), (0, u "Ljava/util/List;"), (2, u "remote"), (0, u "Lcom/example/discernibility/discernibility/RemoteCounts;"), (2, u "k"), (0, u "I"), (2, u "combinations"), (2, u "combinationSizes"), (115, u "(I[I)[I"), (2, u "firstVector"), (28, .class_ 181), (0, u "com/example/discernibility/discernibility/Lookahead$Estimate"), (37, u "(II)I"), (15, .class_ 236), (0, u "com/example/discernibility/discernibility/Lookahead$Kind"), (1, .class_ 240), (1, u "java/lang/Math"), (90, .methodref 14 332), (0, .nameAndType 333 334), (0, u "fill"), (0, u "([III[I)V"), (0, .methodref 238 336), (0, .nameAndType 337 219), (0, u "max")] 78

def k2c0 : Code := { maxStack := 4, maxLocals := 7, code := prog_17_method_13_code, exceptionTable := #[], attributes := #[] }
def k2m0 : Method := { name := "firstVector", desc := "(I[I)[I", sig := { parameters := [.int, (.array .int)], returnType := some (.array .int) }, accessFlags := 8, code := some k2c0 }
def k2c1 : Code := { maxStack := 5, maxLocals := 7, code := prog_17_method_15_code, exceptionTable := #[], attributes := #[] }
def k2m1 : Method := { name := "fill", desc := "([III[I)V", sig := { parameters := [(.array .int), .int, .int, (.array .int)], returnType := none }, accessFlags := 10, code := some k2c1 }
/-- com/example/discernibility/discernibility/Lookahead -/
def k2 : Class := { plain "com/example/discernibility/discernibility/Lookahead" (some 0) with
  accessFlags := 49
  interfaces := #[]
  cf := some (fileOf pool2 14 #[.nestMembers #[180, 235]] #[{ accessFlags := 8, nameIndex := 151, descriptorIndex := 148, attributes := #[] }, { accessFlags := 10, nameIndex := 333, descriptorIndex := 334, attributes := #[] }] 49 2 #[] #[{ accessFlags := 18, nameIndex := 17, descriptorIndex := 18, attributes := #[] }, { accessFlags := 18, nameIndex := 21, descriptorIndex := 22, attributes := #[] }, { accessFlags := 18, nameIndex := 25, descriptorIndex := 26, attributes := #[] }, { accessFlags := 18, nameIndex := 29, descriptorIndex := 18, attributes := #[] }, { accessFlags := 18, nameIndex := 32, descriptorIndex := 18, attributes := #[] }])
  fields := #[{ name := "hierarchies", type := (.object "java/util/List"), accessFlags := 18, slot := 0, constantValue := 0 }, { name := "remote", type := (.object "com/example/discernibility/discernibility/RemoteCounts"), accessFlags := 18, slot := 1, constantValue := 0 }, { name := "k", type := .int, accessFlags := 18, slot := 2, constantValue := 0 }, { name := "combinations", type := (.object "java/util/List"), accessFlags := 18, slot := 3, constantValue := 0 }, { name := "combinationSizes", type := (.object "java/util/List"), accessFlags := 18, slot := 4, constantValue := 0 }]
  methods := #[k2m0, k2m1]
  instanceTypes := #[(.object "java/util/List"), (.object "com/example/discernibility/discernibility/RemoteCounts"), .int, (.object "java/util/List"), (.object "java/util/List")]
  staticTypes := #[]
  resolved := Array.replicate 416 none
  statics := none }

def pool3 : Array CpInfo := pool [(1, .class_ 2), (0, u "java/lang/Math"), (1, .class_ 6), (1, u "java/lang/Object"), (0, u "<init>"), (0, u "()V"), (89, .class_ 100), (1, u "java/lang/Math$RandomNumberGeneratorHolder"), (71, u "negativeZeroFloatBits"), (0, u "J"), (2, u "negativeZeroDoubleBits"), (21, u "max"), (46, u "$assertionsDisabled"), (0, u "Z"), (88, u "(II)I"), (2, u "twoToTheDoubleScaleDown"), (0, u "D"), (4, u "twoToTheDoubleScaleUp"), (9, u "E"), (3, u "PI"), (2, u "TAU"), (2, u "DEGREES_TO_RADIANS"), (0, u "RADIANS_TO_DEGREES")] 94

def k3m0 : Method := { name := "<init>", desc := "()V", sig := { parameters := [], returnType := none }, accessFlags := 2, code := none }
def k3c1 : Code := { maxStack := 2, maxLocals := 2, code := jdk_29_method_65_code, exceptionTable := #[], attributes := #[] }
def k3m1 : Method := { name := "max", desc := "(II)I", sig := { parameters := [.int, .int], returnType := some .int }, accessFlags := 9, code := some k3c1 }
/-- java/lang/Math -/
def k3 : Class := { plain "java/lang/Math" (some 0) with
  accessFlags := 49
  interfaces := #[]
  cf := some (fileOf pool3 1 #[.nestMembers #[98]] #[{ accessFlags := 2, nameIndex := 7, descriptorIndex := 8, attributes := #[] }, { accessFlags := 9, nameIndex := 198, descriptorIndex := 335, attributes := #[] }] 49 4 #[] #[{ accessFlags := 25, nameIndex := 354, descriptorIndex := 339, attributes := #[] }, { accessFlags := 25, nameIndex := 358, descriptorIndex := 339, attributes := #[] }, { accessFlags := 25, nameIndex := 361, descriptorIndex := 339, attributes := #[] }, { accessFlags := 26, nameIndex := 364, descriptorIndex := 339, attributes := #[] }, { accessFlags := 26, nameIndex := 365, descriptorIndex := 339, attributes := #[] }, { accessFlags := 26, nameIndex := 172, descriptorIndex := 173, attributes := #[] }, { accessFlags := 26, nameIndex := 176, descriptorIndex := 173, attributes := #[] }, { accessFlags := 8, nameIndex := 344, descriptorIndex := 339, attributes := #[] }, { accessFlags := 8, nameIndex := 338, descriptorIndex := 339, attributes := #[] }, { accessFlags := 4120, nameIndex := 245, descriptorIndex := 246, attributes := #[] }])
  fields := #[{ name := "E", type := .double, accessFlags := 25, slot := 0, constantValue := 0 }, { name := "PI", type := .double, accessFlags := 25, slot := 1, constantValue := 0 }, { name := "TAU", type := .double, accessFlags := 25, slot := 2, constantValue := 0 }, { name := "DEGREES_TO_RADIANS", type := .double, accessFlags := 26, slot := 3, constantValue := 0 }, { name := "RADIANS_TO_DEGREES", type := .double, accessFlags := 26, slot := 4, constantValue := 0 }, { name := "negativeZeroFloatBits", type := .long, accessFlags := 26, slot := 5, constantValue := 0 }, { name := "negativeZeroDoubleBits", type := .long, accessFlags := 26, slot := 6, constantValue := 0 }, { name := "twoToTheDoubleScaleUp", type := .double, accessFlags := 8, slot := 7, constantValue := 0 }, { name := "twoToTheDoubleScaleDown", type := .double, accessFlags := 8, slot := 8, constantValue := 0 }, { name := "$assertionsDisabled", type := .boolean, accessFlags := 4120, slot := 9, constantValue := 0 }]
  methods := #[k3m0, k3m1]
  instanceTypes := #[]
  staticTypes := #[.double, .double, .double, .double, .double, .long, .long, .double, .double, .boolean]
  resolved := Array.replicate 460 none
  statics := none }

def pool4 : Array CpInfo := pool [(1, u "java/lang/Cloneable"), (0, .class_ 1), (0, u "java/lang/Object"), (0, .class_ 3)] 3

/-- java/lang/Cloneable -/
def k4 : Class := { plain "java/lang/Cloneable" (some 0) with
  accessFlags := 1537
  interfaces := #[]
  cf := some (fileOf pool4 2 #[] #[] 1537 4 #[] #[])
  fields := #[]
  methods := #[]
  instanceTypes := #[]
  staticTypes := #[]
  resolved := Array.replicate 8 none
  statics := none }

def pool5 : Array CpInfo := pool [(1, u "java/io/Serializable"), (0, .class_ 1), (0, u "java/lang/Object"), (0, .class_ 3)] 3

/-- java/io/Serializable -/
def k5 : Class := { plain "java/io/Serializable" (some 0) with
  accessFlags := 1537
  interfaces := #[]
  cf := some (fileOf pool5 2 #[] #[] 1537 4 #[] #[])
  fields := #[]
  methods := #[]
  instanceTypes := #[]
  staticTypes := #[]
  resolved := Array.replicate 8 none
  statics := none }

/-- the primitive byte -/
def k6 : Class := { plain "byte" none with kind := .primitive 'B', accessFlags := 0x411 }
/-- [B -/
def k7 : Class := { plain "[B" (some 0) with kind := .array 6 .byte, interfaces := #[4, 5], accessFlags := 1041 }

/-- the primitive int -/
def k8 : Class := { plain "int" none with kind := .primitive 'I', accessFlags := 0x411 }
/-- [I -/
def k9 : Class := { plain "[I" (some 0) with kind := .array 8 .int, interfaces := #[4, 5], accessFlags := 1041 }

def heap : Heap := #[]
def classes : Array Class := #[k0, k1, k2, k3, k4, k5, k6, k7, k8, k9]
def interned : List (Array UInt16 × Addr) := []
def slotsUsed : Nat := 0
def theMethod : MethodId := ⟨1, 1⟩
def args0 : Array Value := #[.int 5, .int 5, .int 5, .int 5, .int 5]
def aboutOver (below : List Frame) : State where
  vm := { classes := classes, interned := interned.toArray }
  heap := heap
  slotsUsed := slotsUsed
  threads := #[{ frames := .invoking theMethod args0 :: below }]
def below0 : List Frame := [.native { method := ⟨0, 0⟩, args := #[] }]
def about1 : State := aboutOver below0
def p0 : Program := .bare "" "" ""
def e0 : Env := launch0.env 0 0 0
theorem w_frames : about1.frames = Frame.invoking theMethod args0 :: below0 := rfl
set_option maxRecDepth 65536 in
theorem w_args : argsFit about1.vm theMethod args0 = true := by decide +kernel
set_option maxRecDepth 65536 in
theorem w_heap : heapFits about1 = true := by decide +kernel
set_option maxRecDepth 65536 in
theorem w_runnable : about1.curStatus? = some .runnable := by decide +kernel
set_option maxRecDepth 65536 in
theorem w_alone : about1.alone = true := by decide +kernel
set_option maxRecDepth 65536 in
theorem w_named : about1.methodNamed? x = some theMethod := by decide +kernel
set_option maxRecDepth 65536 in
theorem w_hears : about1.hears theMethod below0 = true := by decide +kernel
set_option maxRecDepth 65536 in
theorem w_ripe : about1.ripe theMethod args0 below0 = true := by decide +kernel
theorem w_running : about1.status = .running := rfl
set_option maxRecDepth 65536 in
theorem w_room : about1.hasRoom e0.platform room_1 = true :=
  launch0.hasRoom_least _ room_1 (by decide +kernel) (by decide +kernel) (by decide +kernel) (by decide +kernel) (by decide +kernel) (by decide +kernel)
theorem allAtoms_all (ts : List Jvm.Cond) (a : Array Jvm.Value) (st : Jvm.State) : (allAtoms ts).before a st = ts.all (fun c => c.before a st) := by
  induction ts with
  | nil => rfl
  | cons c t ih =>
    show (Jvm.Cond.and c (allAtoms t)).before a st = _
    rw [Jvm.Cond.before_and, ih, List.all_cons]
def words1 : List Jvm.Cond := Jvm.Cond.code x code maxLocals ret :: tables_1
/-- a 'code' word, met by the world's own term for the bytes: nothing is compared byte by byte -/
theorem code_word {y : MethodName} {bytes : ByteArray} {mx : Nat} {rt : Option FieldType} {a : Array Value} {s : State} {m : MethodId} {meth : Method} {c : Code} (h1 : s.methodNamed? y = some m) (h2 : s.vm.method? m = some meth) (h3 : meth.code = some c) (h4 : c.code = bytes)
    (h5 : (c.maxLocals == mx && c.exceptionTable.isEmpty && decide (c.maxStack ≤ mostOperands) && decide (meth.sig.returnType = rt) && !meth.locks && decide (parseMethodDescriptor y.desc = some meth.sig)) = true) : (Jvm.Cond.code y bytes mx rt).before a s = true := by
  simp only [Bool.and_eq_true, beq_iff_eq, Bool.not_eq_true', decide_eq_true_eq] at h5
  obtain ⟨⟨⟨⟨⟨g1, g2⟩, g3⟩, g4⟩, g5⟩, g6⟩ := h5
  simp [Cond.before, Cond.holds, Cond.value, h1, h2, h3, h4, g1, g2, g3, g4, g5, g6]
def isCode : Jvm.Cond → Bool
  | .code _ _ _ _ => true
  | _ => false
theorem all_split {L : List Jvm.Cond} {P : Jvm.Cond → Bool} (h1 : L.all (fun c => isCode c || P c) = true) (h2 : ∀ c ∈ L.filter isCode, P c = true) : L.all P = true := by
  refine List.all_eq_true.mpr fun c hc => ?_
  have h := List.all_eq_true.mp h1 c hc
  rcases Bool.eq_false_or_eq_true (isCode c) with hi | hi
  · exact h2 c (List.mem_filter.mpr ⟨hc, hi⟩)
  · simpa [hi] using h
set_option maxRecDepth 65536 in
theorem w_c0 : (Jvm.Cond.code x code maxLocals ret).before args0 about1 = true := code_word (m := ⟨1, 1⟩) (meth := k1m1) (c := k1c1) (by decide +kernel) rfl rfl rfl (by decide +kernel)
set_option maxRecDepth 65536 in
theorem w_c1 : (Jvm.Cond.code ({ cls := "com/example/discernibility/discernibility/Lookahead", name := "firstVector", desc := "(I[I)[I" } : Jvm.MethodName) prog_17_method_13_code (7 : Nat) (Option.some (Jvm.ClassFile.FieldType.array Jvm.ClassFile.FieldType.int))).before args0 about1 = true := code_word (m := ⟨2, 0⟩) (meth := k2m0) (c := k2c0) (by decide +kernel) rfl rfl rfl (by decide +kernel)
set_option maxRecDepth 65536 in
theorem w_c2 : (Jvm.Cond.code ({ cls := "com/example/discernibility/discernibility/Lookahead", name := "fill", desc := "([III[I)V" } : Jvm.MethodName) prog_17_method_15_code (7 : Nat) (Option.none : Option Jvm.ClassFile.FieldType)).before args0 about1 = true := code_word (m := ⟨2, 1⟩) (meth := k2m1) (c := k2c1) (by decide +kernel) rfl rfl rfl (by decide +kernel)
set_option maxRecDepth 65536 in
theorem w_c3 : (Jvm.Cond.code ({ cls := "java/lang/Math", name := "max", desc := "(II)I" } : Jvm.MethodName) jdk_29_method_65_code (2 : Nat) (Option.some Jvm.ClassFile.FieldType.int)).before args0 about1 = true := code_word (m := ⟨3, 1⟩) (meth := k3m1) (c := k3c1) (by decide +kernel) rfl rfl rfl (by decide +kernel)
def codes1 : List Jvm.Cond := [Jvm.Cond.code x code maxLocals ret, Jvm.Cond.code ({ cls := "com/example/discernibility/discernibility/Lookahead", name := "firstVector", desc := "(I[I)[I" } : Jvm.MethodName) prog_17_method_13_code (7 : Nat) (Option.some (Jvm.ClassFile.FieldType.array Jvm.ClassFile.FieldType.int)), Jvm.Cond.code ({ cls := "com/example/discernibility/discernibility/Lookahead", name := "fill", desc := "([III[I)V" } : Jvm.MethodName) prog_17_method_15_code (7 : Nat) (Option.none : Option Jvm.ClassFile.FieldType), Jvm.Cond.code ({ cls := "java/lang/Math", name := "max", desc := "(II)I" } : Jvm.MethodName) jdk_29_method_65_code (2 : Nat) (Option.some Jvm.ClassFile.FieldType.int)]
set_option maxRecDepth 65536 in
theorem codes_eq : words1.filter isCode = codes1 := rfl
theorem w_codes : ∀ c ∈ words1.filter isCode, c.before args0 about1 = true := by
  rw [codes_eq]
  intro c hc
  simp only [codes1, List.mem_cons, List.not_mem_nil, or_false] at hc
  rcases hc with rfl | rfl | rfl | rfl
  · exact w_c0
  · exact w_c1
  · exact w_c2
  · exact w_c3
set_option maxRecDepth 65536 in
theorem w_t1 : words1.all (fun c => isCode c || c.before args0 about1) = true := by decide +kernel
theorem w_tables : (allAtoms (Jvm.Cond.code x code maxLocals ret :: tables_1)).before args0 about1 = true := by
  rw [allAtoms_all]
  show words1.all (fun c => c.before args0 about1) = true
  refine all_split ?_ w_codes
  rw [w_t1]
set_option maxRecDepth 65536 in
theorem w_case : (Jvm.Cond.and given_1 narrow_1).before args0 about1 = true := by decide +kernel
theorem w_applies : (headSpec (Jvm.Cond.code x code maxLocals ret :: tables_1) room_1).applies x e0.platform about1 = true :=
  (Spec.applies_iff w_frames).mpr ⟨w_running, w_runnable, w_alone, w_named, w_hears, w_ripe, w_room, w_tables⟩
theorem atStart : AtStart classFile x code maxLocals ret World_1 tables_1 room_1 Calls_1 rest_1 Pre_1 launch0 p0 e0 about1 theMethod args0 below0 :=
  ⟨lists_1, trivial, launch0.admits_env _ _ _, launch0.least_env, fairChoices_fair.cas, fairChoices_fair.clock, w_frames, w_args, w_heap, w_applies, trivial, trivial, w_case⟩
end start1
theorem witness_1 : WitnessClaimed_1 := ⟨start1.p0, start1.e0, start1.about1, start1.theMethod, start1.args0, start1.below0, start1.atStart⟩
end Jvm.Pilot.@@N@@
