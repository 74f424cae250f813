import JvmDerived
import JvmDerived.Pilot.@@N@@Statement
import JvmDerived.Pilot.@@N@@Code
set_option linter.unusedVariables false
set_option linter.unusedSimpArgs false
namespace Jvm.Pilot.@@N@@
open Jvm Jvm.ClassFile Sem Op Lib Jvm.Free Jvm.Stand Jvm.LawKit Jvm.RoadKit Bundle Jvm.Pilot.@@N@@.Jvm.D
/-- from S the run goes on below 'below', ends, and E holds of the end -/
def Go (tb : Tables) (e : Env) (below : List Frame) (E : State → Outcome → Prop) (S : State) : Prop := ∃ s₂ o, Steps tb e below S s₂ ∧ s₂.status = .running ∧ Ended s₂ below o ∧ E s₂ o
theorem Go.via {tb : Tables} {e : Env} {below : List Frame} {E : State → Outcome → Prop} {S S' : State} (k : ∀ t, Steps tb e below S' t → Steps tb e below S t) (h : Go tb e below E S') : Go tb e below E S := by
  obtain ⟨a, b, c, d⟩ := h; exact ⟨a, b, k _ c, d⟩
/-- a body's contract, short -/
abbrev MetP (l : Launch) (y : MethodName) (bytes : ByteArray) (maxL : Nat) (ret : Option FieldType) (ws : List Jvm.Cond) (rm : Room) (Z : State) (as' : Array Value) (h0 : Heap) (Q : Option Value → Heap → List Loc → Prop) : Prop :=
  MetFree l y (head1 (Jvm.Cond.code y bytes maxL ret :: ws) rm) (fun a U => a = as' ∧ Z.Warmed39 U.vm ∧ U.heap = h0) (fun _ _ _ _ _ => True) (fun _ U o U' => ∃ v L, o = .returned v ∧ Q v U'.heap L ∧ FrameEnd U o U' L rm.cells rm.slots)
/-- it returned r and wrote and made nothing -/
def Pure (r : Value) (h0 : Heap) (v : Option Value) (h : Heap) (L : List Loc) : Prop := v = some r ∧ L = [] ∧ h = h0
abbrev EndE (s : State) (rm : Room) (Q : Option Value → Heap → List Loc → Prop) : State → Outcome → Prop := fun s₂ o => ∃ v L, o = .returned v ∧ Q v s₂.heap L ∧ FrameEnd s o s₂ L rm.cells rm.slots
theorem met_go {l : Launch} {y : MethodName} {bytes : ByteArray} {maxL : Nat} {ret : Option FieldType} {ws : List Jvm.Cond} {rm : Room} {Z : State} {as' : Array Value} {h0 : Heap} {Q : Option Value → Heap → List Loc → Prop} (hpl : plainFor y = true)
    (body : ∀ (p : Program) (e : Env) (s : State) (m : MethodId) (below : List Frame) (meth : Method) (c : Code) (s₁ : State), p.tables.exec = Jvm.exec → c.code = bytes → c.maxLocals = maxL → s.vm.findClass y.cls = some m.cls → meth.name = y.name → meth.sig.returnType = ret → meth.locks = false → Z.Warmed39 s.vm → s₁.heap = h0 →
      Stand p l e rm s m as' below meth c s₁ [] 0 0 → Go p.tables e below (EndE s rm Q) (s₁.setTop (entryFrame m as' maxL))) : MetP l y bytes maxL ret ws rm Z as' h0 Q := by
  refine MetFree.of_bodySF hpl hisR ?_
  intro p e s m args below meth c s₁ Bd hml hP hK
  obtain ⟨rfl, hZ, hh⟩ := hP
  exact body p e s m below meth c s₁ Bd.exec Bd.bytes hml (findClass_of_methodNamed Bd.named) (name_of_methodNamed Bd.named Bd.method).1 Bd.returns Bd.notSynchronized hZ (by rw [← hh, Bd.state]; rfl) (Stand.of_body Bd)
abbrev EndW (s : State) (rm : Room) (Q : Option Value → Heap → List Loc → Prop) : State → Outcome → Prop := fun s₂ o => ∃ v L, o = .returned v ∧ Q v s₂.heap L ∧ ReturnedEndW s o s₂ L rm.cells rm.slots
theorem met_goW {l : Launch} {y : MethodName} {bytes : ByteArray} {maxL : Nat} {ret : Option FieldType} {ws : List Jvm.Cond} {rm : Room} {Z : State} {as' : Array Value} {h0 : Heap} {Q : Option Value → Heap → List Loc → Prop} (hpl : plainFor y = true)
    (body : ∀ (p : Program) (e : Env) (s : State) (m : MethodId) (below : List Frame) (meth : Method) (c : Code) (s₁ : State), p.tables.exec = Jvm.exec → c.code = bytes → c.maxLocals = maxL → s.vm.findClass y.cls = some m.cls → meth.name = y.name → meth.sig.returnType = ret → meth.locks = false → Z.Warmed39 s.vm → s₁.heap = h0 →
      Stand p l e rm s m as' below meth c s₁ [] 0 0 → Go p.tables e below (EndW s rm Q) (s₁.setTop (entryFrame m as' maxL))) : MetFree l y (head1 (Jvm.Cond.code y bytes maxL ret :: ws) rm) (fun a U => a = as' ∧ Z.Warmed39 U.vm ∧ U.heap = h0) (fun _ _ _ _ _ => True) (fun _ U o U' => ∃ v L, o = .returned v ∧ Q v U'.heap L ∧ ReturnedEndW U o U' L rm.cells rm.slots) := by
  refine MetFree.of_bodySF hpl hisR ?_
  intro p e s m args below meth c s₁ Bd hml hP hK
  obtain ⟨rfl, hZ, hh⟩ := hP
  exact body p e s m below meth c s₁ Bd.exec Bd.bytes hml (findClass_of_methodNamed Bd.named) (name_of_methodNamed Bd.named Bd.method).1 Bd.returns Bd.notSynchronized hZ (by rw [← hh, Bd.state]; rfl) (Stand.of_body Bd)
theorem met_goZ {l : Launch} {y : MethodName} {bytes : ByteArray} {maxL : Nat} {ret : Option FieldType} {ws : List Jvm.Cond} {rm : Room} {Z : State} {as' : Array Value} {Q : Option Value → Heap → List Loc → Prop} (hpl : plainFor y = true)
    (body : ∀ (p : Program) (e : Env) (s : State) (m : MethodId) (below : List Frame) (meth : Method) (c : Code) (s₁ : State), p.tables.exec = Jvm.exec → c.code = bytes → c.maxLocals = maxL → s.vm.findClass y.cls = some m.cls → meth.name = y.name → meth.sig.returnType = ret → meth.locks = false → s = Z → s₁.heap = Z.heap →
      Stand p l e rm s m as' below meth c s₁ [] 0 0 → Go p.tables e below (EndW s rm Q) (s₁.setTop (entryFrame m as' maxL))) : MetFree l y (head1 (Jvm.Cond.code y bytes maxL ret :: ws) rm) (fun a U => a = as' ∧ U = Z) (fun _ _ _ _ _ => True) (fun _ U o U' => ∃ v L, o = .returned v ∧ Q v U'.heap L ∧ ReturnedEndW U o U' L rm.cells rm.slots) := by
  refine MetFree.of_bodySF hpl hisR ?_
  intro p e s m args below meth c s₁ Bd hml hP hK
  obtain ⟨rfl, hZ⟩ := hP
  exact body p e s m below meth c s₁ Bd.exec Bd.bytes hml (findClass_of_methodNamed Bd.named) (name_of_methodNamed Bd.named Bd.method).1 Bd.returns Bd.notSynchronized hZ (by rw [← hZ, Bd.state]; rfl) (Stand.of_body Bd)
section OwnKit
variable {p : Program} {l : Launch} {e : Env} {R : Room} {s : State} {m : MethodId} {args : Array Value} {below : List Frame} {meth : Method} {c : Code} {T : State} {locs : List Loc} {cells slots : Nat} {E : State → Outcome → Prop} {Z : State} {a0 : Array Value} {h : Heap} {pc : Nat} {Ls Ls' : Array Slot} {st : List Value}
theorem o_iload (pc' : Nat) (X : Stand p l e R s m args below meth c T locs cells slots) (hx : p.tables.exec = Jvm.exec) (hpc : pc + 2 = pc') {k : Nat} {v : Int32} (hd : decode c.code pc = .ok (.iload k, 2)) (hl : Ls[k]? = some (.val (.int v))) (h : Go p.tables e below E (T.setTop (mkF m pc' Ls ((.int v) :: st)))) : Go p.tables e below E (T.setTop (mkF m pc Ls st)) := by
  subst hpc; exact Go.via (fun _ k => XS.iload X.here hx rfl hd hl k) h
theorem o_lload (pc' : Nat) (X : Stand p l e R s m args below meth c T locs cells slots) (hx : p.tables.exec = Jvm.exec) (hpc : pc + 2 = pc') {k : Nat} {v : Int64} (hd : decode c.code pc = .ok (.lload k, 2)) (hl : Ls[k]? = some (.val (.long v))) (h : Go p.tables e below E (T.setTop (mkF m pc' Ls ((.long v) :: st)))) : Go p.tables e below E (T.setTop (mkF m pc Ls st)) := by
  subst hpc; exact Go.via (fun _ k => XS.lload X.here hx rfl hd hl k) h
theorem o_iloadN (pc' : Nat) (X : Stand p l e R s m args below meth c T locs cells slots) (hx : p.tables.exec = Jvm.exec) (hpc : pc + 1 = pc') {k : Fin 4} {v : Int32} (hd : decode c.code pc = .ok (.iload_n k, 1)) (hl : Ls[k.val]? = some (.val (.int v))) (h : Go p.tables e below E (T.setTop (mkF m pc' Ls ((.int v) :: st)))) : Go p.tables e below E (T.setTop (mkF m pc Ls st)) := by
  subst hpc; exact Go.via (fun _ k => XS.iloadN X.here hx rfl hd hl k) h
theorem o_lloadN (pc' : Nat) (X : Stand p l e R s m args below meth c T locs cells slots) (hx : p.tables.exec = Jvm.exec) (hpc : pc + 1 = pc') {k : Fin 4} {v : Int64} (hd : decode c.code pc = .ok (.lload_n k, 1)) (hl : Ls[k.val]? = some (.val (.long v))) (h : Go p.tables e below E (T.setTop (mkF m pc' Ls ((.long v) :: st)))) : Go p.tables e below E (T.setTop (mkF m pc Ls st)) := by
  subst hpc; exact Go.via (fun _ k => XS.lloadN X.here hx rfl hd hl k) h
theorem o_dloadN (pc' : Nat) (X : Stand p l e R s m args below meth c T locs cells slots) (hx : p.tables.exec = Jvm.exec) (hpc : pc + 1 = pc') {k : Fin 4} {v : UInt64} (hd : decode c.code pc = .ok (.dload_n k, 1)) (hl : Ls[k.val]? = some (.val (.double v))) (h : Go p.tables e below E (T.setTop (mkF m pc' Ls ((.double v) :: st)))) : Go p.tables e below E (T.setTop (mkF m pc Ls st)) := by
  subst hpc; exact Go.via (fun _ k => XS.dloadN X.here hx rfl hd hl k) h
theorem o_aload (pc' : Nat) (X : Stand p l e R s m args below meth c T locs cells slots) (hx : p.tables.exec = Jvm.exec) (hpc : pc + 2 = pc') {k : Nat} {v : Value} (hd : decode c.code pc = .ok (.aload k, 2)) (hl : Ls[k]? = some (.val v)) (hv : v.isRef = true) (h : Go p.tables e below E (T.setTop (mkF m pc' Ls (v :: st)))) : Go p.tables e below E (T.setTop (mkF m pc Ls st)) := by
  subst hpc; exact Go.via (fun _ k => XS.aload X.here hx rfl hd hl hv k) h
theorem o_aloadN (pc' : Nat) (X : Stand p l e R s m args below meth c T locs cells slots) (hx : p.tables.exec = Jvm.exec) (hpc : pc + 1 = pc') {k : Fin 4} {v : Value} (hd : decode c.code pc = .ok (.aload_n k, 1)) (hl : Ls[k.val]? = some (.val v)) (hv : v.isRef = true) (h : Go p.tables e below E (T.setTop (mkF m pc' Ls (v :: st)))) : Go p.tables e below E (T.setTop (mkF m pc Ls st)) := by
  subst hpc; exact Go.via (fun _ k => XS.aloadN X.here hx rfl hd hl hv k) h
theorem o_istore (pc' : Nat) (X : Stand p l e R s m args below meth c T locs cells slots) (hx : p.tables.exec = Jvm.exec) (hpc : pc + 2 = pc') {k : Nat} {v : Int32} (hd : decode c.code pc = .ok (.istore k, 2)) (Ls' : Array Slot) (hl : storeLocals Ls k (.int v) = some Ls') (h : Go p.tables e below E (T.setTop (mkF m pc' Ls' st))) : Go p.tables e below E (T.setTop (mkF m pc Ls ((.int v) :: st))) := by
  subst hpc; exact Go.via (fun _ k => XS.istore X.here hx rfl hd rfl hl k) h
theorem o_lstore (pc' : Nat) (X : Stand p l e R s m args below meth c T locs cells slots) (hx : p.tables.exec = Jvm.exec) (hpc : pc + 2 = pc') {k : Nat} {v : Int64} (hd : decode c.code pc = .ok (.lstore k, 2)) (Ls' : Array Slot) (hl : storeLocals Ls k (.long v) = some Ls') (h : Go p.tables e below E (T.setTop (mkF m pc' Ls' st))) : Go p.tables e below E (T.setTop (mkF m pc Ls ((.long v) :: st))) := by
  subst hpc; exact Go.via (fun _ k => XS.lstore X.here hx rfl hd rfl hl k) h
theorem o_astore (pc' : Nat) (X : Stand p l e R s m args below meth c T locs cells slots) (hx : p.tables.exec = Jvm.exec) (hpc : pc + 2 = pc') {k : Nat} {v : Value} (hd : decode c.code pc = .ok (.astore k, 2)) (hv : v.isRef = true) (Ls' : Array Slot) (hl : storeLocals Ls k v = some Ls') (h : Go p.tables e below E (T.setTop (mkF m pc' Ls' st))) : Go p.tables e below E (T.setTop (mkF m pc Ls (v :: st))) := by
  subst hpc; exact Go.via (fun _ k => XS.astore X.here hx rfl hd rfl hv hl k) h
theorem o_iconst (pc' : Nat) (X : Stand p l e R s m args below meth c T locs cells slots) (hx : p.tables.exec = Jvm.exec) (hpc : pc + 1 = pc') {i : Int} (hd : decode c.code pc = .ok (.iconst i, 1)) (v : Int32) (hv : Int32.ofInt i = v) (h : Go p.tables e below E (T.setTop (mkF m pc' Ls (.int v :: st)))) : Go p.tables e below E (T.setTop (mkF m pc Ls st)) := by
  subst hpc; exact Go.via (fun _ k => XS.iconst X.here hx rfl hd (by rw [hv]; exact k)) h
theorem o_bipush (pc' : Nat) (X : Stand p l e R s m args below meth c T locs cells slots) (hx : p.tables.exec = Jvm.exec) (hpc : pc + 2 = pc') {i : Int} (hd : decode c.code pc = .ok (.bipush i, 2)) (v : Int32) (hv : (Int8.ofInt i).toInt32 = v) (h : Go p.tables e below E (T.setTop (mkF m pc' Ls (.int v :: st)))) : Go p.tables e below E (T.setTop (mkF m pc Ls st)) := by
  subst hpc; exact Go.via (fun _ k => XS.bipush X.here hx rfl hd (by rw [hv]; exact k)) h
theorem o_dconst1 (pc' : Nat) (X : Stand p l e R s m args below meth c T locs cells slots) (hx : p.tables.exec = Jvm.exec) (hpc : pc + 1 = pc') (hd : decode c.code pc = .ok (.dconst 1, 1)) (v : UInt64) (hv : FP.dconst1 = v) (h : Go p.tables e below E (T.setTop (mkF m pc' Ls (.double v :: st)))) : Go p.tables e below E (T.setTop (mkF m pc Ls st)) := by
  subst hpc; exact Go.via (fun _ k => XS.dconst1 X.here hx rfl hd hv k) h
theorem o_ldc2Long (pc' : Nat) (X : Stand p l e R s m args below meth c T locs cells slots) (hx : p.tables.exec = Jvm.exec) (hpc : pc + 3 = pc') (hZ : Z.Warmed39 s.vm) {own : String} {index : Nat} (hown : s.vm.findClass own = some m.cls) {v : Int64} (w : (Jvm.Cond.constantLong own index v).before a0 Z = true) (hd : decode c.code pc = .ok (.ldc2_w index, 3)) (h : Go p.tables e below E (T.setTop (mkF m pc' Ls (.long v :: st)))) : Go p.tables e below E (T.setTop (mkF m pc Ls st)) := by
  subst hpc; exact Go.via (fun _ k => X.ldc2Long hx hown (mvT hZ w) (g := mkF m pc Ls st) rfl hd _ k) h
theorem o_ldc2Double (pc' : Nat) (X : Stand p l e R s m args below meth c T locs cells slots) (hx : p.tables.exec = Jvm.exec) (hpc : pc + 3 = pc') (hZ : Z.Warmed39 s.vm) {own : String} {index : Nat} (hown : s.vm.findClass own = some m.cls) {v : UInt64} (w : (Jvm.Cond.constantDouble own index v).before a0 Z = true) (hd : decode c.code pc = .ok (.ldc2_w index, 3)) (h : Go p.tables e below E (T.setTop (mkF m pc' Ls (.double v :: st)))) : Go p.tables e below E (T.setTop (mkF m pc Ls st)) := by
  subst hpc; exact Go.via (fun _ k => X.ldc2DoubleC hx hown (mvT hZ w) (g := mkF m pc Ls st) rfl hd _ k) h
theorem o_iadd (pc' : Nat) (X : Stand p l e R s m args below meth c T locs cells slots) (hx : p.tables.exec = Jvm.exec) (hpc : pc + 1 = pc') {x : Int32} {y : Int32} (hd : decode c.code pc = .ok (.iadd, 1)) (h : Go p.tables e below E (T.setTop (mkF m pc' Ls (.int (x + y) :: st)))) : Go p.tables e below E (T.setTop (mkF m pc Ls (.int y :: .int x :: st))) := by
  subst hpc; exact Go.via (fun _ k => XS.iadd X.here hx rfl hd rfl k) h
theorem o_iand (pc' : Nat) (X : Stand p l e R s m args below meth c T locs cells slots) (hx : p.tables.exec = Jvm.exec) (hpc : pc + 1 = pc') {x : Int32} {y : Int32} (hd : decode c.code pc = .ok (.iand, 1)) (h : Go p.tables e below E (T.setTop (mkF m pc' Ls (.int (x &&& y) :: st)))) : Go p.tables e below E (T.setTop (mkF m pc Ls (.int y :: .int x :: st))) := by
  subst hpc; exact Go.via (fun _ k => XS.iand X.here hx rfl hd rfl k) h
theorem o_ladd (pc' : Nat) (X : Stand p l e R s m args below meth c T locs cells slots) (hx : p.tables.exec = Jvm.exec) (hpc : pc + 1 = pc') {x : Int64} {y : Int64} (hd : decode c.code pc = .ok (.ladd, 1)) (h : Go p.tables e below E (T.setTop (mkF m pc' Ls (.long (x + y) :: st)))) : Go p.tables e below E (T.setTop (mkF m pc Ls (.long y :: .long x :: st))) := by
  subst hpc; exact Go.via (fun _ k => XS.ladd X.here hx rfl hd rfl k) h
theorem o_lsub (pc' : Nat) (X : Stand p l e R s m args below meth c T locs cells slots) (hx : p.tables.exec = Jvm.exec) (hpc : pc + 1 = pc') {x : Int64} {y : Int64} (hd : decode c.code pc = .ok (.lsub, 1)) (h : Go p.tables e below E (T.setTop (mkF m pc' Ls (.long (x - y) :: st)))) : Go p.tables e below E (T.setTop (mkF m pc Ls (.long y :: .long x :: st))) := by
  subst hpc; exact Go.via (fun _ k => XS.lsub X.here hx rfl hd rfl k) h
theorem o_lmul (pc' : Nat) (X : Stand p l e R s m args below meth c T locs cells slots) (hx : p.tables.exec = Jvm.exec) (hpc : pc + 1 = pc') {x : Int64} {y : Int64} (hd : decode c.code pc = .ok (.lmul, 1)) (h : Go p.tables e below E (T.setTop (mkF m pc' Ls (.long (x * y) :: st)))) : Go p.tables e below E (T.setTop (mkF m pc Ls (.long y :: .long x :: st))) := by
  subst hpc; exact Go.via (fun _ k => XS.lmul X.here hx rfl hd rfl k) h
theorem o_land (pc' : Nat) (X : Stand p l e R s m args below meth c T locs cells slots) (hx : p.tables.exec = Jvm.exec) (hpc : pc + 1 = pc') {x : Int64} {y : Int64} (hd : decode c.code pc = .ok (.land, 1)) (h : Go p.tables e below E (T.setTop (mkF m pc' Ls (.long (x &&& y) :: st)))) : Go p.tables e below E (T.setTop (mkF m pc Ls (.long y :: .long x :: st))) := by
  subst hpc; exact Go.via (fun _ k => XS.land X.here hx rfl hd rfl k) h
theorem o_i2l (pc' : Nat) (X : Stand p l e R s m args below meth c T locs cells slots) (hx : p.tables.exec = Jvm.exec) (hpc : pc + 1 = pc') {x : Int32} (hd : decode c.code pc = .ok (.i2l, 1)) (h : Go p.tables e below E (T.setTop (mkF m pc' Ls (.long (x.toInt64) :: st)))) : Go p.tables e below E (T.setTop (mkF m pc Ls (.int x :: st))) := by
  subst hpc; exact Go.via (fun _ k => XS.i2l X.here hx rfl hd rfl k) h
theorem o_lcmp (pc' : Nat) (X : Stand p l e R s m args below meth c T locs cells slots) (hx : p.tables.exec = Jvm.exec) (hpc : pc + 1 = pc') {x y : Int64} (hd : decode c.code pc = .ok (.lcmp, 1)) (h : Go p.tables e below E (T.setTop (mkF m pc' Ls (.int (lcmpW x y) :: st)))) : Go p.tables e below E (T.setTop (mkF m pc Ls (.long y :: .long x :: st))) := by
  subst hpc; exact Go.via (fun _ k => XS.lcmp X.here hx rfl hd rfl k) h
theorem o_dup (pc' : Nat) (X : Stand p l e R s m args below meth c T locs cells slots) (hx : p.tables.exec = Jvm.exec) (hpc : pc + 1 = pc') {v : Value} (hd : decode c.code pc = .ok (.dup, 1)) (hv : v.category = 1) (h : Go p.tables e below E (T.setTop (mkF m pc' Ls (v :: v :: st)))) : Go p.tables e below E (T.setTop (mkF m pc Ls (v :: st))) := by
  subst hpc; exact Go.via (fun _ k => XS.dup X.here hx rfl hd rfl hv k) h
theorem o_goto (pc' : Nat) (X : Stand p l e R s m args below meth c T locs cells slots) (hx : p.tables.exec = Jvm.exec) {o : Int} (hd : decode c.code pc = .ok (.goto o, 3)) (ho : 0 ≤ (pc : Int) + o) (hp : ((pc : Int) + o).toNat = pc') (h : Go p.tables e below E (T.setTop (mkF m pc' Ls st))) : Go p.tables e below E (T.setTop (mkF m pc Ls st)) := by
  exact Go.via (fun _ k => XS.goto X.here hx rfl (pc0 := pc) (pc' := pc') rfl hd ho hp k) h
theorem o_ifYes (pc' : Nat) (X : Stand p l e R s m args below meth c T locs cells slots) (hx : p.tables.exec = Jvm.exec) {cd : ClassFile.Cond} {x : Int32} {o : Int} (hd : decode c.code pc = .ok (.ifCond cd o, 3)) (hc : if_icmp.holds cd x 0 = true) (ho : 0 ≤ (pc : Int) + o) (hp : ((pc : Int) + o).toNat = pc') (h : Go p.tables e below E (T.setTop (mkF m pc' Ls st))) : Go p.tables e below E (T.setTop (mkF m pc Ls (.int x :: st))) := by
  exact Go.via (fun _ k => XS.ifYes X.here hx rfl (pc0 := pc) (pc' := pc') rfl hd rfl ((if0 _ _).trans hc) ho hp k) h
theorem o_ifNo (pc' : Nat) (X : Stand p l e R s m args below meth c T locs cells slots) (hx : p.tables.exec = Jvm.exec) (hpc : pc + 3 = pc') {cd : ClassFile.Cond} {x : Int32} {o : Int} (hd : decode c.code pc = .ok (.ifCond cd o, 3)) (hc : if_icmp.holds cd x 0 = false) (h : Go p.tables e below E (T.setTop (mkF m pc' Ls st))) : Go p.tables e below E (T.setTop (mkF m pc Ls (.int x :: st))) := by
  subst hpc; exact Go.via (fun _ k => XS.ifNo X.here hx rfl hd rfl ((if0 _ _).trans hc) k) h
theorem o_icmpYes (pc' : Nat) (X : Stand p l e R s m args below meth c T locs cells slots) (hx : p.tables.exec = Jvm.exec) {cd : ClassFile.Cond} {x y : Int32} {o : Int} (hd : decode c.code pc = .ok (.if_icmp cd o, 3)) (hc : if_icmp.holds cd x y = true) (ho : 0 ≤ (pc : Int) + o) (hp : ((pc : Int) + o).toNat = pc') (h : Go p.tables e below E (T.setTop (mkF m pc' Ls st))) : Go p.tables e below E (T.setTop (mkF m pc Ls (.int y :: .int x :: st))) := by
  exact Go.via (fun _ k => XS.icmpYes X.here hx rfl (pc0 := pc) (pc' := pc') rfl hd rfl hc ho hp k) h
theorem o_icmpNo (pc' : Nat) (X : Stand p l e R s m args below meth c T locs cells slots) (hx : p.tables.exec = Jvm.exec) (hpc : pc + 3 = pc') {cd : ClassFile.Cond} {x y : Int32} {o : Int} (hd : decode c.code pc = .ok (.if_icmp cd o, 3)) (hc : if_icmp.holds cd x y = false) (h : Go p.tables e below E (T.setTop (mkF m pc' Ls st))) : Go p.tables e below E (T.setTop (mkF m pc Ls (.int y :: .int x :: st))) := by
  subst hpc; exact Go.via (fun _ k => XS.icmpNo X.here hx rfl hd rfl hc k) h
theorem o_out (X : Stand p l e R s m args below meth c T locs cells slots) (hx : p.tables.exec = Jvm.exec) {rm : Room} {Q : Option Value → Heap → List Loc → Prop} {v : Option Value} (hv : meth.sig.returnType = none → v = none) (hlk : meth.locks = false) {g : JFrame}
    (hst : ∀ fs, (∀ (f : JFrame) (acts : List Action), f.method = m → f.locked = none → f.entered = [] → (doReturn e (T.setTop f) acts v).1 = T.setFrames fs) → Steps p.tables e below (T.setTop g) (T.setFrames fs)) (hq : Q v T.heap locs) (hk : cells ≤ rm.cells) (hn : slots ≤ rm.slots) : Go p.tables e below (EndE s rm Q) (T.setTop g) := by
  obtain ⟨fs, hr, hrun, hended, hW, hsame⟩ := X.leave (v := v) hv hlk
  exact ⟨_, _, hst fs hr, hrun, hended, _, _, rfl, hq, ⟨_, rfl⟩, hW, hsame.mono hk hn⟩
theorem o_retJ (X : Stand p l e R s m args below meth c T locs cells slots) (hx : p.tables.exec = Jvm.exec) {z : Int64} {rm : Room} {Q : Option Value → Heap → List Loc → Prop} (hret : meth.sig.returnType = some .long) (hlk : meth.locks = false) (hd : decode c.code pc = .ok (.lreturn, 1)) (hk : cells ≤ rm.cells) (hn : slots ≤ rm.slots) (hq : Q (some (.long z)) T.heap locs) : Go p.tables e below (EndE s rm Q) (T.setTop (mkF m pc Ls (.long z :: st))) :=
  o_out X hx (fun q => by rw [hret] at q; cases q) hlk (fun fs hr => retOut X hx hret rfl (Or.inr (Or.inl ⟨rfl, rfl, z, rfl⟩)) hd hr) hq hk hn
theorem o_retN (X : Stand p l e R s m args below meth c T locs cells slots) (hx : p.tables.exec = Jvm.exec) {z : Int32} (t : FieldType) (ht : t = .boolean ∨ t = .byte ∨ t = .char ∨ t = .short) {rm : Room} {Q : Option Value → Heap → List Loc → Prop} (hret : meth.sig.returnType = some t) (hlk : meth.locks = false) (hd : decode c.code pc = .ok (.ireturn, 1)) (hk : cells ≤ rm.cells) (hn : slots ≤ rm.slots) (hq : Q (some (.int (nar t z))) T.heap locs) : Go p.tables e below (EndE s rm Q) (T.setTop (mkF m pc Ls (.int z :: st))) :=
  o_out X hx (fun q => by rw [hret] at q; cases q) hlk (fun fs hr => retN X hx hret ht hd hr) hq hk hn
theorem o_retV (X : Stand p l e R s m args below meth c T locs cells slots) (hx : p.tables.exec = Jvm.exec) {rm : Room} {Q : Option Value → Heap → List Loc → Prop} (hret : meth.sig.returnType = none) (hlk : meth.locks = false) (hd : decode c.code pc = .ok (.return_, 1)) (hk : cells ≤ rm.cells) (hn : slots ≤ rm.slots) (hq : Q none T.heap locs) : Go p.tables e below (EndE s rm Q) (T.setTop (mkF m pc Ls [])) :=
  o_out X hx (fun _ => rfl) hlk (fun fs hr => X.returnOut hx hret hd hr) hq hk hn
theorem o_getF (pc' : Nat) (X : Stand p l e R s m args below meth c T locs cells slots) (hx : p.tables.exec = Jvm.exec) (hpc : pc + 3 = pc') (hZ : Z.Warmed39 s.vm) {own R0 O n d : String} {index : Nat} (hown : s.vm.findClass own = some m.cls) (w : (Jvm.Cond.fieldLink own index R0 n d).before a0 Z = true) (via : Via Z R0 O n d) (eT : T.heap = h) {a : Addr} {v : Value} (F : Fld Z h a O n d v) (hd : decode c.code pc = .ok (.getfield index, 3))
    (k : ∀ (T' : State), Stand p l e R s m args below meth c T' locs cells slots → T'.heap = h → Go p.tables e below E (T'.setTop (mkF m pc' Ls (v :: st)))) : Go p.tables e below E (T.setTop (mkF m pc Ls (.ref a :: st))) := by
  subst hpc
  obtain ⟨T', X', e', st'⟩ := getF X hx hZ hown (host := "") (Or.inl w) via eT F (g := mkF m pc Ls (.ref a :: st)) rfl rfl hd
  exact Go.via st' (k T' X' e')
theorem o_putF (pc' : Nat) (X : Stand p l e R s m args below meth c T locs cells slots) (hx : p.tables.exec = Jvm.exec) (hpc : pc + 3 = pc') (hZ : Z.Warmed39 s.vm) {own R0 O n d C : String} {index kk : Nat} (ty : FieldType) (hown : s.vm.findClass own = some m.cls) (w : (Jvm.Cond.fieldLink own index R0 n d).before a0 Z = true) (via : Via Z R0 O n d) (eT : T.heap = h) {a : Addr} {v old : Value} (F : Fld Z h a O n d old) (X2 : Exa Z h a C)
    (L : (Jvm.Cond.lays C O n d).before a0 Z = true ∨ ((Jvm.Cond.laysFinal C O n d).before a0 Z = true ∧ own = O ∧ meth.name = "<init>")) (wi : (Jvm.Cond.instantiable C kk).before a0 Z = true) (hty : parseFieldDescriptor d = some ty) (hn : narrow ty v = v) (hf : fits ty v = true) {n0 : Nat} (N : Fr n0 locs) (ga : n0 ≤ a) (hd : decode c.code pc = .ok (.putfield index, 3))
    (k : ∀ (T' : State) (h' : Heap) (L' : List Loc), Stand p l e R s m args below meth c T' L' cells slots → Fr n0 L' → T'.heap = h' → Wr h h' a (Jvm.RoadKit.slotOf Z O n d) v → Go p.tables e below E (T'.setTop (mkF m pc' Ls st))) : Go p.tables e below E (T.setTop (mkF m pc Ls (v :: .ref a :: st))) := by
  subst hpc
  obtain ⟨T', h', X', e', W', st'⟩ := putF X hx hZ hown (host := "") (Or.inl w) via eT F X2 L wi hty hn hf (g := mkF m pc Ls (v :: .ref a :: st)) rfl rfl hd
  exact Go.via st' (k T' h' _ X' (Fr.snoc X' N ga) e' W')
theorem o_new (pc' : Nat) (X : Stand p l e R s m args below meth c T locs cells slots) (hx : p.tables.exec = Jvm.exec) (hpc : pc + 3 = pc') (hZ : Z.Warmed39 s.vm) {own C : String} {index n : Nat} (hown : s.vm.findClass own = some m.cls) (w : (Jvm.Cond.classLink own index C).before a0 Z = true) (wi : (Jvm.Cond.instantiable C n).before a0 Z = true) (wz : (Jvm.Cond.initialized C).before a0 Z = true) (eT : T.heap = h) (hd : decode c.code pc = .ok (.new index, 3)) (hc : cells + 1 ≤ R.cells) (hl : slots + n ≤ R.slots)
    (k : ∀ (T' : State) (h' : Heap) (a : Addr), a = h.size → Stand p l e R s m args below meth c T' locs (cells + 1) (slots + n) → T'.heap = h' → Ext h h' → Exa Z h' a C → (∀ {O nm d : String} {ty : FieldType}, Laid Z a0 C O nm d → parseFieldDescriptor d = some ty → Fld Z h' a O nm d (defaultValue ty)) → Go p.tables e below E (T'.setTop (mkF m pc' Ls (.ref a :: st)))) : Go p.tables e below E (T.setTop (mkF m pc Ls st)) := by
  subst hpc
  obtain ⟨T', h', X', e', E', A', D', -, st'⟩ := newO X hx hZ hown w wi wz eT (g := mkF m pc Ls st) rfl hd hc hl
  exact Go.via st' (k T' h' h.size rfl X' e' E' A' D')
theorem o_initO (pc' : Nat) (X : Stand p l e R s m args below meth c T locs cells slots) (hx : p.tables.exec = Jvm.exec) (hpc : pc + 3 = pc') (hZ : Z.Warmed39 s.vm) {own : String} {idx : Nat} (hown : s.vm.findClass own = some m.cls) (w1 : (Jvm.Cond.methodLink own idx Lib.objectInit).before a0 Z = true) (w2 : (Jvm.Cond.instanceMethod Lib.objectInit).before a0 Z = true) (w3 : (Jvm.Cond.code Lib.objectInit ⟨#[0xb1]⟩ 1 none).before a0 Z = true) (eT : T.heap = h) (hsize : Ls.size = c.maxLocals) {a : Addr} (hd : decode c.code pc = .ok (.invokespecial idx, 3)) (hf : 1 ≤ R.frames) (W : Nat) (hW : (st.map fun v => v.category).sum ≤ W) (hl : W + 12 ≤ R.locals)
    (k : ∀ (T' : State), Stand p l e R s m args below meth c T' locs cells slots → T'.heap = h → Go p.tables e below E (T'.setTop (mkF m pc' Ls st))) : Go p.tables e below E (T.setTop (mkF m pc Ls (.ref a :: st))) := by
  subst hpc
  obtain ⟨T', X', e', st'⟩ := initO X hx hZ hown w1 w2 w3 eT (g := mkF m pc Ls (.ref a :: st)) rfl hsize rfl hd hf (W := W) (by show 2 * 0 + _ ≤ _; rw [Nat.mul_zero, Nat.zero_add]; exact hW) hl
  exact Go.via st' (k T' X' e')
theorem o_callS (pc' : Nat) (X : Stand p l e R s m args below meth c T locs cells slots) (hx : p.tables.exec = Jvm.exec) (hpc : pc + 3 = pc') (hZ : Z.Warmed39 s.vm) {own : String} {index : Nat} {y : MethodName} {bytes : ByteArray} {maxL : Nat} {ret : Option FieldType} {rm : Room} {as' : Array Value} {Q : Option Value → Heap → List Loc → Prop} (hown : s.vm.findClass own = some m.cls) (w1 : (Jvm.Cond.methodLink own index y).before a0 Z = true) (w2 : (Jvm.Cond.static y).before a0 Z = true) (w3 : (Jvm.Cond.initialized y.cls).before a0 Z = true) (w4 : (Jvm.Cond.code y bytes maxL ret).before a0 Z = true) (hy : y.cls ≠ "java/lang/invoke/MethodHandle" ∧ y.cls ≠ "java/lang/invoke/VarHandle") (eT : T.heap = h)
    (hM : MetP l y bytes maxL ret [] rm Z as' h Q) {ps : List FieldType} {r : Option FieldType} (hdsc : parseMethodDescriptor y.desc = some ⟨ps, r⟩) (argsL rest : List Value) (hlen : argsL.length = ps.length) (has : argsL.toArray = as') (hsize : Ls.size = c.maxLocals) (hst : st = argsL.reverse ++ rest) (hd : decode c.code pc = .ok (.invokestatic index, 3)) (W : Nat) (hW : (rest.map fun v => v.category).sum ≤ W) (hf : rm.frames + 1 ≤ R.frames) (hlo : W + (maxL + 11) + rm.locals ≤ R.locals) (hc : cells + rm.cells ≤ R.cells) (hsl : slots + rm.slots ≤ R.slots)
    (k : ∀ (v : Option Value) (T' : State) (L : List Loc), Stand p l e R s m args below meth c T' (locs ++ L) (cells + rm.cells) (slots + rm.slots) → Q v T'.heap L → Go p.tables e below E (T'.setTop (mkF m pc' Ls (v.toList ++ rest)))) : Go p.tables e below E (T.setTop (mkF m pc Ls st)) := by
  subst hpc
  obtain ⟨v, _, ⟨T', L', c', s'⟩, -, X', ⟨L, hQ, h1, h2, h3⟩, st'⟩ := Jvm.LawKit.callS X hx (y := y) hown (mvT hZ w1) (mvT hZ w2) (mvT hZ w3) (mvT hZ w4) hy (backOf (W := W) hM hZ w4 w3 hf hlo) (g := mkF m pc Ls st) rfl hsize (argsL := argsL) (rest := rest) (lenOf hdsc hlen) hst (by show 2 * 0 + _ ≤ _; rw [Nat.mul_zero, Nat.zero_add]; exact hW) hd (fun _ _ => ⟨has, eT, hc, hsl⟩)
  dsimp only [Pt.U, Pt.locs, Pt.cells, Pt.slots] at X' h1 h2 h3 st' hQ
  subst h1 h2 h3
  exact Go.via st' (k v T' L X' hQ)
theorem o_callP (pc' : Nat) (X : Stand p l e R s m args below meth c T locs cells slots) (hx : p.tables.exec = Jvm.exec) (hpc : pc + 3 = pc') (hZ : Z.Warmed39 s.vm) {own : String} {index : Nat} {y : MethodName} {bytes : ByteArray} {maxL : Nat} {ret : Option FieldType} {rm : Room} {as' : Array Value} {rv : Value} (hown : s.vm.findClass own = some m.cls) (w1 : (Jvm.Cond.methodLink own index y).before a0 Z = true) (w2 : (Jvm.Cond.static y).before a0 Z = true) (w3 : (Jvm.Cond.initialized y.cls).before a0 Z = true) (w4 : (Jvm.Cond.code y bytes maxL ret).before a0 Z = true) (hy : y.cls ≠ "java/lang/invoke/MethodHandle" ∧ y.cls ≠ "java/lang/invoke/VarHandle") (eT : T.heap = h)
    (hM : MetP l y bytes maxL ret [] rm Z as' h (Pure rv h)) {ps : List FieldType} {r : Option FieldType} (hdsc : parseMethodDescriptor y.desc = some ⟨ps, r⟩) (argsL rest : List Value) (hlen : argsL.length = ps.length) (has : argsL.toArray = as') (hsize : Ls.size = c.maxLocals) (hst : st = argsL.reverse ++ rest) (hd : decode c.code pc = .ok (.invokestatic index, 3)) (W : Nat) (hW : (rest.map fun v => v.category).sum ≤ W) (hf : rm.frames + 1 ≤ R.frames) (hlo : W + (maxL + 11) + rm.locals ≤ R.locals) (hc : cells + rm.cells ≤ R.cells) (hsl : slots + rm.slots ≤ R.slots) (hc0 : rm.cells = 0) (hs0 : rm.slots = 0)
    (k : ∀ (T' : State), Stand p l e R s m args below meth c T' locs cells slots → T'.heap = h → Go p.tables e below E (T'.setTop (mkF m pc' Ls (rv :: rest)))) : Go p.tables e below E (T.setTop (mkF m pc Ls st)) := by
  refine o_callS pc' X hx hpc hZ hown w1 w2 w3 w4 hy eT hM hdsc argsL rest hlen has hsize hst hd W hW hf hlo hc hsl ?_
  intro v T' L X' hQ
  obtain ⟨rfl, rfl, e'⟩ := hQ
  rw [hc0, hs0, List.append_nil] at X'
  exact k T' X' e' 
theorem o_callI (pc' : Nat) (X : Stand p l e R s m args below meth c T locs cells slots) (hx : p.tables.exec = Jvm.exec) (hpc : pc + 3 = pc') (hZ : Z.Warmed39 s.vm) {own : String} {index : Nat} {y : MethodName} {bytes : ByteArray} {maxL : Nat} {rm : Room} {as' : Array Value} {Q : Option Value → Heap → List Loc → Prop} (hy1 : y.name = "<init>") (hown : s.vm.findClass own = some m.cls) (w1 : (Jvm.Cond.methodLink own index y).before a0 Z = true) (w2 : (Jvm.Cond.instanceMethod y).before a0 Z = true) (w3 : (Jvm.Cond.initialized y.cls).before a0 Z = true) (w4 : (Jvm.Cond.code y bytes maxL none).before a0 Z = true) (hy : y.cls ≠ "java/lang/invoke/MethodHandle" ∧ y.cls ≠ "java/lang/invoke/VarHandle") (eT : T.heap = h)
    (hM : MetP l y bytes maxL none [] rm Z as' h Q) {ps : List FieldType} {r : Option FieldType} (hdsc : parseMethodDescriptor y.desc = some ⟨ps, r⟩) (a : Addr) (argsL rest : List Value) (hlen : argsL.length = ps.length) (has : (.ref a :: argsL).toArray = as') (hsize : Ls.size = c.maxLocals) (hst : st = argsL.reverse ++ .ref a :: rest) (hd : decode c.code pc = .ok (.invokespecial index, 3)) (W : Nat) (hW : (rest.map fun v => v.category).sum ≤ W) (hf : rm.frames + 1 ≤ R.frames) (hlo : W + (maxL + 11) + rm.locals ≤ R.locals) (hc : cells + rm.cells ≤ R.cells) (hsl : slots + rm.slots ≤ R.slots)
    (k : ∀ (v : Option Value) (T' : State) (L : List Loc), Stand p l e R s m args below meth c T' (locs ++ L) (cells + rm.cells) (slots + rm.slots) → Q v T'.heap L → Go p.tables e below E (T'.setTop (mkF m pc' Ls (v.toList ++ rest)))) : Go p.tables e below E (T.setTop (mkF m pc Ls st)) := by
  subst hpc
  obtain ⟨v, _, ⟨T', L', c', s'⟩, -, X', ⟨L, hQ, h1, h2, h3⟩, st'⟩ := X.specialBack hx (y := y) hy1 hown (mvT hZ w1) (mvT hZ w2) (mvT hZ w4) hy (backOf (W := W) hM hZ w4 w3 hf hlo) (g := mkF m pc Ls st) rfl hsize (Steps.refl _) (a := a) (argsL := argsL) (rest := rest) (lenOf hdsc hlen) hst (by show 2 * 0 + _ ≤ _; rw [Nat.mul_zero, Nat.zero_add]; exact hW) hd (fun _ _ => ⟨has, eT, hc, hsl⟩)
  dsimp only [Pt.U, Pt.locs, Pt.cells, Pt.slots] at X' h1 h2 h3 st' hQ
  subst h1 h2 h3
  exact Go.via (fun _ q => st'.trans q) (k v T' L X' hQ)
theorem o_callV (pc' : Nat) (X : Stand p l e R s m args below meth c T locs cells slots) (hx : p.tables.exec = Jvm.exec) (hpc : pc + 3 = pc') (hZ : Z.Warmed39 s.vm) {own C : String} {index : Nat} {y : MethodName} {bytes : ByteArray} {maxL : Nat} {ret : Option FieldType} {rm : Room} {as' : Array Value} {Q : Option Value → Heap → List Loc → Prop} (hown : s.vm.findClass own = some m.cls) (w1 : (Jvm.Cond.methodLink own index y).before a0 Z = true) (w2 : (Jvm.Cond.declares y).before a0 Z = true) (wsel : (Jvm.Cond.selects C y y).before a0 Z = true) (w5 : (Jvm.Cond.instanceMethod y).before a0 Z = true) (w3 : (Jvm.Cond.initialized y.cls).before a0 Z = true) (w4 : (Jvm.Cond.code y bytes maxL ret).before a0 Z = true) (hy : y.cls ≠ "java/lang/invoke/MethodHandle" ∧ y.cls ≠ "java/lang/invoke/VarHandle") (eT : T.heap = h)
    (hM : MetP l y bytes maxL ret [] rm Z as' h Q) {ps : List FieldType} {r : Option FieldType} (hdsc : parseMethodDescriptor y.desc = some ⟨ps, r⟩) (argsL rest : List Value) (hlen : argsL.length = ps.length) {a : Addr} (X2 : Exa Z h a C) (has : (.ref a :: argsL).toArray = as') (hsize : Ls.size = c.maxLocals) (hst : st = argsL.reverse ++ .ref a :: rest) (hd : decode c.code pc = .ok (.invokevirtual index, 3)) (W : Nat) (hW : (rest.map fun v => v.category).sum ≤ W) (hf : rm.frames + 1 ≤ R.frames) (hlo : W + (maxL + 11) + rm.locals ≤ R.locals) (hc : cells + rm.cells ≤ R.cells) (hsl : slots + rm.slots ≤ R.slots)
    (k : ∀ (v : Option Value) (T' : State) (L : List Loc), Stand p l e R s m args below meth c T' (locs ++ L) (cells + rm.cells) (slots + rm.slots) → Q v T'.heap L → Go p.tables e below E (T'.setTop (mkF m pc' Ls (v.toList ++ rest)))) : Go p.tables e below E (T.setTop (mkF m pc Ls st)) := by
  subst hpc
  obtain ⟨cq, kq, qa, qb, qc⟩ := isOf hZ eT X2
  obtain ⟨v, _, ⟨T', L', c', s'⟩, -, X', ⟨L, hQ, h1, h2, h3⟩, st'⟩ := X.virtualBack hx (y := y) (z := y) hown (mvT hZ w1) (mvT hZ w2) (notFace_of_selects (args := #[]) (mvT hZ wsel)) (mvT hZ wsel) (mvT hZ w5) hy (backOf (W := W) hM hZ w4 w3 hf hlo) qa qc (g := mkF m pc Ls st) rfl hsize (Steps.refl _) (argsL := argsL) (rest := rest) (lenOf hdsc hlen) hst (by show 2 * 0 + _ ≤ _; rw [Nat.mul_zero, Nat.zero_add]; exact hW) hd (fun _ _ => ⟨has, eT, hc, hsl⟩)
  dsimp only [Pt.U, Pt.locs, Pt.cells, Pt.slots] at X' h1 h2 h3 st' hQ
  subst h1 h2 h3
  exact Go.via (fun _ q => st'.trans q) (k v T' L X' hQ)
theorem o_putFN (pc' : Nat) (X : Stand p l e R s m args below meth c T locs cells slots) (hx : p.tables.exec = Jvm.exec) (hpc : pc + 3 = pc') (hZ : Z.Warmed39 s.vm) {own R0 O n d C : String} {index kk : Nat} (ty : FieldType) (hown : s.vm.findClass own = some m.cls) (w : (Jvm.Cond.fieldLink own index R0 n d).before a0 Z = true) (via : Via Z R0 O n d) (eT : T.heap = h) {a : Addr} {v v' old : Value} (F : Fld Z h a O n d old) (X2 : Exa Z h a C)
    (L : (Jvm.Cond.lays C O n d).before a0 Z = true ∨ ((Jvm.Cond.laysFinal C O n d).before a0 Z = true ∧ own = O ∧ meth.name = "<init>")) (wi : (Jvm.Cond.instantiable C kk).before a0 Z = true) (hty : parseFieldDescriptor d = some ty) (hn : narrow ty v = v') (hf : fits ty v' = true) {n0 : Nat} (N : Fr n0 locs) (ga : n0 ≤ a) (hd : decode c.code pc = .ok (.putfield index, 3))
    (k : ∀ (T' : State) (h' : Heap) (L' : List Loc), Stand p l e R s m args below meth c T' L' cells slots → Fr n0 L' → T'.heap = h' → Wr h h' a (Jvm.RoadKit.slotOf Z O n d) v' → Go p.tables e below E (T'.setTop (mkF m pc' Ls st))) : Go p.tables e below E (T.setTop (mkF m pc Ls (v :: .ref a :: st))) := by
  subst hpc
  obtain ⟨T', h', X', e', W', st'⟩ := putFN X hx hZ hown w via eT F X2 L wi hty hn hf (g := mkF m pc Ls (v :: .ref a :: st)) rfl rfl hd
  exact Go.via st' (k T' h' _ X' (Fr.snoc X' N ga) e' W')
theorem o_callIw (pc' : Nat) (X : Stand p l e R s m args below meth c T locs cells slots) (hx : p.tables.exec = Jvm.exec) (hpc : pc + 3 = pc') (hZ : Z.Warmed39 s.vm) {own : String} {index : Nat} {y : MethodName} {bytes : ByteArray} {maxL : Nat} {rm : Room} {as' : Array Value} {Q : Option Value → Heap → List Loc → Prop} (hy1 : y.name = "<init>") (hown : s.vm.findClass own = some m.cls) (w1 : (Jvm.Cond.methodLink own index y).before a0 Z = true) (w2 : (Jvm.Cond.instanceMethod y).before a0 Z = true) (w3 : (Jvm.Cond.initialized y.cls).before a0 Z = true) (w4 : (Jvm.Cond.code y bytes maxL none).before a0 Z = true) (hy : y.cls ≠ "java/lang/invoke/MethodHandle" ∧ y.cls ≠ "java/lang/invoke/VarHandle") (eT : T.heap = h) {n0 : Nat} (N : Fr n0 locs)
    (hM : MetP l y bytes maxL none [] rm Z as' h Q) {ps : List FieldType} {r : Option FieldType} (hdsc : parseMethodDescriptor y.desc = some ⟨ps, r⟩) (a : Addr) (argsL rest : List Value) (hlen : argsL.length = ps.length) (has : (.ref a :: argsL).toArray = as') (hsize : Ls.size = c.maxLocals) (hst : st = argsL.reverse ++ .ref a :: rest) (hd : decode c.code pc = .ok (.invokespecial index, 3)) (W : Nat) (hW : (rest.map fun v => v.category).sum ≤ W) (hf : rm.frames + 1 ≤ R.frames) (hlo : W + (maxL + 11) + rm.locals ≤ R.locals) (hc : cells + rm.cells ≤ R.cells) (hsl : slots + rm.slots ≤ R.slots)
    (k : ∀ (v : Option Value) (T' : State) (L L' : List Loc), Stand p l e R s m args below meth c T' L' (cells + rm.cells) (slots + rm.slots) → Q v T'.heap L → (Fr n0 L → Fr n0 L') → Go p.tables e below E (T'.setTop (mkF m pc' Ls (v.toList ++ rest)))) : Go p.tables e below E (T.setTop (mkF m pc Ls st)) :=
  o_callI pc' X hx hpc hZ hy1 hown w1 w2 w3 w4 hy eT hM hdsc a argsL rest hlen has hsize hst hd W hW hf hlo hc hsl (fun v T' L X' hQ => k v T' L _ X' hQ (fun M => Fr.app N M))
theorem o_callVw (pc' : Nat) (X : Stand p l e R s m args below meth c T locs cells slots) (hx : p.tables.exec = Jvm.exec) (hpc : pc + 3 = pc') (hZ : Z.Warmed39 s.vm) {own C : String} {index : Nat} {y : MethodName} {bytes : ByteArray} {maxL : Nat} {ret : Option FieldType} {rm : Room} {as' : Array Value} {Q : Option Value → Heap → List Loc → Prop} (hown : s.vm.findClass own = some m.cls) (w1 : (Jvm.Cond.methodLink own index y).before a0 Z = true) (w2 : (Jvm.Cond.declares y).before a0 Z = true) (wsel : (Jvm.Cond.selects C y y).before a0 Z = true) (w5 : (Jvm.Cond.instanceMethod y).before a0 Z = true) (w3 : (Jvm.Cond.initialized y.cls).before a0 Z = true) (w4 : (Jvm.Cond.code y bytes maxL ret).before a0 Z = true) (hy : y.cls ≠ "java/lang/invoke/MethodHandle" ∧ y.cls ≠ "java/lang/invoke/VarHandle") (eT : T.heap = h) {n0 : Nat} (N : Fr n0 locs)
    (hM : MetP l y bytes maxL ret [] rm Z as' h Q) {ps : List FieldType} {r : Option FieldType} (hdsc : parseMethodDescriptor y.desc = some ⟨ps, r⟩) (argsL rest : List Value) (hlen : argsL.length = ps.length) {a : Addr} (X2 : Exa Z h a C) (has : (.ref a :: argsL).toArray = as') (hsize : Ls.size = c.maxLocals) (hst : st = argsL.reverse ++ .ref a :: rest) (hd : decode c.code pc = .ok (.invokevirtual index, 3)) (W : Nat) (hW : (rest.map fun v => v.category).sum ≤ W) (hf : rm.frames + 1 ≤ R.frames) (hlo : W + (maxL + 11) + rm.locals ≤ R.locals) (hc : cells + rm.cells ≤ R.cells) (hsl : slots + rm.slots ≤ R.slots)
    (k : ∀ (v : Option Value) (T' : State) (L L' : List Loc), Stand p l e R s m args below meth c T' L' (cells + rm.cells) (slots + rm.slots) → Q v T'.heap L → (Fr n0 L → Fr n0 L') → Go p.tables e below E (T'.setTop (mkF m pc' Ls (v.toList ++ rest)))) : Go p.tables e below E (T.setTop (mkF m pc Ls st)) :=
  o_callV pc' X hx hpc hZ hown w1 w2 wsel w5 w3 w4 hy eT hM hdsc argsL rest hlen X2 has hsize hst hd W hW hf hlo hc hsl (fun v T' L X' hQ => k v T' L _ X' hQ (fun M => Fr.app N M))
end OwnKit
theorem l_tlt {x y : Int64} (h : x < y) : lcmpW x y < 0 := (lw_lt x y).mpr h
theorem l_flt {x y : Int64} (h : ¬ x < y) : ¬ lcmpW x y < 0 := fun q => h ((lw_lt x y).mp q)
theorem l_tgt {x y : Int64} (h : y < x) : 0 < lcmpW x y := (lw_gt x y).mpr h
theorem l_fgt {x y : Int64} (h : ¬ y < x) : ¬ 0 < lcmpW x y := fun q => h ((lw_gt x y).mp q)
theorem l_teq {x y : Int64} (h : x = y) : lcmpW x y = 0 := (lw_eq x y).mpr h
theorem l_feq {x y : Int64} (h : ¬ x = y) : ¬ lcmpW x y = 0 := fun q => h ((lw_eq x y).mp q)
theorem wd_0 {Z : State} {a0 : Array Value} (hw : ∀ d ∈ tables_1, d.before a0 Z = true) : (Jvm.Cond.classLink "com/example/roundelay/roundelay/sat/ScheduleReduceDuePinLaw" (17 : Nat) "com/example/roundelay/roundelay/sat/Schedule").before a0 Z = true := hw _ (List.mem_of_getElem? (i := 0) rfl)
theorem wd_1 {Z : State} {a0 : Array Value} (hw : ∀ d ∈ tables_1, d.before a0 Z = true) : (Jvm.Cond.instantiable "com/example/roundelay/roundelay/sat/Schedule" (11 : Nat)).before a0 Z = true := hw _ (List.mem_of_getElem? (i := 1) rfl)
theorem wd_2 {Z : State} {a0 : Array Value} (hw : ∀ d ∈ tables_1, d.before a0 Z = true) : (Jvm.Cond.initialized "com/example/roundelay/roundelay/sat/Schedule").before a0 Z = true := hw _ (List.mem_of_getElem? (i := 2) rfl)
theorem wd_3 {Z : State} {a0 : Array Value} (hw : ∀ d ∈ tables_1, d.before a0 Z = true) : (Jvm.Cond.methodLink "com/example/roundelay/roundelay/sat/ScheduleReduceDuePinLaw" (19 : Nat) ({ cls := "com/example/roundelay/roundelay/sat/Schedule", name := "<init>", desc := "(Z)V" } : Jvm.MethodName)).before a0 Z = true := hw _ (List.mem_of_getElem? (i := 3) rfl)
theorem wd_4 {Z : State} {a0 : Array Value} (hw : ∀ d ∈ tables_1, d.before a0 Z = true) : (Jvm.Cond.instanceMethod ({ cls := "com/example/roundelay/roundelay/sat/Schedule", name := "<init>", desc := "(Z)V" } : Jvm.MethodName)).before a0 Z = true := hw _ (List.mem_of_getElem? (i := 4) rfl)
theorem wd_5 {Z : State} {a0 : Array Value} (hw : ∀ d ∈ tables_1, d.before a0 Z = true) : (Jvm.Cond.code ({ cls := "com/example/roundelay/roundelay/sat/Schedule", name := "<init>", desc := "(Z)V" } : Jvm.MethodName) prog_55_method_1_code (2 : Nat) (Option.none : Option Jvm.ClassFile.FieldType)).before a0 Z = true := hw _ (List.mem_of_getElem? (i := 5) rfl)
theorem wd_6 {Z : State} {a0 : Array Value} (hw : ∀ d ∈ tables_1, d.before a0 Z = true) : (Jvm.Cond.methodLink "com/example/roundelay/roundelay/sat/Schedule" (1 : Nat) ({ cls := "java/lang/Object", name := "<init>", desc := "()V" } : Jvm.MethodName)).before a0 Z = true := hw _ (List.mem_of_getElem? (i := 6) rfl)
theorem wd_7 {Z : State} {a0 : Array Value} (hw : ∀ d ∈ tables_1, d.before a0 Z = true) : (Jvm.Cond.instanceMethod ({ cls := "java/lang/Object", name := "<init>", desc := "()V" } : Jvm.MethodName)).before a0 Z = true := hw _ (List.mem_of_getElem? (i := 7) rfl)
theorem wd_8 {Z : State} {a0 : Array Value} (hw : ∀ d ∈ tables_1, d.before a0 Z = true) : (Jvm.Cond.code ({ cls := "java/lang/Object", name := "<init>", desc := "()V" } : Jvm.MethodName) object_method_1_code (1 : Nat) (Option.none : Option Jvm.ClassFile.FieldType)).before a0 Z = true := hw _ (List.mem_of_getElem? (i := 8) rfl)
theorem wd_9 {Z : State} {a0 : Array Value} (hw : ∀ d ∈ tables_1, d.before a0 Z = true) : (Jvm.Cond.classLink "com/example/roundelay/roundelay/sat/Schedule" (7 : Nat) "com/example/roundelay/roundelay/sat/MovingAverage").before a0 Z = true := hw _ (List.mem_of_getElem? (i := 9) rfl)
theorem wd_10 {Z : State} {a0 : Array Value} (hw : ∀ d ∈ tables_1, d.before a0 Z = true) : (Jvm.Cond.instantiable "com/example/roundelay/roundelay/sat/MovingAverage" (3 : Nat)).before a0 Z = true := hw _ (List.mem_of_getElem? (i := 10) rfl)
theorem wd_11 {Z : State} {a0 : Array Value} (hw : ∀ d ∈ tables_1, d.before a0 Z = true) : (Jvm.Cond.initialized "com/example/roundelay/roundelay/sat/MovingAverage").before a0 Z = true := hw _ (List.mem_of_getElem? (i := 11) rfl)
theorem wd_12 {Z : State} {a0 : Array Value} (hw : ∀ d ∈ tables_1, d.before a0 Z = true) : (Jvm.Cond.constantDouble "com/example/roundelay/roundelay/sat/Schedule" (11 : Nat) (4584304132692975288 : UInt64)).before a0 Z = true := hw _ (List.mem_of_getElem? (i := 12) rfl)
theorem wd_13 {Z : State} {a0 : Array Value} (hw : ∀ d ∈ tables_1, d.before a0 Z = true) : (Jvm.Cond.methodLink "com/example/roundelay/roundelay/sat/Schedule" (13 : Nat) ({ cls := "com/example/roundelay/roundelay/sat/MovingAverage", name := "<init>", desc := "(D)V" } : Jvm.MethodName)).before a0 Z = true := hw _ (List.mem_of_getElem? (i := 13) rfl)
theorem wd_14 {Z : State} {a0 : Array Value} (hw : ∀ d ∈ tables_1, d.before a0 Z = true) : (Jvm.Cond.instanceMethod ({ cls := "com/example/roundelay/roundelay/sat/MovingAverage", name := "<init>", desc := "(D)V" } : Jvm.MethodName)).before a0 Z = true := hw _ (List.mem_of_getElem? (i := 14) rfl)
theorem wd_15 {Z : State} {a0 : Array Value} (hw : ∀ d ∈ tables_1, d.before a0 Z = true) : (Jvm.Cond.code ({ cls := "com/example/roundelay/roundelay/sat/MovingAverage", name := "<init>", desc := "(D)V" } : Jvm.MethodName) prog_47_method_1_code (3 : Nat) (Option.none : Option Jvm.ClassFile.FieldType)).before a0 Z = true := hw _ (List.mem_of_getElem? (i := 15) rfl)
theorem wd_16 {Z : State} {a0 : Array Value} (hw : ∀ d ∈ tables_1, d.before a0 Z = true) : (Jvm.Cond.methodLink "com/example/roundelay/roundelay/sat/MovingAverage" (1 : Nat) ({ cls := "java/lang/Object", name := "<init>", desc := "()V" } : Jvm.MethodName)).before a0 Z = true := hw _ (List.mem_of_getElem? (i := 16) rfl)
theorem wd_17 {Z : State} {a0 : Array Value} (hw : ∀ d ∈ tables_1, d.before a0 Z = true) : (Jvm.Cond.fieldLink "com/example/roundelay/roundelay/sat/MovingAverage" (7 : Nat) "com/example/roundelay/roundelay/sat/MovingAverage" "unseen" "D").before a0 Z = true := hw _ (List.mem_of_getElem? (i := 17) rfl)
theorem wd_18 {Z : State} {a0 : Array Value} (hw : ∀ d ∈ tables_1, d.before a0 Z = true) : (Jvm.Cond.lays "com/example/roundelay/roundelay/sat/MovingAverage" "com/example/roundelay/roundelay/sat/MovingAverage" "unseen" "D").before a0 Z = true := hw _ (List.mem_of_getElem? (i := 18) rfl)
theorem wd_19 {Z : State} {a0 : Array Value} (hw : ∀ d ∈ tables_1, d.before a0 Z = true) : (Jvm.Cond.fieldLink "com/example/roundelay/roundelay/sat/MovingAverage" (13 : Nat) "com/example/roundelay/roundelay/sat/MovingAverage" "alpha" "D").before a0 Z = true := hw _ (List.mem_of_getElem? (i := 19) rfl)
theorem wd_20 {Z : State} {a0 : Array Value} (hw : ∀ d ∈ tables_1, d.before a0 Z = true) : (Jvm.Cond.laysFinal "com/example/roundelay/roundelay/sat/MovingAverage" "com/example/roundelay/roundelay/sat/MovingAverage" "alpha" "D").before a0 Z = true := hw _ (List.mem_of_getElem? (i := 20) rfl)
theorem wd_21 {Z : State} {a0 : Array Value} (hw : ∀ d ∈ tables_1, d.before a0 Z = true) : (Jvm.Cond.fieldLink "com/example/roundelay/roundelay/sat/Schedule" (16 : Nat) "com/example/roundelay/roundelay/sat/Schedule" "fastLbd" "Lcom/example/roundelay/roundelay/sat/MovingAverage;").before a0 Z = true := hw _ (List.mem_of_getElem? (i := 21) rfl)
theorem wd_22 {Z : State} {a0 : Array Value} (hw : ∀ d ∈ tables_1, d.before a0 Z = true) : (Jvm.Cond.laysFinal "com/example/roundelay/roundelay/sat/Schedule" "com/example/roundelay/roundelay/sat/Schedule" "fastLbd" "Lcom/example/roundelay/roundelay/sat/MovingAverage;").before a0 Z = true := hw _ (List.mem_of_getElem? (i := 22) rfl)
theorem wd_23 {Z : State} {a0 : Array Value} (hw : ∀ d ∈ tables_1, d.before a0 Z = true) : (Jvm.Cond.constantDouble "com/example/roundelay/roundelay/sat/Schedule" (20 : Nat) (4532020583610935537 : UInt64)).before a0 Z = true := hw _ (List.mem_of_getElem? (i := 23) rfl)
theorem wd_24 {Z : State} {a0 : Array Value} (hw : ∀ d ∈ tables_1, d.before a0 Z = true) : (Jvm.Cond.fieldLink "com/example/roundelay/roundelay/sat/Schedule" (22 : Nat) "com/example/roundelay/roundelay/sat/Schedule" "slowLbd" "Lcom/example/roundelay/roundelay/sat/MovingAverage;").before a0 Z = true := hw _ (List.mem_of_getElem? (i := 24) rfl)
theorem wd_25 {Z : State} {a0 : Array Value} (hw : ∀ d ∈ tables_1, d.before a0 Z = true) : (Jvm.Cond.laysFinal "com/example/roundelay/roundelay/sat/Schedule" "com/example/roundelay/roundelay/sat/Schedule" "slowLbd" "Lcom/example/roundelay/roundelay/sat/MovingAverage;").before a0 Z = true := hw _ (List.mem_of_getElem? (i := 25) rfl)
theorem wd_26 {Z : State} {a0 : Array Value} (hw : ∀ d ∈ tables_1, d.before a0 Z = true) : (Jvm.Cond.constantLong "com/example/roundelay/roundelay/sat/Schedule" (25 : Nat) (1000 : Int64)).before a0 Z = true := hw _ (List.mem_of_getElem? (i := 26) rfl)
theorem wd_27 {Z : State} {a0 : Array Value} (hw : ∀ d ∈ tables_1, d.before a0 Z = true) : (Jvm.Cond.fieldLink "com/example/roundelay/roundelay/sat/Schedule" (27 : Nat) "com/example/roundelay/roundelay/sat/Schedule" "modeSwitch" "J").before a0 Z = true := hw _ (List.mem_of_getElem? (i := 27) rfl)
theorem wd_28 {Z : State} {a0 : Array Value} (hw : ∀ d ∈ tables_1, d.before a0 Z = true) : (Jvm.Cond.lays "com/example/roundelay/roundelay/sat/Schedule" "com/example/roundelay/roundelay/sat/Schedule" "modeSwitch" "J").before a0 Z = true := hw _ (List.mem_of_getElem? (i := 28) rfl)
theorem wd_29 {Z : State} {a0 : Array Value} (hw : ∀ d ∈ tables_1, d.before a0 Z = true) : (Jvm.Cond.fieldLink "com/example/roundelay/roundelay/sat/Schedule" (31 : Nat) "com/example/roundelay/roundelay/sat/Schedule" "modeLength" "J").before a0 Z = true := hw _ (List.mem_of_getElem? (i := 29) rfl)
theorem wd_30 {Z : State} {a0 : Array Value} (hw : ∀ d ∈ tables_1, d.before a0 Z = true) : (Jvm.Cond.lays "com/example/roundelay/roundelay/sat/Schedule" "com/example/roundelay/roundelay/sat/Schedule" "modeLength" "J").before a0 Z = true := hw _ (List.mem_of_getElem? (i := 30) rfl)
theorem wd_31 {Z : State} {a0 : Array Value} (hw : ∀ d ∈ tables_1, d.before a0 Z = true) : (Jvm.Cond.constantLong "com/example/roundelay/roundelay/sat/Schedule" (34 : Nat) (2000 : Int64)).before a0 Z = true := hw _ (List.mem_of_getElem? (i := 31) rfl)
theorem wd_32 {Z : State} {a0 : Array Value} (hw : ∀ d ∈ tables_1, d.before a0 Z = true) : (Jvm.Cond.fieldLink "com/example/roundelay/roundelay/sat/Schedule" (36 : Nat) "com/example/roundelay/roundelay/sat/Schedule" "nextReduce" "J").before a0 Z = true := hw _ (List.mem_of_getElem? (i := 32) rfl)
theorem wd_33 {Z : State} {a0 : Array Value} (hw : ∀ d ∈ tables_1, d.before a0 Z = true) : (Jvm.Cond.lays "com/example/roundelay/roundelay/sat/Schedule" "com/example/roundelay/roundelay/sat/Schedule" "nextReduce" "J").before a0 Z = true := hw _ (List.mem_of_getElem? (i := 33) rfl)
theorem wd_34 {Z : State} {a0 : Array Value} (hw : ∀ d ∈ tables_1, d.before a0 Z = true) : (Jvm.Cond.fieldLink "com/example/roundelay/roundelay/sat/Schedule" (39 : Nat) "com/example/roundelay/roundelay/sat/Schedule" "nextRephase" "J").before a0 Z = true := hw _ (List.mem_of_getElem? (i := 34) rfl)
theorem wd_35 {Z : State} {a0 : Array Value} (hw : ∀ d ∈ tables_1, d.before a0 Z = true) : (Jvm.Cond.lays "com/example/roundelay/roundelay/sat/Schedule" "com/example/roundelay/roundelay/sat/Schedule" "nextRephase" "J").before a0 Z = true := hw _ (List.mem_of_getElem? (i := 35) rfl)
theorem wd_36 {Z : State} {a0 : Array Value} (hw : ∀ d ∈ tables_1, d.before a0 Z = true) : (Jvm.Cond.fieldLink "com/example/roundelay/roundelay/sat/Schedule" (42 : Nat) "com/example/roundelay/roundelay/sat/Schedule" "stable" "Z").before a0 Z = true := hw _ (List.mem_of_getElem? (i := 36) rfl)
theorem wd_37 {Z : State} {a0 : Array Value} (hw : ∀ d ∈ tables_1, d.before a0 Z = true) : (Jvm.Cond.lays "com/example/roundelay/roundelay/sat/Schedule" "com/example/roundelay/roundelay/sat/Schedule" "stable" "Z").before a0 Z = true := hw _ (List.mem_of_getElem? (i := 37) rfl)
theorem wd_38 {Z : State} {a0 : Array Value} (hw : ∀ d ∈ tables_1, d.before a0 Z = true) : (Jvm.Cond.constantLong "com/example/roundelay/roundelay/sat/ScheduleReduceDuePinLaw" (13 : Nat) (2000 : Int64)).before a0 Z = true := hw _ (List.mem_of_getElem? (i := 38) rfl)
theorem wd_39 {Z : State} {a0 : Array Value} (hw : ∀ d ∈ tables_1, d.before a0 Z = true) : (Jvm.Cond.methodLink "com/example/roundelay/roundelay/sat/ScheduleReduceDuePinLaw" (22 : Nat) ({ cls := "com/example/roundelay/roundelay/sat/ScheduleReduceDuePinLaw", name := "pick", desc := "(IIJJ)J" } : Jvm.MethodName)).before a0 Z = true := hw _ (List.mem_of_getElem? (i := 39) rfl)
theorem wd_40 {Z : State} {a0 : Array Value} (hw : ∀ d ∈ tables_1, d.before a0 Z = true) : (Jvm.Cond.static ({ cls := "com/example/roundelay/roundelay/sat/ScheduleReduceDuePinLaw", name := "pick", desc := "(IIJJ)J" } : Jvm.MethodName)).before a0 Z = true := hw _ (List.mem_of_getElem? (i := 40) rfl)
theorem wd_41 {Z : State} {a0 : Array Value} (hw : ∀ d ∈ tables_1, d.before a0 Z = true) : (Jvm.Cond.initialized "com/example/roundelay/roundelay/sat/ScheduleReduceDuePinLaw").before a0 Z = true := hw _ (List.mem_of_getElem? (i := 41) rfl)
theorem wd_42 {Z : State} {a0 : Array Value} (hw : ∀ d ∈ tables_1, d.before a0 Z = true) : (Jvm.Cond.code ({ cls := "com/example/roundelay/roundelay/sat/ScheduleReduceDuePinLaw", name := "pick", desc := "(IIJJ)J" } : Jvm.MethodName) method_2_code (6 : Nat) (Option.some Jvm.ClassFile.FieldType.long)).before a0 Z = true := hw _ (List.mem_of_getElem? (i := 42) rfl)
theorem wd_43 {Z : State} {a0 : Array Value} (hw : ∀ d ∈ tables_1, d.before a0 Z = true) : (Jvm.Cond.constantLong "com/example/roundelay/roundelay/sat/ScheduleReduceDuePinLaw" (9 : Nat) (16 : Int64)).before a0 Z = true := hw _ (List.mem_of_getElem? (i := 43) rfl)
theorem wd_44 {Z : State} {a0 : Array Value} (hw : ∀ d ∈ tables_1, d.before a0 Z = true) : (Jvm.Cond.constantLong "com/example/roundelay/roundelay/sat/ScheduleReduceDuePinLaw" (11 : Nat) (31 : Int64)).before a0 Z = true := hw _ (List.mem_of_getElem? (i := 44) rfl)
theorem wd_45 {Z : State} {a0 : Array Value} (hw : ∀ d ∈ tables_1, d.before a0 Z = true) : (Jvm.Cond.methodLink "com/example/roundelay/roundelay/sat/ScheduleReduceDuePinLaw" (28 : Nat) ({ cls := "com/example/roundelay/roundelay/sat/ScheduleReduceDuePinLaw", name := "after", desc := "(ZJIJ)J" } : Jvm.MethodName)).before a0 Z = true := hw _ (List.mem_of_getElem? (i := 45) rfl)
theorem wd_46 {Z : State} {a0 : Array Value} (hw : ∀ d ∈ tables_1, d.before a0 Z = true) : (Jvm.Cond.static ({ cls := "com/example/roundelay/roundelay/sat/ScheduleReduceDuePinLaw", name := "after", desc := "(ZJIJ)J" } : Jvm.MethodName)).before a0 Z = true := hw _ (List.mem_of_getElem? (i := 46) rfl)
theorem wd_47 {Z : State} {a0 : Array Value} (hw : ∀ d ∈ tables_1, d.before a0 Z = true) : (Jvm.Cond.code ({ cls := "com/example/roundelay/roundelay/sat/ScheduleReduceDuePinLaw", name := "after", desc := "(ZJIJ)J" } : Jvm.MethodName) method_3_code (6 : Nat) (Option.some Jvm.ClassFile.FieldType.long)).before a0 Z = true := hw _ (List.mem_of_getElem? (i := 47) rfl)
theorem wd_48 {Z : State} {a0 : Array Value} (hw : ∀ d ∈ tables_1, d.before a0 Z = true) : (Jvm.Cond.methodLink "com/example/roundelay/roundelay/sat/ScheduleReduceDuePinLaw" (32 : Nat) ({ cls := "com/example/roundelay/roundelay/sat/Schedule", name := "reduceDue", desc := "(J)Z" } : Jvm.MethodName)).before a0 Z = true := hw _ (List.mem_of_getElem? (i := 48) rfl)
theorem wd_49 {Z : State} {a0 : Array Value} (hw : ∀ d ∈ tables_1, d.before a0 Z = true) : (Jvm.Cond.declares ({ cls := "com/example/roundelay/roundelay/sat/Schedule", name := "reduceDue", desc := "(J)Z" } : Jvm.MethodName)).before a0 Z = true := hw _ (List.mem_of_getElem? (i := 49) rfl)
theorem wd_50 {Z : State} {a0 : Array Value} (hw : ∀ d ∈ tables_1, d.before a0 Z = true) : (Jvm.Cond.instanceMethod ({ cls := "com/example/roundelay/roundelay/sat/Schedule", name := "reduceDue", desc := "(J)Z" } : Jvm.MethodName)).before a0 Z = true := hw _ (List.mem_of_getElem? (i := 50) rfl)
theorem wd_51 {Z : State} {a0 : Array Value} (hw : ∀ d ∈ tables_1, d.before a0 Z = true) : (Jvm.Cond.selects "com/example/roundelay/roundelay/sat/Schedule" ({ cls := "com/example/roundelay/roundelay/sat/Schedule", name := "reduceDue", desc := "(J)Z" } : Jvm.MethodName) ({ cls := "com/example/roundelay/roundelay/sat/Schedule", name := "reduceDue", desc := "(J)Z" } : Jvm.MethodName)).before a0 Z = true := hw _ (List.mem_of_getElem? (i := 51) rfl)
theorem wd_52 {Z : State} {a0 : Array Value} (hw : ∀ d ∈ tables_1, d.before a0 Z = true) : (Jvm.Cond.code ({ cls := "com/example/roundelay/roundelay/sat/Schedule", name := "reduceDue", desc := "(J)Z" } : Jvm.MethodName) prog_55_method_6_code (3 : Nat) (Option.some Jvm.ClassFile.FieldType.boolean)).before a0 Z = true := hw _ (List.mem_of_getElem? (i := 52) rfl)
theorem wd_53 {Z : State} {a0 : Array Value} (hw : ∀ d ∈ tables_1, d.before a0 Z = true) : (Jvm.Cond.constantLong "com/example/roundelay/roundelay/sat/ScheduleReduceDuePinLaw" (15 : Nat) (300 : Int64)).before a0 Z = true := hw _ (List.mem_of_getElem? (i := 53) rfl)
theorem wd_54 {Z : State} {a0 : Array Value} (hw : ∀ d ∈ tables_1, d.before a0 Z = true) : (Jvm.Cond.fieldLink "com/example/roundelay/roundelay/sat/Schedule" (83 : Nat) "com/example/roundelay/roundelay/sat/Schedule" "reductions" "I").before a0 Z = true := hw _ (List.mem_of_getElem? (i := 54) rfl)
theorem wd_55 {Z : State} {a0 : Array Value} (hw : ∀ d ∈ tables_1, d.before a0 Z = true) : (Jvm.Cond.lays "com/example/roundelay/roundelay/sat/Schedule" "com/example/roundelay/roundelay/sat/Schedule" "reductions" "I").before a0 Z = true := hw _ (List.mem_of_getElem? (i := 55) rfl)
theorem wd_56 {Z : State} {a0 : Array Value} (hw : ∀ d ∈ tables_1, d.before a0 Z = true) : (Jvm.Cond.constantLong "com/example/roundelay/roundelay/sat/Schedule" (86 : Nat) (300 : Int64)).before a0 Z = true := hw _ (List.mem_of_getElem? (i := 56) rfl)
theorem wd_57 {Z : State} {a0 : Array Value} (hw : ∀ d ∈ tables_1, d.before a0 Z = true) : (Jvm.Cond.constantLong "com/example/roundelay/roundelay/sat/ScheduleReduceDuePinLaw" (7 : Nat) (4611686018427387903 : Int64)).before a0 Z = true := hw _ (List.mem_of_getElem? (i := 57) rfl)
theorem d1_0 : decode prog_55_method_1_code 0 = .ok (.aload_n 0, 1) := by decide +kernel
theorem d1_1 : decode prog_55_method_1_code 1 = .ok (.invokespecial 1, 3) := by decide +kernel
theorem d1_12 : decode prog_55_method_1_code 12 = .ok (.invokespecial 13, 3) := by decide +kernel
theorem d1_15 : decode prog_55_method_1_code 15 = .ok (.putfield 16, 3) := by decide +kernel
theorem d1_18 : decode prog_55_method_1_code 18 = .ok (.aload_n 0, 1) := by decide +kernel
theorem d1_19 : decode prog_55_method_1_code 19 = .ok (.new 7, 3) := by decide +kernel
theorem d1_22 : decode prog_55_method_1_code 22 = .ok (.dup, 1) := by decide +kernel
theorem d1_23 : decode prog_55_method_1_code 23 = .ok (.ldc2_w 20, 3) := by decide +kernel
theorem d1_26 : decode prog_55_method_1_code 26 = .ok (.invokespecial 13, 3) := by decide +kernel
theorem d1_29 : decode prog_55_method_1_code 29 = .ok (.putfield 22, 3) := by decide +kernel
theorem d1_32 : decode prog_55_method_1_code 32 = .ok (.aload_n 0, 1) := by decide +kernel
theorem d1_33 : decode prog_55_method_1_code 33 = .ok (.ldc2_w 25, 3) := by decide +kernel
theorem d1_36 : decode prog_55_method_1_code 36 = .ok (.putfield 27, 3) := by decide +kernel
theorem d1_39 : decode prog_55_method_1_code 39 = .ok (.aload_n 0, 1) := by decide +kernel
theorem d1_4 : decode prog_55_method_1_code 4 = .ok (.aload_n 0, 1) := by decide +kernel
theorem d1_40 : decode prog_55_method_1_code 40 = .ok (.ldc2_w 25, 3) := by decide +kernel
theorem d1_43 : decode prog_55_method_1_code 43 = .ok (.putfield 31, 3) := by decide +kernel
theorem d1_46 : decode prog_55_method_1_code 46 = .ok (.aload_n 0, 1) := by decide +kernel
theorem d1_47 : decode prog_55_method_1_code 47 = .ok (.ldc2_w 34, 3) := by decide +kernel
theorem d1_5 : decode prog_55_method_1_code 5 = .ok (.new 7, 3) := by decide +kernel
theorem d1_50 : decode prog_55_method_1_code 50 = .ok (.putfield 36, 3) := by decide +kernel
theorem d1_53 : decode prog_55_method_1_code 53 = .ok (.aload_n 0, 1) := by decide +kernel
theorem d1_54 : decode prog_55_method_1_code 54 = .ok (.ldc2_w 25, 3) := by decide +kernel
theorem d1_57 : decode prog_55_method_1_code 57 = .ok (.putfield 39, 3) := by decide +kernel
theorem d1_60 : decode prog_55_method_1_code 60 = .ok (.aload_n 0, 1) := by decide +kernel
theorem d1_61 : decode prog_55_method_1_code 61 = .ok (.iload_n 1, 1) := by decide +kernel
theorem d1_62 : decode prog_55_method_1_code 62 = .ok (.putfield 42, 3) := by decide +kernel
theorem d1_65 : decode prog_55_method_1_code 65 = .ok (.return_, 1) := by decide +kernel
theorem d1_8 : decode prog_55_method_1_code 8 = .ok (.dup, 1) := by decide +kernel
theorem d1_9 : decode prog_55_method_1_code 9 = .ok (.ldc2_w 11, 3) := by decide +kernel
theorem d3_0 : decode prog_47_method_1_code 0 = .ok (.aload_n 0, 1) := by decide +kernel
theorem d3_1 : decode prog_47_method_1_code 1 = .ok (.invokespecial 1, 3) := by decide +kernel
theorem d3_10 : decode prog_47_method_1_code 10 = .ok (.dload_n 1, 1) := by decide +kernel
theorem d3_11 : decode prog_47_method_1_code 11 = .ok (.putfield 13, 3) := by decide +kernel
theorem d3_14 : decode prog_47_method_1_code 14 = .ok (.return_, 1) := by decide +kernel
theorem d3_4 : decode prog_47_method_1_code 4 = .ok (.aload_n 0, 1) := by decide +kernel
theorem d3_5 : decode prog_47_method_1_code 5 = .ok (.dconst 1, 1) := by decide +kernel
theorem d3_6 : decode prog_47_method_1_code 6 = .ok (.putfield 7, 3) := by decide +kernel
theorem d3_9 : decode prog_47_method_1_code 9 = .ok (.aload_n 0, 1) := by decide +kernel
theorem d4_0 : decode method_2_code 0 = .ok (.iload_n 0, 1) := by decide +kernel
theorem d4_1 : decode method_2_code 1 = .ok (.iload_n 1, 1) := by decide +kernel
theorem d4_10 : decode method_2_code 10 = .ok (.land, 1) := by decide +kernel
theorem d4_11 : decode method_2_code 11 = .ok (.lreturn, 1) := by decide +kernel
theorem d4_12 : decode method_2_code 12 = .ok (.lload 4, 2) := by decide +kernel
theorem d4_14 : decode method_2_code 14 = .ok (.ldc2_w 9, 3) := by decide +kernel
theorem d4_17 : decode method_2_code 17 = .ok (.lsub, 1) := by decide +kernel
theorem d4_18 : decode method_2_code 18 = .ok (.lload_n 2, 1) := by decide +kernel
theorem d4_19 : decode method_2_code 19 = .ok (.ldc2_w 11, 3) := by decide +kernel
theorem d4_2 : decode method_2_code 2 = .ok (.iand, 1) := by decide +kernel
theorem d4_22 : decode method_2_code 22 = .ok (.land, 1) := by decide +kernel
theorem d4_23 : decode method_2_code 23 = .ok (.ladd, 1) := by decide +kernel
theorem d4_24 : decode method_2_code 24 = .ok (.lreturn, 1) := by decide +kernel
theorem d4_3 : decode method_2_code 3 = .ok (.ifCond .eq 9, 3) := by decide +kernel
theorem d4_6 : decode method_2_code 6 = .ok (.lload_n 2, 1) := by decide +kernel
theorem d4_7 : decode method_2_code 7 = .ok (.ldc2_w 7, 3) := by decide +kernel
theorem d5_0 : decode method_3_code 0 = .ok (.iload_n 0, 1) := by decide +kernel
theorem d5_1 : decode method_3_code 1 = .ok (.ifCond .eq 18, 3) := by decide +kernel
theorem d5_12 : decode method_3_code 12 = .ok (.iload_n 3, 1) := by decide +kernel
theorem d5_13 : decode method_3_code 13 = .ok (.i2l, 1) := by decide +kernel
theorem d5_14 : decode method_3_code 14 = .ok (.lmul, 1) := by decide +kernel
theorem d5_15 : decode method_3_code 15 = .ok (.ladd, 1) := by decide +kernel
theorem d5_16 : decode method_3_code 16 = .ok (.goto 5, 3) := by decide +kernel
theorem d5_19 : decode method_3_code 19 = .ok (.lload 4, 2) := by decide +kernel
theorem d5_21 : decode method_3_code 21 = .ok (.lreturn, 1) := by decide +kernel
theorem d5_4 : decode method_3_code 4 = .ok (.lload_n 1, 1) := by decide +kernel
theorem d5_5 : decode method_3_code 5 = .ok (.ldc2_w 13, 3) := by decide +kernel
theorem d5_8 : decode method_3_code 8 = .ok (.ladd, 1) := by decide +kernel
theorem d5_9 : decode method_3_code 9 = .ok (.ldc2_w 15, 3) := by decide +kernel
theorem d6_0 : decode prog_55_method_6_code 0 = .ok (.lload_n 1, 1) := by decide +kernel
theorem d6_1 : decode prog_55_method_6_code 1 = .ok (.aload_n 0, 1) := by decide +kernel
theorem d6_10 : decode prog_55_method_6_code 10 = .ok (.ireturn, 1) := by decide +kernel
theorem d6_11 : decode prog_55_method_6_code 11 = .ok (.aload_n 0, 1) := by decide +kernel
theorem d6_12 : decode prog_55_method_6_code 12 = .ok (.dup, 1) := by decide +kernel
theorem d6_13 : decode prog_55_method_6_code 13 = .ok (.getfield 83, 3) := by decide +kernel
theorem d6_16 : decode prog_55_method_6_code 16 = .ok (.iconst 1, 1) := by decide +kernel
theorem d6_17 : decode prog_55_method_6_code 17 = .ok (.iadd, 1) := by decide +kernel
theorem d6_18 : decode prog_55_method_6_code 18 = .ok (.putfield 83, 3) := by decide +kernel
theorem d6_2 : decode prog_55_method_6_code 2 = .ok (.getfield 36, 3) := by decide +kernel
theorem d6_21 : decode prog_55_method_6_code 21 = .ok (.aload_n 0, 1) := by decide +kernel
theorem d6_22 : decode prog_55_method_6_code 22 = .ok (.lload_n 1, 1) := by decide +kernel
theorem d6_23 : decode prog_55_method_6_code 23 = .ok (.ldc2_w 34, 3) := by decide +kernel
theorem d6_26 : decode prog_55_method_6_code 26 = .ok (.ladd, 1) := by decide +kernel
theorem d6_27 : decode prog_55_method_6_code 27 = .ok (.ldc2_w 86, 3) := by decide +kernel
theorem d6_30 : decode prog_55_method_6_code 30 = .ok (.aload_n 0, 1) := by decide +kernel
theorem d6_31 : decode prog_55_method_6_code 31 = .ok (.getfield 83, 3) := by decide +kernel
theorem d6_34 : decode prog_55_method_6_code 34 = .ok (.i2l, 1) := by decide +kernel
theorem d6_35 : decode prog_55_method_6_code 35 = .ok (.lmul, 1) := by decide +kernel
theorem d6_36 : decode prog_55_method_6_code 36 = .ok (.ladd, 1) := by decide +kernel
theorem d6_37 : decode prog_55_method_6_code 37 = .ok (.putfield 36, 3) := by decide +kernel
theorem d6_40 : decode prog_55_method_6_code 40 = .ok (.iconst 1, 1) := by decide +kernel
theorem d6_41 : decode prog_55_method_6_code 41 = .ok (.ireturn, 1) := by decide +kernel
theorem d6_5 : decode prog_55_method_6_code 5 = .ok (.lcmp, 1) := by decide +kernel
theorem d6_6 : decode prog_55_method_6_code 6 = .ok (.ifCond .ge 5, 3) := by decide +kernel
theorem d6_9 : decode prog_55_method_6_code 9 = .ok (.iconst 0, 1) := by decide +kernel
theorem pd_lDrV : parseMethodDescriptor "(D)V" = some ⟨[.double], none⟩ := by decide +kernel
theorem pd_lIIJJrJ : parseMethodDescriptor "(IIJJ)J" = some ⟨[.int, .int, .long, .long], some .long⟩ := by decide +kernel
theorem pd_lJrZ : parseMethodDescriptor "(J)Z" = some ⟨[.long], some .boolean⟩ := by decide +kernel
theorem pd_lZrV : parseMethodDescriptor "(Z)V" = some ⟨[.boolean], none⟩ := by decide +kernel
theorem pd_lZJIJrJ : parseMethodDescriptor "(ZJIJ)J" = some ⟨[.boolean, .long, .int, .long], some .long⟩ := by decide +kernel
theorem pn_0 : plainFor x = true := plainFor_of_name (show plainName "com/example/roundelay/roundelay/sat/ScheduleReduceDuePinLaw" = true by first | (simp [plainName, overriddenIn]; done) | decide +kernel)
theorem pn_1 : plainFor (⟨"com/example/roundelay/roundelay/sat/Schedule", "<init>", "(Z)V"⟩ : MethodName) = true := plainFor_of_name (show plainName "com/example/roundelay/roundelay/sat/Schedule" = true by first | (simp [plainName, overriddenIn]; done) | decide +kernel)
theorem pn_3 : plainFor (⟨"com/example/roundelay/roundelay/sat/MovingAverage", "<init>", "(D)V"⟩ : MethodName) = true := plainFor_of_name (show plainName "com/example/roundelay/roundelay/sat/MovingAverage" = true by first | (simp [plainName, overriddenIn]; done) | decide +kernel)
theorem pn_4 : plainFor (⟨"com/example/roundelay/roundelay/sat/ScheduleReduceDuePinLaw", "pick", "(IIJJ)J"⟩ : MethodName) = true := plainFor_of_name (show plainName "com/example/roundelay/roundelay/sat/ScheduleReduceDuePinLaw" = true by first | (simp [plainName, overriddenIn]; done) | decide +kernel)
theorem pn_5 : plainFor (⟨"com/example/roundelay/roundelay/sat/ScheduleReduceDuePinLaw", "after", "(ZJIJ)J"⟩ : MethodName) = true := plainFor_of_name (show plainName "com/example/roundelay/roundelay/sat/ScheduleReduceDuePinLaw" = true by first | (simp [plainName, overriddenIn]; done) | decide +kernel)
theorem pn_6 : plainFor (⟨"com/example/roundelay/roundelay/sat/Schedule", "reduceDue", "(J)Z"⟩ : MethodName) = true := plainFor_of_name (show plainName "com/example/roundelay/roundelay/sat/Schedule" = true by first | (simp [plainName, overriddenIn]; done) | decide +kernel)
theorem ef_3 (m : MethodId) (y0 : Addr) (y1 : UInt64) : entryFrame m #[(.ref y0), (.double y1)] 3 = mkF m 0 #[.val (.ref y0), .val (.double y1), .second] [] := by first | (simp [entryFrame, mkF, argsToLocals, Value.category]; done) | rfl
def Qc3 (Z : State) (n0 : Nat) (h0 : Heap) (r0 : Addr) (u1 : UInt64) (v : Option Value) (h : Heap) (L : List Loc) : Prop := v = none ∧ Fr n0 L ∧ Keep h0 h [r0] ∧ Exa Z h r0 "com/example/roundelay/roundelay/sat/MovingAverage" ∧ Fld Z h r0 "com/example/roundelay/roundelay/sat/MovingAverage" "unseen" "D" (.double FP.dconst1) ∧ Fld Z h r0 "com/example/roundelay/roundelay/sat/MovingAverage" "alpha" "D" (.double u1)
set_option maxRecDepth 65536 in
set_option maxHeartbeats 40000000 in
theorem rm3 (l : Launch) (Z : State) (a0 : Array Value) (hw : ∀ d ∈ tables_1, d.before a0 Z = true) (r0 : Addr) (u1 : UInt64) (h0 : Heap) (n0 : Nat) (Z0 : n0 ≤ h0.size) (ga : n0 ≤ r0) (E0 : Exa Z h0 r0 "com/example/roundelay/roundelay/sat/MovingAverage") (F_unseen : Fld Z h0 r0 "com/example/roundelay/roundelay/sat/MovingAverage" "unseen" "D" (.double (0 : UInt64))) (F_alpha : Fld Z h0 r0 "com/example/roundelay/roundelay/sat/MovingAverage" "alpha" "D" (.double (0 : UInt64))) : MetP l (⟨"com/example/roundelay/roundelay/sat/MovingAverage", "<init>", "(D)V"⟩ : MethodName) prog_47_method_1_code 3 none [] ({ frames := 1, cells := 0, slots := 0, locals := 12 } : Room) Z #[(.ref r0), (.double u1)] h0 (Qc3 Z n0 h0 r0 u1) := by
  refine met_go pn_3 ?_
  intro p e s m below meth c s₁ hx hby hml hown hnm hret hlk hZ e0 X0
  have N0 := Fr.nil n0
  have K0 : Keep h0 h0 [r0] := Keep.refl _ _
  rw [ef_3 m r0 u1]
  refine o_aloadN 1 X0 hx rfl (hb hby d3_0) rfl rfl ?_
  refine o_initO 4 X0 hx rfl hZ hown (wd_16 hw) (wd_7 hw) (wd_8 hw) e0 (by rw [hml]; rfl) (hb hby d3_1) (by decide) 0 (Nat.le_of_eq rfl) (by decide) fun T1 X1 e1 => ?_
  refine o_aloadN 5 X1 hx rfl (hb hby d3_4) rfl rfl ?_
  refine o_dconst1 6 X1 hx rfl (hb hby d3_5) FP.dconst1 rfl ?_
  refine o_putF 9 X1 hx rfl hZ .double hown (wd_17 hw) Via.refl e1 F_unseen E0 (Or.inl (wd_18 hw)) (wd_10 hw) (by decide) rfl rfl N0 ga (hb hby d3_6) fun T2 h2 L2 X2 N2 e2 W2 => ?_
  have F3 : Fld Z h2 r0 "com/example/roundelay/roundelay/sat/MovingAverage" "unseen" "D" (.double FP.dconst1) := F_unseen.same W2
  have F4 : Exa Z h2 r0 "com/example/roundelay/roundelay/sat/MovingAverage" := E0.wr W2
  have F5 : Fld Z h2 r0 "com/example/roundelay/roundelay/sat/MovingAverage" "alpha" "D" (.double (0 : UInt64)) := F_alpha.other W2 (Or.inr (slot_ne (Or.inr (wd_20 hw)) (Or.inl (wd_18 hw)) (by decide) (t := .double) (t' := .double) (by decide) (by decide)))
  have sz6 : n0 ≤ h2.size := Nat.le_trans Z0 (Keep.of_wr W2).1
  have K7 : Keep h0 h2 [r0] := K0.wr W2 (Or.inl (by simp))
  refine o_aloadN 10 X2 hx rfl (hb hby d3_9) rfl rfl ?_
  refine o_dloadN 11 X2 hx rfl (hb hby d3_10) rfl ?_
  refine o_putF 14 X2 hx rfl hZ .double hown (wd_19 hw) Via.refl e2 F5 F4 (Or.inr ⟨(wd_20 hw), rfl, hnm⟩) (wd_10 hw) (by decide) rfl rfl N2 ga (hb hby d3_11) fun T8 h8 L8 X8 N8 e8 W8 => ?_
  have F9 : Fld Z h8 r0 "com/example/roundelay/roundelay/sat/MovingAverage" "alpha" "D" (.double u1) := F5.same W8
  have F10 : Exa Z h8 r0 "com/example/roundelay/roundelay/sat/MovingAverage" := F4.wr W8
  have F11 : Fld Z h8 r0 "com/example/roundelay/roundelay/sat/MovingAverage" "unseen" "D" (.double FP.dconst1) := F3.other W8 (Or.inr (slot_ne (Or.inl (wd_18 hw)) (Or.inr (wd_20 hw)) (by decide) (t := .double) (t' := .double) (by decide) (by decide)))
  have sz12 : n0 ≤ h8.size := Nat.le_trans sz6 (Keep.of_wr W8).1
  have K13 : Keep h0 h8 [r0] := K7.wr W8 (Or.inl (by simp))
  refine o_retV X8 hx hret hlk (hb hby d3_14) (by decide) (by decide) ?_
  rw [e8]
  exact ⟨rfl, N8, K13, F10, F11, F9⟩
theorem ef_1 (m : MethodId) (y0 : Addr) (y1 : Int32) : entryFrame m #[(.ref y0), (.int y1)] 2 = mkF m 0 #[.val (.ref y0), .val (.int y1)] [] := by first | (simp [entryFrame, mkF, argsToLocals, Value.category]; done) | rfl
def Qc1 (Z : State) (n0 : Nat) (h0 : Heap) (r0 : Addr) (i1 : Int32) (v : Option Value) (h : Heap) (L : List Loc) : Prop := v = none ∧ Fr n0 L ∧ Keep h0 h [r0] ∧ Exa Z h r0 "com/example/roundelay/roundelay/sat/Schedule" ∧ Fld Z h r0 "com/example/roundelay/roundelay/sat/Schedule" "modeSwitch" "J" (.long (1000 : Int64)) ∧ Fld Z h r0 "com/example/roundelay/roundelay/sat/Schedule" "modeLength" "J" (.long (1000 : Int64)) ∧ Fld Z h r0 "com/example/roundelay/roundelay/sat/Schedule" "nextReduce" "J" (.long (2000 : Int64)) ∧ Fld Z h r0 "com/example/roundelay/roundelay/sat/Schedule" "nextRephase" "J" (.long (1000 : Int64)) ∧ Fld Z h r0 "com/example/roundelay/roundelay/sat/Schedule" "stable" "Z" (.int (nar .boolean i1)) ∧ Fld Z h r0 "com/example/roundelay/roundelay/sat/Schedule" "reductions" "I" (.int (0 : Int32))
set_option maxRecDepth 65536 in
set_option maxHeartbeats 40000000 in
theorem rm1 (l : Launch) (Z : State) (a0 : Array Value) (hw : ∀ d ∈ tables_1, d.before a0 Z = true) (r0 : Addr) (i1 : Int32) (h0 : Heap) (n0 : Nat) (Z0 : n0 ≤ h0.size) (ga : n0 ≤ r0) (E0 : Exa Z h0 r0 "com/example/roundelay/roundelay/sat/Schedule") (F_fastLbd : Fld Z h0 r0 "com/example/roundelay/roundelay/sat/Schedule" "fastLbd" "Lcom/example/roundelay/roundelay/sat/MovingAverage;" .null) (F_slowLbd : Fld Z h0 r0 "com/example/roundelay/roundelay/sat/Schedule" "slowLbd" "Lcom/example/roundelay/roundelay/sat/MovingAverage;" .null) (F_modeSwitch : Fld Z h0 r0 "com/example/roundelay/roundelay/sat/Schedule" "modeSwitch" "J" (.long (0 : Int64))) (F_modeLength : Fld Z h0 r0 "com/example/roundelay/roundelay/sat/Schedule" "modeLength" "J" (.long (0 : Int64))) (F_nextReduce : Fld Z h0 r0 "com/example/roundelay/roundelay/sat/Schedule" "nextReduce" "J" (.long (0 : Int64))) (F_nextRephase : Fld Z h0 r0 "com/example/roundelay/roundelay/sat/Schedule" "nextRephase" "J" (.long (0 : Int64))) (F_stable : Fld Z h0 r0 "com/example/roundelay/roundelay/sat/Schedule" "stable" "Z" (.int (0 : Int32))) (F_reductions : Fld Z h0 r0 "com/example/roundelay/roundelay/sat/Schedule" "reductions" "I" (.int (0 : Int32))) : MetP l (⟨"com/example/roundelay/roundelay/sat/Schedule", "<init>", "(Z)V"⟩ : MethodName) prog_55_method_1_code 2 none [] ({ frames := 2, cells := 2, slots := 6, locals := 28 } : Room) Z #[(.ref r0), (.int i1)] h0 (Qc1 Z n0 h0 r0 i1) := by
  refine met_go pn_1 ?_
  intro p e s m below meth c s₁ hx hby hml hown hnm hret hlk hZ e0 X0
  have N0 := Fr.nil n0
  have K0 : Keep h0 h0 [r0] := Keep.refl _ _
  rw [ef_1 m r0 i1]
  refine o_aloadN 1 X0 hx rfl (hb hby d1_0) rfl rfl ?_
  refine o_initO 4 X0 hx rfl hZ hown (wd_6 hw) (wd_7 hw) (wd_8 hw) e0 (by rw [hml]; rfl) (hb hby d1_1) (by decide) 0 (Nat.le_of_eq rfl) (by decide) fun T1 X1 e1 => ?_
  refine o_aloadN 5 X1 hx rfl (hb hby d1_4) rfl rfl ?_
  refine o_new 8 X1 hx rfl hZ hown (wd_9 hw) (wd_10 hw) (wd_11 hw) e1 (hb hby d1_5) (by decide) (by decide) fun T2 h2 a2 g2 X2 e2 E2 A2 D2 => ?_
  have gz3 : h0.size ≤ a2 := Nat.le_trans K0.1 (Nat.le_of_eq g2.symm)
  have ne4 : r0 ≠ a2 := Nat.ne_of_lt (Nat.lt_of_lt_of_eq E0.lt g2.symm)
  have ge5 : n0 ≤ a2 := Nat.le_trans Z0 (Nat.le_of_eq g2.symm)
  have F6 : Exa Z h2 r0 "com/example/roundelay/roundelay/sat/Schedule" := E0.ext E2
  have F7 : Fld Z h2 r0 "com/example/roundelay/roundelay/sat/Schedule" "fastLbd" "Lcom/example/roundelay/roundelay/sat/MovingAverage;" .null := F_fastLbd.ext E2
  have F8 : Fld Z h2 r0 "com/example/roundelay/roundelay/sat/Schedule" "slowLbd" "Lcom/example/roundelay/roundelay/sat/MovingAverage;" .null := F_slowLbd.ext E2
  have F9 : Fld Z h2 r0 "com/example/roundelay/roundelay/sat/Schedule" "modeSwitch" "J" (.long (0 : Int64)) := F_modeSwitch.ext E2
  have F10 : Fld Z h2 r0 "com/example/roundelay/roundelay/sat/Schedule" "modeLength" "J" (.long (0 : Int64)) := F_modeLength.ext E2
  have F11 : Fld Z h2 r0 "com/example/roundelay/roundelay/sat/Schedule" "nextReduce" "J" (.long (0 : Int64)) := F_nextReduce.ext E2
  have F12 : Fld Z h2 r0 "com/example/roundelay/roundelay/sat/Schedule" "nextRephase" "J" (.long (0 : Int64)) := F_nextRephase.ext E2
  have F13 : Fld Z h2 r0 "com/example/roundelay/roundelay/sat/Schedule" "stable" "Z" (.int (0 : Int32)) := F_stable.ext E2
  have F14 : Fld Z h2 r0 "com/example/roundelay/roundelay/sat/Schedule" "reductions" "I" (.int (0 : Int32)) := F_reductions.ext E2
  have sz15 : n0 ≤ h2.size := Nat.le_trans Z0 E2.1
  have K16 : Keep h0 h2 [r0] := K0.ext E2
  have F17 : Fld Z h2 a2 "com/example/roundelay/roundelay/sat/MovingAverage" "unseen" "D" (.double (0 : UInt64)) := D2 (Or.inl (wd_18 hw)) (ty := .double) (by decide)
  have F18 : Fld Z h2 a2 "com/example/roundelay/roundelay/sat/MovingAverage" "alpha" "D" (.double (0 : UInt64)) := D2 (Or.inr (wd_20 hw)) (ty := .double) (by decide)
  refine o_dup 9 X2 hx rfl (hb hby d1_8) rfl ?_
  refine o_ldc2Double 12 X2 hx rfl hZ hown (wd_12 hw) (hb hby d1_9) ?_
  refine o_callIw 15 X2 hx rfl hZ rfl hown (wd_13 hw) (wd_14 hw) (wd_11 hw) (wd_15 hw) (by decide) e2 N0 (rm3 l Z a0 hw a2 (4584304132692975288 : UInt64) h2 n0 sz15 ge5 A2 F17 F18) pd_lDrV a2 [(.double (4584304132692975288 : UInt64))] [(.ref a2), (.ref r0)] rfl rfl (by rw [hml]; rfl) rfl (hb hby d1_12) 2 (Nat.le_of_eq rfl) (by decide) (by decide) (by decide) (by decide) fun v19 T19 L19 LL19 X19 Q19 NF19 => ?_
  obtain ⟨rfl, M19, K19, E19, F19_unseen, F19_alpha⟩ := Q19
  have NN19 := NF19 M19
  have F20 : Exa Z T19.heap r0 "com/example/roundelay/roundelay/sat/Schedule" := F6.keep K19
  have F21 : Fld Z T19.heap r0 "com/example/roundelay/roundelay/sat/Schedule" "fastLbd" "Lcom/example/roundelay/roundelay/sat/MovingAverage;" .null := F7.keep K19 (ninS ne4 nin0)
  have F22 : Fld Z T19.heap r0 "com/example/roundelay/roundelay/sat/Schedule" "slowLbd" "Lcom/example/roundelay/roundelay/sat/MovingAverage;" .null := F8.keep K19 (ninS ne4 nin0)
  have F23 : Fld Z T19.heap r0 "com/example/roundelay/roundelay/sat/Schedule" "modeSwitch" "J" (.long (0 : Int64)) := F9.keep K19 (ninS ne4 nin0)
  have F24 : Fld Z T19.heap r0 "com/example/roundelay/roundelay/sat/Schedule" "modeLength" "J" (.long (0 : Int64)) := F10.keep K19 (ninS ne4 nin0)
  have F25 : Fld Z T19.heap r0 "com/example/roundelay/roundelay/sat/Schedule" "nextReduce" "J" (.long (0 : Int64)) := F11.keep K19 (ninS ne4 nin0)
  have F26 : Fld Z T19.heap r0 "com/example/roundelay/roundelay/sat/Schedule" "nextRephase" "J" (.long (0 : Int64)) := F12.keep K19 (ninS ne4 nin0)
  have F27 : Fld Z T19.heap r0 "com/example/roundelay/roundelay/sat/Schedule" "stable" "Z" (.int (0 : Int32)) := F13.keep K19 (ninS ne4 nin0)
  have F28 : Fld Z T19.heap r0 "com/example/roundelay/roundelay/sat/Schedule" "reductions" "I" (.int (0 : Int32)) := F14.keep K19 (ninS ne4 nin0)
  have K29 : Keep h0 T19.heap [r0] := K16.trans K19 (allS (P := fun x => x ∈ [r0] ∨ h0.size ≤ x) (Or.inr gz3) all0)
  have sz30 : n0 ≤ T19.heap.size := Nat.le_trans sz15 K19.1
  show Go p.tables e below (EndE s ({ frames := 2, cells := 2, slots := 6, locals := 28 } : Room) (Qc1 Z n0 h0 r0 i1)) (T19.setTop (mkF m 15 #[.val (.ref r0), .val (.int i1)] [(.ref a2), (.ref r0)]))
  refine o_putF 18 X19 hx rfl hZ (.object "com/example/roundelay/roundelay/sat/MovingAverage") hown (wd_21 hw) Via.refl rfl F21 F20 (Or.inr ⟨(wd_22 hw), rfl, hnm⟩) (wd_1 hw) (by decide) rfl rfl NN19 ga (hb hby d1_15) fun T31 h31 L31 X31 N31 e31 W31 => ?_
  have F32 : Fld Z h31 r0 "com/example/roundelay/roundelay/sat/Schedule" "fastLbd" "Lcom/example/roundelay/roundelay/sat/MovingAverage;" (.ref a2) := F21.same W31
  have F33 : Exa Z h31 r0 "com/example/roundelay/roundelay/sat/Schedule" := F20.wr W31
  have F34 : Fld Z h31 r0 "com/example/roundelay/roundelay/sat/Schedule" "slowLbd" "Lcom/example/roundelay/roundelay/sat/MovingAverage;" .null := F22.other W31 (Or.inr (slot_ne (Or.inr (wd_25 hw)) (Or.inr (wd_22 hw)) (by decide) (t := (.object "com/example/roundelay/roundelay/sat/MovingAverage")) (t' := (.object "com/example/roundelay/roundelay/sat/MovingAverage")) (by decide) (by decide)))
  have F35 : Fld Z h31 r0 "com/example/roundelay/roundelay/sat/Schedule" "modeSwitch" "J" (.long (0 : Int64)) := F23.other W31 (Or.inr (slot_ne (Or.inl (wd_28 hw)) (Or.inr (wd_22 hw)) (by decide) (t := .long) (t' := (.object "com/example/roundelay/roundelay/sat/MovingAverage")) (by decide) (by decide)))
  have F36 : Fld Z h31 r0 "com/example/roundelay/roundelay/sat/Schedule" "modeLength" "J" (.long (0 : Int64)) := F24.other W31 (Or.inr (slot_ne (Or.inl (wd_30 hw)) (Or.inr (wd_22 hw)) (by decide) (t := .long) (t' := (.object "com/example/roundelay/roundelay/sat/MovingAverage")) (by decide) (by decide)))
  have F37 : Fld Z h31 r0 "com/example/roundelay/roundelay/sat/Schedule" "nextReduce" "J" (.long (0 : Int64)) := F25.other W31 (Or.inr (slot_ne (Or.inl (wd_33 hw)) (Or.inr (wd_22 hw)) (by decide) (t := .long) (t' := (.object "com/example/roundelay/roundelay/sat/MovingAverage")) (by decide) (by decide)))
  have F38 : Fld Z h31 r0 "com/example/roundelay/roundelay/sat/Schedule" "nextRephase" "J" (.long (0 : Int64)) := F26.other W31 (Or.inr (slot_ne (Or.inl (wd_35 hw)) (Or.inr (wd_22 hw)) (by decide) (t := .long) (t' := (.object "com/example/roundelay/roundelay/sat/MovingAverage")) (by decide) (by decide)))
  have F39 : Fld Z h31 r0 "com/example/roundelay/roundelay/sat/Schedule" "stable" "Z" (.int (0 : Int32)) := F27.other W31 (Or.inr (slot_ne (Or.inl (wd_37 hw)) (Or.inr (wd_22 hw)) (by decide) (t := .boolean) (t' := (.object "com/example/roundelay/roundelay/sat/MovingAverage")) (by decide) (by decide)))
  have F40 : Fld Z h31 r0 "com/example/roundelay/roundelay/sat/Schedule" "reductions" "I" (.int (0 : Int32)) := F28.other W31 (Or.inr (slot_ne (Or.inl (wd_55 hw)) (Or.inr (wd_22 hw)) (by decide) (t := .int) (t' := (.object "com/example/roundelay/roundelay/sat/MovingAverage")) (by decide) (by decide)))
  have F41 : Exa Z h31 a2 "com/example/roundelay/roundelay/sat/MovingAverage" := E19.wr W31
  have F42 : Fld Z h31 a2 "com/example/roundelay/roundelay/sat/MovingAverage" "unseen" "D" (.double FP.dconst1) := F19_unseen.other W31 (Or.inl ne4.symm)
  have F43 : Fld Z h31 a2 "com/example/roundelay/roundelay/sat/MovingAverage" "alpha" "D" (.double (4584304132692975288 : UInt64)) := F19_alpha.other W31 (Or.inl ne4.symm)
  have sz44 : n0 ≤ h31.size := Nat.le_trans sz30 (Keep.of_wr W31).1
  have K45 : Keep h0 h31 [r0] := K29.wr W31 (Or.inl (by simp))
  refine o_aloadN 19 X31 hx rfl (hb hby d1_18) rfl rfl ?_
  refine o_new 22 X31 hx rfl hZ hown (wd_9 hw) (wd_10 hw) (wd_11 hw) e31 (hb hby d1_19) (by decide) (by decide) fun T46 h46 a46 g46 X46 e46 E46 A46 D46 => ?_
  have gz47 : h0.size ≤ a46 := Nat.le_trans K45.1 (Nat.le_of_eq g46.symm)
  have ne48 : r0 ≠ a46 := Nat.ne_of_lt (Nat.lt_of_lt_of_eq F33.lt g46.symm)
  have ne49 : a2 ≠ a46 := Nat.ne_of_lt (Nat.lt_of_lt_of_eq F41.lt g46.symm)
  have ge50 : n0 ≤ a46 := Nat.le_trans sz44 (Nat.le_of_eq g46.symm)
  have F51 : Exa Z h46 r0 "com/example/roundelay/roundelay/sat/Schedule" := F33.ext E46
  have F52 : Fld Z h46 r0 "com/example/roundelay/roundelay/sat/Schedule" "fastLbd" "Lcom/example/roundelay/roundelay/sat/MovingAverage;" (.ref a2) := F32.ext E46
  have F53 : Fld Z h46 r0 "com/example/roundelay/roundelay/sat/Schedule" "slowLbd" "Lcom/example/roundelay/roundelay/sat/MovingAverage;" .null := F34.ext E46
  have F54 : Fld Z h46 r0 "com/example/roundelay/roundelay/sat/Schedule" "modeSwitch" "J" (.long (0 : Int64)) := F35.ext E46
  have F55 : Fld Z h46 r0 "com/example/roundelay/roundelay/sat/Schedule" "modeLength" "J" (.long (0 : Int64)) := F36.ext E46
  have F56 : Fld Z h46 r0 "com/example/roundelay/roundelay/sat/Schedule" "nextReduce" "J" (.long (0 : Int64)) := F37.ext E46
  have F57 : Fld Z h46 r0 "com/example/roundelay/roundelay/sat/Schedule" "nextRephase" "J" (.long (0 : Int64)) := F38.ext E46
  have F58 : Fld Z h46 r0 "com/example/roundelay/roundelay/sat/Schedule" "stable" "Z" (.int (0 : Int32)) := F39.ext E46
  have F59 : Fld Z h46 r0 "com/example/roundelay/roundelay/sat/Schedule" "reductions" "I" (.int (0 : Int32)) := F40.ext E46
  have F60 : Exa Z h46 a2 "com/example/roundelay/roundelay/sat/MovingAverage" := F41.ext E46
  have F61 : Fld Z h46 a2 "com/example/roundelay/roundelay/sat/MovingAverage" "unseen" "D" (.double FP.dconst1) := F42.ext E46
  have F62 : Fld Z h46 a2 "com/example/roundelay/roundelay/sat/MovingAverage" "alpha" "D" (.double (4584304132692975288 : UInt64)) := F43.ext E46
  have sz63 : n0 ≤ h46.size := Nat.le_trans sz44 E46.1
  have K64 : Keep h0 h46 [r0] := K45.ext E46
  have F65 : Fld Z h46 a46 "com/example/roundelay/roundelay/sat/MovingAverage" "unseen" "D" (.double (0 : UInt64)) := D46 (Or.inl (wd_18 hw)) (ty := .double) (by decide)
  have F66 : Fld Z h46 a46 "com/example/roundelay/roundelay/sat/MovingAverage" "alpha" "D" (.double (0 : UInt64)) := D46 (Or.inr (wd_20 hw)) (ty := .double) (by decide)
  refine o_dup 23 X46 hx rfl (hb hby d1_22) rfl ?_
  refine o_ldc2Double 26 X46 hx rfl hZ hown (wd_23 hw) (hb hby d1_23) ?_
  refine o_callIw 29 X46 hx rfl hZ rfl hown (wd_13 hw) (wd_14 hw) (wd_11 hw) (wd_15 hw) (by decide) e46 N31 (rm3 l Z a0 hw a46 (4532020583610935537 : UInt64) h46 n0 sz63 ge50 A46 F65 F66) pd_lDrV a46 [(.double (4532020583610935537 : UInt64))] [(.ref a46), (.ref r0)] rfl rfl (by rw [hml]; rfl) rfl (hb hby d1_26) 2 (Nat.le_of_eq rfl) (by decide) (by decide) (by decide) (by decide) fun v67 T67 L67 LL67 X67 Q67 NF67 => ?_
  obtain ⟨rfl, M67, K67, E67, F67_unseen, F67_alpha⟩ := Q67
  have NN67 := NF67 M67
  have F68 : Exa Z T67.heap r0 "com/example/roundelay/roundelay/sat/Schedule" := F51.keep K67
  have F69 : Fld Z T67.heap r0 "com/example/roundelay/roundelay/sat/Schedule" "fastLbd" "Lcom/example/roundelay/roundelay/sat/MovingAverage;" (.ref a2) := F52.keep K67 (ninS ne48 nin0)
  have F70 : Fld Z T67.heap r0 "com/example/roundelay/roundelay/sat/Schedule" "slowLbd" "Lcom/example/roundelay/roundelay/sat/MovingAverage;" .null := F53.keep K67 (ninS ne48 nin0)
  have F71 : Fld Z T67.heap r0 "com/example/roundelay/roundelay/sat/Schedule" "modeSwitch" "J" (.long (0 : Int64)) := F54.keep K67 (ninS ne48 nin0)
  have F72 : Fld Z T67.heap r0 "com/example/roundelay/roundelay/sat/Schedule" "modeLength" "J" (.long (0 : Int64)) := F55.keep K67 (ninS ne48 nin0)
  have F73 : Fld Z T67.heap r0 "com/example/roundelay/roundelay/sat/Schedule" "nextReduce" "J" (.long (0 : Int64)) := F56.keep K67 (ninS ne48 nin0)
  have F74 : Fld Z T67.heap r0 "com/example/roundelay/roundelay/sat/Schedule" "nextRephase" "J" (.long (0 : Int64)) := F57.keep K67 (ninS ne48 nin0)
  have F75 : Fld Z T67.heap r0 "com/example/roundelay/roundelay/sat/Schedule" "stable" "Z" (.int (0 : Int32)) := F58.keep K67 (ninS ne48 nin0)
  have F76 : Fld Z T67.heap r0 "com/example/roundelay/roundelay/sat/Schedule" "reductions" "I" (.int (0 : Int32)) := F59.keep K67 (ninS ne48 nin0)
  have F77 : Exa Z T67.heap a2 "com/example/roundelay/roundelay/sat/MovingAverage" := F60.keep K67
  have F78 : Fld Z T67.heap a2 "com/example/roundelay/roundelay/sat/MovingAverage" "unseen" "D" (.double FP.dconst1) := F61.keep K67 (ninS ne49 nin0)
  have F79 : Fld Z T67.heap a2 "com/example/roundelay/roundelay/sat/MovingAverage" "alpha" "D" (.double (4584304132692975288 : UInt64)) := F62.keep K67 (ninS ne49 nin0)
  have K80 : Keep h0 T67.heap [r0] := K64.trans K67 (allS (P := fun x => x ∈ [r0] ∨ h0.size ≤ x) (Or.inr gz47) all0)
  have sz81 : n0 ≤ T67.heap.size := Nat.le_trans sz63 K67.1
  show Go p.tables e below (EndE s ({ frames := 2, cells := 2, slots := 6, locals := 28 } : Room) (Qc1 Z n0 h0 r0 i1)) (T67.setTop (mkF m 29 #[.val (.ref r0), .val (.int i1)] [(.ref a46), (.ref r0)]))
  refine o_putF 32 X67 hx rfl hZ (.object "com/example/roundelay/roundelay/sat/MovingAverage") hown (wd_24 hw) Via.refl rfl F70 F68 (Or.inr ⟨(wd_25 hw), rfl, hnm⟩) (wd_1 hw) (by decide) rfl rfl NN67 ga (hb hby d1_29) fun T82 h82 L82 X82 N82 e82 W82 => ?_
  have F83 : Fld Z h82 r0 "com/example/roundelay/roundelay/sat/Schedule" "slowLbd" "Lcom/example/roundelay/roundelay/sat/MovingAverage;" (.ref a46) := F70.same W82
  have F84 : Exa Z h82 r0 "com/example/roundelay/roundelay/sat/Schedule" := F68.wr W82
  have F85 : Fld Z h82 r0 "com/example/roundelay/roundelay/sat/Schedule" "fastLbd" "Lcom/example/roundelay/roundelay/sat/MovingAverage;" (.ref a2) := F69.other W82 (Or.inr (slot_ne (Or.inr (wd_22 hw)) (Or.inr (wd_25 hw)) (by decide) (t := (.object "com/example/roundelay/roundelay/sat/MovingAverage")) (t' := (.object "com/example/roundelay/roundelay/sat/MovingAverage")) (by decide) (by decide)))
  have F86 : Fld Z h82 r0 "com/example/roundelay/roundelay/sat/Schedule" "modeSwitch" "J" (.long (0 : Int64)) := F71.other W82 (Or.inr (slot_ne (Or.inl (wd_28 hw)) (Or.inr (wd_25 hw)) (by decide) (t := .long) (t' := (.object "com/example/roundelay/roundelay/sat/MovingAverage")) (by decide) (by decide)))
  have F87 : Fld Z h82 r0 "com/example/roundelay/roundelay/sat/Schedule" "modeLength" "J" (.long (0 : Int64)) := F72.other W82 (Or.inr (slot_ne (Or.inl (wd_30 hw)) (Or.inr (wd_25 hw)) (by decide) (t := .long) (t' := (.object "com/example/roundelay/roundelay/sat/MovingAverage")) (by decide) (by decide)))
  have F88 : Fld Z h82 r0 "com/example/roundelay/roundelay/sat/Schedule" "nextReduce" "J" (.long (0 : Int64)) := F73.other W82 (Or.inr (slot_ne (Or.inl (wd_33 hw)) (Or.inr (wd_25 hw)) (by decide) (t := .long) (t' := (.object "com/example/roundelay/roundelay/sat/MovingAverage")) (by decide) (by decide)))
  have F89 : Fld Z h82 r0 "com/example/roundelay/roundelay/sat/Schedule" "nextRephase" "J" (.long (0 : Int64)) := F74.other W82 (Or.inr (slot_ne (Or.inl (wd_35 hw)) (Or.inr (wd_25 hw)) (by decide) (t := .long) (t' := (.object "com/example/roundelay/roundelay/sat/MovingAverage")) (by decide) (by decide)))
  have F90 : Fld Z h82 r0 "com/example/roundelay/roundelay/sat/Schedule" "stable" "Z" (.int (0 : Int32)) := F75.other W82 (Or.inr (slot_ne (Or.inl (wd_37 hw)) (Or.inr (wd_25 hw)) (by decide) (t := .boolean) (t' := (.object "com/example/roundelay/roundelay/sat/MovingAverage")) (by decide) (by decide)))
  have F91 : Fld Z h82 r0 "com/example/roundelay/roundelay/sat/Schedule" "reductions" "I" (.int (0 : Int32)) := F76.other W82 (Or.inr (slot_ne (Or.inl (wd_55 hw)) (Or.inr (wd_25 hw)) (by decide) (t := .int) (t' := (.object "com/example/roundelay/roundelay/sat/MovingAverage")) (by decide) (by decide)))
  have F92 : Exa Z h82 a2 "com/example/roundelay/roundelay/sat/MovingAverage" := F77.wr W82
  have F93 : Fld Z h82 a2 "com/example/roundelay/roundelay/sat/MovingAverage" "unseen" "D" (.double FP.dconst1) := F78.other W82 (Or.inl ne4.symm)
  have F94 : Fld Z h82 a2 "com/example/roundelay/roundelay/sat/MovingAverage" "alpha" "D" (.double (4584304132692975288 : UInt64)) := F79.other W82 (Or.inl ne4.symm)
  have F95 : Exa Z h82 a46 "com/example/roundelay/roundelay/sat/MovingAverage" := E67.wr W82
  have F96 : Fld Z h82 a46 "com/example/roundelay/roundelay/sat/MovingAverage" "unseen" "D" (.double FP.dconst1) := F67_unseen.other W82 (Or.inl ne48.symm)
  have F97 : Fld Z h82 a46 "com/example/roundelay/roundelay/sat/MovingAverage" "alpha" "D" (.double (4532020583610935537 : UInt64)) := F67_alpha.other W82 (Or.inl ne48.symm)
  have sz98 : n0 ≤ h82.size := Nat.le_trans sz81 (Keep.of_wr W82).1
  have K99 : Keep h0 h82 [r0] := K80.wr W82 (Or.inl (by simp))
  refine o_aloadN 33 X82 hx rfl (hb hby d1_32) rfl rfl ?_
  refine o_ldc2Long 36 X82 hx rfl hZ hown (wd_26 hw) (hb hby d1_33) ?_
  refine o_putF 39 X82 hx rfl hZ .long hown (wd_27 hw) Via.refl e82 F86 F84 (Or.inl (wd_28 hw)) (wd_1 hw) (by decide) rfl rfl N82 ga (hb hby d1_36) fun T100 h100 L100 X100 N100 e100 W100 => ?_
  have F101 : Fld Z h100 r0 "com/example/roundelay/roundelay/sat/Schedule" "modeSwitch" "J" (.long (1000 : Int64)) := F86.same W100
  have F102 : Exa Z h100 r0 "com/example/roundelay/roundelay/sat/Schedule" := F84.wr W100
  have F103 : Fld Z h100 r0 "com/example/roundelay/roundelay/sat/Schedule" "fastLbd" "Lcom/example/roundelay/roundelay/sat/MovingAverage;" (.ref a2) := F85.other W100 (Or.inr (slot_ne (Or.inr (wd_22 hw)) (Or.inl (wd_28 hw)) (by decide) (t := (.object "com/example/roundelay/roundelay/sat/MovingAverage")) (t' := .long) (by decide) (by decide)))
  have F104 : Fld Z h100 r0 "com/example/roundelay/roundelay/sat/Schedule" "slowLbd" "Lcom/example/roundelay/roundelay/sat/MovingAverage;" (.ref a46) := F83.other W100 (Or.inr (slot_ne (Or.inr (wd_25 hw)) (Or.inl (wd_28 hw)) (by decide) (t := (.object "com/example/roundelay/roundelay/sat/MovingAverage")) (t' := .long) (by decide) (by decide)))
  have F105 : Fld Z h100 r0 "com/example/roundelay/roundelay/sat/Schedule" "modeLength" "J" (.long (0 : Int64)) := F87.other W100 (Or.inr (slot_ne (Or.inl (wd_30 hw)) (Or.inl (wd_28 hw)) (by decide) (t := .long) (t' := .long) (by decide) (by decide)))
  have F106 : Fld Z h100 r0 "com/example/roundelay/roundelay/sat/Schedule" "nextReduce" "J" (.long (0 : Int64)) := F88.other W100 (Or.inr (slot_ne (Or.inl (wd_33 hw)) (Or.inl (wd_28 hw)) (by decide) (t := .long) (t' := .long) (by decide) (by decide)))
  have F107 : Fld Z h100 r0 "com/example/roundelay/roundelay/sat/Schedule" "nextRephase" "J" (.long (0 : Int64)) := F89.other W100 (Or.inr (slot_ne (Or.inl (wd_35 hw)) (Or.inl (wd_28 hw)) (by decide) (t := .long) (t' := .long) (by decide) (by decide)))
  have F108 : Fld Z h100 r0 "com/example/roundelay/roundelay/sat/Schedule" "stable" "Z" (.int (0 : Int32)) := F90.other W100 (Or.inr (slot_ne (Or.inl (wd_37 hw)) (Or.inl (wd_28 hw)) (by decide) (t := .boolean) (t' := .long) (by decide) (by decide)))
  have F109 : Fld Z h100 r0 "com/example/roundelay/roundelay/sat/Schedule" "reductions" "I" (.int (0 : Int32)) := F91.other W100 (Or.inr (slot_ne (Or.inl (wd_55 hw)) (Or.inl (wd_28 hw)) (by decide) (t := .int) (t' := .long) (by decide) (by decide)))
  have F110 : Exa Z h100 a2 "com/example/roundelay/roundelay/sat/MovingAverage" := F92.wr W100
  have F111 : Fld Z h100 a2 "com/example/roundelay/roundelay/sat/MovingAverage" "unseen" "D" (.double FP.dconst1) := F93.other W100 (Or.inl ne4.symm)
  have F112 : Fld Z h100 a2 "com/example/roundelay/roundelay/sat/MovingAverage" "alpha" "D" (.double (4584304132692975288 : UInt64)) := F94.other W100 (Or.inl ne4.symm)
  have F113 : Exa Z h100 a46 "com/example/roundelay/roundelay/sat/MovingAverage" := F95.wr W100
  have F114 : Fld Z h100 a46 "com/example/roundelay/roundelay/sat/MovingAverage" "unseen" "D" (.double FP.dconst1) := F96.other W100 (Or.inl ne48.symm)
  have F115 : Fld Z h100 a46 "com/example/roundelay/roundelay/sat/MovingAverage" "alpha" "D" (.double (4532020583610935537 : UInt64)) := F97.other W100 (Or.inl ne48.symm)
  have sz116 : n0 ≤ h100.size := Nat.le_trans sz98 (Keep.of_wr W100).1
  have K117 : Keep h0 h100 [r0] := K99.wr W100 (Or.inl (by simp))
  refine o_aloadN 40 X100 hx rfl (hb hby d1_39) rfl rfl ?_
  refine o_ldc2Long 43 X100 hx rfl hZ hown (wd_26 hw) (hb hby d1_40) ?_
  refine o_putF 46 X100 hx rfl hZ .long hown (wd_29 hw) Via.refl e100 F105 F102 (Or.inl (wd_30 hw)) (wd_1 hw) (by decide) rfl rfl N100 ga (hb hby d1_43) fun T118 h118 L118 X118 N118 e118 W118 => ?_
  have F119 : Fld Z h118 r0 "com/example/roundelay/roundelay/sat/Schedule" "modeLength" "J" (.long (1000 : Int64)) := F105.same W118
  have F120 : Exa Z h118 r0 "com/example/roundelay/roundelay/sat/Schedule" := F102.wr W118
  have F121 : Fld Z h118 r0 "com/example/roundelay/roundelay/sat/Schedule" "fastLbd" "Lcom/example/roundelay/roundelay/sat/MovingAverage;" (.ref a2) := F103.other W118 (Or.inr (slot_ne (Or.inr (wd_22 hw)) (Or.inl (wd_30 hw)) (by decide) (t := (.object "com/example/roundelay/roundelay/sat/MovingAverage")) (t' := .long) (by decide) (by decide)))
  have F122 : Fld Z h118 r0 "com/example/roundelay/roundelay/sat/Schedule" "slowLbd" "Lcom/example/roundelay/roundelay/sat/MovingAverage;" (.ref a46) := F104.other W118 (Or.inr (slot_ne (Or.inr (wd_25 hw)) (Or.inl (wd_30 hw)) (by decide) (t := (.object "com/example/roundelay/roundelay/sat/MovingAverage")) (t' := .long) (by decide) (by decide)))
  have F123 : Fld Z h118 r0 "com/example/roundelay/roundelay/sat/Schedule" "modeSwitch" "J" (.long (1000 : Int64)) := F101.other W118 (Or.inr (slot_ne (Or.inl (wd_28 hw)) (Or.inl (wd_30 hw)) (by decide) (t := .long) (t' := .long) (by decide) (by decide)))
  have F124 : Fld Z h118 r0 "com/example/roundelay/roundelay/sat/Schedule" "nextReduce" "J" (.long (0 : Int64)) := F106.other W118 (Or.inr (slot_ne (Or.inl (wd_33 hw)) (Or.inl (wd_30 hw)) (by decide) (t := .long) (t' := .long) (by decide) (by decide)))
  have F125 : Fld Z h118 r0 "com/example/roundelay/roundelay/sat/Schedule" "nextRephase" "J" (.long (0 : Int64)) := F107.other W118 (Or.inr (slot_ne (Or.inl (wd_35 hw)) (Or.inl (wd_30 hw)) (by decide) (t := .long) (t' := .long) (by decide) (by decide)))
  have F126 : Fld Z h118 r0 "com/example/roundelay/roundelay/sat/Schedule" "stable" "Z" (.int (0 : Int32)) := F108.other W118 (Or.inr (slot_ne (Or.inl (wd_37 hw)) (Or.inl (wd_30 hw)) (by decide) (t := .boolean) (t' := .long) (by decide) (by decide)))
  have F127 : Fld Z h118 r0 "com/example/roundelay/roundelay/sat/Schedule" "reductions" "I" (.int (0 : Int32)) := F109.other W118 (Or.inr (slot_ne (Or.inl (wd_55 hw)) (Or.inl (wd_30 hw)) (by decide) (t := .int) (t' := .long) (by decide) (by decide)))
  have F128 : Exa Z h118 a2 "com/example/roundelay/roundelay/sat/MovingAverage" := F110.wr W118
  have F129 : Fld Z h118 a2 "com/example/roundelay/roundelay/sat/MovingAverage" "unseen" "D" (.double FP.dconst1) := F111.other W118 (Or.inl ne4.symm)
  have F130 : Fld Z h118 a2 "com/example/roundelay/roundelay/sat/MovingAverage" "alpha" "D" (.double (4584304132692975288 : UInt64)) := F112.other W118 (Or.inl ne4.symm)
  have F131 : Exa Z h118 a46 "com/example/roundelay/roundelay/sat/MovingAverage" := F113.wr W118
  have F132 : Fld Z h118 a46 "com/example/roundelay/roundelay/sat/MovingAverage" "unseen" "D" (.double FP.dconst1) := F114.other W118 (Or.inl ne48.symm)
  have F133 : Fld Z h118 a46 "com/example/roundelay/roundelay/sat/MovingAverage" "alpha" "D" (.double (4532020583610935537 : UInt64)) := F115.other W118 (Or.inl ne48.symm)
  have sz134 : n0 ≤ h118.size := Nat.le_trans sz116 (Keep.of_wr W118).1
  have K135 : Keep h0 h118 [r0] := K117.wr W118 (Or.inl (by simp))
  refine o_aloadN 47 X118 hx rfl (hb hby d1_46) rfl rfl ?_
  refine o_ldc2Long 50 X118 hx rfl hZ hown (wd_31 hw) (hb hby d1_47) ?_
  refine o_putF 53 X118 hx rfl hZ .long hown (wd_32 hw) Via.refl e118 F124 F120 (Or.inl (wd_33 hw)) (wd_1 hw) (by decide) rfl rfl N118 ga (hb hby d1_50) fun T136 h136 L136 X136 N136 e136 W136 => ?_
  have F137 : Fld Z h136 r0 "com/example/roundelay/roundelay/sat/Schedule" "nextReduce" "J" (.long (2000 : Int64)) := F124.same W136
  have F138 : Exa Z h136 r0 "com/example/roundelay/roundelay/sat/Schedule" := F120.wr W136
  have F139 : Fld Z h136 r0 "com/example/roundelay/roundelay/sat/Schedule" "fastLbd" "Lcom/example/roundelay/roundelay/sat/MovingAverage;" (.ref a2) := F121.other W136 (Or.inr (slot_ne (Or.inr (wd_22 hw)) (Or.inl (wd_33 hw)) (by decide) (t := (.object "com/example/roundelay/roundelay/sat/MovingAverage")) (t' := .long) (by decide) (by decide)))
  have F140 : Fld Z h136 r0 "com/example/roundelay/roundelay/sat/Schedule" "slowLbd" "Lcom/example/roundelay/roundelay/sat/MovingAverage;" (.ref a46) := F122.other W136 (Or.inr (slot_ne (Or.inr (wd_25 hw)) (Or.inl (wd_33 hw)) (by decide) (t := (.object "com/example/roundelay/roundelay/sat/MovingAverage")) (t' := .long) (by decide) (by decide)))
  have F141 : Fld Z h136 r0 "com/example/roundelay/roundelay/sat/Schedule" "modeSwitch" "J" (.long (1000 : Int64)) := F123.other W136 (Or.inr (slot_ne (Or.inl (wd_28 hw)) (Or.inl (wd_33 hw)) (by decide) (t := .long) (t' := .long) (by decide) (by decide)))
  have F142 : Fld Z h136 r0 "com/example/roundelay/roundelay/sat/Schedule" "modeLength" "J" (.long (1000 : Int64)) := F119.other W136 (Or.inr (slot_ne (Or.inl (wd_30 hw)) (Or.inl (wd_33 hw)) (by decide) (t := .long) (t' := .long) (by decide) (by decide)))
  have F143 : Fld Z h136 r0 "com/example/roundelay/roundelay/sat/Schedule" "nextRephase" "J" (.long (0 : Int64)) := F125.other W136 (Or.inr (slot_ne (Or.inl (wd_35 hw)) (Or.inl (wd_33 hw)) (by decide) (t := .long) (t' := .long) (by decide) (by decide)))
  have F144 : Fld Z h136 r0 "com/example/roundelay/roundelay/sat/Schedule" "stable" "Z" (.int (0 : Int32)) := F126.other W136 (Or.inr (slot_ne (Or.inl (wd_37 hw)) (Or.inl (wd_33 hw)) (by decide) (t := .boolean) (t' := .long) (by decide) (by decide)))
  have F145 : Fld Z h136 r0 "com/example/roundelay/roundelay/sat/Schedule" "reductions" "I" (.int (0 : Int32)) := F127.other W136 (Or.inr (slot_ne (Or.inl (wd_55 hw)) (Or.inl (wd_33 hw)) (by decide) (t := .int) (t' := .long) (by decide) (by decide)))
  have F146 : Exa Z h136 a2 "com/example/roundelay/roundelay/sat/MovingAverage" := F128.wr W136
  have F147 : Fld Z h136 a2 "com/example/roundelay/roundelay/sat/MovingAverage" "unseen" "D" (.double FP.dconst1) := F129.other W136 (Or.inl ne4.symm)
  have F148 : Fld Z h136 a2 "com/example/roundelay/roundelay/sat/MovingAverage" "alpha" "D" (.double (4584304132692975288 : UInt64)) := F130.other W136 (Or.inl ne4.symm)
  have F149 : Exa Z h136 a46 "com/example/roundelay/roundelay/sat/MovingAverage" := F131.wr W136
  have F150 : Fld Z h136 a46 "com/example/roundelay/roundelay/sat/MovingAverage" "unseen" "D" (.double FP.dconst1) := F132.other W136 (Or.inl ne48.symm)
  have F151 : Fld Z h136 a46 "com/example/roundelay/roundelay/sat/MovingAverage" "alpha" "D" (.double (4532020583610935537 : UInt64)) := F133.other W136 (Or.inl ne48.symm)
  have sz152 : n0 ≤ h136.size := Nat.le_trans sz134 (Keep.of_wr W136).1
  have K153 : Keep h0 h136 [r0] := K135.wr W136 (Or.inl (by simp))
  refine o_aloadN 54 X136 hx rfl (hb hby d1_53) rfl rfl ?_
  refine o_ldc2Long 57 X136 hx rfl hZ hown (wd_26 hw) (hb hby d1_54) ?_
  refine o_putF 60 X136 hx rfl hZ .long hown (wd_34 hw) Via.refl e136 F143 F138 (Or.inl (wd_35 hw)) (wd_1 hw) (by decide) rfl rfl N136 ga (hb hby d1_57) fun T154 h154 L154 X154 N154 e154 W154 => ?_
  have F155 : Fld Z h154 r0 "com/example/roundelay/roundelay/sat/Schedule" "nextRephase" "J" (.long (1000 : Int64)) := F143.same W154
  have F156 : Exa Z h154 r0 "com/example/roundelay/roundelay/sat/Schedule" := F138.wr W154
  have F157 : Fld Z h154 r0 "com/example/roundelay/roundelay/sat/Schedule" "fastLbd" "Lcom/example/roundelay/roundelay/sat/MovingAverage;" (.ref a2) := F139.other W154 (Or.inr (slot_ne (Or.inr (wd_22 hw)) (Or.inl (wd_35 hw)) (by decide) (t := (.object "com/example/roundelay/roundelay/sat/MovingAverage")) (t' := .long) (by decide) (by decide)))
  have F158 : Fld Z h154 r0 "com/example/roundelay/roundelay/sat/Schedule" "slowLbd" "Lcom/example/roundelay/roundelay/sat/MovingAverage;" (.ref a46) := F140.other W154 (Or.inr (slot_ne (Or.inr (wd_25 hw)) (Or.inl (wd_35 hw)) (by decide) (t := (.object "com/example/roundelay/roundelay/sat/MovingAverage")) (t' := .long) (by decide) (by decide)))
  have F159 : Fld Z h154 r0 "com/example/roundelay/roundelay/sat/Schedule" "modeSwitch" "J" (.long (1000 : Int64)) := F141.other W154 (Or.inr (slot_ne (Or.inl (wd_28 hw)) (Or.inl (wd_35 hw)) (by decide) (t := .long) (t' := .long) (by decide) (by decide)))
  have F160 : Fld Z h154 r0 "com/example/roundelay/roundelay/sat/Schedule" "modeLength" "J" (.long (1000 : Int64)) := F142.other W154 (Or.inr (slot_ne (Or.inl (wd_30 hw)) (Or.inl (wd_35 hw)) (by decide) (t := .long) (t' := .long) (by decide) (by decide)))
  have F161 : Fld Z h154 r0 "com/example/roundelay/roundelay/sat/Schedule" "nextReduce" "J" (.long (2000 : Int64)) := F137.other W154 (Or.inr (slot_ne (Or.inl (wd_33 hw)) (Or.inl (wd_35 hw)) (by decide) (t := .long) (t' := .long) (by decide) (by decide)))
  have F162 : Fld Z h154 r0 "com/example/roundelay/roundelay/sat/Schedule" "stable" "Z" (.int (0 : Int32)) := F144.other W154 (Or.inr (slot_ne (Or.inl (wd_37 hw)) (Or.inl (wd_35 hw)) (by decide) (t := .boolean) (t' := .long) (by decide) (by decide)))
  have F163 : Fld Z h154 r0 "com/example/roundelay/roundelay/sat/Schedule" "reductions" "I" (.int (0 : Int32)) := F145.other W154 (Or.inr (slot_ne (Or.inl (wd_55 hw)) (Or.inl (wd_35 hw)) (by decide) (t := .int) (t' := .long) (by decide) (by decide)))
  have F164 : Exa Z h154 a2 "com/example/roundelay/roundelay/sat/MovingAverage" := F146.wr W154
  have F165 : Fld Z h154 a2 "com/example/roundelay/roundelay/sat/MovingAverage" "unseen" "D" (.double FP.dconst1) := F147.other W154 (Or.inl ne4.symm)
  have F166 : Fld Z h154 a2 "com/example/roundelay/roundelay/sat/MovingAverage" "alpha" "D" (.double (4584304132692975288 : UInt64)) := F148.other W154 (Or.inl ne4.symm)
  have F167 : Exa Z h154 a46 "com/example/roundelay/roundelay/sat/MovingAverage" := F149.wr W154
  have F168 : Fld Z h154 a46 "com/example/roundelay/roundelay/sat/MovingAverage" "unseen" "D" (.double FP.dconst1) := F150.other W154 (Or.inl ne48.symm)
  have F169 : Fld Z h154 a46 "com/example/roundelay/roundelay/sat/MovingAverage" "alpha" "D" (.double (4532020583610935537 : UInt64)) := F151.other W154 (Or.inl ne48.symm)
  have sz170 : n0 ≤ h154.size := Nat.le_trans sz152 (Keep.of_wr W154).1
  have K171 : Keep h0 h154 [r0] := K153.wr W154 (Or.inl (by simp))
  refine o_aloadN 61 X154 hx rfl (hb hby d1_60) rfl rfl ?_
  refine o_iloadN 62 X154 hx rfl (hb hby d1_61) rfl ?_
  refine o_putFN 65 X154 hx rfl hZ .boolean hown (wd_36 hw) Via.refl e154 F162 F156 (Or.inl (wd_37 hw)) (wd_1 hw) (by decide) rfl (fits_nar_bool _) N154 ga (hb hby d1_62) fun T172 h172 L172 X172 N172 e172 W172 => ?_
  have F173 : Fld Z h172 r0 "com/example/roundelay/roundelay/sat/Schedule" "stable" "Z" (.int (nar .boolean i1)) := F162.same W172
  have F174 : Exa Z h172 r0 "com/example/roundelay/roundelay/sat/Schedule" := F156.wr W172
  have F175 : Fld Z h172 r0 "com/example/roundelay/roundelay/sat/Schedule" "fastLbd" "Lcom/example/roundelay/roundelay/sat/MovingAverage;" (.ref a2) := F157.other W172 (Or.inr (slot_ne (Or.inr (wd_22 hw)) (Or.inl (wd_37 hw)) (by decide) (t := (.object "com/example/roundelay/roundelay/sat/MovingAverage")) (t' := .boolean) (by decide) (by decide)))
  have F176 : Fld Z h172 r0 "com/example/roundelay/roundelay/sat/Schedule" "slowLbd" "Lcom/example/roundelay/roundelay/sat/MovingAverage;" (.ref a46) := F158.other W172 (Or.inr (slot_ne (Or.inr (wd_25 hw)) (Or.inl (wd_37 hw)) (by decide) (t := (.object "com/example/roundelay/roundelay/sat/MovingAverage")) (t' := .boolean) (by decide) (by decide)))
  have F177 : Fld Z h172 r0 "com/example/roundelay/roundelay/sat/Schedule" "modeSwitch" "J" (.long (1000 : Int64)) := F159.other W172 (Or.inr (slot_ne (Or.inl (wd_28 hw)) (Or.inl (wd_37 hw)) (by decide) (t := .long) (t' := .boolean) (by decide) (by decide)))
  have F178 : Fld Z h172 r0 "com/example/roundelay/roundelay/sat/Schedule" "modeLength" "J" (.long (1000 : Int64)) := F160.other W172 (Or.inr (slot_ne (Or.inl (wd_30 hw)) (Or.inl (wd_37 hw)) (by decide) (t := .long) (t' := .boolean) (by decide) (by decide)))
  have F179 : Fld Z h172 r0 "com/example/roundelay/roundelay/sat/Schedule" "nextReduce" "J" (.long (2000 : Int64)) := F161.other W172 (Or.inr (slot_ne (Or.inl (wd_33 hw)) (Or.inl (wd_37 hw)) (by decide) (t := .long) (t' := .boolean) (by decide) (by decide)))
  have F180 : Fld Z h172 r0 "com/example/roundelay/roundelay/sat/Schedule" "nextRephase" "J" (.long (1000 : Int64)) := F155.other W172 (Or.inr (slot_ne (Or.inl (wd_35 hw)) (Or.inl (wd_37 hw)) (by decide) (t := .long) (t' := .boolean) (by decide) (by decide)))
  have F181 : Fld Z h172 r0 "com/example/roundelay/roundelay/sat/Schedule" "reductions" "I" (.int (0 : Int32)) := F163.other W172 (Or.inr (slot_ne (Or.inl (wd_55 hw)) (Or.inl (wd_37 hw)) (by decide) (t := .int) (t' := .boolean) (by decide) (by decide)))
  have F182 : Exa Z h172 a2 "com/example/roundelay/roundelay/sat/MovingAverage" := F164.wr W172
  have F183 : Fld Z h172 a2 "com/example/roundelay/roundelay/sat/MovingAverage" "unseen" "D" (.double FP.dconst1) := F165.other W172 (Or.inl ne4.symm)
  have F184 : Fld Z h172 a2 "com/example/roundelay/roundelay/sat/MovingAverage" "alpha" "D" (.double (4584304132692975288 : UInt64)) := F166.other W172 (Or.inl ne4.symm)
  have F185 : Exa Z h172 a46 "com/example/roundelay/roundelay/sat/MovingAverage" := F167.wr W172
  have F186 : Fld Z h172 a46 "com/example/roundelay/roundelay/sat/MovingAverage" "unseen" "D" (.double FP.dconst1) := F168.other W172 (Or.inl ne48.symm)
  have F187 : Fld Z h172 a46 "com/example/roundelay/roundelay/sat/MovingAverage" "alpha" "D" (.double (4532020583610935537 : UInt64)) := F169.other W172 (Or.inl ne48.symm)
  have sz188 : n0 ≤ h172.size := Nat.le_trans sz170 (Keep.of_wr W172).1
  have K189 : Keep h0 h172 [r0] := K171.wr W172 (Or.inl (by simp))
  refine o_retV X172 hx hret hlk (hb hby d1_65) (by decide) (by decide) ?_
  rw [e172]
  exact ⟨rfl, N172, K189, F174, F177, F178, F179, F180, F173, F181⟩
theorem ef_4 (m : MethodId) (y0 : Int32) (y1 : Int32) (y2 : Int64) (y3 : Int64) : entryFrame m #[(.int y0), (.int y1), (.long y2), (.long y3)] 6 = mkF m 0 #[.val (.int y0), .val (.int y1), .val (.long y2), .second, .val (.long y3), .second] [] := by first | (simp [entryFrame, mkF, argsToLocals, Value.category]; done) | rfl
def fn4 (i0 : Int32) (i1 : Int32) (q2 : Int64) (q3 : Int64) : Int64 := (if (i0 &&& i1) = (0 : Int32) then ((q3 - (16 : Int64)) + (q2 &&& (31 : Int64))) else (q2 &&& (4611686018427387903 : Int64)))
set_option maxRecDepth 65536 in
set_option maxHeartbeats 40000000 in
theorem rm4 (l : Launch) (Z : State) (a0 : Array Value) (hw : ∀ d ∈ tables_1, d.before a0 Z = true) (i0 : Int32) (i1 : Int32) (q2 : Int64) (q3 : Int64) (h0 : Heap) : MetP l (⟨"com/example/roundelay/roundelay/sat/ScheduleReduceDuePinLaw", "pick", "(IIJJ)J"⟩ : MethodName) method_2_code 6 (some .long) [] ({ frames := 0, cells := 0, slots := 0, locals := 0 } : Room) Z #[(.int i0), (.int i1), (.long q2), (.long q3)] h0 (Pure (.long (fn4 i0 i1 q2 q3)) h0) := by
  refine met_go pn_4 ?_
  intro p e s m below meth c s₁ hx hby hml hown hnm hret hlk hZ e0 X0
  rw [ef_4 m i0 i1 q2 q3]
  refine o_iloadN 1 X0 hx rfl (hb hby d4_0) rfl ?_
  refine o_iloadN 2 X0 hx rfl (hb hby d4_1) rfl ?_
  refine o_iand 3 X0 hx rfl (hb hby d4_2) ?_
  by_cases hc3_1 : (i0 &&& i1) = (0 : Int32)
  · refine o_ifYes 12 X0 hx (hb hby d4_3) (teq hc3_1).1 (by decide) (by decide) ?_
    refine o_lload 14 X0 hx rfl (hb hby d4_12) rfl ?_
    refine o_ldc2Long 17 X0 hx rfl hZ hown (wd_43 hw) (hb hby d4_14) ?_
    refine o_lsub 18 X0 hx rfl (hb hby d4_17) ?_
    refine o_lloadN 19 X0 hx rfl (hb hby d4_18) rfl ?_
    refine o_ldc2Long 22 X0 hx rfl hZ hown (wd_44 hw) (hb hby d4_19) ?_
    refine o_land 23 X0 hx rfl (hb hby d4_22) ?_
    refine o_ladd 24 X0 hx rfl (hb hby d4_23) ?_
    refine o_retJ X0 hx hret hlk (hb hby d4_24) (by decide) (by decide) ?_
    exact ⟨show some (Value.long ((q3 - (16 : Int64)) + (q2 &&& (31 : Int64)))) = some (Value.long (fn4 i0 i1 q2 q3)) from by rw [show (fn4 i0 i1 q2 q3) = ((q3 - (16 : Int64)) + (q2 &&& (31 : Int64))) from by unfold fn4; simp only [if_pos hc3_1]], rfl, e0⟩
  · refine o_ifNo 6 X0 hx rfl (hb hby d4_3) (feq hc3_1).1 ?_
    refine o_lloadN 7 X0 hx rfl (hb hby d4_6) rfl ?_
    refine o_ldc2Long 10 X0 hx rfl hZ hown (wd_57 hw) (hb hby d4_7) ?_
    refine o_land 11 X0 hx rfl (hb hby d4_10) ?_
    refine o_retJ X0 hx hret hlk (hb hby d4_11) (by decide) (by decide) ?_
    exact ⟨show some (Value.long (q2 &&& (4611686018427387903 : Int64))) = some (Value.long (fn4 i0 i1 q2 q3)) from by rw [show (fn4 i0 i1 q2 q3) = (q2 &&& (4611686018427387903 : Int64)) from by unfold fn4; simp only [if_neg hc3_1]], rfl, e0⟩
theorem ef_5 (m : MethodId) (y0 : Int32) (y1 : Int64) (y2 : Int32) (y3 : Int64) : entryFrame m #[(.int y0), (.long y1), (.int y2), (.long y3)] 6 = mkF m 0 #[.val (.int y0), .val (.long y1), .second, .val (.int y2), .val (.long y3), .second] [] := by first | (simp [entryFrame, mkF, argsToLocals, Value.category]; done) | rfl
def f5_21_s0 (i0 : Int32) (i2 : Int32) (q1 : Int64) (q3 : Int64) : Int64 := (if i0 = (0 : Int32) then q3 else ((q1 + (2000 : Int64)) + ((300 : Int64) * (i2.toInt64))))
def fn5 (i0 : Int32) (q1 : Int64) (i2 : Int32) (q3 : Int64) : Int64 := (f5_21_s0 i0 i2 q1 q3)
set_option maxRecDepth 65536 in
set_option maxHeartbeats 40000000 in
theorem rm5 (l : Launch) (Z : State) (a0 : Array Value) (hw : ∀ d ∈ tables_1, d.before a0 Z = true) (i0 : Int32) (q1 : Int64) (i2 : Int32) (q3 : Int64) (h0 : Heap) : MetP l (⟨"com/example/roundelay/roundelay/sat/ScheduleReduceDuePinLaw", "after", "(ZJIJ)J"⟩ : MethodName) method_3_code 6 (some .long) [] ({ frames := 0, cells := 0, slots := 0, locals := 0 } : Room) Z #[(.int i0), (.long q1), (.int i2), (.long q3)] h0 (Pure (.long (fn5 i0 q1 i2 q3)) h0) := by
  refine met_go pn_5 ?_
  intro p e s m below meth c s₁ hx hby hml hown hnm hret hlk hZ e0 X0
  rw [ef_5 m i0 q1 i2 q3]
  refine o_iloadN 1 X0 hx rfl (hb hby d5_0) rfl ?_
  suffices j21_1 : Go p.tables e below (EndE s ({ frames := 0, cells := 0, slots := 0, locals := 0 } : Room) (Pure (.long (fn5 i0 q1 i2 q3)) h0)) (s₁.setTop (mkF m 21 #[.val (.int i0), .val (.long q1), .second, .val (.int i2), .val (.long q3), .second] [(.long (f5_21_s0 i0 i2 q1 q3))])) by
    by_cases hc1_2 : i0 = (0 : Int32)
    · refine o_ifYes 19 X0 hx (hb hby d5_1) (teq hc1_2).1 (by decide) (by decide) ?_
      refine o_lload 21 X0 hx rfl (hb hby d5_19) rfl ?_
      rw [show (f5_21_s0 i0 i2 q1 q3) = q3 from by unfold f5_21_s0; simp only [if_pos hc1_2]] at j21_1
      exact j21_1
    · refine o_ifNo 4 X0 hx rfl (hb hby d5_1) (feq hc1_2).1 ?_
      refine o_lloadN 5 X0 hx rfl (hb hby d5_4) rfl ?_
      refine o_ldc2Long 8 X0 hx rfl hZ hown (wd_38 hw) (hb hby d5_5) ?_
      refine o_ladd 9 X0 hx rfl (hb hby d5_8) ?_
      refine o_ldc2Long 12 X0 hx rfl hZ hown (wd_53 hw) (hb hby d5_9) ?_
      refine o_iloadN 13 X0 hx rfl (hb hby d5_12) rfl ?_
      refine o_i2l 14 X0 hx rfl (hb hby d5_13) ?_
      refine o_lmul 15 X0 hx rfl (hb hby d5_14) ?_
      refine o_ladd 16 X0 hx rfl (hb hby d5_15) ?_
      refine o_goto 21 X0 hx (hb hby d5_16) (by decide) (by decide) ?_
      rw [show (f5_21_s0 i0 i2 q1 q3) = ((q1 + (2000 : Int64)) + ((300 : Int64) * (i2.toInt64))) from by unfold f5_21_s0; simp only [if_neg hc1_2]] at j21_1
      exact j21_1
  refine o_retJ X0 hx hret hlk (hb hby d5_21) (by decide) (by decide) ?_
  exact ⟨show some (Value.long (f5_21_s0 i0 i2 q1 q3)) = some (Value.long (fn5 i0 q1 i2 q3)) from by rw [show (fn5 i0 q1 i2 q3) = (f5_21_s0 i0 i2 q1 q3) from by rfl], rfl, e0⟩
theorem ef_6 (m : MethodId) (y0 : Addr) (y1 : Int64) : entryFrame m #[(.ref y0), (.long y1)] 3 = mkF m 0 #[.val (.ref y0), .val (.long y1), .second] [] := by first | (simp [entryFrame, mkF, argsToLocals, Value.category]; done) | rfl
def fn6 (q1 : Int64) (v_nextReduce : Int64) (v_reductions : Int32) : Int32 := (if q1 < v_nextReduce then (0 : Int32) else (1 : Int32))
def fn6_nextReduce (q1 : Int64) (v_nextReduce : Int64) (v_reductions : Int32) : Int64 := (if q1 < v_nextReduce then v_nextReduce else ((q1 + (2000 : Int64)) + ((300 : Int64) * ((v_reductions + (1 : Int32)).toInt64))))
def fn6_reductions (q1 : Int64) (v_nextReduce : Int64) (v_reductions : Int32) : Int32 := (if q1 < v_nextReduce then v_reductions else (v_reductions + (1 : Int32)))
def Qm6 (Z : State) (n0 : Nat) (h0 : Heap) (r0 : Addr) (q1 : Int64) (v_nextReduce : Int64) (v_reductions : Int32) (v : Option Value) (h : Heap) (L : List Loc) : Prop := v = some (.int (fn6 q1 v_nextReduce v_reductions)) ∧ Fr n0 L ∧ Keep h0 h [r0] ∧ Exa Z h r0 "com/example/roundelay/roundelay/sat/Schedule" ∧ Fld Z h r0 "com/example/roundelay/roundelay/sat/Schedule" "nextReduce" "J" (.long (fn6_nextReduce q1 v_nextReduce v_reductions)) ∧ Fld Z h r0 "com/example/roundelay/roundelay/sat/Schedule" "reductions" "I" (.int (fn6_reductions q1 v_nextReduce v_reductions))
set_option maxRecDepth 65536 in
set_option maxHeartbeats 40000000 in
theorem rm6 (l : Launch) (Z : State) (a0 : Array Value) (hw : ∀ d ∈ tables_1, d.before a0 Z = true) (r0 : Addr) (q1 : Int64) (v_nextReduce : Int64) (v_reductions : Int32) (h0 : Heap) (n0 : Nat) (Z0 : n0 ≤ h0.size) (ga : n0 ≤ r0) (E0 : Exa Z h0 r0 "com/example/roundelay/roundelay/sat/Schedule") (F_nextReduce : Fld Z h0 r0 "com/example/roundelay/roundelay/sat/Schedule" "nextReduce" "J" (.long v_nextReduce)) (F_reductions : Fld Z h0 r0 "com/example/roundelay/roundelay/sat/Schedule" "reductions" "I" (.int v_reductions)) : MetP l (⟨"com/example/roundelay/roundelay/sat/Schedule", "reduceDue", "(J)Z"⟩ : MethodName) prog_55_method_6_code 3 (some .boolean) [] ({ frames := 0, cells := 0, slots := 0, locals := 0 } : Room) Z #[(.ref r0), (.long q1)] h0 (Qm6 Z n0 h0 r0 q1 v_nextReduce v_reductions) := by
  refine met_go pn_6 ?_
  intro p e s m below meth c s₁ hx hby hml hown hnm hret hlk hZ e0 X0
  have N0 := Fr.nil n0
  have K0 : Keep h0 h0 [r0] := Keep.refl _ _
  rw [ef_6 m r0 q1]
  refine o_lloadN 1 X0 hx rfl (hb hby d6_0) rfl ?_
  refine o_aloadN 2 X0 hx rfl (hb hby d6_1) rfl rfl ?_
  refine o_getF 5 X0 hx rfl hZ hown (wd_32 hw) Via.refl e0 F_nextReduce (hb hby d6_2) fun T1 X1 e1 => ?_
  refine o_lcmp 6 X1 hx rfl (hb hby d6_5) ?_
  by_cases hc6_2 : q1 < v_nextReduce
  · refine o_ifNo 9 X1 hx rfl (hb hby d6_6) (tlt (l_tlt hc6_2)).2.1 ?_
    refine o_iconst 10 X1 hx rfl (hb hby d6_9) (0 : Int32) rfl ?_
    refine o_retN X1 hx .boolean (by simp) hret hlk (hb hby d6_10) (by decide) (by decide) ?_
    rw [e1]
    exact ⟨show some (Value.int (0 : Int32)) = some (Value.int (fn6 q1 v_nextReduce v_reductions)) from by rw [show (fn6 q1 v_nextReduce v_reductions) = (0 : Int32) from by unfold fn6; simp only [if_pos hc6_2]], N0, K0, E0, (by rw [show (fn6_nextReduce q1 v_nextReduce v_reductions) = v_nextReduce from by unfold fn6_nextReduce; simp only [if_pos hc6_2]]; exact F_nextReduce), (by rw [show (fn6_reductions q1 v_nextReduce v_reductions) = v_reductions from by unfold fn6_reductions; simp only [if_pos hc6_2]]; exact F_reductions)⟩
  · refine o_ifYes 11 X1 hx (hb hby d6_6) (flt (l_flt hc6_2)).2.1 (by decide) (by decide) ?_
    refine o_aloadN 12 X1 hx rfl (hb hby d6_11) rfl rfl ?_
    refine o_dup 13 X1 hx rfl (hb hby d6_12) rfl ?_
    refine o_getF 16 X1 hx rfl hZ hown (wd_54 hw) Via.refl e1 F_reductions (hb hby d6_13) fun T3 X3 e3 => ?_
    refine o_iconst 17 X3 hx rfl (hb hby d6_16) (1 : Int32) rfl ?_
    refine o_iadd 18 X3 hx rfl (hb hby d6_17) ?_
    refine o_putF 21 X3 hx rfl hZ .int hown (wd_54 hw) Via.refl e3 F_reductions E0 (Or.inl (wd_55 hw)) (wd_1 hw) (by decide) rfl rfl N0 ga (hb hby d6_18) fun T4 h4 L4 X4 N4 e4 W4 => ?_
    have F5 : Fld Z h4 r0 "com/example/roundelay/roundelay/sat/Schedule" "reductions" "I" (.int (v_reductions + (1 : Int32))) := F_reductions.same W4
    have F6 : Exa Z h4 r0 "com/example/roundelay/roundelay/sat/Schedule" := E0.wr W4
    have F7 : Fld Z h4 r0 "com/example/roundelay/roundelay/sat/Schedule" "nextReduce" "J" (.long v_nextReduce) := F_nextReduce.other W4 (Or.inr (slot_ne (Or.inl (wd_33 hw)) (Or.inl (wd_55 hw)) (by decide) (t := .long) (t' := .int) (by decide) (by decide)))
    have sz8 : n0 ≤ h4.size := Nat.le_trans Z0 (Keep.of_wr W4).1
    have K9 : Keep h0 h4 [r0] := K0.wr W4 (Or.inl (by simp))
    refine o_aloadN 22 X4 hx rfl (hb hby d6_21) rfl rfl ?_
    refine o_lloadN 23 X4 hx rfl (hb hby d6_22) rfl ?_
    refine o_ldc2Long 26 X4 hx rfl hZ hown (wd_31 hw) (hb hby d6_23) ?_
    refine o_ladd 27 X4 hx rfl (hb hby d6_26) ?_
    refine o_ldc2Long 30 X4 hx rfl hZ hown (wd_56 hw) (hb hby d6_27) ?_
    refine o_aloadN 31 X4 hx rfl (hb hby d6_30) rfl rfl ?_
    refine o_getF 34 X4 hx rfl hZ hown (wd_54 hw) Via.refl e4 F5 (hb hby d6_31) fun T10 X10 e10 => ?_
    refine o_i2l 35 X10 hx rfl (hb hby d6_34) ?_
    refine o_lmul 36 X10 hx rfl (hb hby d6_35) ?_
    refine o_ladd 37 X10 hx rfl (hb hby d6_36) ?_
    refine o_putF 40 X10 hx rfl hZ .long hown (wd_32 hw) Via.refl e10 F7 F6 (Or.inl (wd_33 hw)) (wd_1 hw) (by decide) rfl rfl N4 ga (hb hby d6_37) fun T11 h11 L11 X11 N11 e11 W11 => ?_
    have F12 : Fld Z h11 r0 "com/example/roundelay/roundelay/sat/Schedule" "nextReduce" "J" (.long ((q1 + (2000 : Int64)) + ((300 : Int64) * ((v_reductions + (1 : Int32)).toInt64)))) := F7.same W11
    have F13 : Exa Z h11 r0 "com/example/roundelay/roundelay/sat/Schedule" := F6.wr W11
    have F14 : Fld Z h11 r0 "com/example/roundelay/roundelay/sat/Schedule" "reductions" "I" (.int (v_reductions + (1 : Int32))) := F5.other W11 (Or.inr (slot_ne (Or.inl (wd_55 hw)) (Or.inl (wd_33 hw)) (by decide) (t := .int) (t' := .long) (by decide) (by decide)))
    have sz15 : n0 ≤ h11.size := Nat.le_trans sz8 (Keep.of_wr W11).1
    have K16 : Keep h0 h11 [r0] := K9.wr W11 (Or.inl (by simp))
    refine o_iconst 41 X11 hx rfl (hb hby d6_40) (1 : Int32) rfl ?_
    refine o_retN X11 hx .boolean (by simp) hret hlk (hb hby d6_41) (by decide) (by decide) ?_
    rw [e11]
    exact ⟨show some (Value.int (1 : Int32)) = some (Value.int (fn6 q1 v_nextReduce v_reductions)) from by rw [show (fn6 q1 v_nextReduce v_reductions) = (1 : Int32) from by unfold fn6; simp only [if_neg hc6_2]], N11, K16, F13, (by rw [show (fn6_nextReduce q1 v_nextReduce v_reductions) = ((q1 + (2000 : Int64)) + ((300 : Int64) * ((v_reductions + (1 : Int32)).toInt64))) from by unfold fn6_nextReduce; simp only [if_neg hc6_2]]; exact F12), (by rw [show (fn6_reductions q1 v_nextReduce v_reductions) = (v_reductions + (1 : Int32)) from by unfold fn6_reductions; simp only [if_neg hc6_2]]; exact F14)⟩
theorem ef_0 (m : MethodId) (y0 : Int32) (y1 : Int64) (y2 : Int64) (y3 : Int64) (y4 : Int64) : entryFrame m #[(.int y0), (.long y1), (.long y2), (.long y3), (.long y4)] maxLocals = mkF m 0 #[.val (.int y0), .val (.long y1), .second, .val (.long y2), .second, .val (.long y3), .second, .val (.long y4), .second, .unset, .unset, .unset, .unset, .unset, .unset, .unset, .unset, .unset, .unset, .unset, .unset, .unset, .unset, .unset, .unset, .unset, .unset, .unset, .unset, .unset, .unset, .unset, .unset, .unset, .unset, .unset, .unset] [] := by first | (simp [entryFrame, mkF, argsToLocals, Value.category, maxLocals]; done) | rfl
def f0_16_s0 (i0 : Int32) : Int32 := (if (i0 &&& (16 : Int32)) = (0 : Int32) then (0 : Int32) else (1 : Int32))
def f0_49_s0 (i0 : Int32) (q1 : Int64) : Int32 := (if (fn4 i0 (1 : Int32) q1 (2000 : Int64)) < (2000 : Int64) then (0 : Int32) else (1 : Int32))
def f0_61_s0 (i0 : Int32) (q1 : Int64) : Int32 := (if (f0_49_s0 i0 q1) = (0 : Int32) then (0 : Int32) else (1 : Int32))
def f0_74 (i0 : Int32) (q1 : Int64) : Int64 := (fn5 (f0_49_s0 i0 q1) (fn4 i0 (1 : Int32) q1 (2000 : Int64)) (f0_61_s0 i0 q1) (2000 : Int64))
def f0_nextReduce22 (i0 : Int32) (q1 : Int64) : Int64 := (fn6_nextReduce (fn4 i0 (1 : Int32) q1 (2000 : Int64)) (2000 : Int64) (0 : Int32))
def f0_reductions22 (i0 : Int32) (q1 : Int64) : Int32 := (fn6_reductions (fn4 i0 (1 : Int32) q1 (2000 : Int64)) (2000 : Int64) (0 : Int32))
def f0_r22 (i0 : Int32) (q1 : Int64) : Int32 := (fn6 (fn4 i0 (1 : Int32) q1 (2000 : Int64)) (2000 : Int64) (0 : Int32))
def f0_108_s0 (i0 : Int32) (q1 : Int64) (q2 : Int64) : Int32 := (if (fn4 i0 (2 : Int32) q2 (f0_74 i0 q1)) < (f0_74 i0 q1) then (0 : Int32) else (1 : Int32))
def f0_122_s0 (i0 : Int32) (q1 : Int64) (q2 : Int64) : Int32 := (if (f0_108_s0 i0 q1 q2) = (0 : Int32) then (0 : Int32) else (1 : Int32))
def f0_136 (i0 : Int32) (q1 : Int64) (q2 : Int64) : Int64 := (fn5 (f0_108_s0 i0 q1 q2) (fn4 i0 (2 : Int32) q2 (f0_74 i0 q1)) ((f0_61_s0 i0 q1) + (f0_122_s0 i0 q1 q2)) (f0_74 i0 q1))
def f0_nextReduce30 (i0 : Int32) (q1 : Int64) (q2 : Int64) : Int64 := (fn6_nextReduce (fn4 i0 (2 : Int32) q2 (f0_74 i0 q1)) (f0_nextReduce22 i0 q1) (f0_reductions22 i0 q1))
def f0_reductions30 (i0 : Int32) (q1 : Int64) (q2 : Int64) : Int32 := (fn6_reductions (fn4 i0 (2 : Int32) q2 (f0_74 i0 q1)) (f0_nextReduce22 i0 q1) (f0_reductions22 i0 q1))
def f0_r30 (i0 : Int32) (q1 : Int64) (q2 : Int64) : Int32 := (fn6 (fn4 i0 (2 : Int32) q2 (f0_74 i0 q1)) (f0_nextReduce22 i0 q1) (f0_reductions22 i0 q1))
def f0_171_s0 (i0 : Int32) (q1 : Int64) (q2 : Int64) (q3 : Int64) : Int32 := (if (fn4 i0 (4 : Int32) q3 (f0_136 i0 q1 q2)) < (f0_136 i0 q1 q2) then (0 : Int32) else (1 : Int32))
def f0_185_s0 (i0 : Int32) (q1 : Int64) (q2 : Int64) (q3 : Int64) : Int32 := (if (f0_171_s0 i0 q1 q2 q3) = (0 : Int32) then (0 : Int32) else (1 : Int32))
def f0_186 (i0 : Int32) (q1 : Int64) (q2 : Int64) (q3 : Int64) : Int32 := (((f0_61_s0 i0 q1) + (f0_122_s0 i0 q1 q2)) + (f0_185_s0 i0 q1 q2 q3))
def f0_199 (i0 : Int32) (q1 : Int64) (q2 : Int64) (q3 : Int64) : Int64 := (fn5 (f0_171_s0 i0 q1 q2 q3) (fn4 i0 (4 : Int32) q3 (f0_136 i0 q1 q2)) (f0_186 i0 q1 q2 q3) (f0_136 i0 q1 q2))
def f0_nextReduce38 (i0 : Int32) (q1 : Int64) (q2 : Int64) (q3 : Int64) : Int64 := (fn6_nextReduce (fn4 i0 (4 : Int32) q3 (f0_136 i0 q1 q2)) (f0_nextReduce30 i0 q1 q2) (f0_reductions30 i0 q1 q2))
def f0_reductions38 (i0 : Int32) (q1 : Int64) (q2 : Int64) (q3 : Int64) : Int32 := (fn6_reductions (fn4 i0 (4 : Int32) q3 (f0_136 i0 q1 q2)) (f0_nextReduce30 i0 q1 q2) (f0_reductions30 i0 q1 q2))
def f0_r38 (i0 : Int32) (q1 : Int64) (q2 : Int64) (q3 : Int64) : Int32 := (fn6 (fn4 i0 (4 : Int32) q3 (f0_136 i0 q1 q2)) (f0_nextReduce30 i0 q1 q2) (f0_reductions30 i0 q1 q2))
def f0_235_s0 (i0 : Int32) (q1 : Int64) (q2 : Int64) (q3 : Int64) (q4 : Int64) : Int32 := (if (fn4 i0 (8 : Int32) q4 (f0_199 i0 q1 q2 q3)) < (f0_199 i0 q1 q2 q3) then (0 : Int32) else (1 : Int32))
def f0_nextReduce43 (i0 : Int32) (q1 : Int64) (q2 : Int64) (q3 : Int64) (q4 : Int64) : Int64 := (fn6_nextReduce (fn4 i0 (8 : Int32) q4 (f0_199 i0 q1 q2 q3)) (f0_nextReduce38 i0 q1 q2 q3) (f0_reductions38 i0 q1 q2 q3))
def f0_reductions43 (i0 : Int32) (q1 : Int64) (q2 : Int64) (q3 : Int64) (q4 : Int64) : Int32 := (fn6_reductions (fn4 i0 (8 : Int32) q4 (f0_199 i0 q1 q2 q3)) (f0_nextReduce38 i0 q1 q2 q3) (f0_reductions38 i0 q1 q2 q3))
def f0_r43 (i0 : Int32) (q1 : Int64) (q2 : Int64) (q3 : Int64) (q4 : Int64) : Int32 := (fn6 (fn4 i0 (8 : Int32) q4 (f0_199 i0 q1 q2 q3)) (f0_nextReduce38 i0 q1 q2 q3) (f0_reductions38 i0 q1 q2 q3))
def f0_279_s0 (i0 : Int32) (q1 : Int64) (q2 : Int64) (q3 : Int64) (q4 : Int64) : Int32 := (if (f0_r22 i0 q1) = (f0_49_s0 i0 q1) then (if (f0_r30 i0 q1 q2) = (f0_108_s0 i0 q1 q2) then (if (f0_r38 i0 q1 q2 q3) = (f0_171_s0 i0 q1 q2 q3) then (if (f0_r43 i0 q1 q2 q3 q4) = (f0_235_s0 i0 q1 q2 q3 q4) then (1 : Int32) else (0 : Int32)) else (0 : Int32)) else (0 : Int32)) else (0 : Int32))
def fn0 (i0 : Int32) (q1 : Int64) (q2 : Int64) (q3 : Int64) (q4 : Int64) : Int32 := (nar .boolean (f0_279_s0 i0 q1 q2 q3 q4))
theorem own_e (c n : Int64) (k : Int32) : fn6 c n k = if c < n then (0 : Int32) else 1 := rfl
theorem own_n (c n : Int64) (k j : Int32) (h : j = fn6_reductions c n k) : fn5 (if c < n then (0 : Int32) else 1) c j n = fn6_nextReduce c n k := by
  subst h
  unfold fn5 f5_21_s0 fn6_nextReduce fn6_reductions
  by_cases h : c < n
  · simp only [if_pos h]; rfl
  · simp only [if_neg h]; rfl
theorem own_k (c n : Int64) (k : Int32) : k + (if (if c < n then (0 : Int32) else 1) = (0 : Int32) then (0 : Int32) else 1) = fn6_reductions c n k := by
  unfold fn6_reductions
  by_cases h : c < n
  · simp only [if_pos h]; exact Int32.add_zero k
  · simp only [if_neg h]; rfl
theorem own_1k (i0 : Int32) (q1 : Int64) : f0_61_s0 i0 q1 = f0_reductions22 i0 q1 := by
  rw [f0_reductions22, ← own_k, Int32.zero_add]; rfl
theorem own_1n (i0 : Int32) (q1 : Int64) : f0_74 i0 q1 = f0_nextReduce22 i0 q1 := own_n _ _ _ _ (own_1k i0 q1)
theorem own_2k (i0 : Int32) (q1 q2 : Int64) : (f0_61_s0 i0 q1) + (f0_122_s0 i0 q1 q2) = f0_reductions30 i0 q1 q2 := by
  rw [f0_reductions30, ← own_k, ← own_1n, ← own_1k]; rfl
theorem own_2n (i0 : Int32) (q1 q2 : Int64) : f0_136 i0 q1 q2 = f0_nextReduce30 i0 q1 q2 := by
  have h := own_2k i0 q1 q2
  unfold f0_reductions30 at h
  unfold f0_136 f0_108_s0 f0_nextReduce30
  rw [← own_1n] at h ⊢
  exact own_n _ _ _ _ h
theorem own_3k (i0 : Int32) (q1 q2 q3 : Int64) : f0_186 i0 q1 q2 q3 = f0_reductions38 i0 q1 q2 q3 := by
  rw [f0_reductions38, ← own_k, ← own_2n, ← own_2k]; rfl
theorem own_3n (i0 : Int32) (q1 q2 q3 : Int64) : f0_199 i0 q1 q2 q3 = f0_nextReduce38 i0 q1 q2 q3 := by
  have h := own_3k i0 q1 q2 q3
  unfold f0_reductions38 at h
  unfold f0_199 f0_171_s0 f0_nextReduce38
  rw [← own_2n] at h ⊢
  exact own_n _ _ _ _ h
theorem own_law (i0 : Int32) (q1 q2 q3 q4 : Int64) : fn0 i0 q1 q2 q3 q4 = 1 := by
  have r1 : f0_r22 i0 q1 = f0_49_s0 i0 q1 := rfl
  have r2 : f0_r30 i0 q1 q2 = f0_108_s0 i0 q1 q2 := by unfold f0_r30; rw [← own_1n]; rfl
  have r3 : f0_r38 i0 q1 q2 q3 = f0_171_s0 i0 q1 q2 q3 := by unfold f0_r38; rw [← own_2n]; rfl
  have r4 : f0_r43 i0 q1 q2 q3 q4 = f0_235_s0 i0 q1 q2 q3 q4 := by unfold f0_r43; rw [← own_3n]; rfl
  unfold fn0 f0_279_s0
  rw [if_pos r1, if_pos r2, if_pos r3, if_pos r4]; rfl
set_option maxRecDepth 65536 in
set_option maxHeartbeats 40000000 in
theorem rm0 (l : Launch) (Z : State) (a0 : Array Value) (hw : ∀ d ∈ tables_1, d.before a0 Z = true) (ws : List Jvm.Cond) (i0 : Int32) (q1 : Int64) (q2 : Int64) (q3 : Int64) (q4 : Int64) (h0 : Heap) (n0 : Nat) (Z0 : n0 ≤ h0.size) : MetP l x code maxLocals ret ws room_1 Z #[(.int i0), (.long q1), (.long q2), (.long q3), (.long q4)] h0 (fun v h L => v = some (.int (1 : Int32)) ∧ Fr n0 L) := by
  refine met_go pn_0 ?_
  intro p e s m below meth c s₁ hx hby hml hown hnm hret hlk hZ e0 X0
  have N0 := Fr.nil n0
  rw [ef_0 m i0 q1 q2 q3 q4]
  refine o_new 3 X0 hx rfl hZ hown (wd_0 hw) (wd_1 hw) (wd_2 hw) e0 (hb hby at_0) (by decide) (by decide) fun T1 h1 a1 g1 X1 e1 E1 A1 D1 => ?_
  have ge2 : n0 ≤ a1 := Nat.le_trans Z0 (Nat.le_of_eq g1.symm)
  have sz3 : n0 ≤ h1.size := Nat.le_trans Z0 E1.1
  have F4 : Fld Z h1 a1 "com/example/roundelay/roundelay/sat/Schedule" "fastLbd" "Lcom/example/roundelay/roundelay/sat/MovingAverage;" .null := D1 (Or.inr (wd_22 hw)) (ty := (.object "com/example/roundelay/roundelay/sat/MovingAverage")) (by decide)
  have F5 : Fld Z h1 a1 "com/example/roundelay/roundelay/sat/Schedule" "slowLbd" "Lcom/example/roundelay/roundelay/sat/MovingAverage;" .null := D1 (Or.inr (wd_25 hw)) (ty := (.object "com/example/roundelay/roundelay/sat/MovingAverage")) (by decide)
  have F6 : Fld Z h1 a1 "com/example/roundelay/roundelay/sat/Schedule" "modeSwitch" "J" (.long (0 : Int64)) := D1 (Or.inl (wd_28 hw)) (ty := .long) (by decide)
  have F7 : Fld Z h1 a1 "com/example/roundelay/roundelay/sat/Schedule" "modeLength" "J" (.long (0 : Int64)) := D1 (Or.inl (wd_30 hw)) (ty := .long) (by decide)
  have F8 : Fld Z h1 a1 "com/example/roundelay/roundelay/sat/Schedule" "nextReduce" "J" (.long (0 : Int64)) := D1 (Or.inl (wd_33 hw)) (ty := .long) (by decide)
  have F9 : Fld Z h1 a1 "com/example/roundelay/roundelay/sat/Schedule" "nextRephase" "J" (.long (0 : Int64)) := D1 (Or.inl (wd_35 hw)) (ty := .long) (by decide)
  have F10 : Fld Z h1 a1 "com/example/roundelay/roundelay/sat/Schedule" "stable" "Z" (.int (0 : Int32)) := D1 (Or.inl (wd_37 hw)) (ty := .boolean) (by decide)
  have F11 : Fld Z h1 a1 "com/example/roundelay/roundelay/sat/Schedule" "reductions" "I" (.int (0 : Int32)) := D1 (Or.inl (wd_55 hw)) (ty := .int) (by decide)
  refine o_dup 4 X1 hx rfl (hb hby at_3) rfl ?_
  refine o_iloadN 5 X1 hx rfl (hb hby at_4) rfl ?_
  refine o_bipush 7 X1 hx rfl (hb hby at_5) (16 : Int32) rfl ?_
  refine o_iand 8 X1 hx rfl (hb hby at_7) ?_
  suffices j16_12 : Go p.tables e below (EndE s room_1 (fun v h L => v = some (.int (1 : Int32)) ∧ Fr n0 L)) (T1.setTop (mkF m 16 #[.val (.int i0), .val (.long q1), .second, .val (.long q2), .second, .val (.long q3), .second, .val (.long q4), .second, .unset, .unset, .unset, .unset, .unset, .unset, .unset, .unset, .unset, .unset, .unset, .unset, .unset, .unset, .unset, .unset, .unset, .unset, .unset, .unset, .unset, .unset, .unset, .unset, .unset, .unset, .unset, .unset] [(.int (f0_16_s0 i0)), (.ref a1), (.ref a1)])) by
    by_cases hc8_13 : (i0 &&& (16 : Int32)) = (0 : Int32)
    · refine o_ifYes 15 X1 hx (hb hby at_8) (teq hc8_13).1 (by decide) (by decide) ?_
      refine o_iconst 16 X1 hx rfl (hb hby at_15) (0 : Int32) rfl ?_
      rw [show (f0_16_s0 i0) = (0 : Int32) from by unfold f0_16_s0; simp only [if_pos hc8_13]] at j16_12
      exact j16_12
    · refine o_ifNo 11 X1 hx rfl (hb hby at_8) (feq hc8_13).1 ?_
      refine o_iconst 12 X1 hx rfl (hb hby at_11) (1 : Int32) rfl ?_
      refine o_goto 16 X1 hx (hb hby at_12) (by decide) (by decide) ?_
      rw [show (f0_16_s0 i0) = (1 : Int32) from by unfold f0_16_s0; simp only [if_neg hc8_13]] at j16_12
      exact j16_12
  refine o_callIw 19 X1 hx rfl hZ rfl hown (wd_3 hw) (wd_4 hw) (wd_2 hw) (wd_5 hw) (by decide) e1 N0 (rm1 l Z a0 hw a1 (f0_16_s0 i0) h1 n0 sz3 ge2 A1 F4 F5 F6 F7 F8 F9 F10 F11) pd_lZrV a1 [(.int (f0_16_s0 i0))] [(.ref a1)] rfl rfl (by rw [hml]; rfl) rfl (hb hby at_16) 1 (Nat.le_of_eq rfl) (by decide) (by decide) (by decide) (by decide) fun v14 T14 L14 LL14 X14 Q14 NF14 => ?_
  obtain ⟨rfl, M14, K14, E14, F14_modeSwitch, F14_modeLength, F14_nextReduce, F14_nextRephase, F14_stable, F14_reductions⟩ := Q14
  have NN14 := NF14 M14
  have sz15 : n0 ≤ T14.heap.size := Nat.le_trans sz3 K14.1
  show Go p.tables e below (EndE s room_1 (fun v h L => v = some (.int (1 : Int32)) ∧ Fr n0 L)) (T14.setTop (mkF m 19 #[.val (.int i0), .val (.long q1), .second, .val (.long q2), .second, .val (.long q3), .second, .val (.long q4), .second, .unset, .unset, .unset, .unset, .unset, .unset, .unset, .unset, .unset, .unset, .unset, .unset, .unset, .unset, .unset, .unset, .unset, .unset, .unset, .unset, .unset, .unset, .unset, .unset, .unset, .unset, .unset, .unset] [(.ref a1)]))
  refine o_astore 21 X14 hx rfl (hb hby at_19) rfl #[.val (.int i0), .val (.long q1), .second, .val (.long q2), .second, .val (.long q3), .second, .val (.long q4), .second, .val (.ref a1), .unset, .unset, .unset, .unset, .unset, .unset, .unset, .unset, .unset, .unset, .unset, .unset, .unset, .unset, .unset, .unset, .unset, .unset, .unset, .unset, .unset, .unset, .unset, .unset, .unset, .unset, .unset] rfl ?_
  refine o_ldc2Long 24 X14 hx rfl hZ hown (wd_38 hw) (hb hby at_21) ?_
  refine o_lstore 26 X14 hx rfl (hb hby at_24) #[.val (.int i0), .val (.long q1), .second, .val (.long q2), .second, .val (.long q3), .second, .val (.long q4), .second, .val (.ref a1), .val (.long (2000 : Int64)), .second, .unset, .unset, .unset, .unset, .unset, .unset, .unset, .unset, .unset, .unset, .unset, .unset, .unset, .unset, .unset, .unset, .unset, .unset, .unset, .unset, .unset, .unset, .unset, .unset, .unset] rfl ?_
  refine o_iloadN 27 X14 hx rfl (hb hby at_26) rfl ?_
  refine o_iconst 28 X14 hx rfl (hb hby at_27) (1 : Int32) rfl ?_
  refine o_lloadN 29 X14 hx rfl (hb hby at_28) rfl ?_
  refine o_lload 31 X14 hx rfl (hb hby at_29) rfl ?_
  refine o_callP (rv := (.long (fn4 i0 (1 : Int32) q1 (2000 : Int64)))) 34 X14 hx rfl hZ hown (wd_39 hw) (wd_40 hw) (wd_41 hw) (wd_42 hw) (by decide) rfl (rm4 l Z a0 hw i0 (1 : Int32) q1 (2000 : Int64) T14.heap) pd_lIIJJrJ [(.int i0), (.int (1 : Int32)), (.long q1), (.long (2000 : Int64))] [] rfl rfl (by rw [hml]; rfl) rfl (hb hby at_31) 0 (Nat.le_of_eq rfl) (by decide) (by decide) (by decide) (by decide) rfl rfl fun T16 X16 e16 => ?_
  refine o_lstore 36 X16 hx rfl (hb hby at_34) #[.val (.int i0), .val (.long q1), .second, .val (.long q2), .second, .val (.long q3), .second, .val (.long q4), .second, .val (.ref a1), .val (.long (2000 : Int64)), .second, .val (.long (fn4 i0 (1 : Int32) q1 (2000 : Int64))), .second, .unset, .unset, .unset, .unset, .unset, .unset, .unset, .unset, .unset, .unset, .unset, .unset, .unset, .unset, .unset, .unset, .unset, .unset, .unset, .unset, .unset, .unset, .unset] rfl ?_
  refine o_lload 38 X16 hx rfl (hb hby at_36) rfl ?_
  refine o_lload 40 X16 hx rfl (hb hby at_38) rfl ?_
  refine o_lcmp 41 X16 hx rfl (hb hby at_40) ?_
  suffices j49_17 : Go p.tables e below (EndE s room_1 (fun v h L => v = some (.int (1 : Int32)) ∧ Fr n0 L)) (T16.setTop (mkF m 49 #[.val (.int i0), .val (.long q1), .second, .val (.long q2), .second, .val (.long q3), .second, .val (.long q4), .second, .val (.ref a1), .val (.long (2000 : Int64)), .second, .val (.long (fn4 i0 (1 : Int32) q1 (2000 : Int64))), .second, .unset, .unset, .unset, .unset, .unset, .unset, .unset, .unset, .unset, .unset, .unset, .unset, .unset, .unset, .unset, .unset, .unset, .unset, .unset, .unset, .unset, .unset, .unset] [(.int (f0_49_s0 i0 q1))])) by
    by_cases hc41_18 : (fn4 i0 (1 : Int32) q1 (2000 : Int64)) < (2000 : Int64)
    · refine o_ifYes 48 X16 hx (hb hby at_41) (tlt (l_tlt hc41_18)).1 (by decide) (by decide) ?_
      refine o_iconst 49 X16 hx rfl (hb hby at_48) (0 : Int32) rfl ?_
      rw [show (f0_49_s0 i0 q1) = (0 : Int32) from by unfold f0_49_s0; simp only [if_pos hc41_18]] at j49_17
      exact j49_17
    · refine o_ifNo 44 X16 hx rfl (hb hby at_41) (flt (l_flt hc41_18)).1 ?_
      refine o_iconst 45 X16 hx rfl (hb hby at_44) (1 : Int32) rfl ?_
      refine o_goto 49 X16 hx (hb hby at_45) (by decide) (by decide) ?_
      rw [show (f0_49_s0 i0 q1) = (1 : Int32) from by unfold f0_49_s0; simp only [if_neg hc41_18]] at j49_17
      exact j49_17
  refine o_istore 51 X16 hx rfl (hb hby at_49) #[.val (.int i0), .val (.long q1), .second, .val (.long q2), .second, .val (.long q3), .second, .val (.long q4), .second, .val (.ref a1), .val (.long (2000 : Int64)), .second, .val (.long (fn4 i0 (1 : Int32) q1 (2000 : Int64))), .second, .val (.int (f0_49_s0 i0 q1)), .unset, .unset, .unset, .unset, .unset, .unset, .unset, .unset, .unset, .unset, .unset, .unset, .unset, .unset, .unset, .unset, .unset, .unset, .unset, .unset, .unset, .unset] rfl ?_
  refine o_iload 53 X16 hx rfl (hb hby at_51) rfl ?_
  suffices j61_19 : Go p.tables e below (EndE s room_1 (fun v h L => v = some (.int (1 : Int32)) ∧ Fr n0 L)) (T16.setTop (mkF m 61 #[.val (.int i0), .val (.long q1), .second, .val (.long q2), .second, .val (.long q3), .second, .val (.long q4), .second, .val (.ref a1), .val (.long (2000 : Int64)), .second, .val (.long (fn4 i0 (1 : Int32) q1 (2000 : Int64))), .second, .val (.int (f0_49_s0 i0 q1)), .unset, .unset, .unset, .unset, .unset, .unset, .unset, .unset, .unset, .unset, .unset, .unset, .unset, .unset, .unset, .unset, .unset, .unset, .unset, .unset, .unset, .unset] [(.int (f0_61_s0 i0 q1))])) by
    by_cases hc53_20 : (f0_49_s0 i0 q1) = (0 : Int32)
    · refine o_ifYes 60 X16 hx (hb hby at_53) (teq hc53_20).1 (by decide) (by decide) ?_
      refine o_iconst 61 X16 hx rfl (hb hby at_60) (0 : Int32) rfl ?_
      rw [show (f0_61_s0 i0 q1) = (0 : Int32) from by unfold f0_61_s0; simp only [if_pos hc53_20]] at j61_19
      exact j61_19
    · refine o_ifNo 56 X16 hx rfl (hb hby at_53) (feq hc53_20).1 ?_
      refine o_iconst 57 X16 hx rfl (hb hby at_56) (1 : Int32) rfl ?_
      refine o_goto 61 X16 hx (hb hby at_57) (by decide) (by decide) ?_
      rw [show (f0_61_s0 i0 q1) = (1 : Int32) from by unfold f0_61_s0; simp only [if_neg hc53_20]] at j61_19
      exact j61_19
  refine o_istore 63 X16 hx rfl (hb hby at_61) #[.val (.int i0), .val (.long q1), .second, .val (.long q2), .second, .val (.long q3), .second, .val (.long q4), .second, .val (.ref a1), .val (.long (2000 : Int64)), .second, .val (.long (fn4 i0 (1 : Int32) q1 (2000 : Int64))), .second, .val (.int (f0_49_s0 i0 q1)), .val (.int (f0_61_s0 i0 q1)), .unset, .unset, .unset, .unset, .unset, .unset, .unset, .unset, .unset, .unset, .unset, .unset, .unset, .unset, .unset, .unset, .unset, .unset, .unset, .unset, .unset] rfl ?_
  refine o_iload 65 X16 hx rfl (hb hby at_63) rfl ?_
  refine o_lload 67 X16 hx rfl (hb hby at_65) rfl ?_
  refine o_iload 69 X16 hx rfl (hb hby at_67) rfl ?_
  refine o_lload 71 X16 hx rfl (hb hby at_69) rfl ?_
  refine o_callP (rv := (.long (fn5 (f0_49_s0 i0 q1) (fn4 i0 (1 : Int32) q1 (2000 : Int64)) (f0_61_s0 i0 q1) (2000 : Int64)))) 74 X16 hx rfl hZ hown (wd_45 hw) (wd_46 hw) (wd_41 hw) (wd_47 hw) (by decide) e16 (rm5 l Z a0 hw (f0_49_s0 i0 q1) (fn4 i0 (1 : Int32) q1 (2000 : Int64)) (f0_61_s0 i0 q1) (2000 : Int64) T14.heap) pd_lZJIJrJ [(.int (f0_49_s0 i0 q1)), (.long (fn4 i0 (1 : Int32) q1 (2000 : Int64))), (.int (f0_61_s0 i0 q1)), (.long (2000 : Int64))] [] rfl rfl (by rw [hml]; rfl) rfl (hb hby at_71) 0 (Nat.le_of_eq rfl) (by decide) (by decide) (by decide) (by decide) rfl rfl fun T21 X21 e21 => ?_
  refine o_lstore 76 X21 hx rfl (hb hby at_74) #[.val (.int i0), .val (.long q1), .second, .val (.long q2), .second, .val (.long q3), .second, .val (.long q4), .second, .val (.ref a1), .val (.long (2000 : Int64)), .second, .val (.long (fn4 i0 (1 : Int32) q1 (2000 : Int64))), .second, .val (.int (f0_49_s0 i0 q1)), .val (.int (f0_61_s0 i0 q1)), .val (.long (f0_74 i0 q1)), .second, .unset, .unset, .unset, .unset, .unset, .unset, .unset, .unset, .unset, .unset, .unset, .unset, .unset, .unset, .unset, .unset, .unset, .unset, .unset] rfl ?_
  refine o_aload 78 X21 hx rfl (hb hby at_76) rfl rfl ?_
  refine o_lload 80 X21 hx rfl (hb hby at_78) rfl ?_
  refine o_callVw 83 X21 hx rfl hZ hown (wd_48 hw) (wd_49 hw) (wd_51 hw) (wd_50 hw) (wd_2 hw) (wd_52 hw) (by decide) e21 NN14 (rm6 l Z a0 hw a1 (fn4 i0 (1 : Int32) q1 (2000 : Int64)) (2000 : Int64) (0 : Int32) T14.heap n0 sz15 ge2 E14 F14_nextReduce F14_reductions) pd_lJrZ [(.long (fn4 i0 (1 : Int32) q1 (2000 : Int64)))] [] rfl E14 rfl (by rw [hml]; rfl) rfl (hb hby at_80) 0 (Nat.le_of_eq rfl) (by decide) (by decide) (by decide) (by decide) fun v22 T22 L22 LL22 X22 Q22 NF22 => ?_
  obtain ⟨rfl, M22, K22, E22, F22_nextReduce, F22_reductions⟩ := Q22
  have F22_nextReduce' : Fld Z T22.heap a1 "com/example/roundelay/roundelay/sat/Schedule" "nextReduce" "J" (.long (f0_nextReduce22 i0 q1)) := F22_nextReduce
  have F22_reductions' : Fld Z T22.heap a1 "com/example/roundelay/roundelay/sat/Schedule" "reductions" "I" (.int (f0_reductions22 i0 q1)) := F22_reductions
  have NN22 := NF22 M22
  have sz23 : n0 ≤ T22.heap.size := Nat.le_trans sz15 K22.1
  show Go p.tables e below (EndE s room_1 (fun v h L => v = some (.int (1 : Int32)) ∧ Fr n0 L)) (T22.setTop (mkF m 83 #[.val (.int i0), .val (.long q1), .second, .val (.long q2), .second, .val (.long q3), .second, .val (.long q4), .second, .val (.ref a1), .val (.long (2000 : Int64)), .second, .val (.long (fn4 i0 (1 : Int32) q1 (2000 : Int64))), .second, .val (.int (f0_49_s0 i0 q1)), .val (.int (f0_61_s0 i0 q1)), .val (.long (f0_74 i0 q1)), .second, .unset, .unset, .unset, .unset, .unset, .unset, .unset, .unset, .unset, .unset, .unset, .unset, .unset, .unset, .unset, .unset, .unset, .unset, .unset] [(.int (f0_r22 i0 q1))]))
  refine o_istore 85 X22 hx rfl (hb hby at_83) #[.val (.int i0), .val (.long q1), .second, .val (.long q2), .second, .val (.long q3), .second, .val (.long q4), .second, .val (.ref a1), .val (.long (2000 : Int64)), .second, .val (.long (fn4 i0 (1 : Int32) q1 (2000 : Int64))), .second, .val (.int (f0_49_s0 i0 q1)), .val (.int (f0_61_s0 i0 q1)), .val (.long (f0_74 i0 q1)), .second, .val (.int (f0_r22 i0 q1)), .unset, .unset, .unset, .unset, .unset, .unset, .unset, .unset, .unset, .unset, .unset, .unset, .unset, .unset, .unset, .unset, .unset, .unset] rfl ?_
  refine o_iloadN 86 X22 hx rfl (hb hby at_85) rfl ?_
  refine o_iconst 87 X22 hx rfl (hb hby at_86) (2 : Int32) rfl ?_
  refine o_lloadN 88 X22 hx rfl (hb hby at_87) rfl ?_
  refine o_lload 90 X22 hx rfl (hb hby at_88) rfl ?_
  refine o_callP (rv := (.long (fn4 i0 (2 : Int32) q2 (f0_74 i0 q1)))) 93 X22 hx rfl hZ hown (wd_39 hw) (wd_40 hw) (wd_41 hw) (wd_42 hw) (by decide) rfl (rm4 l Z a0 hw i0 (2 : Int32) q2 (f0_74 i0 q1) T22.heap) pd_lIIJJrJ [(.int i0), (.int (2 : Int32)), (.long q2), (.long (f0_74 i0 q1))] [] rfl rfl (by rw [hml]; rfl) rfl (hb hby at_90) 0 (Nat.le_of_eq rfl) (by decide) (by decide) (by decide) (by decide) rfl rfl fun T24 X24 e24 => ?_
  refine o_lstore 95 X24 hx rfl (hb hby at_93) #[.val (.int i0), .val (.long q1), .second, .val (.long q2), .second, .val (.long q3), .second, .val (.long q4), .second, .val (.ref a1), .val (.long (2000 : Int64)), .second, .val (.long (fn4 i0 (1 : Int32) q1 (2000 : Int64))), .second, .val (.int (f0_49_s0 i0 q1)), .val (.int (f0_61_s0 i0 q1)), .val (.long (f0_74 i0 q1)), .second, .val (.int (f0_r22 i0 q1)), .val (.long (fn4 i0 (2 : Int32) q2 (f0_74 i0 q1))), .second, .unset, .unset, .unset, .unset, .unset, .unset, .unset, .unset, .unset, .unset, .unset, .unset, .unset, .unset, .unset, .unset] rfl ?_
  refine o_lload 97 X24 hx rfl (hb hby at_95) rfl ?_
  refine o_lload 99 X24 hx rfl (hb hby at_97) rfl ?_
  refine o_lcmp 100 X24 hx rfl (hb hby at_99) ?_
  suffices j108_25 : Go p.tables e below (EndE s room_1 (fun v h L => v = some (.int (1 : Int32)) ∧ Fr n0 L)) (T24.setTop (mkF m 108 #[.val (.int i0), .val (.long q1), .second, .val (.long q2), .second, .val (.long q3), .second, .val (.long q4), .second, .val (.ref a1), .val (.long (2000 : Int64)), .second, .val (.long (fn4 i0 (1 : Int32) q1 (2000 : Int64))), .second, .val (.int (f0_49_s0 i0 q1)), .val (.int (f0_61_s0 i0 q1)), .val (.long (f0_74 i0 q1)), .second, .val (.int (f0_r22 i0 q1)), .val (.long (fn4 i0 (2 : Int32) q2 (f0_74 i0 q1))), .second, .unset, .unset, .unset, .unset, .unset, .unset, .unset, .unset, .unset, .unset, .unset, .unset, .unset, .unset, .unset, .unset] [(.int (f0_108_s0 i0 q1 q2))])) by
    by_cases hc100_26 : (fn4 i0 (2 : Int32) q2 (f0_74 i0 q1)) < (f0_74 i0 q1)
    · refine o_ifYes 107 X24 hx (hb hby at_100) (tlt (l_tlt hc100_26)).1 (by decide) (by decide) ?_
      refine o_iconst 108 X24 hx rfl (hb hby at_107) (0 : Int32) rfl ?_
      rw [show (f0_108_s0 i0 q1 q2) = (0 : Int32) from by unfold f0_108_s0; simp only [if_pos hc100_26]] at j108_25
      exact j108_25
    · refine o_ifNo 103 X24 hx rfl (hb hby at_100) (flt (l_flt hc100_26)).1 ?_
      refine o_iconst 104 X24 hx rfl (hb hby at_103) (1 : Int32) rfl ?_
      refine o_goto 108 X24 hx (hb hby at_104) (by decide) (by decide) ?_
      rw [show (f0_108_s0 i0 q1 q2) = (1 : Int32) from by unfold f0_108_s0; simp only [if_neg hc100_26]] at j108_25
      exact j108_25
  refine o_istore 110 X24 hx rfl (hb hby at_108) #[.val (.int i0), .val (.long q1), .second, .val (.long q2), .second, .val (.long q3), .second, .val (.long q4), .second, .val (.ref a1), .val (.long (2000 : Int64)), .second, .val (.long (fn4 i0 (1 : Int32) q1 (2000 : Int64))), .second, .val (.int (f0_49_s0 i0 q1)), .val (.int (f0_61_s0 i0 q1)), .val (.long (f0_74 i0 q1)), .second, .val (.int (f0_r22 i0 q1)), .val (.long (fn4 i0 (2 : Int32) q2 (f0_74 i0 q1))), .second, .val (.int (f0_108_s0 i0 q1 q2)), .unset, .unset, .unset, .unset, .unset, .unset, .unset, .unset, .unset, .unset, .unset, .unset, .unset, .unset, .unset] rfl ?_
  refine o_iload 112 X24 hx rfl (hb hby at_110) rfl ?_
  refine o_iload 114 X24 hx rfl (hb hby at_112) rfl ?_
  suffices j122_27 : Go p.tables e below (EndE s room_1 (fun v h L => v = some (.int (1 : Int32)) ∧ Fr n0 L)) (T24.setTop (mkF m 122 #[.val (.int i0), .val (.long q1), .second, .val (.long q2), .second, .val (.long q3), .second, .val (.long q4), .second, .val (.ref a1), .val (.long (2000 : Int64)), .second, .val (.long (fn4 i0 (1 : Int32) q1 (2000 : Int64))), .second, .val (.int (f0_49_s0 i0 q1)), .val (.int (f0_61_s0 i0 q1)), .val (.long (f0_74 i0 q1)), .second, .val (.int (f0_r22 i0 q1)), .val (.long (fn4 i0 (2 : Int32) q2 (f0_74 i0 q1))), .second, .val (.int (f0_108_s0 i0 q1 q2)), .unset, .unset, .unset, .unset, .unset, .unset, .unset, .unset, .unset, .unset, .unset, .unset, .unset, .unset, .unset] [(.int (f0_122_s0 i0 q1 q2)), (.int (f0_61_s0 i0 q1))])) by
    by_cases hc114_28 : (f0_108_s0 i0 q1 q2) = (0 : Int32)
    · refine o_ifYes 121 X24 hx (hb hby at_114) (teq hc114_28).1 (by decide) (by decide) ?_
      refine o_iconst 122 X24 hx rfl (hb hby at_121) (0 : Int32) rfl ?_
      rw [show (f0_122_s0 i0 q1 q2) = (0 : Int32) from by unfold f0_122_s0; simp only [if_pos hc114_28]] at j122_27
      exact j122_27
    · refine o_ifNo 117 X24 hx rfl (hb hby at_114) (feq hc114_28).1 ?_
      refine o_iconst 118 X24 hx rfl (hb hby at_117) (1 : Int32) rfl ?_
      refine o_goto 122 X24 hx (hb hby at_118) (by decide) (by decide) ?_
      rw [show (f0_122_s0 i0 q1 q2) = (1 : Int32) from by unfold f0_122_s0; simp only [if_neg hc114_28]] at j122_27
      exact j122_27
  refine o_iadd 123 X24 hx rfl (hb hby at_122) ?_
  refine o_istore 125 X24 hx rfl (hb hby at_123) #[.val (.int i0), .val (.long q1), .second, .val (.long q2), .second, .val (.long q3), .second, .val (.long q4), .second, .val (.ref a1), .val (.long (2000 : Int64)), .second, .val (.long (fn4 i0 (1 : Int32) q1 (2000 : Int64))), .second, .val (.int (f0_49_s0 i0 q1)), .val (.int (f0_61_s0 i0 q1)), .val (.long (f0_74 i0 q1)), .second, .val (.int (f0_r22 i0 q1)), .val (.long (fn4 i0 (2 : Int32) q2 (f0_74 i0 q1))), .second, .val (.int (f0_108_s0 i0 q1 q2)), .val (.int ((f0_61_s0 i0 q1) + (f0_122_s0 i0 q1 q2))), .unset, .unset, .unset, .unset, .unset, .unset, .unset, .unset, .unset, .unset, .unset, .unset, .unset, .unset] rfl ?_
  refine o_iload 127 X24 hx rfl (hb hby at_125) rfl ?_
  refine o_lload 129 X24 hx rfl (hb hby at_127) rfl ?_
  refine o_iload 131 X24 hx rfl (hb hby at_129) rfl ?_
  refine o_lload 133 X24 hx rfl (hb hby at_131) rfl ?_
  refine o_callP (rv := (.long (fn5 (f0_108_s0 i0 q1 q2) (fn4 i0 (2 : Int32) q2 (f0_74 i0 q1)) ((f0_61_s0 i0 q1) + (f0_122_s0 i0 q1 q2)) (f0_74 i0 q1)))) 136 X24 hx rfl hZ hown (wd_45 hw) (wd_46 hw) (wd_41 hw) (wd_47 hw) (by decide) e24 (rm5 l Z a0 hw (f0_108_s0 i0 q1 q2) (fn4 i0 (2 : Int32) q2 (f0_74 i0 q1)) ((f0_61_s0 i0 q1) + (f0_122_s0 i0 q1 q2)) (f0_74 i0 q1) T22.heap) pd_lZJIJrJ [(.int (f0_108_s0 i0 q1 q2)), (.long (fn4 i0 (2 : Int32) q2 (f0_74 i0 q1))), (.int ((f0_61_s0 i0 q1) + (f0_122_s0 i0 q1 q2))), (.long (f0_74 i0 q1))] [] rfl rfl (by rw [hml]; rfl) rfl (hb hby at_133) 0 (Nat.le_of_eq rfl) (by decide) (by decide) (by decide) (by decide) rfl rfl fun T29 X29 e29 => ?_
  refine o_lstore 138 X29 hx rfl (hb hby at_136) #[.val (.int i0), .val (.long q1), .second, .val (.long q2), .second, .val (.long q3), .second, .val (.long q4), .second, .val (.ref a1), .val (.long (2000 : Int64)), .second, .val (.long (fn4 i0 (1 : Int32) q1 (2000 : Int64))), .second, .val (.int (f0_49_s0 i0 q1)), .val (.int (f0_61_s0 i0 q1)), .val (.long (f0_74 i0 q1)), .second, .val (.int (f0_r22 i0 q1)), .val (.long (fn4 i0 (2 : Int32) q2 (f0_74 i0 q1))), .second, .val (.int (f0_108_s0 i0 q1 q2)), .val (.int ((f0_61_s0 i0 q1) + (f0_122_s0 i0 q1 q2))), .val (.long (f0_136 i0 q1 q2)), .second, .unset, .unset, .unset, .unset, .unset, .unset, .unset, .unset, .unset, .unset, .unset, .unset] rfl ?_
  refine o_aload 140 X29 hx rfl (hb hby at_138) rfl rfl ?_
  refine o_lload 142 X29 hx rfl (hb hby at_140) rfl ?_
  refine o_callVw 145 X29 hx rfl hZ hown (wd_48 hw) (wd_49 hw) (wd_51 hw) (wd_50 hw) (wd_2 hw) (wd_52 hw) (by decide) e29 NN22 (rm6 l Z a0 hw a1 (fn4 i0 (2 : Int32) q2 (f0_74 i0 q1)) (f0_nextReduce22 i0 q1) (f0_reductions22 i0 q1) T22.heap n0 sz23 ge2 E22 F22_nextReduce' F22_reductions') pd_lJrZ [(.long (fn4 i0 (2 : Int32) q2 (f0_74 i0 q1)))] [] rfl E22 rfl (by rw [hml]; rfl) rfl (hb hby at_142) 0 (Nat.le_of_eq rfl) (by decide) (by decide) (by decide) (by decide) fun v30 T30 L30 LL30 X30 Q30 NF30 => ?_
  obtain ⟨rfl, M30, K30, E30, F30_nextReduce, F30_reductions⟩ := Q30
  have F30_nextReduce' : Fld Z T30.heap a1 "com/example/roundelay/roundelay/sat/Schedule" "nextReduce" "J" (.long (f0_nextReduce30 i0 q1 q2)) := F30_nextReduce
  have F30_reductions' : Fld Z T30.heap a1 "com/example/roundelay/roundelay/sat/Schedule" "reductions" "I" (.int (f0_reductions30 i0 q1 q2)) := F30_reductions
  have NN30 := NF30 M30
  have sz31 : n0 ≤ T30.heap.size := Nat.le_trans sz23 K30.1
  show Go p.tables e below (EndE s room_1 (fun v h L => v = some (.int (1 : Int32)) ∧ Fr n0 L)) (T30.setTop (mkF m 145 #[.val (.int i0), .val (.long q1), .second, .val (.long q2), .second, .val (.long q3), .second, .val (.long q4), .second, .val (.ref a1), .val (.long (2000 : Int64)), .second, .val (.long (fn4 i0 (1 : Int32) q1 (2000 : Int64))), .second, .val (.int (f0_49_s0 i0 q1)), .val (.int (f0_61_s0 i0 q1)), .val (.long (f0_74 i0 q1)), .second, .val (.int (f0_r22 i0 q1)), .val (.long (fn4 i0 (2 : Int32) q2 (f0_74 i0 q1))), .second, .val (.int (f0_108_s0 i0 q1 q2)), .val (.int ((f0_61_s0 i0 q1) + (f0_122_s0 i0 q1 q2))), .val (.long (f0_136 i0 q1 q2)), .second, .unset, .unset, .unset, .unset, .unset, .unset, .unset, .unset, .unset, .unset, .unset, .unset] [(.int (f0_r30 i0 q1 q2))]))
  refine o_istore 147 X30 hx rfl (hb hby at_145) #[.val (.int i0), .val (.long q1), .second, .val (.long q2), .second, .val (.long q3), .second, .val (.long q4), .second, .val (.ref a1), .val (.long (2000 : Int64)), .second, .val (.long (fn4 i0 (1 : Int32) q1 (2000 : Int64))), .second, .val (.int (f0_49_s0 i0 q1)), .val (.int (f0_61_s0 i0 q1)), .val (.long (f0_74 i0 q1)), .second, .val (.int (f0_r22 i0 q1)), .val (.long (fn4 i0 (2 : Int32) q2 (f0_74 i0 q1))), .second, .val (.int (f0_108_s0 i0 q1 q2)), .val (.int ((f0_61_s0 i0 q1) + (f0_122_s0 i0 q1 q2))), .val (.long (f0_136 i0 q1 q2)), .second, .val (.int (f0_r30 i0 q1 q2)), .unset, .unset, .unset, .unset, .unset, .unset, .unset, .unset, .unset, .unset, .unset] rfl ?_
  refine o_iloadN 148 X30 hx rfl (hb hby at_147) rfl ?_
  refine o_iconst 149 X30 hx rfl (hb hby at_148) (4 : Int32) rfl ?_
  refine o_lload 151 X30 hx rfl (hb hby at_149) rfl ?_
  refine o_lload 153 X30 hx rfl (hb hby at_151) rfl ?_
  refine o_callP (rv := (.long (fn4 i0 (4 : Int32) q3 (f0_136 i0 q1 q2)))) 156 X30 hx rfl hZ hown (wd_39 hw) (wd_40 hw) (wd_41 hw) (wd_42 hw) (by decide) rfl (rm4 l Z a0 hw i0 (4 : Int32) q3 (f0_136 i0 q1 q2) T30.heap) pd_lIIJJrJ [(.int i0), (.int (4 : Int32)), (.long q3), (.long (f0_136 i0 q1 q2))] [] rfl rfl (by rw [hml]; rfl) rfl (hb hby at_153) 0 (Nat.le_of_eq rfl) (by decide) (by decide) (by decide) (by decide) rfl rfl fun T32 X32 e32 => ?_
  refine o_lstore 158 X32 hx rfl (hb hby at_156) #[.val (.int i0), .val (.long q1), .second, .val (.long q2), .second, .val (.long q3), .second, .val (.long q4), .second, .val (.ref a1), .val (.long (2000 : Int64)), .second, .val (.long (fn4 i0 (1 : Int32) q1 (2000 : Int64))), .second, .val (.int (f0_49_s0 i0 q1)), .val (.int (f0_61_s0 i0 q1)), .val (.long (f0_74 i0 q1)), .second, .val (.int (f0_r22 i0 q1)), .val (.long (fn4 i0 (2 : Int32) q2 (f0_74 i0 q1))), .second, .val (.int (f0_108_s0 i0 q1 q2)), .val (.int ((f0_61_s0 i0 q1) + (f0_122_s0 i0 q1 q2))), .val (.long (f0_136 i0 q1 q2)), .second, .val (.int (f0_r30 i0 q1 q2)), .val (.long (fn4 i0 (4 : Int32) q3 (f0_136 i0 q1 q2))), .second, .unset, .unset, .unset, .unset, .unset, .unset, .unset, .unset, .unset] rfl ?_
  refine o_lload 160 X32 hx rfl (hb hby at_158) rfl ?_
  refine o_lload 162 X32 hx rfl (hb hby at_160) rfl ?_
  refine o_lcmp 163 X32 hx rfl (hb hby at_162) ?_
  suffices j171_33 : Go p.tables e below (EndE s room_1 (fun v h L => v = some (.int (1 : Int32)) ∧ Fr n0 L)) (T32.setTop (mkF m 171 #[.val (.int i0), .val (.long q1), .second, .val (.long q2), .second, .val (.long q3), .second, .val (.long q4), .second, .val (.ref a1), .val (.long (2000 : Int64)), .second, .val (.long (fn4 i0 (1 : Int32) q1 (2000 : Int64))), .second, .val (.int (f0_49_s0 i0 q1)), .val (.int (f0_61_s0 i0 q1)), .val (.long (f0_74 i0 q1)), .second, .val (.int (f0_r22 i0 q1)), .val (.long (fn4 i0 (2 : Int32) q2 (f0_74 i0 q1))), .second, .val (.int (f0_108_s0 i0 q1 q2)), .val (.int ((f0_61_s0 i0 q1) + (f0_122_s0 i0 q1 q2))), .val (.long (f0_136 i0 q1 q2)), .second, .val (.int (f0_r30 i0 q1 q2)), .val (.long (fn4 i0 (4 : Int32) q3 (f0_136 i0 q1 q2))), .second, .unset, .unset, .unset, .unset, .unset, .unset, .unset, .unset, .unset] [(.int (f0_171_s0 i0 q1 q2 q3))])) by
    by_cases hc163_34 : (fn4 i0 (4 : Int32) q3 (f0_136 i0 q1 q2)) < (f0_136 i0 q1 q2)
    · refine o_ifYes 170 X32 hx (hb hby at_163) (tlt (l_tlt hc163_34)).1 (by decide) (by decide) ?_
      refine o_iconst 171 X32 hx rfl (hb hby at_170) (0 : Int32) rfl ?_
      rw [show (f0_171_s0 i0 q1 q2 q3) = (0 : Int32) from by unfold f0_171_s0; simp only [if_pos hc163_34]] at j171_33
      exact j171_33
    · refine o_ifNo 166 X32 hx rfl (hb hby at_163) (flt (l_flt hc163_34)).1 ?_
      refine o_iconst 167 X32 hx rfl (hb hby at_166) (1 : Int32) rfl ?_
      refine o_goto 171 X32 hx (hb hby at_167) (by decide) (by decide) ?_
      rw [show (f0_171_s0 i0 q1 q2 q3) = (1 : Int32) from by unfold f0_171_s0; simp only [if_neg hc163_34]] at j171_33
      exact j171_33
  refine o_istore 173 X32 hx rfl (hb hby at_171) #[.val (.int i0), .val (.long q1), .second, .val (.long q2), .second, .val (.long q3), .second, .val (.long q4), .second, .val (.ref a1), .val (.long (2000 : Int64)), .second, .val (.long (fn4 i0 (1 : Int32) q1 (2000 : Int64))), .second, .val (.int (f0_49_s0 i0 q1)), .val (.int (f0_61_s0 i0 q1)), .val (.long (f0_74 i0 q1)), .second, .val (.int (f0_r22 i0 q1)), .val (.long (fn4 i0 (2 : Int32) q2 (f0_74 i0 q1))), .second, .val (.int (f0_108_s0 i0 q1 q2)), .val (.int ((f0_61_s0 i0 q1) + (f0_122_s0 i0 q1 q2))), .val (.long (f0_136 i0 q1 q2)), .second, .val (.int (f0_r30 i0 q1 q2)), .val (.long (fn4 i0 (4 : Int32) q3 (f0_136 i0 q1 q2))), .second, .val (.int (f0_171_s0 i0 q1 q2 q3)), .unset, .unset, .unset, .unset, .unset, .unset, .unset, .unset] rfl ?_
  refine o_iload 175 X32 hx rfl (hb hby at_173) rfl ?_
  refine o_iload 177 X32 hx rfl (hb hby at_175) rfl ?_
  suffices j185_35 : Go p.tables e below (EndE s room_1 (fun v h L => v = some (.int (1 : Int32)) ∧ Fr n0 L)) (T32.setTop (mkF m 185 #[.val (.int i0), .val (.long q1), .second, .val (.long q2), .second, .val (.long q3), .second, .val (.long q4), .second, .val (.ref a1), .val (.long (2000 : Int64)), .second, .val (.long (fn4 i0 (1 : Int32) q1 (2000 : Int64))), .second, .val (.int (f0_49_s0 i0 q1)), .val (.int (f0_61_s0 i0 q1)), .val (.long (f0_74 i0 q1)), .second, .val (.int (f0_r22 i0 q1)), .val (.long (fn4 i0 (2 : Int32) q2 (f0_74 i0 q1))), .second, .val (.int (f0_108_s0 i0 q1 q2)), .val (.int ((f0_61_s0 i0 q1) + (f0_122_s0 i0 q1 q2))), .val (.long (f0_136 i0 q1 q2)), .second, .val (.int (f0_r30 i0 q1 q2)), .val (.long (fn4 i0 (4 : Int32) q3 (f0_136 i0 q1 q2))), .second, .val (.int (f0_171_s0 i0 q1 q2 q3)), .unset, .unset, .unset, .unset, .unset, .unset, .unset, .unset] [(.int (f0_185_s0 i0 q1 q2 q3)), (.int ((f0_61_s0 i0 q1) + (f0_122_s0 i0 q1 q2)))])) by
    by_cases hc177_36 : (f0_171_s0 i0 q1 q2 q3) = (0 : Int32)
    · refine o_ifYes 184 X32 hx (hb hby at_177) (teq hc177_36).1 (by decide) (by decide) ?_
      refine o_iconst 185 X32 hx rfl (hb hby at_184) (0 : Int32) rfl ?_
      rw [show (f0_185_s0 i0 q1 q2 q3) = (0 : Int32) from by unfold f0_185_s0; simp only [if_pos hc177_36]] at j185_35
      exact j185_35
    · refine o_ifNo 180 X32 hx rfl (hb hby at_177) (feq hc177_36).1 ?_
      refine o_iconst 181 X32 hx rfl (hb hby at_180) (1 : Int32) rfl ?_
      refine o_goto 185 X32 hx (hb hby at_181) (by decide) (by decide) ?_
      rw [show (f0_185_s0 i0 q1 q2 q3) = (1 : Int32) from by unfold f0_185_s0; simp only [if_neg hc177_36]] at j185_35
      exact j185_35
  refine o_iadd 186 X32 hx rfl (hb hby at_185) ?_
  refine o_istore 188 X32 hx rfl (hb hby at_186) #[.val (.int i0), .val (.long q1), .second, .val (.long q2), .second, .val (.long q3), .second, .val (.long q4), .second, .val (.ref a1), .val (.long (2000 : Int64)), .second, .val (.long (fn4 i0 (1 : Int32) q1 (2000 : Int64))), .second, .val (.int (f0_49_s0 i0 q1)), .val (.int (f0_61_s0 i0 q1)), .val (.long (f0_74 i0 q1)), .second, .val (.int (f0_r22 i0 q1)), .val (.long (fn4 i0 (2 : Int32) q2 (f0_74 i0 q1))), .second, .val (.int (f0_108_s0 i0 q1 q2)), .val (.int ((f0_61_s0 i0 q1) + (f0_122_s0 i0 q1 q2))), .val (.long (f0_136 i0 q1 q2)), .second, .val (.int (f0_r30 i0 q1 q2)), .val (.long (fn4 i0 (4 : Int32) q3 (f0_136 i0 q1 q2))), .second, .val (.int (f0_171_s0 i0 q1 q2 q3)), .val (.int (f0_186 i0 q1 q2 q3)), .unset, .unset, .unset, .unset, .unset, .unset, .unset] rfl ?_
  refine o_iload 190 X32 hx rfl (hb hby at_188) rfl ?_
  refine o_lload 192 X32 hx rfl (hb hby at_190) rfl ?_
  refine o_iload 194 X32 hx rfl (hb hby at_192) rfl ?_
  refine o_lload 196 X32 hx rfl (hb hby at_194) rfl ?_
  refine o_callP (rv := (.long (fn5 (f0_171_s0 i0 q1 q2 q3) (fn4 i0 (4 : Int32) q3 (f0_136 i0 q1 q2)) (f0_186 i0 q1 q2 q3) (f0_136 i0 q1 q2)))) 199 X32 hx rfl hZ hown (wd_45 hw) (wd_46 hw) (wd_41 hw) (wd_47 hw) (by decide) e32 (rm5 l Z a0 hw (f0_171_s0 i0 q1 q2 q3) (fn4 i0 (4 : Int32) q3 (f0_136 i0 q1 q2)) (f0_186 i0 q1 q2 q3) (f0_136 i0 q1 q2) T30.heap) pd_lZJIJrJ [(.int (f0_171_s0 i0 q1 q2 q3)), (.long (fn4 i0 (4 : Int32) q3 (f0_136 i0 q1 q2))), (.int (f0_186 i0 q1 q2 q3)), (.long (f0_136 i0 q1 q2))] [] rfl rfl (by rw [hml]; rfl) rfl (hb hby at_196) 0 (Nat.le_of_eq rfl) (by decide) (by decide) (by decide) (by decide) rfl rfl fun T37 X37 e37 => ?_
  refine o_lstore 201 X37 hx rfl (hb hby at_199) #[.val (.int i0), .val (.long q1), .second, .val (.long q2), .second, .val (.long q3), .second, .val (.long q4), .second, .val (.ref a1), .val (.long (2000 : Int64)), .second, .val (.long (fn4 i0 (1 : Int32) q1 (2000 : Int64))), .second, .val (.int (f0_49_s0 i0 q1)), .val (.int (f0_61_s0 i0 q1)), .val (.long (f0_74 i0 q1)), .second, .val (.int (f0_r22 i0 q1)), .val (.long (fn4 i0 (2 : Int32) q2 (f0_74 i0 q1))), .second, .val (.int (f0_108_s0 i0 q1 q2)), .val (.int ((f0_61_s0 i0 q1) + (f0_122_s0 i0 q1 q2))), .val (.long (f0_136 i0 q1 q2)), .second, .val (.int (f0_r30 i0 q1 q2)), .val (.long (fn4 i0 (4 : Int32) q3 (f0_136 i0 q1 q2))), .second, .val (.int (f0_171_s0 i0 q1 q2 q3)), .val (.int (f0_186 i0 q1 q2 q3)), .val (.long (f0_199 i0 q1 q2 q3)), .second, .unset, .unset, .unset, .unset, .unset] rfl ?_
  refine o_aload 203 X37 hx rfl (hb hby at_201) rfl rfl ?_
  refine o_lload 205 X37 hx rfl (hb hby at_203) rfl ?_
  refine o_callVw 208 X37 hx rfl hZ hown (wd_48 hw) (wd_49 hw) (wd_51 hw) (wd_50 hw) (wd_2 hw) (wd_52 hw) (by decide) e37 NN30 (rm6 l Z a0 hw a1 (fn4 i0 (4 : Int32) q3 (f0_136 i0 q1 q2)) (f0_nextReduce30 i0 q1 q2) (f0_reductions30 i0 q1 q2) T30.heap n0 sz31 ge2 E30 F30_nextReduce' F30_reductions') pd_lJrZ [(.long (fn4 i0 (4 : Int32) q3 (f0_136 i0 q1 q2)))] [] rfl E30 rfl (by rw [hml]; rfl) rfl (hb hby at_205) 0 (Nat.le_of_eq rfl) (by decide) (by decide) (by decide) (by decide) fun v38 T38 L38 LL38 X38 Q38 NF38 => ?_
  obtain ⟨rfl, M38, K38, E38, F38_nextReduce, F38_reductions⟩ := Q38
  have F38_nextReduce' : Fld Z T38.heap a1 "com/example/roundelay/roundelay/sat/Schedule" "nextReduce" "J" (.long (f0_nextReduce38 i0 q1 q2 q3)) := F38_nextReduce
  have F38_reductions' : Fld Z T38.heap a1 "com/example/roundelay/roundelay/sat/Schedule" "reductions" "I" (.int (f0_reductions38 i0 q1 q2 q3)) := F38_reductions
  have NN38 := NF38 M38
  have sz39 : n0 ≤ T38.heap.size := Nat.le_trans sz31 K38.1
  show Go p.tables e below (EndE s room_1 (fun v h L => v = some (.int (1 : Int32)) ∧ Fr n0 L)) (T38.setTop (mkF m 208 #[.val (.int i0), .val (.long q1), .second, .val (.long q2), .second, .val (.long q3), .second, .val (.long q4), .second, .val (.ref a1), .val (.long (2000 : Int64)), .second, .val (.long (fn4 i0 (1 : Int32) q1 (2000 : Int64))), .second, .val (.int (f0_49_s0 i0 q1)), .val (.int (f0_61_s0 i0 q1)), .val (.long (f0_74 i0 q1)), .second, .val (.int (f0_r22 i0 q1)), .val (.long (fn4 i0 (2 : Int32) q2 (f0_74 i0 q1))), .second, .val (.int (f0_108_s0 i0 q1 q2)), .val (.int ((f0_61_s0 i0 q1) + (f0_122_s0 i0 q1 q2))), .val (.long (f0_136 i0 q1 q2)), .second, .val (.int (f0_r30 i0 q1 q2)), .val (.long (fn4 i0 (4 : Int32) q3 (f0_136 i0 q1 q2))), .second, .val (.int (f0_171_s0 i0 q1 q2 q3)), .val (.int (f0_186 i0 q1 q2 q3)), .val (.long (f0_199 i0 q1 q2 q3)), .second, .unset, .unset, .unset, .unset, .unset] [(.int (f0_r38 i0 q1 q2 q3))]))
  refine o_istore 210 X38 hx rfl (hb hby at_208) #[.val (.int i0), .val (.long q1), .second, .val (.long q2), .second, .val (.long q3), .second, .val (.long q4), .second, .val (.ref a1), .val (.long (2000 : Int64)), .second, .val (.long (fn4 i0 (1 : Int32) q1 (2000 : Int64))), .second, .val (.int (f0_49_s0 i0 q1)), .val (.int (f0_61_s0 i0 q1)), .val (.long (f0_74 i0 q1)), .second, .val (.int (f0_r22 i0 q1)), .val (.long (fn4 i0 (2 : Int32) q2 (f0_74 i0 q1))), .second, .val (.int (f0_108_s0 i0 q1 q2)), .val (.int ((f0_61_s0 i0 q1) + (f0_122_s0 i0 q1 q2))), .val (.long (f0_136 i0 q1 q2)), .second, .val (.int (f0_r30 i0 q1 q2)), .val (.long (fn4 i0 (4 : Int32) q3 (f0_136 i0 q1 q2))), .second, .val (.int (f0_171_s0 i0 q1 q2 q3)), .val (.int (f0_186 i0 q1 q2 q3)), .val (.long (f0_199 i0 q1 q2 q3)), .second, .val (.int (f0_r38 i0 q1 q2 q3)), .unset, .unset, .unset, .unset] rfl ?_
  refine o_iloadN 211 X38 hx rfl (hb hby at_210) rfl ?_
  refine o_bipush 213 X38 hx rfl (hb hby at_211) (8 : Int32) rfl ?_
  refine o_lload 215 X38 hx rfl (hb hby at_213) rfl ?_
  refine o_lload 217 X38 hx rfl (hb hby at_215) rfl ?_
  refine o_callP (rv := (.long (fn4 i0 (8 : Int32) q4 (f0_199 i0 q1 q2 q3)))) 220 X38 hx rfl hZ hown (wd_39 hw) (wd_40 hw) (wd_41 hw) (wd_42 hw) (by decide) rfl (rm4 l Z a0 hw i0 (8 : Int32) q4 (f0_199 i0 q1 q2 q3) T38.heap) pd_lIIJJrJ [(.int i0), (.int (8 : Int32)), (.long q4), (.long (f0_199 i0 q1 q2 q3))] [] rfl rfl (by rw [hml]; rfl) rfl (hb hby at_217) 0 (Nat.le_of_eq rfl) (by decide) (by decide) (by decide) (by decide) rfl rfl fun T40 X40 e40 => ?_
  refine o_lstore 222 X40 hx rfl (hb hby at_220) #[.val (.int i0), .val (.long q1), .second, .val (.long q2), .second, .val (.long q3), .second, .val (.long q4), .second, .val (.ref a1), .val (.long (2000 : Int64)), .second, .val (.long (fn4 i0 (1 : Int32) q1 (2000 : Int64))), .second, .val (.int (f0_49_s0 i0 q1)), .val (.int (f0_61_s0 i0 q1)), .val (.long (f0_74 i0 q1)), .second, .val (.int (f0_r22 i0 q1)), .val (.long (fn4 i0 (2 : Int32) q2 (f0_74 i0 q1))), .second, .val (.int (f0_108_s0 i0 q1 q2)), .val (.int ((f0_61_s0 i0 q1) + (f0_122_s0 i0 q1 q2))), .val (.long (f0_136 i0 q1 q2)), .second, .val (.int (f0_r30 i0 q1 q2)), .val (.long (fn4 i0 (4 : Int32) q3 (f0_136 i0 q1 q2))), .second, .val (.int (f0_171_s0 i0 q1 q2 q3)), .val (.int (f0_186 i0 q1 q2 q3)), .val (.long (f0_199 i0 q1 q2 q3)), .second, .val (.int (f0_r38 i0 q1 q2 q3)), .val (.long (fn4 i0 (8 : Int32) q4 (f0_199 i0 q1 q2 q3))), .second, .unset, .unset] rfl ?_
  refine o_lload 224 X40 hx rfl (hb hby at_222) rfl ?_
  refine o_lload 226 X40 hx rfl (hb hby at_224) rfl ?_
  refine o_lcmp 227 X40 hx rfl (hb hby at_226) ?_
  suffices j235_41 : Go p.tables e below (EndE s room_1 (fun v h L => v = some (.int (1 : Int32)) ∧ Fr n0 L)) (T40.setTop (mkF m 235 #[.val (.int i0), .val (.long q1), .second, .val (.long q2), .second, .val (.long q3), .second, .val (.long q4), .second, .val (.ref a1), .val (.long (2000 : Int64)), .second, .val (.long (fn4 i0 (1 : Int32) q1 (2000 : Int64))), .second, .val (.int (f0_49_s0 i0 q1)), .val (.int (f0_61_s0 i0 q1)), .val (.long (f0_74 i0 q1)), .second, .val (.int (f0_r22 i0 q1)), .val (.long (fn4 i0 (2 : Int32) q2 (f0_74 i0 q1))), .second, .val (.int (f0_108_s0 i0 q1 q2)), .val (.int ((f0_61_s0 i0 q1) + (f0_122_s0 i0 q1 q2))), .val (.long (f0_136 i0 q1 q2)), .second, .val (.int (f0_r30 i0 q1 q2)), .val (.long (fn4 i0 (4 : Int32) q3 (f0_136 i0 q1 q2))), .second, .val (.int (f0_171_s0 i0 q1 q2 q3)), .val (.int (f0_186 i0 q1 q2 q3)), .val (.long (f0_199 i0 q1 q2 q3)), .second, .val (.int (f0_r38 i0 q1 q2 q3)), .val (.long (fn4 i0 (8 : Int32) q4 (f0_199 i0 q1 q2 q3))), .second, .unset, .unset] [(.int (f0_235_s0 i0 q1 q2 q3 q4))])) by
    by_cases hc227_42 : (fn4 i0 (8 : Int32) q4 (f0_199 i0 q1 q2 q3)) < (f0_199 i0 q1 q2 q3)
    · refine o_ifYes 234 X40 hx (hb hby at_227) (tlt (l_tlt hc227_42)).1 (by decide) (by decide) ?_
      refine o_iconst 235 X40 hx rfl (hb hby at_234) (0 : Int32) rfl ?_
      rw [show (f0_235_s0 i0 q1 q2 q3 q4) = (0 : Int32) from by unfold f0_235_s0; simp only [if_pos hc227_42]] at j235_41
      exact j235_41
    · refine o_ifNo 230 X40 hx rfl (hb hby at_227) (flt (l_flt hc227_42)).1 ?_
      refine o_iconst 231 X40 hx rfl (hb hby at_230) (1 : Int32) rfl ?_
      refine o_goto 235 X40 hx (hb hby at_231) (by decide) (by decide) ?_
      rw [show (f0_235_s0 i0 q1 q2 q3 q4) = (1 : Int32) from by unfold f0_235_s0; simp only [if_neg hc227_42]] at j235_41
      exact j235_41
  refine o_istore 237 X40 hx rfl (hb hby at_235) #[.val (.int i0), .val (.long q1), .second, .val (.long q2), .second, .val (.long q3), .second, .val (.long q4), .second, .val (.ref a1), .val (.long (2000 : Int64)), .second, .val (.long (fn4 i0 (1 : Int32) q1 (2000 : Int64))), .second, .val (.int (f0_49_s0 i0 q1)), .val (.int (f0_61_s0 i0 q1)), .val (.long (f0_74 i0 q1)), .second, .val (.int (f0_r22 i0 q1)), .val (.long (fn4 i0 (2 : Int32) q2 (f0_74 i0 q1))), .second, .val (.int (f0_108_s0 i0 q1 q2)), .val (.int ((f0_61_s0 i0 q1) + (f0_122_s0 i0 q1 q2))), .val (.long (f0_136 i0 q1 q2)), .second, .val (.int (f0_r30 i0 q1 q2)), .val (.long (fn4 i0 (4 : Int32) q3 (f0_136 i0 q1 q2))), .second, .val (.int (f0_171_s0 i0 q1 q2 q3)), .val (.int (f0_186 i0 q1 q2 q3)), .val (.long (f0_199 i0 q1 q2 q3)), .second, .val (.int (f0_r38 i0 q1 q2 q3)), .val (.long (fn4 i0 (8 : Int32) q4 (f0_199 i0 q1 q2 q3))), .second, .val (.int (f0_235_s0 i0 q1 q2 q3 q4)), .unset] rfl ?_
  refine o_aload 239 X40 hx rfl (hb hby at_237) rfl rfl ?_
  refine o_lload 241 X40 hx rfl (hb hby at_239) rfl ?_
  refine o_callVw 244 X40 hx rfl hZ hown (wd_48 hw) (wd_49 hw) (wd_51 hw) (wd_50 hw) (wd_2 hw) (wd_52 hw) (by decide) e40 NN38 (rm6 l Z a0 hw a1 (fn4 i0 (8 : Int32) q4 (f0_199 i0 q1 q2 q3)) (f0_nextReduce38 i0 q1 q2 q3) (f0_reductions38 i0 q1 q2 q3) T38.heap n0 sz39 ge2 E38 F38_nextReduce' F38_reductions') pd_lJrZ [(.long (fn4 i0 (8 : Int32) q4 (f0_199 i0 q1 q2 q3)))] [] rfl E38 rfl (by rw [hml]; rfl) rfl (hb hby at_241) 0 (Nat.le_of_eq rfl) (by decide) (by decide) (by decide) (by decide) fun v43 T43 L43 LL43 X43 Q43 NF43 => ?_
  obtain ⟨rfl, M43, K43, E43, F43_nextReduce, F43_reductions⟩ := Q43
  have F43_nextReduce' : Fld Z T43.heap a1 "com/example/roundelay/roundelay/sat/Schedule" "nextReduce" "J" (.long (f0_nextReduce43 i0 q1 q2 q3 q4)) := F43_nextReduce
  have F43_reductions' : Fld Z T43.heap a1 "com/example/roundelay/roundelay/sat/Schedule" "reductions" "I" (.int (f0_reductions43 i0 q1 q2 q3 q4)) := F43_reductions
  have NN43 := NF43 M43
  have sz44 : n0 ≤ T43.heap.size := Nat.le_trans sz39 K43.1
  show Go p.tables e below (EndE s room_1 (fun v h L => v = some (.int (1 : Int32)) ∧ Fr n0 L)) (T43.setTop (mkF m 244 #[.val (.int i0), .val (.long q1), .second, .val (.long q2), .second, .val (.long q3), .second, .val (.long q4), .second, .val (.ref a1), .val (.long (2000 : Int64)), .second, .val (.long (fn4 i0 (1 : Int32) q1 (2000 : Int64))), .second, .val (.int (f0_49_s0 i0 q1)), .val (.int (f0_61_s0 i0 q1)), .val (.long (f0_74 i0 q1)), .second, .val (.int (f0_r22 i0 q1)), .val (.long (fn4 i0 (2 : Int32) q2 (f0_74 i0 q1))), .second, .val (.int (f0_108_s0 i0 q1 q2)), .val (.int ((f0_61_s0 i0 q1) + (f0_122_s0 i0 q1 q2))), .val (.long (f0_136 i0 q1 q2)), .second, .val (.int (f0_r30 i0 q1 q2)), .val (.long (fn4 i0 (4 : Int32) q3 (f0_136 i0 q1 q2))), .second, .val (.int (f0_171_s0 i0 q1 q2 q3)), .val (.int (f0_186 i0 q1 q2 q3)), .val (.long (f0_199 i0 q1 q2 q3)), .second, .val (.int (f0_r38 i0 q1 q2 q3)), .val (.long (fn4 i0 (8 : Int32) q4 (f0_199 i0 q1 q2 q3))), .second, .val (.int (f0_235_s0 i0 q1 q2 q3 q4)), .unset] [(.int (f0_r43 i0 q1 q2 q3 q4))]))
  refine o_istore 246 X43 hx rfl (hb hby at_244) #[.val (.int i0), .val (.long q1), .second, .val (.long q2), .second, .val (.long q3), .second, .val (.long q4), .second, .val (.ref a1), .val (.long (2000 : Int64)), .second, .val (.long (fn4 i0 (1 : Int32) q1 (2000 : Int64))), .second, .val (.int (f0_49_s0 i0 q1)), .val (.int (f0_61_s0 i0 q1)), .val (.long (f0_74 i0 q1)), .second, .val (.int (f0_r22 i0 q1)), .val (.long (fn4 i0 (2 : Int32) q2 (f0_74 i0 q1))), .second, .val (.int (f0_108_s0 i0 q1 q2)), .val (.int ((f0_61_s0 i0 q1) + (f0_122_s0 i0 q1 q2))), .val (.long (f0_136 i0 q1 q2)), .second, .val (.int (f0_r30 i0 q1 q2)), .val (.long (fn4 i0 (4 : Int32) q3 (f0_136 i0 q1 q2))), .second, .val (.int (f0_171_s0 i0 q1 q2 q3)), .val (.int (f0_186 i0 q1 q2 q3)), .val (.long (f0_199 i0 q1 q2 q3)), .second, .val (.int (f0_r38 i0 q1 q2 q3)), .val (.long (fn4 i0 (8 : Int32) q4 (f0_199 i0 q1 q2 q3))), .second, .val (.int (f0_235_s0 i0 q1 q2 q3 q4)), .val (.int (f0_r43 i0 q1 q2 q3 q4))] rfl ?_
  refine o_iload 248 X43 hx rfl (hb hby at_246) rfl ?_
  refine o_iload 250 X43 hx rfl (hb hby at_248) rfl ?_
  suffices j279_45 : Go p.tables e below (EndE s room_1 (fun v h L => v = some (.int (1 : Int32)) ∧ Fr n0 L)) (T43.setTop (mkF m 279 #[.val (.int i0), .val (.long q1), .second, .val (.long q2), .second, .val (.long q3), .second, .val (.long q4), .second, .val (.ref a1), .val (.long (2000 : Int64)), .second, .val (.long (fn4 i0 (1 : Int32) q1 (2000 : Int64))), .second, .val (.int (f0_49_s0 i0 q1)), .val (.int (f0_61_s0 i0 q1)), .val (.long (f0_74 i0 q1)), .second, .val (.int (f0_r22 i0 q1)), .val (.long (fn4 i0 (2 : Int32) q2 (f0_74 i0 q1))), .second, .val (.int (f0_108_s0 i0 q1 q2)), .val (.int ((f0_61_s0 i0 q1) + (f0_122_s0 i0 q1 q2))), .val (.long (f0_136 i0 q1 q2)), .second, .val (.int (f0_r30 i0 q1 q2)), .val (.long (fn4 i0 (4 : Int32) q3 (f0_136 i0 q1 q2))), .second, .val (.int (f0_171_s0 i0 q1 q2 q3)), .val (.int (f0_186 i0 q1 q2 q3)), .val (.long (f0_199 i0 q1 q2 q3)), .second, .val (.int (f0_r38 i0 q1 q2 q3)), .val (.long (fn4 i0 (8 : Int32) q4 (f0_199 i0 q1 q2 q3))), .second, .val (.int (f0_235_s0 i0 q1 q2 q3 q4)), .val (.int (f0_r43 i0 q1 q2 q3 q4))] [(.int (f0_279_s0 i0 q1 q2 q3 q4))])) by
    by_cases hc250_46 : (f0_r22 i0 q1) = (f0_49_s0 i0 q1)
    · refine o_icmpNo 253 X43 hx rfl (hb hby at_250) (teq hc250_46).2 ?_
      refine o_iload 255 X43 hx rfl (hb hby at_253) rfl ?_
      refine o_iload 257 X43 hx rfl (hb hby at_255) rfl ?_
      by_cases hc257_47 : (f0_r30 i0 q1 q2) = (f0_108_s0 i0 q1 q2)
      · refine o_icmpNo 260 X43 hx rfl (hb hby at_257) (teq hc257_47).2 ?_
        refine o_iload 262 X43 hx rfl (hb hby at_260) rfl ?_
        refine o_iload 264 X43 hx rfl (hb hby at_262) rfl ?_
        by_cases hc264_48 : (f0_r38 i0 q1 q2 q3) = (f0_171_s0 i0 q1 q2 q3)
        · refine o_icmpNo 267 X43 hx rfl (hb hby at_264) (teq hc264_48).2 ?_
          refine o_iload 269 X43 hx rfl (hb hby at_267) rfl ?_
          refine o_iload 271 X43 hx rfl (hb hby at_269) rfl ?_
          by_cases hc271_49 : (f0_r43 i0 q1 q2 q3 q4) = (f0_235_s0 i0 q1 q2 q3 q4)
          · refine o_icmpNo 274 X43 hx rfl (hb hby at_271) (teq hc271_49).2 ?_
            refine o_iconst 275 X43 hx rfl (hb hby at_274) (1 : Int32) rfl ?_
            refine o_goto 279 X43 hx (hb hby at_275) (by decide) (by decide) ?_
            rw [show (f0_279_s0 i0 q1 q2 q3 q4) = (1 : Int32) from by unfold f0_279_s0; simp only [if_pos hc250_46, if_pos hc257_47, if_pos hc264_48, if_pos hc271_49]] at j279_45
            exact j279_45
          · refine o_icmpYes 278 X43 hx (hb hby at_271) (feq hc271_49).2 (by decide) (by decide) ?_
            refine o_iconst 279 X43 hx rfl (hb hby at_278) (0 : Int32) rfl ?_
            rw [show (f0_279_s0 i0 q1 q2 q3 q4) = (0 : Int32) from by unfold f0_279_s0; simp only [if_pos hc250_46, if_pos hc257_47, if_pos hc264_48, if_neg hc271_49]] at j279_45
            exact j279_45
        · refine o_icmpYes 278 X43 hx (hb hby at_264) (feq hc264_48).2 (by decide) (by decide) ?_
          refine o_iconst 279 X43 hx rfl (hb hby at_278) (0 : Int32) rfl ?_
          rw [show (f0_279_s0 i0 q1 q2 q3 q4) = (0 : Int32) from by unfold f0_279_s0; simp only [if_pos hc250_46, if_pos hc257_47, if_neg hc264_48]] at j279_45
          exact j279_45
      · refine o_icmpYes 278 X43 hx (hb hby at_257) (feq hc257_47).2 (by decide) (by decide) ?_
        refine o_iconst 279 X43 hx rfl (hb hby at_278) (0 : Int32) rfl ?_
        rw [show (f0_279_s0 i0 q1 q2 q3 q4) = (0 : Int32) from by unfold f0_279_s0; simp only [if_pos hc250_46, if_neg hc257_47]] at j279_45
        exact j279_45
    · refine o_icmpYes 278 X43 hx (hb hby at_250) (feq hc250_46).2 (by decide) (by decide) ?_
      refine o_iconst 279 X43 hx rfl (hb hby at_278) (0 : Int32) rfl ?_
      rw [show (f0_279_s0 i0 q1 q2 q3 q4) = (0 : Int32) from by unfold f0_279_s0; simp only [if_neg hc250_46]] at j279_45
      exact j279_45
  refine o_retN X43 hx .boolean (by simp) hret hlk (hb hby at_279) (by decide) (by decide) ?_
  exact ⟨show some (Value.int (nar .boolean (f0_279_s0 i0 q1 q2 q3 q4))) = some (Value.int (1 : Int32)) from by rw [← own_law i0 q1 q2 q3 q4, show (fn0 i0 q1 q2 q3 q4) = (nar .boolean (f0_279_s0 i0 q1 q2 q3 q4)) from by rfl], NN43⟩
set_option maxRecDepth 65536 in
set_option maxHeartbeats 40000000 in
theorem comes_1 {Post : Tables → Env → Array Value → State → Outcome → State → Prop} (hpost : ∀ tb e args s v u, (limb_1_1.after args s (.returned v) u = true ∧ limb_1_2.after args s (.returned v) u = true ∧ True) → FrameEnd s (.returned v) u (Jvm.fieldLocs frame_1_writes args s ++ Jvm.arrayLocs frame_1_arrays args s ++ Jvm.staticLocs frame_1_statics s) 16 128 → Post tb e args s (.returned v) u) :
    ArmFor flags0 classFile x code maxLocals ret World_1 tables_1 room_1 Calls_1 rest_1 Pre_1 Post := by
  intro l hfl _ _ p e ha hc hk s m args below hf hA hF happ hP
  obtain ⟨hcalls, hrest, hpre⟩ := hP
  obtain ⟨-, -, -, hnamed, -, -, -, hat⟩ := (Spec.applies_iff hf).mp happ
  obtain ⟨hg, hn⟩ := and_e (Cond.before_iff.mp (show (Jvm.Cond.and given_1 narrow_1).before args s = true from hpre))
  obtain ⟨gc, g0⟩ := and_e hg
  obtain ⟨ga0, g1⟩ := and_e g0
  obtain ⟨ga1, g2⟩ := and_e g1
  obtain ⟨ga2, g3⟩ := and_e g2
  obtain ⟨ga3, g4⟩ := and_e g3
  obtain ⟨w0, w1, w2, w3, w4, rfl⟩ : ∃ w0 w1 w2 w3 w4 : Value, args = #[w0, w1, w2, w3, w4] := by
    have hs : args.size = 5 := by simpa [Cond.value, given_1] using gc
    obtain ⟨L⟩ := args
    match L, hs with
    | [w0, w1, w2, w3, w4], _ => exact ⟨w0, w1, w2, w3, w4, rfl⟩
  have hw := fun d (hd : d ∈ tables_1) => atoms_spec (ws := Jvm.Cond.code x code maxLocals ret :: tables_1) hat d (List.mem_cons_of_mem _ hd)
  obtain ⟨i0, ei0⟩ := is_v ga0
  obtain rfl : w0 = (.int i0) := Option.some.inj ei0
  obtain ⟨i1, ei1⟩ := isL_v ga1
  obtain rfl : w1 = (.long i1) := Option.some.inj ei1
  obtain ⟨i2, ei2⟩ := isL_v ga2
  obtain rfl : w2 = (.long i2) := Option.some.inj ei2
  obtain ⟨i3, ei3⟩ := isL_v ga3
  obtain rfl : w3 = (.long i3) := Option.some.inj ei3
  obtain ⟨i4, ei4⟩ := isL_v g4
  obtain rfl : w4 = (.long i4) := Option.some.inj ei4
  obtain ⟨n, o, h1, h2, h3, _, L, rfl, ⟨rfl, N⟩, hq⟩ := rm0 l s _ hw tables_1 i0 i1 i2 i3 i4 s.heap s.heap.size (Nat.le_refl _) p e ha hc hk s m _ below hf ((Spec.applies_iff_loose hf).mp happ).1 ⟨rfl, State.Warmed39.refl s, rfl⟩ trivial
  refine ⟨n, _, h1, h2, h3, hpost _ _ _ _ _ _ ⟨Cond.after_iff.mpr rfl, Cond.after_iff.mpr (eq_i res_at (Term.int_eval (1)) rfl), trivial⟩ ⟨hq.1, hq.2.1, (hq.2.2.sift fun y hy => Or.inr (N y hy)).mono (by decide) (by decide)⟩⟩
theorem main_1_1 : Claimed_1_1 := comes_1 fun _ _ _ _ _ _ h hF => ⟨h.1, hF⟩
theorem main_1_2 : Claimed_1_2 := comes_1 fun _ _ _ _ _ _ h hF => ⟨h.2.1, hF⟩
end Jvm.Pilot.@@N@@
namespace Jvm.Pilot.@@N@@
open Jvm Jvm.ClassFile Sem Op Lib Jvm.Free Jvm.Stand Jvm.Pilot.@@N@@.Jvm.D
/-! MADE BY PROGRAM (witnessworld.py) out of the Statement's table words and the real class files: 10 classes; the members and pool entries that the words name. The judged class is class 1, her method 3. -/
namespace start1
open Jvm.ClassFile
def u (s : String) : CpInfo := .utf8 (stringToUtf16 s)
/-- a pool by its gaps: so many unusable entries, then the entry; so many at the end -/
def gap : Nat → List CpInfo → List CpInfo
  | 0, r => r
  | n + 1, r => .unusable :: gap n r
def poolList (es : List (Nat × CpInfo)) (last : Nat) : List CpInfo := es.foldr (fun e r => gap e.1 (e.2 :: r)) (gap last [])
def pool (es : List (Nat × CpInfo)) (last : Nat) : Array CpInfo := ⟨poolList es last⟩
def fileOf (pool : Array CpInfo) (this : Nat) (attrs : Array Attribute := #[]) (ms : Array MethodInfo := #[]) (fl : Nat := 33) (sup : Nat := 0) (ifs : Array Nat := #[]) (fds : Array FieldInfo := #[]) : ClassFile where
  minorVersion := 0
  majorVersion := 65
  constantPool := pool
  accessFlags := fl
  thisClass := this
  superClass := sup
  interfaces := ifs
  fields := fds
  methods := ms
  attributes := attrs
def plain (name : String) (sup : Option ClassId) : Class where
  name := name
  kind := .ordinary
  loader := none
  accessFlags := 33
  super := sup
  interfaces := #[]
  cf := none
  fields := #[]
  methods := #[]
  instanceTypes := #[]
  staticTypes := #[]
  resolved := #[]
  callSites := []
  init := .initialized
  statics := none
  mirror := none

def pool0 : Array CpInfo := pool [(5, u "<init>"), (0, u "()V"), (1, .class_ 10), (1, u "java/lang/Object")] 113

def k0c0 : Code := { maxStack := 0, maxLocals := 1, code := object_method_1_code, exceptionTable := #[], attributes := #[] }
def k0m0 : Method := { name := "<init>", desc := "()V", sig := { parameters := [], returnType := none }, accessFlags := 1, code := some k0c0 }
/-- java/lang/Object -/
def k0 : Class := { plain "java/lang/Object" none with
  accessFlags := 33
  interfaces := #[]
  cf := some (fileOf pool0 8 #[] #[{ accessFlags := 1, nameIndex := 5, descriptorIndex := 6, attributes := #[] }] 33 0 #[] #[])
  fields := #[]
  methods := #[k0m0]
  instanceTypes := #[]
  staticTypes := #[]
  resolved := Array.replicate 124 none
  statics := none }

def pool1 : Array CpInfo := pool [(2, .class_ 4), (1, u "java/lang/Object"), (0, u "<init>"), (0, u "()V"), (0, .long 4611686018427387903), (1, .long 16), (1, .long 31), (1, .long 2000), (1, .long 300), (1, .class_ 18), (0, u "com/example/roundelay/roundelay/sat/Schedule"), (0, .methodref 17 20), (0, .nameAndType 5 21), (0, u "(Z)V"), (0, .methodref 23 24), (0, .class_ 25), (0, .nameAndType 26 27), (0, u "com/example/roundelay/roundelay/sat/ScheduleReduceDuePinLaw"), (0, u "pick"), (0, u "(IIJJ)J"), (0, .methodref 23 29), (0, .nameAndType 30 31), (0, u "after"), (0, u "(ZJIJ)J"), (0, .methodref 17 33), (0, .nameAndType 34 35), (0, u "reduceDue"), (0, u "(J)Z"), (3, u "law"), (0, u "(IJJJJ)Z")] 2

def k1m0 : Method := { name := "<init>", desc := "()V", sig := { parameters := [], returnType := none }, accessFlags := 2, code := none }
def k1c1 : Code := { maxStack := 6, maxLocals := 6, code := method_2_code, exceptionTable := #[], attributes := #[] }
def k1m1 : Method := { name := "pick", desc := "(IIJJ)J", sig := { parameters := [.int, .int, .long, .long], returnType := some .long }, accessFlags := 10, code := some k1c1 }
def k1c2 : Code := { maxStack := 6, maxLocals := 6, code := method_3_code, exceptionTable := #[], attributes := #[] }
def k1m2 : Method := { name := "after", desc := "(ZJIJ)J", sig := { parameters := [.boolean, .long, .int, .long], returnType := some .long }, accessFlags := 10, code := some k1c2 }
def k1c3 : Code := { maxStack := 6, maxLocals := 37, code := code, exceptionTable := #[], attributes := #[] }
def k1m3 : Method := { name := "law", desc := "(IJJJJ)Z", sig := { parameters := [.int, .long, .long, .long, .long], returnType := some .boolean }, accessFlags := 9, code := some k1c3 }
/-- com/example/roundelay/roundelay/sat/ScheduleReduceDuePinLaw -/
def k1 : Class := { plain "com/example/roundelay/roundelay/sat/ScheduleReduceDuePinLaw" (some 0) with
  accessFlags := 49
  interfaces := #[]
  cf := some (fileOf pool1 23 #[] #[{ accessFlags := 2, nameIndex := 5, descriptorIndex := 6, attributes := #[] }, { accessFlags := 10, nameIndex := 26, descriptorIndex := 27, attributes := #[] }, { accessFlags := 10, nameIndex := 30, descriptorIndex := 31, attributes := #[] }, { accessFlags := 9, nameIndex := 39, descriptorIndex := 40, attributes := #[] }] 49 2 #[] #[])
  fields := #[]
  methods := #[k1m0, k1m1, k1m2, k1m3]
  instanceTypes := #[]
  staticTypes := #[]
  resolved := Array.replicate 43 none
  statics := none }

def pool2 : Array CpInfo := pool [(1, .methodref 2 3), (0, .class_ 4), (0, .nameAndType 5 6), (0, u "java/lang/Object"), (0, u "<init>"), (0, u "()V"), (0, .class_ 8), (0, u "com/example/roundelay/roundelay/sat/MovingAverage"), (0, .class_ 10), (0, u "com/example/roundelay/roundelay/sat/Schedule"), (0, .double 4584304132692975288), (1, .methodref 7 14), (0, .nameAndType 5 15), (0, u "(D)V"), (0, .fieldref 9 17), (0, .nameAndType 18 19), (0, u "fastLbd"), (0, u "Lcom/example/roundelay/roundelay/sat/MovingAverage;"), (0, .double 4532020583610935537), (1, .fieldref 9 23), (0, .nameAndType 24 19), (0, u "slowLbd"), (0, .long 1000), (1, .fieldref 9 28), (0, .nameAndType 29 30), (0, u "modeSwitch"), (0, u "J"), (0, .fieldref 9 32), (0, .nameAndType 33 30), (0, u "modeLength"), (0, .long 2000), (1, .fieldref 9 37), (0, .nameAndType 38 30), (0, u "nextReduce"), (0, .fieldref 9 40), (0, .nameAndType 41 30), (0, u "nextRephase"), (0, .fieldref 9 43), (0, .nameAndType 44 45), (0, u "stable"), (0, u "Z"), (7, u "stableRestarts"), (0, u "I"), (2, u "lastRestart"), (13, .class_ 73), (1, u "com/example/roundelay/roundelay/sat/Schedule$Rephase"), (4, u "REPHASES"), (0, u "[Lcom/example/roundelay/roundelay/sat/Schedule$Rephase;"), (2, u "rephasings"), (0, .fieldref 9 84), (0, .nameAndType 85 54), (0, u "reductions"), (0, .long 300), (10, u "FAST_ALPHA"), (0, u "D"), (1, u "SLOW_ALPHA"), (0, u "RESTART_MARGIN"), (0, u "RESTART_MIN"), (1, u "LUBY_UNIT"), (1, u "FIRST_MODE_LENGTH"), (1, u "FIRST_REDUCE"), (1, u "REDUCE_STEP"), (1, u "REPHASE_UNIT"), (0, u "(Z)V"), (6, u "(J)Z"), (3, u "reduceDue")] 6

def k2c0 : Code := { maxStack := 5, maxLocals := 2, code := prog_55_method_1_code, exceptionTable := #[], attributes := #[] }
def k2m0 : Method := { name := "<init>", desc := "(Z)V", sig := { parameters := [.boolean], returnType := none }, accessFlags := 0, code := some k2c0 }
def k2c1 : Code := { maxStack := 7, maxLocals := 3, code := prog_55_method_6_code, exceptionTable := #[], attributes := #[] }
def k2m1 : Method := { name := "reduceDue", desc := "(J)Z", sig := { parameters := [.long], returnType := some .boolean }, accessFlags := 0, code := some k2c1 }
/-- com/example/roundelay/roundelay/sat/Schedule -/
def k2 : Class := { plain "com/example/roundelay/roundelay/sat/Schedule" (some 0) with
  accessFlags := 48
  interfaces := #[]
  cf := some (fileOf pool2 9 #[.nestMembers #[71]] #[{ accessFlags := 0, nameIndex := 5, descriptorIndex := 113, attributes := #[] }, { accessFlags := 0, nameIndex := 124, descriptorIndex := 120, attributes := #[] }] 48 2 #[] #[{ accessFlags := 26, nameIndex := 97, descriptorIndex := 98, attributes := #[] }, { accessFlags := 26, nameIndex := 100, descriptorIndex := 98, attributes := #[] }, { accessFlags := 26, nameIndex := 101, descriptorIndex := 98, attributes := #[] }, { accessFlags := 26, nameIndex := 102, descriptorIndex := 54, attributes := #[] }, { accessFlags := 26, nameIndex := 104, descriptorIndex := 54, attributes := #[] }, { accessFlags := 26, nameIndex := 106, descriptorIndex := 54, attributes := #[] }, { accessFlags := 26, nameIndex := 108, descriptorIndex := 54, attributes := #[] }, { accessFlags := 26, nameIndex := 110, descriptorIndex := 54, attributes := #[] }, { accessFlags := 26, nameIndex := 112, descriptorIndex := 54, attributes := #[] }, { accessFlags := 26, nameIndex := 78, descriptorIndex := 79, attributes := #[] }, { accessFlags := 18, nameIndex := 18, descriptorIndex := 19, attributes := #[] }, { accessFlags := 18, nameIndex := 24, descriptorIndex := 19, attributes := #[] }, { accessFlags := 2, nameIndex := 44, descriptorIndex := 45, attributes := #[] }, { accessFlags := 2, nameIndex := 29, descriptorIndex := 30, attributes := #[] }, { accessFlags := 2, nameIndex := 33, descriptorIndex := 30, attributes := #[] }, { accessFlags := 2, nameIndex := 57, descriptorIndex := 30, attributes := #[] }, { accessFlags := 2, nameIndex := 53, descriptorIndex := 54, attributes := #[] }, { accessFlags := 2, nameIndex := 38, descriptorIndex := 30, attributes := #[] }, { accessFlags := 2, nameIndex := 85, descriptorIndex := 54, attributes := #[] }, { accessFlags := 2, nameIndex := 41, descriptorIndex := 30, attributes := #[] }, { accessFlags := 2, nameIndex := 82, descriptorIndex := 54, attributes := #[] }])
  fields := #[{ name := "FAST_ALPHA", type := .double, accessFlags := 26, slot := 0, constantValue := 0 }, { name := "SLOW_ALPHA", type := .double, accessFlags := 26, slot := 1, constantValue := 0 }, { name := "RESTART_MARGIN", type := .double, accessFlags := 26, slot := 2, constantValue := 0 }, { name := "RESTART_MIN", type := .int, accessFlags := 26, slot := 3, constantValue := 0 }, { name := "LUBY_UNIT", type := .int, accessFlags := 26, slot := 4, constantValue := 0 }, { name := "FIRST_MODE_LENGTH", type := .int, accessFlags := 26, slot := 5, constantValue := 0 }, { name := "FIRST_REDUCE", type := .int, accessFlags := 26, slot := 6, constantValue := 0 }, { name := "REDUCE_STEP", type := .int, accessFlags := 26, slot := 7, constantValue := 0 }, { name := "REPHASE_UNIT", type := .int, accessFlags := 26, slot := 8, constantValue := 0 }, { name := "REPHASES", type := (.array (.object "com/example/roundelay/roundelay/sat/Schedule$Rephase")), accessFlags := 26, slot := 9, constantValue := 0 }, { name := "fastLbd", type := (.object "com/example/roundelay/roundelay/sat/MovingAverage"), accessFlags := 18, slot := 0, constantValue := 0 }, { name := "slowLbd", type := (.object "com/example/roundelay/roundelay/sat/MovingAverage"), accessFlags := 18, slot := 1, constantValue := 0 }, { name := "stable", type := .boolean, accessFlags := 2, slot := 2, constantValue := 0 }, { name := "modeSwitch", type := .long, accessFlags := 2, slot := 3, constantValue := 0 }, { name := "modeLength", type := .long, accessFlags := 2, slot := 4, constantValue := 0 }, { name := "lastRestart", type := .long, accessFlags := 2, slot := 5, constantValue := 0 }, { name := "stableRestarts", type := .int, accessFlags := 2, slot := 6, constantValue := 0 }, { name := "nextReduce", type := .long, accessFlags := 2, slot := 7, constantValue := 0 }, { name := "reductions", type := .int, accessFlags := 2, slot := 8, constantValue := 0 }, { name := "nextRephase", type := .long, accessFlags := 2, slot := 9, constantValue := 0 }, { name := "rephasings", type := .int, accessFlags := 2, slot := 10, constantValue := 0 }]
  methods := #[k2m0, k2m1]
  instanceTypes := #[(.object "com/example/roundelay/roundelay/sat/MovingAverage"), (.object "com/example/roundelay/roundelay/sat/MovingAverage"), .boolean, .long, .long, .long, .int, .long, .int, .long, .int]
  staticTypes := #[.double, .double, .double, .int, .int, .int, .int, .int, .int, (.array (.object "com/example/roundelay/roundelay/sat/Schedule$Rephase"))]
  resolved := Array.replicate 131 none
  statics := none }

def pool3 : Array CpInfo := pool [(1, .methodref 2 3), (0, .class_ 4), (0, .nameAndType 5 6), (0, u "java/lang/Object"), (0, u "<init>"), (0, u "()V"), (0, .fieldref 8 9), (0, .class_ 10), (0, .nameAndType 11 12), (0, u "com/example/roundelay/roundelay/sat/MovingAverage"), (0, u "unseen"), (0, u "D"), (0, .fieldref 8 14), (0, .nameAndType 15 12), (0, u "alpha"), (2, u "biased"), (0, u "(D)V")] 8

def k3c0 : Code := { maxStack := 3, maxLocals := 3, code := prog_47_method_1_code, exceptionTable := #[], attributes := #[] }
def k3m0 : Method := { name := "<init>", desc := "(D)V", sig := { parameters := [.double], returnType := none }, accessFlags := 0, code := some k3c0 }
/-- com/example/roundelay/roundelay/sat/MovingAverage -/
def k3 : Class := { plain "com/example/roundelay/roundelay/sat/MovingAverage" (some 0) with
  accessFlags := 48
  interfaces := #[]
  cf := some (fileOf pool3 8 #[] #[{ accessFlags := 0, nameIndex := 5, descriptorIndex := 19, attributes := #[] }] 48 2 #[] #[{ accessFlags := 18, nameIndex := 15, descriptorIndex := 12, attributes := #[] }, { accessFlags := 2, nameIndex := 18, descriptorIndex := 12, attributes := #[] }, { accessFlags := 2, nameIndex := 11, descriptorIndex := 12, attributes := #[] }])
  fields := #[{ name := "alpha", type := .double, accessFlags := 18, slot := 0, constantValue := 0 }, { name := "biased", type := .double, accessFlags := 2, slot := 1, constantValue := 0 }, { name := "unseen", type := .double, accessFlags := 2, slot := 2, constantValue := 0 }]
  methods := #[k3m0]
  instanceTypes := #[.double, .double, .double]
  staticTypes := #[]
  resolved := Array.replicate 28 none
  statics := none }

def pool4 : Array CpInfo := pool [(1, u "java/lang/Cloneable"), (0, .class_ 1), (0, u "java/lang/Object"), (0, .class_ 3)] 3

/-- java/lang/Cloneable -/
def k4 : Class := { plain "java/lang/Cloneable" (some 0) with
  accessFlags := 1537
  interfaces := #[]
  cf := some (fileOf pool4 2 #[] #[] 1537 4 #[] #[])
  fields := #[]
  methods := #[]
  instanceTypes := #[]
  staticTypes := #[]
  resolved := Array.replicate 8 none
  statics := none }

def pool5 : Array CpInfo := pool [(1, u "java/io/Serializable"), (0, .class_ 1), (0, u "java/lang/Object"), (0, .class_ 3)] 3

/-- java/io/Serializable -/
def k5 : Class := { plain "java/io/Serializable" (some 0) with
  accessFlags := 1537
  interfaces := #[]
  cf := some (fileOf pool5 2 #[] #[] 1537 4 #[] #[])
  fields := #[]
  methods := #[]
  instanceTypes := #[]
  staticTypes := #[]
  resolved := Array.replicate 8 none
  statics := none }

/-- the primitive byte -/
def k6 : Class := { plain "byte" none with kind := .primitive 'B', accessFlags := 0x411 }
/-- [B -/
def k7 : Class := { plain "[B" (some 0) with kind := .array 6 .byte, interfaces := #[4, 5], accessFlags := 1041 }

/-- the primitive int -/
def k8 : Class := { plain "int" none with kind := .primitive 'I', accessFlags := 0x411 }
/-- [I -/
def k9 : Class := { plain "[I" (some 0) with kind := .array 8 .int, interfaces := #[4, 5], accessFlags := 1041 }

def heap : Heap := #[]
def classes : Array Class := #[k0, k1, k2, k3, k4, k5, k6, k7, k8, k9]
def interned : List (Array UInt16 × Addr) := []
def slotsUsed : Nat := 0
def theMethod : MethodId := ⟨1, 3⟩
def args0 : Array Value := #[.int 5, .long 5, .long 5, .long 5, .long 5]
def aboutOver (below : List Frame) : State where
  vm := { classes := classes, interned := interned.toArray }
  heap := heap
  slotsUsed := slotsUsed
  threads := #[{ frames := .invoking theMethod args0 :: below }]
def below0 : List Frame := [.native { method := ⟨0, 0⟩, args := #[] }]
def about1 : State := aboutOver below0
def p0 : Program := .bare "" "" ""
def e0 : Env := launch0.env 0 0 0
theorem w_frames : about1.frames = Frame.invoking theMethod args0 :: below0 := rfl
set_option maxRecDepth 65536 in
theorem w_args : argsFit about1.vm theMethod args0 = true := by decide +kernel
set_option maxRecDepth 65536 in
theorem w_heap : heapFits about1 = true := by decide +kernel
set_option maxRecDepth 65536 in
theorem w_runnable : about1.curStatus? = some .runnable := by decide +kernel
set_option maxRecDepth 65536 in
theorem w_alone : about1.alone = true := by decide +kernel
set_option maxRecDepth 65536 in
theorem w_named : about1.methodNamed? x = some theMethod := by decide +kernel
set_option maxRecDepth 65536 in
theorem w_hears : about1.hears theMethod below0 = true := by decide +kernel
set_option maxRecDepth 65536 in
theorem w_ripe : about1.ripe theMethod args0 below0 = true := by decide +kernel
theorem w_running : about1.status = .running := rfl
set_option maxRecDepth 65536 in
theorem w_room : about1.hasRoom e0.platform room_1 = true :=
  launch0.hasRoom_least _ room_1 (by decide +kernel) (by decide +kernel) (by decide +kernel) (by decide +kernel) (by decide +kernel) (by decide +kernel)
theorem allAtoms_all (ts : List Jvm.Cond) (a : Array Jvm.Value) (st : Jvm.State) : (allAtoms ts).before a st = ts.all (fun c => c.before a st) := by
  induction ts with
  | nil => rfl
  | cons c t ih =>
    show (Jvm.Cond.and c (allAtoms t)).before a st = _
    rw [Jvm.Cond.before_and, ih, List.all_cons]
def words1 : List Jvm.Cond := Jvm.Cond.code x code maxLocals ret :: tables_1
/-- a 'code' word, met by the world's own term for the bytes: nothing is compared byte by byte -/
theorem code_word {y : MethodName} {bytes : ByteArray} {mx : Nat} {rt : Option FieldType} {a : Array Value} {s : State} {m : MethodId} {meth : Method} {c : Code} (h1 : s.methodNamed? y = some m) (h2 : s.vm.method? m = some meth) (h3 : meth.code = some c) (h4 : c.code = bytes)
    (h5 : (c.maxLocals == mx && c.exceptionTable.isEmpty && decide (c.maxStack ≤ mostOperands) && decide (meth.sig.returnType = rt) && !meth.locks && decide (parseMethodDescriptor y.desc = some meth.sig)) = true) : (Jvm.Cond.code y bytes mx rt).before a s = true := by
  simp only [Bool.and_eq_true, beq_iff_eq, Bool.not_eq_true', decide_eq_true_eq] at h5
  obtain ⟨⟨⟨⟨⟨g1, g2⟩, g3⟩, g4⟩, g5⟩, g6⟩ := h5
  simp [Cond.before, Cond.holds, Cond.value, h1, h2, h3, h4, g1, g2, g3, g4, g5, g6]
def isCode : Jvm.Cond → Bool
  | .code _ _ _ _ => true
  | _ => false
theorem all_split {L : List Jvm.Cond} {P : Jvm.Cond → Bool} (h1 : L.all (fun c => isCode c || P c) = true) (h2 : ∀ c ∈ L.filter isCode, P c = true) : L.all P = true := by
  refine List.all_eq_true.mpr fun c hc => ?_
  have h := List.all_eq_true.mp h1 c hc
  rcases Bool.eq_false_or_eq_true (isCode c) with hi | hi
  · exact h2 c (List.mem_filter.mpr ⟨hc, hi⟩)
  · simpa [hi] using h
set_option maxRecDepth 65536 in
theorem w_c0 : (Jvm.Cond.code x code maxLocals ret).before args0 about1 = true := code_word (m := ⟨1, 3⟩) (meth := k1m3) (c := k1c3) (by decide +kernel) rfl rfl rfl (by decide +kernel)
set_option maxRecDepth 65536 in
theorem w_c1 : (Jvm.Cond.code ({ cls := "com/example/roundelay/roundelay/sat/Schedule", name := "<init>", desc := "(Z)V" } : Jvm.MethodName) prog_55_method_1_code (2 : Nat) (Option.none : Option Jvm.ClassFile.FieldType)).before args0 about1 = true := code_word (m := ⟨2, 0⟩) (meth := k2m0) (c := k2c0) (by decide +kernel) rfl rfl rfl (by decide +kernel)
set_option maxRecDepth 65536 in
theorem w_c2 : (Jvm.Cond.code ({ cls := "java/lang/Object", name := "<init>", desc := "()V" } : Jvm.MethodName) object_method_1_code (1 : Nat) (Option.none : Option Jvm.ClassFile.FieldType)).before args0 about1 = true := code_word (m := ⟨0, 0⟩) (meth := k0m0) (c := k0c0) (by decide +kernel) rfl rfl rfl (by decide +kernel)
set_option maxRecDepth 65536 in
theorem w_c3 : (Jvm.Cond.code ({ cls := "com/example/roundelay/roundelay/sat/MovingAverage", name := "<init>", desc := "(D)V" } : Jvm.MethodName) prog_47_method_1_code (3 : Nat) (Option.none : Option Jvm.ClassFile.FieldType)).before args0 about1 = true := code_word (m := ⟨3, 0⟩) (meth := k3m0) (c := k3c0) (by decide +kernel) rfl rfl rfl (by decide +kernel)
set_option maxRecDepth 65536 in
theorem w_c4 : (Jvm.Cond.code ({ cls := "com/example/roundelay/roundelay/sat/ScheduleReduceDuePinLaw", name := "pick", desc := "(IIJJ)J" } : Jvm.MethodName) method_2_code (6 : Nat) (Option.some Jvm.ClassFile.FieldType.long)).before args0 about1 = true := code_word (m := ⟨1, 1⟩) (meth := k1m1) (c := k1c1) (by decide +kernel) rfl rfl rfl (by decide +kernel)
set_option maxRecDepth 65536 in
theorem w_c5 : (Jvm.Cond.code ({ cls := "com/example/roundelay/roundelay/sat/ScheduleReduceDuePinLaw", name := "after", desc := "(ZJIJ)J" } : Jvm.MethodName) method_3_code (6 : Nat) (Option.some Jvm.ClassFile.FieldType.long)).before args0 about1 = true := code_word (m := ⟨1, 2⟩) (meth := k1m2) (c := k1c2) (by decide +kernel) rfl rfl rfl (by decide +kernel)
set_option maxRecDepth 65536 in
theorem w_c6 : (Jvm.Cond.code ({ cls := "com/example/roundelay/roundelay/sat/Schedule", name := "reduceDue", desc := "(J)Z" } : Jvm.MethodName) prog_55_method_6_code (3 : Nat) (Option.some Jvm.ClassFile.FieldType.boolean)).before args0 about1 = true := code_word (m := ⟨2, 1⟩) (meth := k2m1) (c := k2c1) (by decide +kernel) rfl rfl rfl (by decide +kernel)
def codes1 : List Jvm.Cond := [Jvm.Cond.code x code maxLocals ret, Jvm.Cond.code ({ cls := "com/example/roundelay/roundelay/sat/Schedule", name := "<init>", desc := "(Z)V" } : Jvm.MethodName) prog_55_method_1_code (2 : Nat) (Option.none : Option Jvm.ClassFile.FieldType), Jvm.Cond.code ({ cls := "java/lang/Object", name := "<init>", desc := "()V" } : Jvm.MethodName) object_method_1_code (1 : Nat) (Option.none : Option Jvm.ClassFile.FieldType), Jvm.Cond.code ({ cls := "com/example/roundelay/roundelay/sat/MovingAverage", name := "<init>", desc := "(D)V" } : Jvm.MethodName) prog_47_method_1_code (3 : Nat) (Option.none : Option Jvm.ClassFile.FieldType), Jvm.Cond.code ({ cls := "com/example/roundelay/roundelay/sat/ScheduleReduceDuePinLaw", name := "pick", desc := "(IIJJ)J" } : Jvm.MethodName) method_2_code (6 : Nat) (Option.some Jvm.ClassFile.FieldType.long), Jvm.Cond.code ({ cls := "com/example/roundelay/roundelay/sat/ScheduleReduceDuePinLaw", name := "after", desc := "(ZJIJ)J" } : Jvm.MethodName) method_3_code (6 : Nat) (Option.some Jvm.ClassFile.FieldType.long), Jvm.Cond.code ({ cls := "com/example/roundelay/roundelay/sat/Schedule", name := "reduceDue", desc := "(J)Z" } : Jvm.MethodName) prog_55_method_6_code (3 : Nat) (Option.some Jvm.ClassFile.FieldType.boolean)]
set_option maxRecDepth 65536 in
theorem codes_eq : words1.filter isCode = codes1 := rfl
theorem w_codes : ∀ c ∈ words1.filter isCode, c.before args0 about1 = true := by
  rw [codes_eq]
  intro c hc
  simp only [codes1, List.mem_cons, List.not_mem_nil, or_false] at hc
  rcases hc with rfl | rfl | rfl | rfl | rfl | rfl | rfl
  · exact w_c0
  · exact w_c1
  · exact w_c2
  · exact w_c3
  · exact w_c4
  · exact w_c5
  · exact w_c6
set_option maxRecDepth 65536 in
theorem w_t1 : (words1.take 24).all (fun c => isCode c || c.before args0 about1) = true := by decide +kernel
set_option maxRecDepth 65536 in
theorem w_t2 : ((words1.drop 24).take 24).all (fun c => isCode c || c.before args0 about1) = true := by decide +kernel
set_option maxRecDepth 65536 in
theorem w_t3 : ((words1.drop 24).drop 24).all (fun c => isCode c || c.before args0 about1) = true := by decide +kernel
theorem w_tables : (allAtoms (Jvm.Cond.code x code maxLocals ret :: tables_1)).before args0 about1 = true := by
  rw [allAtoms_all]
  show words1.all (fun c => c.before args0 about1) = true
  refine all_split ?_ w_codes
  rw [← List.take_append_drop 24 words1, List.all_append, w_t1, ← List.take_append_drop 24 (words1.drop 24), List.all_append, w_t2, w_t3]
  rfl
set_option maxRecDepth 65536 in
theorem w_case : (Jvm.Cond.and given_1 narrow_1).before args0 about1 = true := by decide +kernel
theorem w_applies : (headSpec (Jvm.Cond.code x code maxLocals ret :: tables_1) room_1).applies x e0.platform about1 = true :=
  (Spec.applies_iff w_frames).mpr ⟨w_running, w_runnable, w_alone, w_named, w_hears, w_ripe, w_room, w_tables⟩
theorem atStart : AtStart classFile x code maxLocals ret World_1 tables_1 room_1 Calls_1 rest_1 Pre_1 launch0 p0 e0 about1 theMethod args0 below0 :=
  ⟨lists_1, trivial, launch0.admits_env _ _ _, launch0.least_env, fairChoices_fair.cas, fairChoices_fair.clock, w_frames, w_args, w_heap, w_applies, trivial, trivial, w_case⟩
end start1
theorem witness_1 : WitnessClaimed_1 := ⟨start1.p0, start1.e0, start1.about1, start1.theMethod, start1.args0, start1.below0, start1.atStart⟩
end Jvm.Pilot.@@N@@
