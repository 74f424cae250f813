import JvmDerived
import JvmDerived.Pilot.@@N@@Statement
import JvmDerived.Pilot.@@N@@Code
set_option linter.unusedVariables false
set_option linter.unusedSimpArgs false
namespace Jvm.Pilot.@@N@@
open Jvm Jvm.ClassFile Sem Op Lib Jvm.Free Jvm.Stand Jvm.LawKit Jvm.RoadKit Bundle Jvm.Pilot.@@N@@.Jvm.D
/-- from S the run goes on below 'below', ends, and E holds of the end -/
def Go (tb : Tables) (e : Env) (below : List Frame) (E : State → Outcome → Prop) (S : State) : Prop := ∃ s₂ o, Steps tb e below S s₂ ∧ s₂.status = .running ∧ Ended s₂ below o ∧ E s₂ o
theorem Go.via {tb : Tables} {e : Env} {below : List Frame} {E : State → Outcome → Prop} {S S' : State} (k : ∀ t, Steps tb e below S' t → Steps tb e below S t) (h : Go tb e below E S') : Go tb e below E S := by
  obtain ⟨a, b, c, d⟩ := h; exact ⟨a, b, k _ c, d⟩
/-- a body's contract, short -/
abbrev MetP (l : Launch) (y : MethodName) (bytes : ByteArray) (maxL : Nat) (ret : Option FieldType) (ws : List Jvm.Cond) (rm : Room) (Z : State) (as' : Array Value) (h0 : Heap) (Q : Option Value → Heap → List Loc → Prop) : Prop :=
  MetFree l y (head1 (Jvm.Cond.code y bytes maxL ret :: ws) rm) (fun a U => a = as' ∧ Z.Warmed39 U.vm ∧ U.heap = h0) (fun _ _ _ _ _ => True) (fun _ U o U' => ∃ v L, o = .returned v ∧ Q v U'.heap L ∧ FrameEnd U o U' L rm.cells rm.slots)
/-- it returned r and wrote and made nothing -/
def Pure (r : Value) (h0 : Heap) (v : Option Value) (h : Heap) (L : List Loc) : Prop := v = some r ∧ L = [] ∧ h = h0
abbrev EndE (s : State) (rm : Room) (Q : Option Value → Heap → List Loc → Prop) : State → Outcome → Prop := fun s₂ o => ∃ v L, o = .returned v ∧ Q v s₂.heap L ∧ FrameEnd s o s₂ L rm.cells rm.slots
theorem met_go {l : Launch} {y : MethodName} {bytes : ByteArray} {maxL : Nat} {ret : Option FieldType} {ws : List Jvm.Cond} {rm : Room} {Z : State} {as' : Array Value} {h0 : Heap} {Q : Option Value → Heap → List Loc → Prop} (hpl : plainFor y = true)
    (body : ∀ (p : Program) (e : Env) (s : State) (m : MethodId) (below : List Frame) (meth : Method) (c : Code) (s₁ : State), p.tables.exec = Jvm.exec → c.code = bytes → c.maxLocals = maxL → s.vm.findClass y.cls = some m.cls → meth.name = y.name → meth.sig.returnType = ret → meth.locks = false → Z.Warmed39 s.vm → s₁.heap = h0 →
      Stand p l e rm s m as' below meth c s₁ [] 0 0 → Go p.tables e below (EndE s rm Q) (s₁.setTop (entryFrame m as' maxL))) : MetP l y bytes maxL ret ws rm Z as' h0 Q := by
  refine MetFree.of_bodySF hpl hisR ?_
  intro p e s m args below meth c s₁ Bd hml hP hK
  obtain ⟨rfl, hZ, hh⟩ := hP
  exact body p e s m below meth c s₁ Bd.exec Bd.bytes hml (findClass_of_methodNamed Bd.named) (name_of_methodNamed Bd.named Bd.method).1 Bd.returns Bd.notSynchronized hZ (by rw [← hh, Bd.state]; rfl) (Stand.of_body Bd)
abbrev EndW (s : State) (rm : Room) (Q : Option Value → Heap → List Loc → Prop) : State → Outcome → Prop := fun s₂ o => ∃ v L, o = .returned v ∧ Q v s₂.heap L ∧ ReturnedEndW s o s₂ L rm.cells rm.slots
theorem met_goW {l : Launch} {y : MethodName} {bytes : ByteArray} {maxL : Nat} {ret : Option FieldType} {ws : List Jvm.Cond} {rm : Room} {Z : State} {as' : Array Value} {h0 : Heap} {Q : Option Value → Heap → List Loc → Prop} (hpl : plainFor y = true)
    (body : ∀ (p : Program) (e : Env) (s : State) (m : MethodId) (below : List Frame) (meth : Method) (c : Code) (s₁ : State), p.tables.exec = Jvm.exec → c.code = bytes → c.maxLocals = maxL → s.vm.findClass y.cls = some m.cls → meth.name = y.name → meth.sig.returnType = ret → meth.locks = false → Z.Warmed39 s.vm → s₁.heap = h0 →
      Stand p l e rm s m as' below meth c s₁ [] 0 0 → Go p.tables e below (EndW s rm Q) (s₁.setTop (entryFrame m as' maxL))) : MetFree l y (head1 (Jvm.Cond.code y bytes maxL ret :: ws) rm) (fun a U => a = as' ∧ Z.Warmed39 U.vm ∧ U.heap = h0) (fun _ _ _ _ _ => True) (fun _ U o U' => ∃ v L, o = .returned v ∧ Q v U'.heap L ∧ ReturnedEndW U o U' L rm.cells rm.slots) := by
  refine MetFree.of_bodySF hpl hisR ?_
  intro p e s m args below meth c s₁ Bd hml hP hK
  obtain ⟨rfl, hZ, hh⟩ := hP
  exact body p e s m below meth c s₁ Bd.exec Bd.bytes hml (findClass_of_methodNamed Bd.named) (name_of_methodNamed Bd.named Bd.method).1 Bd.returns Bd.notSynchronized hZ (by rw [← hh, Bd.state]; rfl) (Stand.of_body Bd)
theorem met_goZ {l : Launch} {y : MethodName} {bytes : ByteArray} {maxL : Nat} {ret : Option FieldType} {ws : List Jvm.Cond} {rm : Room} {Z : State} {as' : Array Value} {Q : Option Value → Heap → List Loc → Prop} (hpl : plainFor y = true)
    (body : ∀ (p : Program) (e : Env) (s : State) (m : MethodId) (below : List Frame) (meth : Method) (c : Code) (s₁ : State), p.tables.exec = Jvm.exec → c.code = bytes → c.maxLocals = maxL → s.vm.findClass y.cls = some m.cls → meth.name = y.name → meth.sig.returnType = ret → meth.locks = false → s = Z → s₁.heap = Z.heap →
      Stand p l e rm s m as' below meth c s₁ [] 0 0 → Go p.tables e below (EndW s rm Q) (s₁.setTop (entryFrame m as' maxL))) : MetFree l y (head1 (Jvm.Cond.code y bytes maxL ret :: ws) rm) (fun a U => a = as' ∧ U = Z) (fun _ _ _ _ _ => True) (fun _ U o U' => ∃ v L, o = .returned v ∧ Q v U'.heap L ∧ ReturnedEndW U o U' L rm.cells rm.slots) := by
  refine MetFree.of_bodySF hpl hisR ?_
  intro p e s m args below meth c s₁ Bd hml hP hK
  obtain ⟨rfl, hZ⟩ := hP
  exact body p e s m below meth c s₁ Bd.exec Bd.bytes hml (findClass_of_methodNamed Bd.named) (name_of_methodNamed Bd.named Bd.method).1 Bd.returns Bd.notSynchronized hZ (by rw [← hZ, Bd.state]; rfl) (Stand.of_body Bd)
section OwnKit
variable {p : Program} {l : Launch} {e : Env} {R : Room} {s : State} {m : MethodId} {args : Array Value} {below : List Frame} {meth : Method} {c : Code} {T : State} {locs : List Loc} {cells slots : Nat} {E : State → Outcome → Prop} {Z : State} {a0 : Array Value} {h : Heap} {pc : Nat} {Ls Ls' : Array Slot} {st : List Value}
theorem o_iload (pc' : Nat) (X : Stand p l e R s m args below meth c T locs cells slots) (hx : p.tables.exec = Jvm.exec) (hpc : pc + 2 = pc') {k : Nat} {v : Int32} (hd : decode c.code pc = .ok (.iload k, 2)) (hl : Ls[k]? = some (.val (.int v))) (h : Go p.tables e below E (T.setTop (mkF m pc' Ls ((.int v) :: st)))) : Go p.tables e below E (T.setTop (mkF m pc Ls st)) := by
  subst hpc; exact Go.via (fun _ k => XS.iload X.here hx rfl hd hl k) h
theorem o_iloadN (pc' : Nat) (X : Stand p l e R s m args below meth c T locs cells slots) (hx : p.tables.exec = Jvm.exec) (hpc : pc + 1 = pc') {k : Fin 4} {v : Int32} (hd : decode c.code pc = .ok (.iload_n k, 1)) (hl : Ls[k.val]? = some (.val (.int v))) (h : Go p.tables e below E (T.setTop (mkF m pc' Ls ((.int v) :: st)))) : Go p.tables e below E (T.setTop (mkF m pc Ls st)) := by
  subst hpc; exact Go.via (fun _ k => XS.iloadN X.here hx rfl hd hl k) h
theorem o_aloadN (pc' : Nat) (X : Stand p l e R s m args below meth c T locs cells slots) (hx : p.tables.exec = Jvm.exec) (hpc : pc + 1 = pc') {k : Fin 4} {v : Value} (hd : decode c.code pc = .ok (.aload_n k, 1)) (hl : Ls[k.val]? = some (.val v)) (hv : v.isRef = true) (h : Go p.tables e below E (T.setTop (mkF m pc' Ls (v :: st)))) : Go p.tables e below E (T.setTop (mkF m pc Ls st)) := by
  subst hpc; exact Go.via (fun _ k => XS.aloadN X.here hx rfl hd hl hv k) h
theorem o_istore (pc' : Nat) (X : Stand p l e R s m args below meth c T locs cells slots) (hx : p.tables.exec = Jvm.exec) (hpc : pc + 2 = pc') {k : Nat} {v : Int32} (hd : decode c.code pc = .ok (.istore k, 2)) (Ls' : Array Slot) (hl : storeLocals Ls k (.int v) = some Ls') (h : Go p.tables e below E (T.setTop (mkF m pc' Ls' st))) : Go p.tables e below E (T.setTop (mkF m pc Ls ((.int v) :: st))) := by
  subst hpc; exact Go.via (fun _ k => XS.istore X.here hx rfl hd rfl hl k) h
theorem o_istoreN (pc' : Nat) (X : Stand p l e R s m args below meth c T locs cells slots) (hx : p.tables.exec = Jvm.exec) (hpc : pc + 1 = pc') {k : Fin 4} {v : Int32} (hd : decode c.code pc = .ok (.istore_n k, 1)) (Ls' : Array Slot) (hl : storeLocals Ls k.val (.int v) = some Ls') (h : Go p.tables e below E (T.setTop (mkF m pc' Ls' st))) : Go p.tables e below E (T.setTop (mkF m pc Ls ((.int v) :: st))) := by
  subst hpc; exact Go.via (fun _ k => XS.istoreN X.here hx rfl hd rfl hl k) h
theorem o_astoreN (pc' : Nat) (X : Stand p l e R s m args below meth c T locs cells slots) (hx : p.tables.exec = Jvm.exec) (hpc : pc + 1 = pc') {k : Fin 4} {v : Value} (hd : decode c.code pc = .ok (.astore_n k, 1)) (hv : v.isRef = true) (Ls' : Array Slot) (hl : storeLocals Ls k.val v = some Ls') (h : Go p.tables e below E (T.setTop (mkF m pc' Ls' st))) : Go p.tables e below E (T.setTop (mkF m pc Ls (v :: st))) := by
  subst hpc; exact Go.via (fun _ k => XS.astoreN X.here hx rfl hd rfl hv hl k) h
theorem o_iinc (pc' : Nat) (X : Stand p l e R s m args below meth c T locs cells slots) (hx : p.tables.exec = Jvm.exec) (hpc : pc + 3 = pc') {k : Nat} {cst : Int} {v : Int32} (hd : decode c.code pc = .ok (.iinc k cst, 3)) (w : Int32) (hw : Int32.ofInt cst = w) (hl : Ls[k]? = some (.val (.int v))) (Ls' : Array Slot) (hl' : storeLocals Ls k (.int (v + w)) = some Ls') (h : Go p.tables e below E (T.setTop (mkF m pc' Ls' st))) : Go p.tables e below E (T.setTop (mkF m pc Ls st)) := by
  subst hpc; exact Go.via (fun _ k => XS.iinc X.here hx rfl hd hl (by rw [hw]; exact hl') k) h
theorem o_iconst (pc' : Nat) (X : Stand p l e R s m args below meth c T locs cells slots) (hx : p.tables.exec = Jvm.exec) (hpc : pc + 1 = pc') {i : Int} (hd : decode c.code pc = .ok (.iconst i, 1)) (v : Int32) (hv : Int32.ofInt i = v) (h : Go p.tables e below E (T.setTop (mkF m pc' Ls (.int v :: st)))) : Go p.tables e below E (T.setTop (mkF m pc Ls st)) := by
  subst hpc; exact Go.via (fun _ k => XS.iconst X.here hx rfl hd (by rw [hv]; exact k)) h
theorem o_iand (pc' : Nat) (X : Stand p l e R s m args below meth c T locs cells slots) (hx : p.tables.exec = Jvm.exec) (hpc : pc + 1 = pc') {x : Int32} {y : Int32} (hd : decode c.code pc = .ok (.iand, 1)) (h : Go p.tables e below E (T.setTop (mkF m pc' Ls (.int (x &&& y) :: st)))) : Go p.tables e below E (T.setTop (mkF m pc Ls (.int y :: .int x :: st))) := by
  subst hpc; exact Go.via (fun _ k => XS.iand X.here hx rfl hd rfl k) h
theorem o_goto (pc' : Nat) (X : Stand p l e R s m args below meth c T locs cells slots) (hx : p.tables.exec = Jvm.exec) {o : Int} (hd : decode c.code pc = .ok (.goto o, 3)) (ho : 0 ≤ (pc : Int) + o) (hp : ((pc : Int) + o).toNat = pc') (h : Go p.tables e below E (T.setTop (mkF m pc' Ls st))) : Go p.tables e below E (T.setTop (mkF m pc Ls st)) := by
  exact Go.via (fun _ k => XS.goto X.here hx rfl (pc0 := pc) (pc' := pc') rfl hd ho hp k) h
theorem o_ifYes (pc' : Nat) (X : Stand p l e R s m args below meth c T locs cells slots) (hx : p.tables.exec = Jvm.exec) {cd : ClassFile.Cond} {x : Int32} {o : Int} (hd : decode c.code pc = .ok (.ifCond cd o, 3)) (hc : if_icmp.holds cd x 0 = true) (ho : 0 ≤ (pc : Int) + o) (hp : ((pc : Int) + o).toNat = pc') (h : Go p.tables e below E (T.setTop (mkF m pc' Ls st))) : Go p.tables e below E (T.setTop (mkF m pc Ls (.int x :: st))) := by
  exact Go.via (fun _ k => XS.ifYes X.here hx rfl (pc0 := pc) (pc' := pc') rfl hd rfl ((if0 _ _).trans hc) ho hp k) h
theorem o_ifNo (pc' : Nat) (X : Stand p l e R s m args below meth c T locs cells slots) (hx : p.tables.exec = Jvm.exec) (hpc : pc + 3 = pc') {cd : ClassFile.Cond} {x : Int32} {o : Int} (hd : decode c.code pc = .ok (.ifCond cd o, 3)) (hc : if_icmp.holds cd x 0 = false) (h : Go p.tables e below E (T.setTop (mkF m pc' Ls st))) : Go p.tables e below E (T.setTop (mkF m pc Ls (.int x :: st))) := by
  subst hpc; exact Go.via (fun _ k => XS.ifNo X.here hx rfl hd rfl ((if0 _ _).trans hc) k) h
theorem o_icmpYes (pc' : Nat) (X : Stand p l e R s m args below meth c T locs cells slots) (hx : p.tables.exec = Jvm.exec) {cd : ClassFile.Cond} {x y : Int32} {o : Int} (hd : decode c.code pc = .ok (.if_icmp cd o, 3)) (hc : if_icmp.holds cd x y = true) (ho : 0 ≤ (pc : Int) + o) (hp : ((pc : Int) + o).toNat = pc') (h : Go p.tables e below E (T.setTop (mkF m pc' Ls st))) : Go p.tables e below E (T.setTop (mkF m pc Ls (.int y :: .int x :: st))) := by
  exact Go.via (fun _ k => XS.icmpYes X.here hx rfl (pc0 := pc) (pc' := pc') rfl hd rfl hc ho hp k) h
theorem o_icmpNo (pc' : Nat) (X : Stand p l e R s m args below meth c T locs cells slots) (hx : p.tables.exec = Jvm.exec) (hpc : pc + 3 = pc') {cd : ClassFile.Cond} {x y : Int32} {o : Int} (hd : decode c.code pc = .ok (.if_icmp cd o, 3)) (hc : if_icmp.holds cd x y = false) (h : Go p.tables e below E (T.setTop (mkF m pc' Ls st))) : Go p.tables e below E (T.setTop (mkF m pc Ls (.int y :: .int x :: st))) := by
  subst hpc; exact Go.via (fun _ k => XS.icmpNo X.here hx rfl hd rfl hc k) h
theorem o_acmpne (pc' : Nat) (X : Stand p l e R s m args below meth c T locs cells slots) (hx : p.tables.exec = Jvm.exec) {o : Int} {a b : Addr} (hd : decode c.code pc = .ok (.if_acmp .ne o, 3)) (hne : a ≠ b) (ho : 0 ≤ (pc : Int) + o) (hp : ((pc : Int) + o).toNat = pc') (h : Go p.tables e below E (T.setTop (mkF m pc' Ls st))) : Go p.tables e below E (T.setTop (mkF m pc Ls (.ref b :: .ref a :: st))) := by
  exact Go.via (fun _ k => XS.acmpYes X.here hx rfl (pc0 := pc) (pc' := pc') rfl hd rfl (by simp [if_acmp.holds, hne]) ho hp k) h
theorem o_acmpneNo (pc' : Nat) (X : Stand p l e R s m args below meth c T locs cells slots) (hx : p.tables.exec = Jvm.exec) (hpc : pc + 3 = pc') {o : Int} {a b : Addr} (hd : decode c.code pc = .ok (.if_acmp .ne o, 3)) (he : a = b) (h : Go p.tables e below E (T.setTop (mkF m pc' Ls st))) : Go p.tables e below E (T.setTop (mkF m pc Ls (.ref b :: .ref a :: st))) := by
  subst hpc; exact Go.via (fun _ k => XS.acmpNo X.here hx rfl hd rfl (by simp [if_acmp.holds, he]) k) h
theorem o_out (X : Stand p l e R s m args below meth c T locs cells slots) (hx : p.tables.exec = Jvm.exec) {rm : Room} {Q : Option Value → Heap → List Loc → Prop} {v : Option Value} (hv : meth.sig.returnType = none → v = none) (hlk : meth.locks = false) {g : JFrame}
    (hst : ∀ fs, (∀ (f : JFrame) (acts : List Action), f.method = m → f.locked = none → f.entered = [] → (doReturn e (T.setTop f) acts v).1 = T.setFrames fs) → Steps p.tables e below (T.setTop g) (T.setFrames fs)) (hq : Q v T.heap locs) (hk : cells ≤ rm.cells) (hn : slots ≤ rm.slots) : Go p.tables e below (EndE s rm Q) (T.setTop g) := by
  obtain ⟨fs, hr, hrun, hended, hW, hsame⟩ := X.leave (v := v) hv hlk
  exact ⟨_, _, hst fs hr, hrun, hended, _, _, rfl, hq, ⟨_, rfl⟩, hW, hsame.mono hk hn⟩
theorem o_retA (X : Stand p l e R s m args below meth c T locs cells slots) (hx : p.tables.exec = Jvm.exec) {z : Value} {t : FieldType} (ht : t.isReference = true) (hz : z.isRef = true) {rm : Room} {Q : Option Value → Heap → List Loc → Prop} (hret : meth.sig.returnType = some t) (hlk : meth.locks = false) (hd : decode c.code pc = .ok (.areturn, 1)) (hk : cells ≤ rm.cells) (hn : slots ≤ rm.slots) (hq : Q (some z) T.heap locs) : Go p.tables e below (EndE s rm Q) (T.setTop (mkF m pc Ls (z :: st))) :=
  o_out X hx (fun q => by rw [hret] at q; cases q) hlk (fun fs hr => retOut X hx hret (by cases t <;> first | (cases ht; done) | (cases z <;> first | rfl | (cases hz; done))) (Or.inr (Or.inr (Or.inr (Or.inr ⟨rfl, ht, hz⟩)))) hd hr) hq hk hn
theorem o_retN (X : Stand p l e R s m args below meth c T locs cells slots) (hx : p.tables.exec = Jvm.exec) {z : Int32} (t : FieldType) (ht : t = .boolean ∨ t = .byte ∨ t = .char ∨ t = .short) {rm : Room} {Q : Option Value → Heap → List Loc → Prop} (hret : meth.sig.returnType = some t) (hlk : meth.locks = false) (hd : decode c.code pc = .ok (.ireturn, 1)) (hk : cells ≤ rm.cells) (hn : slots ≤ rm.slots) (hq : Q (some (.int (nar t z))) T.heap locs) : Go p.tables e below (EndE s rm Q) (T.setTop (mkF m pc Ls (.int z :: st))) :=
  o_out X hx (fun q => by rw [hret] at q; cases q) hlk (fun fs hr => retN X hx hret ht hd hr) hq hk hn
theorem o_getF (pc' : Nat) (X : Stand p l e R s m args below meth c T locs cells slots) (hx : p.tables.exec = Jvm.exec) (hpc : pc + 3 = pc') (hZ : Z.Warmed39 s.vm) {own R0 O n d : String} {index : Nat} (hown : s.vm.findClass own = some m.cls) (w : (Jvm.Cond.fieldLink own index R0 n d).before a0 Z = true) (via : Via Z R0 O n d) (eT : T.heap = h) {a : Addr} {v : Value} (F : Fld Z h a O n d v) (hd : decode c.code pc = .ok (.getfield index, 3))
    (k : ∀ (T' : State), Stand p l e R s m args below meth c T' locs cells slots → T'.heap = h → Go p.tables e below E (T'.setTop (mkF m pc' Ls (v :: st)))) : Go p.tables e below E (T.setTop (mkF m pc Ls (.ref a :: st))) := by
  subst hpc
  obtain ⟨T', X', e', st'⟩ := getF X hx hZ hown (host := "") (Or.inl w) via eT F (g := mkF m pc Ls (.ref a :: st)) rfl rfl hd
  exact Go.via st' (k T' X' e')
theorem o_getS (pc' : Nat) (X : Stand p l e R s m args below meth c T locs cells slots) (hx : p.tables.exec = Jvm.exec) (hpc : pc + 3 = pc') (hZ : Z.Warmed39 s.vm) {own R0 O n d : String} {index : Nat} (hown : s.vm.findClass own = some m.cls) (w : (Jvm.Cond.fieldLink own index R0 n d).before a0 Z = true) (via : Via Z R0 O n d) (eT : T.heap = h) {v : Value} (F : Sta Z h O n d v) (hd : decode c.code pc = .ok (.getstatic index, 3))
    (k : ∀ (T' : State), Stand p l e R s m args below meth c T' locs cells slots → T'.heap = h → Go p.tables e below E (T'.setTop (mkF m pc' Ls (v :: st)))) : Go p.tables e below E (T.setTop (mkF m pc Ls st)) := by
  subst hpc
  obtain ⟨T', X', e', st'⟩ := getS (host := "") X hx hZ hown w via eT F (g := mkF m pc Ls st) rfl hd
  exact Go.via st' (k T' X' e')
theorem o_callS (pc' : Nat) (X : Stand p l e R s m args below meth c T locs cells slots) (hx : p.tables.exec = Jvm.exec) (hpc : pc + 3 = pc') (hZ : Z.Warmed39 s.vm) {own : String} {index : Nat} {y : MethodName} {bytes : ByteArray} {maxL : Nat} {ret : Option FieldType} {rm : Room} {as' : Array Value} {Q : Option Value → Heap → List Loc → Prop} (hown : s.vm.findClass own = some m.cls) (w1 : (Jvm.Cond.methodLink own index y).before a0 Z = true) (w2 : (Jvm.Cond.static y).before a0 Z = true) (w3 : (Jvm.Cond.initialized y.cls).before a0 Z = true) (w4 : (Jvm.Cond.code y bytes maxL ret).before a0 Z = true) (hy : y.cls ≠ "java/lang/invoke/MethodHandle" ∧ y.cls ≠ "java/lang/invoke/VarHandle") (eT : T.heap = h)
    (hM : MetP l y bytes maxL ret [] rm Z as' h Q) {ps : List FieldType} {r : Option FieldType} (hdsc : parseMethodDescriptor y.desc = some ⟨ps, r⟩) (argsL rest : List Value) (hlen : argsL.length = ps.length) (has : argsL.toArray = as') (hsize : Ls.size = c.maxLocals) (hst : st = argsL.reverse ++ rest) (hd : decode c.code pc = .ok (.invokestatic index, 3)) (W : Nat) (hW : (rest.map fun v => v.category).sum ≤ W) (hf : rm.frames + 1 ≤ R.frames) (hlo : W + (maxL + 11) + rm.locals ≤ R.locals) (hc : cells + rm.cells ≤ R.cells) (hsl : slots + rm.slots ≤ R.slots)
    (k : ∀ (v : Option Value) (T' : State) (L : List Loc), Stand p l e R s m args below meth c T' (locs ++ L) (cells + rm.cells) (slots + rm.slots) → Q v T'.heap L → Go p.tables e below E (T'.setTop (mkF m pc' Ls (v.toList ++ rest)))) : Go p.tables e below E (T.setTop (mkF m pc Ls st)) := by
  subst hpc
  obtain ⟨v, _, ⟨T', L', c', s'⟩, -, X', ⟨L, hQ, h1, h2, h3⟩, st'⟩ := Jvm.LawKit.callS X hx (y := y) hown (mvT hZ w1) (mvT hZ w2) (mvT hZ w3) (mvT hZ w4) hy (backOf (W := W) hM hZ w4 w3 hf hlo) (g := mkF m pc Ls st) rfl hsize (argsL := argsL) (rest := rest) (lenOf hdsc hlen) hst (by show 2 * 0 + _ ≤ _; rw [Nat.mul_zero, Nat.zero_add]; exact hW) hd (fun _ _ => ⟨has, eT, hc, hsl⟩)
  dsimp only [Pt.U, Pt.locs, Pt.cells, Pt.slots] at X' h1 h2 h3 st' hQ
  subst h1 h2 h3
  exact Go.via st' (k v T' L X' hQ)
theorem o_callP (pc' : Nat) (X : Stand p l e R s m args below meth c T locs cells slots) (hx : p.tables.exec = Jvm.exec) (hpc : pc + 3 = pc') (hZ : Z.Warmed39 s.vm) {own : String} {index : Nat} {y : MethodName} {bytes : ByteArray} {maxL : Nat} {ret : Option FieldType} {rm : Room} {as' : Array Value} {rv : Value} (hown : s.vm.findClass own = some m.cls) (w1 : (Jvm.Cond.methodLink own index y).before a0 Z = true) (w2 : (Jvm.Cond.static y).before a0 Z = true) (w3 : (Jvm.Cond.initialized y.cls).before a0 Z = true) (w4 : (Jvm.Cond.code y bytes maxL ret).before a0 Z = true) (hy : y.cls ≠ "java/lang/invoke/MethodHandle" ∧ y.cls ≠ "java/lang/invoke/VarHandle") (eT : T.heap = h)
    (hM : MetP l y bytes maxL ret [] rm Z as' h (Pure rv h)) {ps : List FieldType} {r : Option FieldType} (hdsc : parseMethodDescriptor y.desc = some ⟨ps, r⟩) (argsL rest : List Value) (hlen : argsL.length = ps.length) (has : argsL.toArray = as') (hsize : Ls.size = c.maxLocals) (hst : st = argsL.reverse ++ rest) (hd : decode c.code pc = .ok (.invokestatic index, 3)) (W : Nat) (hW : (rest.map fun v => v.category).sum ≤ W) (hf : rm.frames + 1 ≤ R.frames) (hlo : W + (maxL + 11) + rm.locals ≤ R.locals) (hc : cells + rm.cells ≤ R.cells) (hsl : slots + rm.slots ≤ R.slots) (hc0 : rm.cells = 0) (hs0 : rm.slots = 0)
    (k : ∀ (T' : State), Stand p l e R s m args below meth c T' locs cells slots → T'.heap = h → Go p.tables e below E (T'.setTop (mkF m pc' Ls (rv :: rest)))) : Go p.tables e below E (T.setTop (mkF m pc Ls st)) := by
  refine o_callS pc' X hx hpc hZ hown w1 w2 w3 w4 hy eT hM hdsc argsL rest hlen has hsize hst hd W hW hf hlo hc hsl ?_
  intro v T' L X' hQ
  obtain ⟨rfl, rfl, e'⟩ := hQ
  rw [hc0, hs0, List.append_nil] at X'
  exact k T' X' e' 
theorem o_callV (pc' : Nat) (X : Stand p l e R s m args below meth c T locs cells slots) (hx : p.tables.exec = Jvm.exec) (hpc : pc + 3 = pc') (hZ : Z.Warmed39 s.vm) {own C : String} {index : Nat} {y : MethodName} {bytes : ByteArray} {maxL : Nat} {ret : Option FieldType} {rm : Room} {as' : Array Value} {Q : Option Value → Heap → List Loc → Prop} (hown : s.vm.findClass own = some m.cls) (w1 : (Jvm.Cond.methodLink own index y).before a0 Z = true) (w2 : (Jvm.Cond.declares y).before a0 Z = true) (wsel : (Jvm.Cond.selects C y y).before a0 Z = true) (w5 : (Jvm.Cond.instanceMethod y).before a0 Z = true) (w3 : (Jvm.Cond.initialized y.cls).before a0 Z = true) (w4 : (Jvm.Cond.code y bytes maxL ret).before a0 Z = true) (hy : y.cls ≠ "java/lang/invoke/MethodHandle" ∧ y.cls ≠ "java/lang/invoke/VarHandle") (eT : T.heap = h)
    (hM : MetP l y bytes maxL ret [] rm Z as' h Q) {ps : List FieldType} {r : Option FieldType} (hdsc : parseMethodDescriptor y.desc = some ⟨ps, r⟩) (argsL rest : List Value) (hlen : argsL.length = ps.length) {a : Addr} (X2 : Exa Z h a C) (has : (.ref a :: argsL).toArray = as') (hsize : Ls.size = c.maxLocals) (hst : st = argsL.reverse ++ .ref a :: rest) (hd : decode c.code pc = .ok (.invokevirtual index, 3)) (W : Nat) (hW : (rest.map fun v => v.category).sum ≤ W) (hf : rm.frames + 1 ≤ R.frames) (hlo : W + (maxL + 11) + rm.locals ≤ R.locals) (hc : cells + rm.cells ≤ R.cells) (hsl : slots + rm.slots ≤ R.slots)
    (k : ∀ (v : Option Value) (T' : State) (L : List Loc), Stand p l e R s m args below meth c T' (locs ++ L) (cells + rm.cells) (slots + rm.slots) → Q v T'.heap L → Go p.tables e below E (T'.setTop (mkF m pc' Ls (v.toList ++ rest)))) : Go p.tables e below E (T.setTop (mkF m pc Ls st)) := by
  subst hpc
  obtain ⟨cq, kq, qa, qb, qc⟩ := isOf hZ eT X2
  obtain ⟨v, _, ⟨T', L', c', s'⟩, -, X', ⟨L, hQ, h1, h2, h3⟩, st'⟩ := X.virtualBack hx (y := y) (z := y) hown (mvT hZ w1) (mvT hZ w2) (notFace_of_selects (args := #[]) (mvT hZ wsel)) (mvT hZ wsel) (mvT hZ w5) hy (backOf (W := W) hM hZ w4 w3 hf hlo) qa qc (g := mkF m pc Ls st) rfl hsize (Steps.refl _) (argsL := argsL) (rest := rest) (lenOf hdsc hlen) hst (by show 2 * 0 + _ ≤ _; rw [Nat.mul_zero, Nat.zero_add]; exact hW) hd (fun _ _ => ⟨has, eT, hc, hsl⟩)
  dsimp only [Pt.U, Pt.locs, Pt.cells, Pt.slots] at X' h1 h2 h3 st' hQ
  subst h1 h2 h3
  exact Go.via (fun _ q => st'.trans q) (k v T' L X' hQ)
theorem o_alen (pc' : Nat) (X : Stand p l e R s m args below meth c T locs cells slots) (hx : p.tables.exec = Jvm.exec) (hpc : pc + 1 = pc') (hZ : Z.Warmed39 s.vm) (eT : T.heap = h) {a : Addr} {ka : ClassId} {ty : FieldType} {n : Int32} {vs : List Value} {dv : Value} (F : Arv Z h a ka ty n vs dv) (hd : decode c.code pc = .ok (.arraylength, 1)) (k : Go p.tables e below E (T.setTop (mkF m pc' Ls (.int n :: st)))) : Go p.tables e below E (T.setTop (mkF m pc Ls (.ref a :: st))) := by
  subst hpc
  obtain ⟨cl, A, -, S, M, -⟩ := F
  rw [← len_of S M] at k
  exact Go.via (fun _ q => X.arraylength hx (by rw [eT]; exact A.1) (State.isArrayOf_alike hZ.alike A.2.1) (g := mkF m pc Ls (.ref a :: st)) rfl rfl hd _ q) k
theorem o_baloadB (pc' : Nat) (X : Stand p l e R s m args below meth c T locs cells slots) (hx : p.tables.exec = Jvm.exec) (hpc : pc + 1 = pc') (hZ : Z.Warmed39 s.vm) (eT : T.heap = h) {a : Addr} {ka : ClassId} {n j : Int32} {vs : List Value} {dv : Value} (F : Arv Z h a ka .byte n vs dv) (hj : ¬ j < 0 ∧ j < n) (v : Value) (hv : vs.getD j.toNatClampNeg dv = v) (hd : decode c.code pc = .ok (.baload, 1)) (k : Go p.tables e below E (T.setTop (mkF m pc' Ls (v :: st)))) : Go p.tables e below E (T.setTop (mkF m pc Ls (.int j :: .ref a :: st))) := by
  subst hpc
  obtain ⟨cl, A, -, S, M, H, -⟩ := F
  have hin := inb_of S hj
  exact Go.via (fun _ q => X.baloadBytes hx (j := j) (v := v) (by rw [eT]; exact A.1) (State.isArrayOf_alike hZ.alike A.2.1) A.2.2 hin (H.at hin hv) (g := mkF m pc Ls (.int j :: .ref a :: st)) rfl rfl hd _ q) k
theorem own_getI (xs : List Int32) (i : Nat) : (xs.map Value.int).getD i (.int 0) = .int (xs.getD i 0) := by
  simp only [List.getD_eq_getElem?_getD, List.getElem?_map]; cases xs[i]? <;> rfl
theorem o_baloadBX (pc' : Nat) (X : Stand p l e R s m args below meth c T locs cells slots) (hx : p.tables.exec = Jvm.exec) (hpc : pc + 1 = pc') (hZ : Z.Warmed39 s.vm) (eT : T.heap = h) {a : Addr} {ka : ClassId} {n j : Int32} {xs : List Int32} (F : Arv Z h a ka .byte n (xs.map Value.int) (.int 0)) (hj : ¬ j < 0 ∧ j < n) (hd : decode c.code pc = .ok (.baload, 1)) (v : Int32) (hv : xs.getD j.toNatClampNeg 0 = v) (k : Go p.tables e below E (T.setTop (mkF m pc' Ls (.int v :: st)))) : Go p.tables e below E (T.setTop (mkF m pc Ls (.int j :: .ref a :: st))) := by
  subst hv; exact o_baloadB pc' X hx hpc hZ eT F hj _ (own_getI xs _) hd k
theorem o_callVP (pc' : Nat) (X : Stand p l e R s m args below meth c T locs cells slots) (hx : p.tables.exec = Jvm.exec) (hpc : pc + 3 = pc') (hZ : Z.Warmed39 s.vm) {own C : String} {index : Nat} {y : MethodName} {bytes : ByteArray} {maxL : Nat} {ret : Option FieldType} {rm : Room} {as' : Array Value} {rv : Value} (hown : s.vm.findClass own = some m.cls) (w1 : (Jvm.Cond.methodLink own index y).before a0 Z = true) (w2 : (Jvm.Cond.declares y).before a0 Z = true) (wsel : (Jvm.Cond.selects C y y).before a0 Z = true) (w5 : (Jvm.Cond.instanceMethod y).before a0 Z = true) (w3 : (Jvm.Cond.initialized y.cls).before a0 Z = true) (w4 : (Jvm.Cond.code y bytes maxL ret).before a0 Z = true) (hy : y.cls ≠ "java/lang/invoke/MethodHandle" ∧ y.cls ≠ "java/lang/invoke/VarHandle") (eT : T.heap = h)
    (hM : MetP l y bytes maxL ret [] rm Z as' h (Pure rv h)) {ps : List FieldType} {r : Option FieldType} (hdsc : parseMethodDescriptor y.desc = some ⟨ps, r⟩) (argsL rest : List Value) (hlen : argsL.length = ps.length) {a : Addr} (X2 : Exa Z h a C) (has : (.ref a :: argsL).toArray = as') (hsize : Ls.size = c.maxLocals) (hst : st = argsL.reverse ++ .ref a :: rest) (hd : decode c.code pc = .ok (.invokevirtual index, 3)) (W : Nat) (hW : (rest.map fun v => v.category).sum ≤ W) (hf : rm.frames + 1 ≤ R.frames) (hlo : W + (maxL + 11) + rm.locals ≤ R.locals) (hc : cells + rm.cells ≤ R.cells) (hsl : slots + rm.slots ≤ R.slots) (hc0 : rm.cells = 0) (hs0 : rm.slots = 0)
    (k : ∀ (T' : State), Stand p l e R s m args below meth c T' locs cells slots → T'.heap = h → Go p.tables e below E (T'.setTop (mkF m pc' Ls (rv :: rest)))) : Go p.tables e below E (T.setTop (mkF m pc Ls st)) := by
  refine o_callV pc' X hx hpc hZ hown w1 w2 wsel w5 w3 w4 hy eT hM hdsc argsL rest hlen X2 has hsize hst hd W hW hf hlo hc hsl ?_
  intro v T' L X' hQ
  obtain ⟨rfl, rfl, e'⟩ := hQ
  rw [hc0, hs0, List.append_nil] at X'
  exact k T' X' e' 
theorem o_outW {vm0 : Vm} (X : Stand p l e R (s.setVm vm0) m args below meth c T locs cells slots) (hx : p.tables.exec = Jvm.exec) {k0 : Nat} (hS : s.Since vm0 k0) (hk0 : k0 ≤ T.heap.size) {rm : Room} {Q : Option Value → Heap → List Loc → Prop} {z : Int32} (t : FieldType) (ht : t = .boolean ∨ t = .byte ∨ t = .char ∨ t = .short) (hret : meth.sig.returnType = some t) (hlk : meth.locks = false) (hd : decode c.code pc = .ok (.ireturn, 1)) (hk : cells ≤ rm.cells) (hn : slots ≤ rm.slots) (hq : Q (some (.int (nar t z))) T.heap locs) : Go p.tables e below (EndW s rm Q) (T.setTop (mkF m pc Ls (.int z :: st))) := by
  obtain ⟨fs, hr, hrun, hended, hend⟩ := X.leaveW hS hk0 (v := some (.int (nar t z))) (fun q => by rw [hret] at q; cases q) hlk
  exact ⟨_, _, retN X hx hret ht hd hr, hrun, hended, _, _, rfl, hq, hend.1, hend.2.1, hend.2.2.1, hend.2.2.2.mono hk hn⟩
theorem o_castY (pc' : Nat) (X : Stand p l e R s m args below meth c T locs cells slots) (hx : p.tables.exec = Jvm.exec) (hpc : pc + 3 = pc') (hZ : Z.Warmed39 s.vm) {own K : String} {index : Nat} (hown : s.vm.findClass own = some m.cls) (w : (Jvm.Cond.classLink own index K).before a0 Z = true) (eT : T.heap = h) {a : Addr} (F : Ins Z h a K true) (hd : decode c.code pc = .ok (.checkcast index, 3))
    (k : ∀ (T' : State), Stand p l e R s m args below meth c T' locs cells slots → T'.heap = h → Go p.tables e below E (T'.setTop (mkF m pc' Ls (.ref a :: st)))) : Go p.tables e below E (T.setTop (mkF m pc Ls (.ref a :: st))) := by
  subst hpc
  obtain ⟨T', X', e', st'⟩ := castY X hx hZ hown w eT F (g := mkF m pc Ls (.ref a :: st)) rfl rfl hd
  exact Go.via st' (k T' X' e')
theorem o_instY (pc' : Nat) (X : Stand p l e R s m args below meth c T locs cells slots) (hx : p.tables.exec = Jvm.exec) (hpc : pc + 3 = pc') (hZ : Z.Warmed39 s.vm) {own K : String} {index : Nat} (hown : s.vm.findClass own = some m.cls) (w : (Jvm.Cond.classLink own index K).before a0 Z = true) (eT : T.heap = h) {a : Addr} (F : Ins Z h a K true) (hd : decode c.code pc = .ok (.instanceof index, 3))
    (k : ∀ (T' : State), Stand p l e R s m args below meth c T' locs cells slots → T'.heap = h → Go p.tables e below E (T'.setTop (mkF m pc' Ls (.int 1 :: st)))) : Go p.tables e below E (T.setTop (mkF m pc Ls (.ref a :: st))) := by
  subst hpc
  obtain ⟨T', X', e', st'⟩ := instY X hx hZ hown w eT F (g := mkF m pc Ls (.ref a :: st)) rfl rfl hd
  exact Go.via st' (k T' X' e')
theorem o_ldcV (pc' : Nat) {vm0 : Vm} (X : Stand p l e R (s.setVm vm0) m args below meth c T locs cells slots) (hx : p.tables.exec = Jvm.exec) (hpc : pc + 2 = pc') (hZ : Z.Warmed39 vm0) {own text : String} {index : Nat} (hown : vm0.findClass own = some m.cls) (w : (Jvm.Cond.stringLink own index text).before a0 Z = true) (wS : ∀ a ∈ Bundle.stringAtoms, a.before a0 Z = true) (eT : T.heap = h) {k0 : Nat} (hS : s.Since vm0 k0) (hk : k0 ≤ h.size) (N : Fr s.heap.size locs) (hkeep : ∀ (b : Addr) (cl : Cell), Z.heap[b]? = some cl → s.heap[b]? = some cl) {Ts : List String} (I : IB Z vm0 Ts) (hnot : text ∉ Ts) (hh : Jvm.Lit.constHeld Z own index) (hcw : Jvm.Lit.compactW.before a0 Z = true) (vs : List Value) (z : Int32) (ht : (∀ c ∈ text.toList, c.toNat < 256) ∧ text.toList.map (fun c => Value.int (Jvm.Lit.byteI c.toNat.toUInt16)) = vs) (hz : ¬ z < 0) (hl : z.toNatClampNeg = vs.length) (hd : decode c.code pc = .ok (.ldc index, 2)) (n : Nat) (hn : 4 * text.toList.length ≤ n) (hbig : n ≤ 536870912) (hc : cells + 2 ≤ R.cells) (hl' : slots + (n + 4) ≤ R.slots)
    (k : ∀ (a : Addr) (T' : State) (h' : Heap) (k1 : Nat) (b : Addr) (kb : ClassId), Stand p l e R (s.setVm T'.vm) m args below meth c T' locs (cells + 2) (slots + (n + 4)) → T'.heap = h' → Ext h h' → s.Since T'.vm k1 → k1 ≤ h'.size → Z.Warmed39 (s.setVm T'.vm).vm → (s.setVm T'.vm).vm.findClass own = some m.cls → Exa Z h' a "java/lang/String" → Fld Z h' a "java/lang/String" "coder" "B" (.int 0) → Fld Z h' a "java/lang/String" "value" "[B" (.ref b) → Arv Z h' b kb .byte z vs (.int 0) → IB Z T'.vm (text :: Ts) → Go p.tables e below E (T'.setTop (mkF m pc' Ls (.ref a :: st)))) : Go p.tables e below E (T.setTop (mkF m pc Ls st)) := by
  subst hpc
  obtain ⟨a, T', h', k1, b, kb, X', e', E', hS', hk', hZ', hown', Ea, Fc, Fv, Ab, -, -, I', -, st'⟩ := ldcSVL X hx hZ hown w wS eT hS hk N hkeep I hnot hh hcw ht hz hl (g := mkF m pc Ls st) rfl hd hn hbig hc hl'
  exact Go.via st' (k a T' h' k1 b kb X' e' E' hS' hk' hZ' hown' Ea Fc Fv Ab I')
end OwnKit
theorem l_tlt {x y : Int64} (h : x < y) : lcmpW x y < 0 := (lw_lt x y).mpr h
theorem l_flt {x y : Int64} (h : ¬ x < y) : ¬ lcmpW x y < 0 := fun q => h ((lw_lt x y).mp q)
theorem l_tgt {x y : Int64} (h : y < x) : 0 < lcmpW x y := (lw_gt x y).mpr h
theorem l_fgt {x y : Int64} (h : ¬ y < x) : ¬ 0 < lcmpW x y := fun q => h ((lw_gt x y).mp q)
theorem l_teq {x y : Int64} (h : x = y) : lcmpW x y = 0 := (lw_eq x y).mpr h
theorem l_feq {x y : Int64} (h : ¬ x = y) : ¬ lcmpW x y = 0 := fun q => h ((lw_eq x y).mp q)
theorem wd_0 {Z : State} {a0 : Array Value} (hw : ∀ d ∈ tables_1, d.before a0 Z = true) : (Jvm.Cond.fieldLink "com/example/planbook/planbook/core/TestKindLimitsDeferralsPinLaw" (7 : Nat) "com/example/planbook/planbook/core/TestKind" "ADP" "Lcom/example/planbook/planbook/core/TestKind;").before a0 Z = true := hw _ (List.mem_of_getElem? (i := 0) rfl)
theorem wd_1 {Z : State} {a0 : Array Value} (hw : ∀ d ∈ tables_1, d.before a0 Z = true) : (Jvm.Cond.initialized "com/example/planbook/planbook/core/TestKind").before a0 Z = true := hw _ (List.mem_of_getElem? (i := 1) rfl)
theorem wd_2 {Z : State} {a0 : Array Value} (hw : ∀ d ∈ tables_1, d.before a0 Z = true) : (Jvm.Cond.laysStatic "com/example/planbook/planbook/core/TestKind" "ADP" "Lcom/example/planbook/planbook/core/TestKind;").before a0 Z = true := hw _ (List.mem_of_getElem? (i := 2) rfl)
theorem wd_3 {Z : State} {a0 : Array Value} (hw : ∀ d ∈ tables_1, d.before a0 Z = true) : (Jvm.Cond.methodLink "com/example/planbook/planbook/core/TestKindLimitsDeferralsPinLaw" (16 : Nat) ({ cls := "com/example/planbook/planbook/core/TestKind", name := "limitsDeferrals", desc := "()Z" } : Jvm.MethodName)).before a0 Z = true := hw _ (List.mem_of_getElem? (i := 3) rfl)
theorem wd_4 {Z : State} {a0 : Array Value} (hw : ∀ d ∈ tables_1, d.before a0 Z = true) : (Jvm.Cond.declares ({ cls := "com/example/planbook/planbook/core/TestKind", name := "limitsDeferrals", desc := "()Z" } : Jvm.MethodName)).before a0 Z = true := hw _ (List.mem_of_getElem? (i := 4) rfl)
theorem wd_5 {Z : State} {a0 : Array Value} (hw : ∀ d ∈ tables_1, d.before a0 Z = true) : (Jvm.Cond.instanceMethod ({ cls := "com/example/planbook/planbook/core/TestKind", name := "limitsDeferrals", desc := "()Z" } : Jvm.MethodName)).before a0 Z = true := hw _ (List.mem_of_getElem? (i := 5) rfl)
theorem wd_6 {Z : State} {a0 : Array Value} (hw : ∀ d ∈ tables_1, d.before a0 Z = true) : (Jvm.Cond.selects "com/example/planbook/planbook/core/TestKind" ({ cls := "com/example/planbook/planbook/core/TestKind", name := "limitsDeferrals", desc := "()Z" } : Jvm.MethodName) ({ cls := "com/example/planbook/planbook/core/TestKind", name := "limitsDeferrals", desc := "()Z" } : Jvm.MethodName)).before a0 Z = true := hw _ (List.mem_of_getElem? (i := 6) rfl)
theorem wd_7 {Z : State} {a0 : Array Value} (hw : ∀ d ∈ tables_1, d.before a0 Z = true) : (Jvm.Cond.code ({ cls := "com/example/planbook/planbook/core/TestKind", name := "limitsDeferrals", desc := "()Z" } : Jvm.MethodName) prog_68_method_7_code (1 : Nat) (Option.some Jvm.ClassFile.FieldType.boolean)).before a0 Z = true := hw _ (List.mem_of_getElem? (i := 7) rfl)
theorem wd_8 {Z : State} {a0 : Array Value} (hw : ∀ d ∈ tables_1, d.before a0 Z = true) : (Jvm.Cond.fieldLink "com/example/planbook/planbook/core/TestKind" (3 : Nat) "com/example/planbook/planbook/core/TestKind" "ADP" "Lcom/example/planbook/planbook/core/TestKind;").before a0 Z = true := hw _ (List.mem_of_getElem? (i := 8) rfl)
theorem wd_9 {Z : State} {a0 : Array Value} (hw : ∀ d ∈ tables_1, d.before a0 Z = true) : (Jvm.Cond.methodLink "com/example/planbook/planbook/core/TestKindLimitsDeferralsPinLaw" (20 : Nat) ({ cls := "com/example/planbook/planbook/core/TestKind", name := "key", desc := "()Ljava/lang/String;" } : Jvm.MethodName)).before a0 Z = true := hw _ (List.mem_of_getElem? (i := 9) rfl)
theorem wd_10 {Z : State} {a0 : Array Value} (hw : ∀ d ∈ tables_1, d.before a0 Z = true) : (Jvm.Cond.declares ({ cls := "com/example/planbook/planbook/core/TestKind", name := "key", desc := "()Ljava/lang/String;" } : Jvm.MethodName)).before a0 Z = true := hw _ (List.mem_of_getElem? (i := 10) rfl)
theorem wd_11 {Z : State} {a0 : Array Value} (hw : ∀ d ∈ tables_1, d.before a0 Z = true) : (Jvm.Cond.instanceMethod ({ cls := "com/example/planbook/planbook/core/TestKind", name := "key", desc := "()Ljava/lang/String;" } : Jvm.MethodName)).before a0 Z = true := hw _ (List.mem_of_getElem? (i := 11) rfl)
theorem wd_12 {Z : State} {a0 : Array Value} (hw : ∀ d ∈ tables_1, d.before a0 Z = true) : (Jvm.Cond.selects "com/example/planbook/planbook/core/TestKind" ({ cls := "com/example/planbook/planbook/core/TestKind", name := "key", desc := "()Ljava/lang/String;" } : Jvm.MethodName) ({ cls := "com/example/planbook/planbook/core/TestKind", name := "key", desc := "()Ljava/lang/String;" } : Jvm.MethodName)).before a0 Z = true := hw _ (List.mem_of_getElem? (i := 12) rfl)
theorem wd_13 {Z : State} {a0 : Array Value} (hw : ∀ d ∈ tables_1, d.before a0 Z = true) : (Jvm.Cond.code ({ cls := "com/example/planbook/planbook/core/TestKind", name := "key", desc := "()Ljava/lang/String;" } : Jvm.MethodName) prog_68_method_4_code (1 : Nat) (Option.some (Jvm.ClassFile.FieldType.object "java/lang/String"))).before a0 Z = true := hw _ (List.mem_of_getElem? (i := 13) rfl)
theorem wd_14 {Z : State} {a0 : Array Value} (hw : ∀ d ∈ tables_1, d.before a0 Z = true) : (Jvm.Cond.fieldLink "com/example/planbook/planbook/core/TestKind" (29 : Nat) "com/example/planbook/planbook/core/TestKind" "key" "Ljava/lang/String;").before a0 Z = true := hw _ (List.mem_of_getElem? (i := 14) rfl)
theorem wd_16 {Z : State} {a0 : Array Value} (hw : ∀ d ∈ tables_1, d.before a0 Z = true) : (Jvm.Cond.stringLink "com/example/planbook/planbook/core/TestKindLimitsDeferralsPinLaw" (24 : Nat) "adp").before a0 Z = true := hw _ (List.mem_of_getElem? (i := 16) rfl)
theorem wd_17 {Z : State} {a0 : Array Value} (hw : ∀ d ∈ tables_1, d.before a0 Z = true) : (Jvm.Cond.initialized "java/lang/String").before a0 Z = true := hw _ (List.mem_of_getElem? (i := 17) rfl)
theorem wd_18 {Z : State} {a0 : Array Value} (hw : ∀ d ∈ tables_1, d.before a0 Z = true) : (Jvm.Cond.instantiable "java/lang/String" (4 : Nat)).before a0 Z = true := hw _ (List.mem_of_getElem? (i := 18) rfl)
theorem wd_19 {Z : State} {a0 : Array Value} (hw : ∀ d ∈ tables_1, d.before a0 Z = true) : (Jvm.Cond.arrayClass Jvm.ClassFile.FieldType.byte).before a0 Z = true := hw _ (List.mem_of_getElem? (i := 19) rfl)
theorem wd_20 {Z : State} {a0 : Array Value} (hw : ∀ d ∈ tables_1, d.before a0 Z = true) : (Jvm.Cond.laysFinal "java/lang/String" "java/lang/String" "value" "[B").before a0 Z = true := hw _ (List.mem_of_getElem? (i := 20) rfl)
theorem wd_21 {Z : State} {a0 : Array Value} (hw : ∀ d ∈ tables_1, d.before a0 Z = true) : (Jvm.Cond.laysFinal "java/lang/String" "java/lang/String" "coder" "B").before a0 Z = true := hw _ (List.mem_of_getElem? (i := 21) rfl)
theorem wd_22 {Z : State} {a0 : Array Value} (hw : ∀ d ∈ tables_1, d.before a0 Z = true) : (Jvm.Cond.soleField "java/lang/String" "value").before a0 Z = true := hw _ (List.mem_of_getElem? (i := 22) rfl)
theorem wd_23 {Z : State} {a0 : Array Value} (hw : ∀ d ∈ tables_1, d.before a0 Z = true) : (Jvm.Cond.soleField "java/lang/String" "coder").before a0 Z = true := hw _ (List.mem_of_getElem? (i := 23) rfl)
theorem wd_24 {Z : State} {a0 : Array Value} (hw : ∀ d ∈ tables_1, d.before a0 Z = true) : (Jvm.Cond.methodLink "com/example/planbook/planbook/core/TestKindLimitsDeferralsPinLaw" (26 : Nat) ({ cls := "java/lang/String", name := "equals", desc := "(Ljava/lang/Object;)Z" } : Jvm.MethodName)).before a0 Z = true := hw _ (List.mem_of_getElem? (i := 24) rfl)
theorem wd_25 {Z : State} {a0 : Array Value} (hw : ∀ d ∈ tables_1, d.before a0 Z = true) : (Jvm.Cond.declares ({ cls := "java/lang/String", name := "equals", desc := "(Ljava/lang/Object;)Z" } : Jvm.MethodName)).before a0 Z = true := hw _ (List.mem_of_getElem? (i := 25) rfl)
theorem wd_26 {Z : State} {a0 : Array Value} (hw : ∀ d ∈ tables_1, d.before a0 Z = true) : (Jvm.Cond.instanceMethod ({ cls := "java/lang/String", name := "equals", desc := "(Ljava/lang/Object;)Z" } : Jvm.MethodName)).before a0 Z = true := hw _ (List.mem_of_getElem? (i := 26) rfl)
theorem wd_27 {Z : State} {a0 : Array Value} (hw : ∀ d ∈ tables_1, d.before a0 Z = true) : (Jvm.Cond.selects "java/lang/String" ({ cls := "java/lang/String", name := "equals", desc := "(Ljava/lang/Object;)Z" } : Jvm.MethodName) ({ cls := "java/lang/String", name := "equals", desc := "(Ljava/lang/Object;)Z" } : Jvm.MethodName)).before a0 Z = true := hw _ (List.mem_of_getElem? (i := 27) rfl)
theorem wd_28 {Z : State} {a0 : Array Value} (hw : ∀ d ∈ tables_1, d.before a0 Z = true) : (Jvm.Cond.code ({ cls := "java/lang/String", name := "equals", desc := "(Ljava/lang/Object;)Z" } : Jvm.MethodName) jdk_42_method_66_code (3 : Nat) (Option.some Jvm.ClassFile.FieldType.boolean)).before a0 Z = true := hw _ (List.mem_of_getElem? (i := 28) rfl)
theorem wd_29 {Z : State} {a0 : Array Value} (hw : ∀ d ∈ tables_1, d.before a0 Z = true) : (Jvm.Cond.classLink "java/lang/String" (10 : Nat) "java/lang/String").before a0 Z = true := hw _ (List.mem_of_getElem? (i := 29) rfl)
theorem wd_31 {Z : State} {a0 : Array Value} (hw : ∀ d ∈ tables_1, d.before a0 Z = true) : (Jvm.Cond.fieldLink "java/lang/String" (38 : Nat) "java/lang/String" "COMPACT_STRINGS" "Z").before a0 Z = true := hw _ (List.mem_of_getElem? (i := 31) rfl)
theorem wd_32 {Z : State} {a0 : Array Value} (hw : ∀ d ∈ tables_1, d.before a0 Z = true) : (Jvm.Cond.fieldLink "java/lang/String" (15 : Nat) "java/lang/String" "coder" "B").before a0 Z = true := hw _ (List.mem_of_getElem? (i := 32) rfl)
theorem wd_33 {Z : State} {a0 : Array Value} (hw : ∀ d ∈ tables_1, d.before a0 Z = true) : (Jvm.Cond.fieldLink "java/lang/String" (9 : Nat) "java/lang/String" "value" "[B").before a0 Z = true := hw _ (List.mem_of_getElem? (i := 33) rfl)
theorem wd_34 {Z : State} {a0 : Array Value} (hw : ∀ d ∈ tables_1, d.before a0 Z = true) : (Jvm.Cond.methodLink "java/lang/String" (541 : Nat) ({ cls := "java/lang/StringLatin1", name := "equals", desc := "([B[B)Z" } : Jvm.MethodName)).before a0 Z = true := hw _ (List.mem_of_getElem? (i := 34) rfl)
theorem wd_35 {Z : State} {a0 : Array Value} (hw : ∀ d ∈ tables_1, d.before a0 Z = true) : (Jvm.Cond.static ({ cls := "java/lang/StringLatin1", name := "equals", desc := "([B[B)Z" } : Jvm.MethodName)).before a0 Z = true := hw _ (List.mem_of_getElem? (i := 35) rfl)
theorem wd_36 {Z : State} {a0 : Array Value} (hw : ∀ d ∈ tables_1, d.before a0 Z = true) : (Jvm.Cond.initialized "java/lang/StringLatin1").before a0 Z = true := hw _ (List.mem_of_getElem? (i := 36) rfl)
theorem wd_37 {Z : State} {a0 : Array Value} (hw : ∀ d ∈ tables_1, d.before a0 Z = true) : (Jvm.Cond.code ({ cls := "java/lang/StringLatin1", name := "equals", desc := "([B[B)Z" } : Jvm.MethodName) jdk_43_method_13_code (3 : Nat) (Option.some Jvm.ClassFile.FieldType.boolean)).before a0 Z = true := hw _ (List.mem_of_getElem? (i := 37) rfl)
theorem wd_38 {Z : State} {a0 : Array Value} (hw : ∀ d ∈ tables_1, d.before a0 Z = true) : (Jvm.Cond.stringLink "com/example/planbook/planbook/core/TestKindLimitsDeferralsPinLaw" (32 : Nat) "acp").before a0 Z = true := hw _ (List.mem_of_getElem? (i := 38) rfl)
theorem wd_39 {Z : State} {a0 : Array Value} (hw : ∀ d ∈ tables_1, d.before a0 Z = true) : (Jvm.Cond.fieldLink "com/example/planbook/planbook/core/TestKindLimitsDeferralsPinLaw" (13 : Nat) "com/example/planbook/planbook/core/TestKind" "ACP" "Lcom/example/planbook/planbook/core/TestKind;").before a0 Z = true := hw _ (List.mem_of_getElem? (i := 39) rfl)
theorem wd_40 {Z : State} {a0 : Array Value} (hw : ∀ d ∈ tables_1, d.before a0 Z = true) : (Jvm.Cond.laysStatic "com/example/planbook/planbook/core/TestKind" "ACP" "Lcom/example/planbook/planbook/core/TestKind;").before a0 Z = true := hw _ (List.mem_of_getElem? (i := 40) rfl)
theorem d1_0 : decode prog_68_method_7_code 0 = .ok (.aload_n 0, 1) := by decide +kernel
theorem d1_1 : decode prog_68_method_7_code 1 = .ok (.getstatic 3, 3) := by decide +kernel
theorem d1_11 : decode prog_68_method_7_code 11 = .ok (.iconst 0, 1) := by decide +kernel
theorem d1_12 : decode prog_68_method_7_code 12 = .ok (.ireturn, 1) := by decide +kernel
theorem d1_4 : decode prog_68_method_7_code 4 = .ok (.if_acmp .ne 7, 3) := by decide +kernel
theorem d1_7 : decode prog_68_method_7_code 7 = .ok (.iconst 1, 1) := by decide +kernel
theorem d1_8 : decode prog_68_method_7_code 8 = .ok (.goto 4, 3) := by decide +kernel
theorem d2_0 : decode prog_68_method_4_code 0 = .ok (.aload_n 0, 1) := by decide +kernel
theorem d2_1 : decode prog_68_method_4_code 1 = .ok (.getfield 29, 3) := by decide +kernel
theorem d2_4 : decode prog_68_method_4_code 4 = .ok (.areturn, 1) := by decide +kernel
theorem d3_0 : decode jdk_42_method_66_code 0 = .ok (.aload_n 0, 1) := by decide +kernel
theorem d3_1 : decode jdk_42_method_66_code 1 = .ok (.aload_n 1, 1) := by decide +kernel
theorem d3_11 : decode jdk_42_method_66_code 11 = .ok (.ifCond .eq 43, 3) := by decide +kernel
theorem d3_14 : decode jdk_42_method_66_code 14 = .ok (.aload_n 1, 1) := by decide +kernel
theorem d3_15 : decode jdk_42_method_66_code 15 = .ok (.checkcast 10, 3) := by decide +kernel
theorem d3_18 : decode jdk_42_method_66_code 18 = .ok (.astore_n 2, 1) := by decide +kernel
theorem d3_19 : decode jdk_42_method_66_code 19 = .ok (.getstatic 38, 3) := by decide +kernel
theorem d3_2 : decode jdk_42_method_66_code 2 = .ok (.if_acmp .ne 5, 3) := by decide +kernel
theorem d3_22 : decode jdk_42_method_66_code 22 = .ok (.ifCond .eq 14, 3) := by decide +kernel
theorem d3_25 : decode jdk_42_method_66_code 25 = .ok (.aload_n 0, 1) := by decide +kernel
theorem d3_26 : decode jdk_42_method_66_code 26 = .ok (.getfield 15, 3) := by decide +kernel
theorem d3_29 : decode jdk_42_method_66_code 29 = .ok (.aload_n 2, 1) := by decide +kernel
theorem d3_30 : decode jdk_42_method_66_code 30 = .ok (.getfield 15, 3) := by decide +kernel
theorem d3_33 : decode jdk_42_method_66_code 33 = .ok (.if_icmp .ne 21, 3) := by decide +kernel
theorem d3_36 : decode jdk_42_method_66_code 36 = .ok (.aload_n 0, 1) := by decide +kernel
theorem d3_37 : decode jdk_42_method_66_code 37 = .ok (.getfield 9, 3) := by decide +kernel
theorem d3_40 : decode jdk_42_method_66_code 40 = .ok (.aload_n 2, 1) := by decide +kernel
theorem d3_41 : decode jdk_42_method_66_code 41 = .ok (.getfield 9, 3) := by decide +kernel
theorem d3_44 : decode jdk_42_method_66_code 44 = .ok (.invokestatic 541, 3) := by decide +kernel
theorem d3_47 : decode jdk_42_method_66_code 47 = .ok (.ifCond .eq 7, 3) := by decide +kernel
theorem d3_5 : decode jdk_42_method_66_code 5 = .ok (.iconst 1, 1) := by decide +kernel
theorem d3_50 : decode jdk_42_method_66_code 50 = .ok (.iconst 1, 1) := by decide +kernel
theorem d3_51 : decode jdk_42_method_66_code 51 = .ok (.goto 4, 3) := by decide +kernel
theorem d3_54 : decode jdk_42_method_66_code 54 = .ok (.iconst 0, 1) := by decide +kernel
theorem d3_55 : decode jdk_42_method_66_code 55 = .ok (.ireturn, 1) := by decide +kernel
theorem d3_6 : decode jdk_42_method_66_code 6 = .ok (.ireturn, 1) := by decide +kernel
theorem d3_7 : decode jdk_42_method_66_code 7 = .ok (.aload_n 1, 1) := by decide +kernel
theorem d3_8 : decode jdk_42_method_66_code 8 = .ok (.instanceof 10, 3) := by decide +kernel
theorem d4_0 : decode jdk_43_method_13_code 0 = .ok (.aload_n 0, 1) := by decide +kernel
theorem d4_1 : decode jdk_43_method_13_code 1 = .ok (.arraylength, 1) := by decide +kernel
theorem d4_10 : decode jdk_43_method_13_code 10 = .ok (.aload_n 0, 1) := by decide +kernel
theorem d4_11 : decode jdk_43_method_13_code 11 = .ok (.arraylength, 1) := by decide +kernel
theorem d4_12 : decode jdk_43_method_13_code 12 = .ok (.if_icmp .ge 20, 3) := by decide +kernel
theorem d4_15 : decode jdk_43_method_13_code 15 = .ok (.aload_n 0, 1) := by decide +kernel
theorem d4_16 : decode jdk_43_method_13_code 16 = .ok (.iload_n 2, 1) := by decide +kernel
theorem d4_17 : decode jdk_43_method_13_code 17 = .ok (.baload, 1) := by decide +kernel
theorem d4_18 : decode jdk_43_method_13_code 18 = .ok (.aload_n 1, 1) := by decide +kernel
theorem d4_19 : decode jdk_43_method_13_code 19 = .ok (.iload_n 2, 1) := by decide +kernel
theorem d4_2 : decode jdk_43_method_13_code 2 = .ok (.aload_n 1, 1) := by decide +kernel
theorem d4_20 : decode jdk_43_method_13_code 20 = .ok (.baload, 1) := by decide +kernel
theorem d4_21 : decode jdk_43_method_13_code 21 = .ok (.if_icmp .eq 5, 3) := by decide +kernel
theorem d4_24 : decode jdk_43_method_13_code 24 = .ok (.iconst 0, 1) := by decide +kernel
theorem d4_25 : decode jdk_43_method_13_code 25 = .ok (.ireturn, 1) := by decide +kernel
theorem d4_26 : decode jdk_43_method_13_code 26 = .ok (.iinc 2 1, 3) := by decide +kernel
theorem d4_29 : decode jdk_43_method_13_code 29 = .ok (.goto (-20), 3) := by decide +kernel
theorem d4_3 : decode jdk_43_method_13_code 3 = .ok (.arraylength, 1) := by decide +kernel
theorem d4_32 : decode jdk_43_method_13_code 32 = .ok (.iconst 1, 1) := by decide +kernel
theorem d4_33 : decode jdk_43_method_13_code 33 = .ok (.ireturn, 1) := by decide +kernel
theorem d4_4 : decode jdk_43_method_13_code 4 = .ok (.if_icmp .ne 30, 3) := by decide +kernel
theorem d4_7 : decode jdk_43_method_13_code 7 = .ok (.iconst 0, 1) := by decide +kernel
theorem d4_8 : decode jdk_43_method_13_code 8 = .ok (.istore_n 2, 1) := by decide +kernel
theorem d4_9 : decode jdk_43_method_13_code 9 = .ok (.iload_n 2, 1) := by decide +kernel
theorem pd_lrLjava_lang_Strings : parseMethodDescriptor "()Ljava/lang/String;" = some ⟨[], some (.object "java/lang/String")⟩ := by decide +kernel
theorem pd_lrZ : parseMethodDescriptor "()Z" = some ⟨[], some .boolean⟩ := by decide +kernel
theorem pd_lLjava_lang_ObjectsrZ : parseMethodDescriptor "(Ljava/lang/Object;)Z" = some ⟨[(.object "java/lang/Object")], some .boolean⟩ := by decide +kernel
theorem pd_laBaBrZ : parseMethodDescriptor "([B[B)Z" = some ⟨[(.array .byte), (.array .byte)], some .boolean⟩ := by decide +kernel
theorem pn_0 : plainFor x = true := plainFor_of_name (show plainName "com/example/planbook/planbook/core/TestKindLimitsDeferralsPinLaw" = true by first | (simp [plainName, overriddenIn]; done) | decide +kernel)
theorem pn_1 : plainFor (⟨"com/example/planbook/planbook/core/TestKind", "limitsDeferrals", "()Z"⟩ : MethodName) = true := plainFor_of_name (show plainName "com/example/planbook/planbook/core/TestKind" = true by first | (simp [plainName, overriddenIn]; done) | decide +kernel)
theorem pn_2 : plainFor (⟨"com/example/planbook/planbook/core/TestKind", "key", "()Ljava/lang/String;"⟩ : MethodName) = true := plainFor_of_name (show plainName "com/example/planbook/planbook/core/TestKind" = true by first | (simp [plainName, overriddenIn]; done) | decide +kernel)
theorem pn_3 : plainFor (⟨"java/lang/String", "equals", "(Ljava/lang/Object;)Z"⟩ : MethodName) = true := plainFor_of_name (show plainName "java/lang/String" = true by first | (simp [plainName, overriddenIn]; done) | decide +kernel)
theorem pn_4 : plainFor (⟨"java/lang/StringLatin1", "equals", "([B[B)Z"⟩ : MethodName) = true := plainFor_of_name (show plainName "java/lang/StringLatin1" = true by first | (simp [plainName, overriddenIn]; done) | decide +kernel)
theorem own_lt {i n : Nat} (h : i < n) (hn : n < 2147483648) : Int32.ofNat i < Int32.ofNat n := by
  rw [Int32.lt_iff_toInt_lt, Int32.toInt_ofNat_of_lt (by omega), Int32.toInt_ofNat_of_lt (by omega)]
  omega
theorem own_nn {n : Nat} (hn : n < 2147483648) : ¬ Int32.ofNat n < 0 := by
  rw [Int32.lt_iff_toInt_lt, Int32.toInt_ofNat_of_lt (by omega), show (0 : Int32).toInt = 0 from rfl]
  omega
theorem own_n32 {n : Nat} (hn : n < 2147483648) : (Int32.ofNat n).toNatClampNeg = n := by
  rw [Int32.toNatClampNeg, Int32.toInt_ofNat_of_lt (by omega)]; rfl
theorem own_one (i : Nat) : Int32.ofNat i + (1 : Int32) = Int32.ofNat (i + 1) := (Int32.ofNat_add i 1).symm
theorem own_hd {xs ys : List Int32} {y : Int32} {i : Nat} (h : xs.drop i = y :: ys) : xs.getD i 0 = y := by
  have q : xs[i]? = some y := by have := congrArg (fun l => l[0]?) h; simpa [List.getElem?_drop] using this
  rw [List.getD_eq_getElem?_getD, q]; rfl
theorem own_tl {xs ys : List Int32} {y : Int32} {i : Nat} (h : xs.drop i = y :: ys) : xs.drop (i + 1) = ys := by
  have := congrArg (List.drop 1) h; simpa [List.drop_drop] using this
theorem own_sa {Z : State} {a0 : Array Value} (hw : ∀ d ∈ tables_1, d.before a0 Z = true) : ∀ a ∈ Bundle.stringAtoms, a.before a0 Z = true := by
  intro a ha
  simp only [Bundle.stringAtoms, List.mem_cons, List.not_mem_nil, or_false] at ha
  rcases ha with rfl | rfl | rfl | rfl | rfl | rfl | rfl
  all_goals first | exact (wd_17 hw) | exact (wd_18 hw) | exact (wd_19 hw) | exact (wd_20 hw) | exact (wd_21 hw) | exact (wd_22 hw) | exact (wd_23 hw)
def own_lim (r0 ra : Addr) : Int32 := if r0 = ra then nar .boolean (1 : Int32) else nar .boolean (0 : Int32)
theorem ef_1 (m : MethodId) (y0 : Addr) : entryFrame m #[(.ref y0)] 1 = mkF m 0 #[.val (.ref y0)] [] := by first | (simp [entryFrame, mkF, argsToLocals, Value.category]; done) | rfl
set_option maxRecDepth 65536 in
set_option maxHeartbeats 40000000 in
theorem rm1 (l : Launch) (Z : State) (a0 : Array Value) (hw : ∀ d ∈ tables_1, d.before a0 Z = true) (r0 ra : Addr) (h0 : Heap) (S0 : Sta Z h0 "com/example/planbook/planbook/core/TestKind" "ADP" "Lcom/example/planbook/planbook/core/TestKind;" (.ref ra)) : MetP l (⟨"com/example/planbook/planbook/core/TestKind", "limitsDeferrals", "()Z"⟩ : MethodName) prog_68_method_7_code 1 (some .boolean) [] ({ frames := 0, cells := 0, slots := 0, locals := 0 } : Room) Z #[(.ref r0)] h0 (Pure (.int (own_lim r0 ra)) h0) := by
  refine met_go pn_1 ?_
  intro p e s m below meth c s₁ hx hby hml hown hnm hret hlk hZ e0 X0
  rw [ef_1 m r0]
  refine o_aloadN 1 X0 hx rfl (hb hby d1_0) rfl rfl ?_
  refine o_getS 4 X0 hx rfl hZ hown (wd_8 hw) Via.refl e0 S0 (hb hby d1_1) fun T1 X1 e1 => ?_
  by_cases hs : r0 = ra
  · refine o_acmpneNo 7 X1 hx rfl (hb hby d1_4) hs ?_
    refine o_iconst 8 X1 hx rfl (hb hby d1_7) (1 : Int32) rfl ?_
    refine o_goto 12 X1 hx (hb hby d1_8) (by decide) (by decide) ?_
    refine o_retN X1 hx .boolean (by simp) hret hlk (hb hby d1_12) (by decide) (by decide) ?_
    exact ⟨show some (Value.int (1 : Int32)) = some (Value.int (own_lim r0 ra)) from by rw [own_lim, if_pos hs] <;> rfl, rfl, e1⟩
  · refine o_acmpne 11 X1 hx (hb hby d1_4) hs (by decide) (by decide) ?_
    refine o_iconst 12 X1 hx rfl (hb hby d1_11) (0 : Int32) rfl ?_
    refine o_retN X1 hx .boolean (by simp) hret hlk (hb hby d1_12) (by decide) (by decide) ?_
    exact ⟨show some (Value.int (0 : Int32)) = some (Value.int (own_lim r0 ra)) from by rw [own_lim, if_neg hs] <;> rfl, rfl, e1⟩
theorem ef_2 (m : MethodId) (y0 : Addr) : entryFrame m #[(.ref y0)] 1 = mkF m 0 #[.val (.ref y0)] [] := by first | (simp [entryFrame, mkF, argsToLocals, Value.category]; done) | rfl
set_option maxRecDepth 65536 in
set_option maxHeartbeats 40000000 in
theorem rm2 (l : Launch) (Z : State) (a0 : Array Value) (hw : ∀ d ∈ tables_1, d.before a0 Z = true) (r0 kx : Addr) (h0 : Heap) (F0 : Fld Z h0 r0 "com/example/planbook/planbook/core/TestKind" "key" "Ljava/lang/String;" (.ref kx)) : MetP l (⟨"com/example/planbook/planbook/core/TestKind", "key", "()Ljava/lang/String;"⟩ : MethodName) prog_68_method_4_code 1 (some (.object "java/lang/String")) [] ({ frames := 0, cells := 0, slots := 0, locals := 0 } : Room) Z #[(.ref r0)] h0 (Pure (.ref kx) h0) := by
  refine met_go pn_2 ?_
  intro p e s m below meth c s₁ hx hby hml hown hnm hret hlk hZ e0 X0
  rw [ef_2 m r0]
  refine o_aloadN 1 X0 hx rfl (hb hby d2_0) rfl rfl ?_
  refine o_getF 4 X0 hx rfl hZ hown (wd_14 hw) Via.refl e0 F0 (hb hby d2_1) fun T1 X1 e1 => ?_
  refine o_retA X1 hx rfl rfl hret hlk (hb hby d2_4) (by decide) (by decide) ?_
  exact ⟨rfl, rfl, e1⟩
def own_e3 (xs ys : List Int32) : Int32 := (if xs.getD 0 0 = ys.getD 0 0 then (if xs.getD 1 0 = ys.getD 1 0 then (if xs.getD 2 0 = ys.getD 2 0 then (nar .boolean (1 : Int32)) else nar .boolean (0 : Int32)) else nar .boolean (0 : Int32)) else nar .boolean (0 : Int32))
theorem ef_4 (m : MethodId) (y0 : Addr) (y1 : Addr) : entryFrame m #[(.ref y0), (.ref y1)] 3 = mkF m 0 #[.val (.ref y0), .val (.ref y1), .unset] [] := by first | (simp [entryFrame, mkF, argsToLocals, Value.category]; done) | rfl
set_option maxRecDepth 65536 in
set_option maxHeartbeats 40000000 in
theorem rm4 (l : Launch) (Z : State) (a0 : Array Value) (hw : ∀ d ∈ tables_1, d.before a0 Z = true) (r0 r1 : Addr) (ka kb : ClassId) (xs ys : List Int32) (h0 : Heap) (Ax : Arv Z h0 r0 ka .byte (3 : Int32) (xs.map Value.int) (.int 0)) (Ay : Arv Z h0 r1 kb .byte (3 : Int32) (ys.map Value.int) (.int 0)) : MetP l (⟨"java/lang/StringLatin1", "equals", "([B[B)Z"⟩ : MethodName) jdk_43_method_13_code 3 (some .boolean) [] ({ frames := 0, cells := 0, slots := 0, locals := 0 } : Room) Z #[(.ref r0), (.ref r1)] h0 (Pure (.int (own_e3 xs ys)) h0) := by
  refine met_go pn_4 ?_
  intro p e s m below meth c s₁ hx hby hml hown hnm hret hlk hZ e0 X0
  rw [ef_4 m r0 r1]
  refine o_aloadN 1 X0 hx rfl (hb hby d4_0) rfl rfl ?_
  refine o_alen 2 X0 hx rfl hZ e0 Ax (hb hby d4_1) ?_
  refine o_aloadN 3 X0 hx rfl (hb hby d4_2) rfl rfl ?_
  refine o_alen 4 X0 hx rfl hZ e0 Ay (hb hby d4_3) ?_
  refine o_icmpNo 7 X0 hx rfl (hb hby d4_4) (teq rfl).2 ?_
  refine o_iconst 8 X0 hx rfl (hb hby d4_7) (0 : Int32) rfl ?_
  refine o_istoreN 9 X0 hx rfl (hb hby d4_8) #[.val (.ref r0), .val (.ref r1), .val (.int (0 : Int32))] rfl ?_
  refine o_iloadN 10 X0 hx rfl (hb hby d4_9) rfl ?_
  refine o_aloadN 11 X0 hx rfl (hb hby d4_10) rfl rfl ?_
  refine o_alen 12 X0 hx rfl hZ e0 Ax (hb hby d4_11) ?_
  refine o_icmpNo 15 X0 hx rfl (hb hby d4_12) (tlt (show (0 : Int32) < (3 : Int32) by decide)).2.1 ?_
  refine o_aloadN 16 X0 hx rfl (hb hby d4_15) rfl rfl ?_
  refine o_iloadN 17 X0 hx rfl (hb hby d4_16) rfl ?_
  refine o_baloadBX 18 X0 hx rfl hZ e0 Ax (by decide) (hb hby d4_17) (xs.getD 0 0) rfl ?_
  refine o_aloadN 19 X0 hx rfl (hb hby d4_18) rfl rfl ?_
  refine o_iloadN 20 X0 hx rfl (hb hby d4_19) rfl ?_
  refine o_baloadBX 21 X0 hx rfl hZ e0 Ay (by decide) (hb hby d4_20) (ys.getD 0 0) rfl ?_
  by_cases h0 : xs.getD 0 0 = ys.getD 0 0
  · refine o_icmpYes 26 X0 hx (hb hby d4_21) (teq h0).1 (by decide) (by decide) ?_
    refine o_iinc 29 X0 hx rfl (hb hby d4_26) (1 : Int32) rfl rfl #[.val (.ref r0), .val (.ref r1), .val (.int (1 : Int32))] rfl ?_
    refine o_goto 9 X0 hx (hb hby d4_29) (by decide) (by decide) ?_
    refine o_iloadN 10 X0 hx rfl (hb hby d4_9) rfl ?_
    refine o_aloadN 11 X0 hx rfl (hb hby d4_10) rfl rfl ?_
    refine o_alen 12 X0 hx rfl hZ e0 Ax (hb hby d4_11) ?_
    refine o_icmpNo 15 X0 hx rfl (hb hby d4_12) (tlt (show (1 : Int32) < (3 : Int32) by decide)).2.1 ?_
    refine o_aloadN 16 X0 hx rfl (hb hby d4_15) rfl rfl ?_
    refine o_iloadN 17 X0 hx rfl (hb hby d4_16) rfl ?_
    refine o_baloadBX 18 X0 hx rfl hZ e0 Ax (by decide) (hb hby d4_17) (xs.getD 1 0) rfl ?_
    refine o_aloadN 19 X0 hx rfl (hb hby d4_18) rfl rfl ?_
    refine o_iloadN 20 X0 hx rfl (hb hby d4_19) rfl ?_
    refine o_baloadBX 21 X0 hx rfl hZ e0 Ay (by decide) (hb hby d4_20) (ys.getD 1 0) rfl ?_
    by_cases h1 : xs.getD 1 0 = ys.getD 1 0
    · refine o_icmpYes 26 X0 hx (hb hby d4_21) (teq h1).1 (by decide) (by decide) ?_
      refine o_iinc 29 X0 hx rfl (hb hby d4_26) (1 : Int32) rfl rfl #[.val (.ref r0), .val (.ref r1), .val (.int (2 : Int32))] rfl ?_
      refine o_goto 9 X0 hx (hb hby d4_29) (by decide) (by decide) ?_
      refine o_iloadN 10 X0 hx rfl (hb hby d4_9) rfl ?_
      refine o_aloadN 11 X0 hx rfl (hb hby d4_10) rfl rfl ?_
      refine o_alen 12 X0 hx rfl hZ e0 Ax (hb hby d4_11) ?_
      refine o_icmpNo 15 X0 hx rfl (hb hby d4_12) (tlt (show (2 : Int32) < (3 : Int32) by decide)).2.1 ?_
      refine o_aloadN 16 X0 hx rfl (hb hby d4_15) rfl rfl ?_
      refine o_iloadN 17 X0 hx rfl (hb hby d4_16) rfl ?_
      refine o_baloadBX 18 X0 hx rfl hZ e0 Ax (by decide) (hb hby d4_17) (xs.getD 2 0) rfl ?_
      refine o_aloadN 19 X0 hx rfl (hb hby d4_18) rfl rfl ?_
      refine o_iloadN 20 X0 hx rfl (hb hby d4_19) rfl ?_
      refine o_baloadBX 21 X0 hx rfl hZ e0 Ay (by decide) (hb hby d4_20) (ys.getD 2 0) rfl ?_
      by_cases h2 : xs.getD 2 0 = ys.getD 2 0
      · refine o_icmpYes 26 X0 hx (hb hby d4_21) (teq h2).1 (by decide) (by decide) ?_
        refine o_iinc 29 X0 hx rfl (hb hby d4_26) (1 : Int32) rfl rfl #[.val (.ref r0), .val (.ref r1), .val (.int (3 : Int32))] rfl ?_
        refine o_goto 9 X0 hx (hb hby d4_29) (by decide) (by decide) ?_
        refine o_iloadN 10 X0 hx rfl (hb hby d4_9) rfl ?_
        refine o_aloadN 11 X0 hx rfl (hb hby d4_10) rfl rfl ?_
        refine o_alen 12 X0 hx rfl hZ e0 Ax (hb hby d4_11) ?_
        refine o_icmpYes 32 X0 hx (hb hby d4_12) (flt (show ¬ ((3 : Int32) < (3 : Int32)) by decide)).2.1 (by decide) (by decide) ?_
        refine o_iconst 33 X0 hx rfl (hb hby d4_32) (1 : Int32) rfl ?_
        refine o_retN X0 hx .boolean (by simp) hret hlk (hb hby d4_33) (by decide) (by decide) ?_
        exact ⟨show some (Value.int (1 : Int32)) = some (Value.int (own_e3 xs ys)) from by rw [own_e3, if_pos h0, if_pos h1, if_pos h2] <;> rfl, rfl, e0⟩
      · refine o_icmpNo 24 X0 hx rfl (hb hby d4_21) (feq h2).1 ?_
        refine o_iconst 25 X0 hx rfl (hb hby d4_24) (0 : Int32) rfl ?_
        refine o_retN X0 hx .boolean (by simp) hret hlk (hb hby d4_25) (by decide) (by decide) ?_
        exact ⟨show some (Value.int (0 : Int32)) = some (Value.int (own_e3 xs ys)) from by rw [own_e3, if_pos h0, if_pos h1, if_neg h2] <;> rfl, rfl, e0⟩
    · refine o_icmpNo 24 X0 hx rfl (hb hby d4_21) (feq h1).1 ?_
      refine o_iconst 25 X0 hx rfl (hb hby d4_24) (0 : Int32) rfl ?_
      refine o_retN X0 hx .boolean (by simp) hret hlk (hb hby d4_25) (by decide) (by decide) ?_
      exact ⟨show some (Value.int (0 : Int32)) = some (Value.int (own_e3 xs ys)) from by rw [own_e3, if_pos h0, if_neg h1] <;> rfl, rfl, e0⟩
  · refine o_icmpNo 24 X0 hx rfl (hb hby d4_21) (feq h0).1 ?_
    refine o_iconst 25 X0 hx rfl (hb hby d4_24) (0 : Int32) rfl ?_
    refine o_retN X0 hx .boolean (by simp) hret hlk (hb hby d4_25) (by decide) (by decide) ?_
    exact ⟨show some (Value.int (0 : Int32)) = some (Value.int (own_e3 xs ys)) from by rw [own_e3, if_neg h0] <;> rfl, rfl, e0⟩
theorem own_same {Z : State} {h : Heap} {b : Addr} {k k' : ClassId} {xs ys : List Int32} (A : Arv Z h b k .byte (3 : Int32) (xs.map Value.int) (.int 0)) (B : Arv Z h b k' .byte (3 : Int32) (ys.map Value.int) (.int 0)) : own_e3 xs ys = nar .boolean (1 : Int32) := by
  obtain ⟨c, A1, -, A2, -, A3, -⟩ := A
  obtain ⟨c', B1, -, B2, -, B3, -⟩ := B
  have ec : c = c' := Option.some.inj (A1.1.symm.trans B1.1)
  subst ec
  have q : ∀ i, i < 3 → xs.getD i 0 = ys.getD i 0 := fun i hi => by
    have h1 := A3 i (by rw [A2]; exact hi)
    have h2 := B3 i (by rw [A2]; exact hi)
    rw [own_getI] at h1 h2
    exact Value.int.inj (Option.some.inj (h1.symm.trans h2))
  rw [own_e3, if_pos (q 0 (by decide)), if_pos (q 1 (by decide)), if_pos (q 2 (by decide))]
theorem own_01z {xs ys : List Int32} (h : own_e3 xs ys = (0 : Int32)) : own_e3 xs ys = nar .boolean (0 : Int32) := h
theorem own_01n {xs ys : List Int32} (h : ¬ own_e3 xs ys = (0 : Int32)) : own_e3 xs ys = nar .boolean (1 : Int32) := by
  by_cases h0 : xs.getD 0 0 = ys.getD 0 0
  · by_cases h1 : xs.getD 1 0 = ys.getD 1 0
    · by_cases h2 : xs.getD 2 0 = ys.getD 2 0
      · rw [own_e3, if_pos h0, if_pos h1, if_pos h2]
      · exact absurd (by rw [own_e3, if_pos h0, if_pos h1, if_neg h2] <;> rfl) h
    · exact absurd (by rw [own_e3, if_pos h0, if_neg h1] <;> rfl) h
  · exact absurd (by rw [own_e3, if_neg h0] <;> rfl) h
theorem ef_3 (m : MethodId) (y0 : Addr) (y1 : Addr) : entryFrame m #[(.ref y0), (.ref y1)] 3 = mkF m 0 #[.val (.ref y0), .val (.ref y1), .unset] [] := by first | (simp [entryFrame, mkF, argsToLocals, Value.category]; done) | rfl
set_option maxRecDepth 65536 in
set_option maxHeartbeats 40000000 in
theorem rm3 (l : Launch) (Z : State) (a0 : Array Value) (hw : ∀ d ∈ tables_1, d.before a0 Z = true) (r0 r1 b0 b1 : Addr) (ka kb : ClassId) (xs ys : List Int32) (z : Int32) (h0 : Heap) (Ex : Exa Z h0 r0 "java/lang/String") (Cx : Fld Z h0 r0 "java/lang/String" "coder" "B" (.int (0 : Int32))) (Vx : Fld Z h0 r0 "java/lang/String" "value" "[B" (.ref b0)) (Ax : Arv Z h0 b0 ka .byte (3 : Int32) (xs.map Value.int) (.int 0)) (Ey : Exa Z h0 r1 "java/lang/String") (Cy : Fld Z h0 r1 "java/lang/String" "coder" "B" (.int (0 : Int32))) (Vy : Fld Z h0 r1 "java/lang/String" "value" "[B" (.ref b1)) (Ay : Arv Z h0 b1 kb .byte (3 : Int32) (ys.map Value.int) (.int 0)) (S0 : Sta Z h0 "java/lang/String" "COMPACT_STRINGS" "Z" (.int z)) (hz : ¬ z = (0 : Int32)) : MetP l (⟨"java/lang/String", "equals", "(Ljava/lang/Object;)Z"⟩ : MethodName) jdk_42_method_66_code 3 (some .boolean) [] ({ frames := 1, cells := 0, slots := 0, locals := 14 } : Room) Z #[(.ref r0), (.ref r1)] h0 (Pure (.int (own_e3 xs ys)) h0) := by
  refine met_go pn_3 ?_
  intro p e s m below meth c s₁ hx hby hml hown hnm hret hlk hZ e0 X0
  rw [ef_3 m r0 r1]
  refine o_aloadN 1 X0 hx rfl (hb hby d3_0) rfl rfl ?_
  refine o_aloadN 2 X0 hx rfl (hb hby d3_1) rfl rfl ?_
  by_cases hs : r0 = r1
  · refine o_acmpneNo 5 X0 hx rfl (hb hby d3_2) hs ?_
    subst hs
    have hb01 : b0 = b1 := Classical.byContradiction fun q => Fld.ne Vx Vy (fun z => q (Value.ref.inj z)) rfl
    subst hb01
    refine o_iconst 6 X0 hx rfl (hb hby d3_5) (1 : Int32) rfl ?_
    refine o_retN X0 hx .boolean (by simp) hret hlk (hb hby d3_6) (by decide) (by decide) ?_
    exact ⟨show some (Value.int (1 : Int32)) = some (Value.int (own_e3 xs ys)) from by rw [own_same Ax Ay] <;> rfl, rfl, e0⟩
  · refine o_acmpne 7 X0 hx (hb hby d3_2) hs (by decide) (by decide) ?_
    refine o_aloadN 8 X0 hx rfl (hb hby d3_7) rfl rfl ?_
    refine o_instY 11 X0 hx rfl hZ hown (wd_29 hw) e0 (Ins.self Ey) (hb hby d3_8) fun T1 X1 e1 => ?_
    refine o_ifNo 14 X1 hx rfl (hb hby d3_11) (feq (show ¬ ((1 : Int32) = (0 : Int32)) by decide)).1 ?_
    refine o_aloadN 15 X1 hx rfl (hb hby d3_14) rfl rfl ?_
    refine o_castY 18 X1 hx rfl hZ hown (wd_29 hw) e1 (Ins.self Ey) (hb hby d3_15) fun T2 X2 e2 => ?_
    refine o_astoreN 19 X2 hx rfl (hb hby d3_18) rfl #[.val (.ref r0), .val (.ref r1), .val (.ref r1)] rfl ?_
    refine o_getS 22 X2 hx rfl hZ hown (wd_31 hw) Via.refl e2 S0 (hb hby d3_19) fun T3 X3 e3 => ?_
    refine o_ifNo 25 X3 hx rfl (hb hby d3_22) (feq hz).1 ?_
    refine o_aloadN 26 X3 hx rfl (hb hby d3_25) rfl rfl ?_
    refine o_getF 29 X3 hx rfl hZ hown (wd_32 hw) Via.refl e3 Cx (hb hby d3_26) fun T4 X4 e4 => ?_
    refine o_aloadN 30 X4 hx rfl (hb hby d3_29) rfl rfl ?_
    refine o_getF 33 X4 hx rfl hZ hown (wd_32 hw) Via.refl e4 Cy (hb hby d3_30) fun T5 X5 e5 => ?_
    refine o_icmpNo 36 X5 hx rfl (hb hby d3_33) (teq rfl).2 ?_
    refine o_aloadN 37 X5 hx rfl (hb hby d3_36) rfl rfl ?_
    refine o_getF 40 X5 hx rfl hZ hown (wd_33 hw) Via.refl e5 Vx (hb hby d3_37) fun T6 X6 e6 => ?_
    refine o_aloadN 41 X6 hx rfl (hb hby d3_40) rfl rfl ?_
    refine o_getF 44 X6 hx rfl hZ hown (wd_33 hw) Via.refl e6 Vy (hb hby d3_41) fun T7 X7 e7 => ?_
    refine o_callP (rv := (.int (own_e3 xs ys))) 47 X7 hx rfl hZ hown (wd_34 hw) (wd_35 hw) (wd_36 hw) (wd_37 hw) (by decide) e7 (rm4 l Z a0 hw b0 b1 ka kb xs ys h0 Ax Ay) pd_laBaBrZ [(.ref b0), (.ref b1)] [] rfl rfl (by rw [hml]; rfl) rfl (hb hby d3_44) 0 (Nat.le_of_eq rfl) (by decide) (by decide) (by decide) (by decide) rfl rfl fun T8 X8 e8 => ?_
    by_cases he : (own_e3 xs ys) = (0 : Int32)
    · refine o_ifYes 54 X8 hx (hb hby d3_47) (teq he).1 (by decide) (by decide) ?_
      refine o_iconst 55 X8 hx rfl (hb hby d3_54) (0 : Int32) rfl ?_
      refine o_retN X8 hx .boolean (by simp) hret hlk (hb hby d3_55) (by decide) (by decide) ?_
      exact ⟨show some (Value.int (0 : Int32)) = some (Value.int (own_e3 xs ys)) from by rw [own_01z he] <;> rfl, rfl, e8⟩
    · refine o_ifNo 50 X8 hx rfl (hb hby d3_47) (feq he).1 ?_
      refine o_iconst 51 X8 hx rfl (hb hby d3_50) (1 : Int32) rfl ?_
      refine o_goto 55 X8 hx (hb hby d3_51) (by decide) (by decide) ?_
      refine o_retN X8 hx .boolean (by simp) hret hlk (hb hby d3_55) (by decide) (by decide) ?_
      exact ⟨show some (Value.int (1 : Int32)) = some (Value.int (own_e3 xs ys)) from by rw [own_01n he] <;> rfl, rfl, e8⟩
theorem ef_0 (m : MethodId) (y0 : Int32) : entryFrame m #[(.int y0)] maxLocals = mkF m 0 #[.val (.int y0), .unset, .unset, .unset, .unset] [] := by first | (simp [entryFrame, mkF, argsToLocals, Value.category, maxLocals]; done) | rfl
set_option maxRecDepth 65536 in
set_option maxHeartbeats 40000000 in
theorem rm0 (l : Launch) (Z : State) (a0 : Array Value) (hw : ∀ d ∈ tables_1, d.before a0 Z = true) (ws : List Jvm.Cond) (i0 : Int32) (ra rc ka kc va vc : Addr) (ca cc : ClassId) (z : Int32) (hz : ¬ z = (0 : Int32)) (hne : ¬ rc = ra) (Sra : Sta Z Z.heap "com/example/planbook/planbook/core/TestKind" "ADP" "Lcom/example/planbook/planbook/core/TestKind;" (.ref ra)) (Era : Exa Z Z.heap ra "com/example/planbook/planbook/core/TestKind") (Kra : Fld Z Z.heap ra "com/example/planbook/planbook/core/TestKind" "key" "Ljava/lang/String;" (.ref ka)) (Eka : Exa Z Z.heap ka "java/lang/String") (Cka : Fld Z Z.heap ka "java/lang/String" "coder" "B" (.int (0 : Int32))) (Vka : Fld Z Z.heap ka "java/lang/String" "value" "[B" (.ref va)) (Aka : Arv Z Z.heap va ca .byte (3 : Int32) ([(97 : Int32), (100 : Int32), (112 : Int32)].map Value.int) (.int 0)) (Src : Sta Z Z.heap "com/example/planbook/planbook/core/TestKind" "ACP" "Lcom/example/planbook/planbook/core/TestKind;" (.ref rc)) (Erc : Exa Z Z.heap rc "com/example/planbook/planbook/core/TestKind") (Krc : Fld Z Z.heap rc "com/example/planbook/planbook/core/TestKind" "key" "Ljava/lang/String;" (.ref kc)) (Ekc : Exa Z Z.heap kc "java/lang/String") (Ckc : Fld Z Z.heap kc "java/lang/String" "coder" "B" (.int (0 : Int32))) (Vkc : Fld Z Z.heap kc "java/lang/String" "value" "[B" (.ref vc)) (Akc : Arv Z Z.heap vc cc .byte (3 : Int32) ([(97 : Int32), (99 : Int32), (112 : Int32)].map Value.int) (.int 0)) (Sz : Sta Z Z.heap "java/lang/String" "COMPACT_STRINGS" "Z" (.int z)) (hh24 : Jvm.Lit.constHeld Z "com/example/planbook/planbook/core/TestKindLimitsDeferralsPinLaw" 24) (hh32 : Jvm.Lit.constHeld Z "com/example/planbook/planbook/core/TestKindLimitsDeferralsPinLaw" 32) (hcw : Jvm.Lit.compactW.before a0 Z = true) : MetFree l x (head1 (Jvm.Cond.code x code maxLocals ret :: ws) room_1) (fun a U => a = #[(.int i0)] ∧ U = Z) (fun _ _ _ _ _ => True) (fun _ U o U' => ∃ v L, o = .returned v ∧ (fun v h L => v = some (.int (1 : Int32)) ∧ Fr Z.heap.size L) v U'.heap L ∧ ReturnedEndW U o U' L room_1.cells room_1.slots) := by
  refine met_goZ (Q := fun v h L => v = some (.int (1 : Int32)) ∧ Fr Z.heap.size L) pn_0 ?_
  intro p e s m below meth c s₁ hx hby hml hown hnm hret hlk hsZ e0 X0
  subst hsZ
  have hZ : s.Warmed39 s.vm := State.Warmed39.refl s
  have N0 := Fr.nil s.heap.size
  have Z0 : s.heap.size ≤ s.heap.size := Nat.le_refl _
  have hkeep : ∀ (b : Addr) (cl : Cell), s.heap[b]? = some cl → s.heap[b]? = some cl := fun _ _ q => q
  have I0 : IB s s.vm [] := IB.start
  have X0' : Stand p l e room_1 (s.setVm s.vm) m #[(.int i0)] below meth c s₁ [] 0 0 := X0
  have S0 : s.Since s.vm 0 := (State.WarmedH.refl s).since _
  rw [ef_0 m i0]
  refine o_iloadN 1 X0' hx rfl (hb hby at_0) rfl ?_
  refine o_iconst 2 X0' hx rfl (hb hby at_1) (1 : Int32) rfl ?_
  refine o_iand 3 X0' hx rfl (hb hby at_2) ?_
  by_cases hk : (i0 &&& (1 : Int32)) = (0 : Int32)
  · refine o_ifNo 6 X0' hx rfl (hb hby at_3) (teq hk).2 ?_
    refine o_getS 9 X0' hx rfl hZ hown (wd_0 hw) Via.refl e0 Sra (hb hby at_6) fun T1 X1 e1 => ?_
    refine o_goto 15 X1 hx (hb hby at_9) (by decide) (by decide) ?_
    refine o_astoreN 16 X1 hx rfl (hb hby at_15) rfl #[.val (.int i0), .val (.ref ra), .unset, .unset, .unset] rfl ?_
    refine o_aloadN 17 X1 hx rfl (hb hby at_16) rfl rfl ?_
    refine o_callVP (rv := (.int (own_lim ra ra))) 20 X1 hx rfl hZ hown (wd_3 hw) (wd_4 hw) (wd_6 hw) (wd_5 hw) (wd_1 hw) (wd_7 hw) (by decide) e1 (rm1 l s a0 hw ra ra s.heap Sra) pd_lrZ [] [] rfl Era rfl (by rw [hml]; rfl) rfl (hb hby at_17) 0 (Nat.le_of_eq rfl) (by decide) (by decide) (by decide) (by decide) rfl rfl fun T2 X2 e2 => ?_
    rw [show (own_lim ra ra) = (1 : Int32) from by rw [own_lim, if_pos rfl]; rfl]
    refine o_istoreN 21 X2 hx rfl (hb hby at_20) #[.val (.int i0), .val (.ref ra), .val (.int (1 : Int32)), .unset, .unset] rfl ?_
    refine o_aloadN 22 X2 hx rfl (hb hby at_21) rfl rfl ?_
    refine o_callVP (rv := (.ref ka)) 25 X2 hx rfl hZ hown (wd_9 hw) (wd_10 hw) (wd_12 hw) (wd_11 hw) (wd_1 hw) (wd_13 hw) (by decide) e2 (rm2 l s a0 hw ra ka s.heap Kra) pd_lrLjava_lang_Strings [] [] rfl Era rfl (by rw [hml]; rfl) rfl (hb hby at_22) 0 (Nat.le_of_eq rfl) (by decide) (by decide) (by decide) (by decide) rfl rfl fun T3 X3 e3 => ?_
    refine o_ldcV 27 X3 hx rfl hZ hown (wd_16 hw) (own_sa hw) e3 S0 (Nat.zero_le _) N0 hkeep I0 (by decide) hh24 hcw ([(97 : Int32), (100 : Int32), (112 : Int32)].map Value.int) (3 : Int32) ⟨by decide, rfl⟩ (by decide) rfl (hb hby at_25) 12 (by decide) (by decide) (by decide) (by decide) fun a4 T4 h4 k4 b4 kb4 X4 e4 E4 S4 kl4 hZ4 hown4 Ea4 Fc4 Fv4 Ab4 I4 => ?_
    have F5 : Sta s h4 "com/example/planbook/planbook/core/TestKind" "ADP" "Lcom/example/planbook/planbook/core/TestKind;" (.ref ra) := Sra.ext E4
    have F6 : Exa s h4 ra "com/example/planbook/planbook/core/TestKind" := Era.ext E4
    have F7 : Fld s h4 ra "com/example/planbook/planbook/core/TestKind" "key" "Ljava/lang/String;" (.ref ka) := Kra.ext E4
    have F8 : Exa s h4 ka "java/lang/String" := Eka.ext E4
    have F9 : Fld s h4 ka "java/lang/String" "coder" "B" (.int (0 : Int32)) := Cka.ext E4
    have F10 : Fld s h4 ka "java/lang/String" "value" "[B" (.ref va) := Vka.ext E4
    have F11 : Arv s h4 va ca .byte (3 : Int32) ([(97 : Int32), (100 : Int32), (112 : Int32)].map Value.int) (.int 0) := Aka.ext E4
    have F12 : Sta s h4 "com/example/planbook/planbook/core/TestKind" "ACP" "Lcom/example/planbook/planbook/core/TestKind;" (.ref rc) := Src.ext E4
    have F13 : Exa s h4 rc "com/example/planbook/planbook/core/TestKind" := Erc.ext E4
    have F14 : Fld s h4 rc "com/example/planbook/planbook/core/TestKind" "key" "Ljava/lang/String;" (.ref kc) := Krc.ext E4
    have F15 : Exa s h4 kc "java/lang/String" := Ekc.ext E4
    have F16 : Fld s h4 kc "java/lang/String" "coder" "B" (.int (0 : Int32)) := Ckc.ext E4
    have F17 : Fld s h4 kc "java/lang/String" "value" "[B" (.ref vc) := Vkc.ext E4
    have F18 : Arv s h4 vc cc .byte (3 : Int32) ([(97 : Int32), (99 : Int32), (112 : Int32)].map Value.int) (.int 0) := Akc.ext E4
    have F19 : Sta s h4 "java/lang/String" "COMPACT_STRINGS" "Z" (.int z) := Sz.ext E4
    have sz20 : s.heap.size ≤ h4.size := Nat.le_trans Z0 E4.1
    refine o_callVP (rv := (.int (own_e3 [(97 : Int32), (100 : Int32), (112 : Int32)] [(97 : Int32), (100 : Int32), (112 : Int32)]))) 30 X4 hx rfl hZ4 hown4 (wd_24 hw) (wd_25 hw) (wd_27 hw) (wd_26 hw) (wd_17 hw) (wd_28 hw) (by decide) e4 (rm3 l s a0 hw ka a4 va b4 ca kb4 [(97 : Int32), (100 : Int32), (112 : Int32)] [(97 : Int32), (100 : Int32), (112 : Int32)] z h4 F8 F9 F10 F11 Ea4 Fc4 Fv4 Ab4 F19 hz) pd_lLjava_lang_ObjectsrZ [(.ref a4)] [] rfl F8 rfl (by rw [hml]; rfl) rfl (hb hby at_27) 0 (Nat.le_of_eq rfl) (by decide) (by decide) (by decide) (by decide) rfl rfl fun T21 X21 e21 => ?_
    rw [show (own_e3 [(97 : Int32), (100 : Int32), (112 : Int32)] [(97 : Int32), (100 : Int32), (112 : Int32)]) = (1 : Int32) from by decide]
    refine o_istoreN 31 X21 hx rfl (hb hby at_30) #[.val (.int i0), .val (.ref ra), .val (.int (1 : Int32)), .val (.int (1 : Int32)), .unset] rfl ?_
    refine o_aloadN 32 X21 hx rfl (hb hby at_31) rfl rfl ?_
    refine o_callVP (rv := (.ref ka)) 35 X21 hx rfl hZ4 hown4 (wd_9 hw) (wd_10 hw) (wd_12 hw) (wd_11 hw) (wd_1 hw) (wd_13 hw) (by decide) e21 (rm2 l s a0 hw ra ka h4 F7) pd_lrLjava_lang_Strings [] [] rfl F6 rfl (by rw [hml]; rfl) rfl (hb hby at_32) 0 (Nat.le_of_eq rfl) (by decide) (by decide) (by decide) (by decide) rfl rfl fun T22 X22 e22 => ?_
    refine o_ldcV 37 X22 hx rfl hZ4 hown4 (wd_38 hw) (own_sa hw) e22 S4 kl4 N0 hkeep I4 (by decide) hh32 hcw ([(97 : Int32), (99 : Int32), (112 : Int32)].map Value.int) (3 : Int32) ⟨by decide, rfl⟩ (by decide) rfl (hb hby at_35) 12 (by decide) (by decide) (by decide) (by decide) fun a23 T23 h23 k23 b23 kb23 X23 e23 E23 S23 kl23 hZ23 hown23 Ea23 Fc23 Fv23 Ab23 I23 => ?_
    have F24 : Sta s h23 "com/example/planbook/planbook/core/TestKind" "ADP" "Lcom/example/planbook/planbook/core/TestKind;" (.ref ra) := F5.ext E23
    have F25 : Exa s h23 ra "com/example/planbook/planbook/core/TestKind" := F6.ext E23
    have F26 : Fld s h23 ra "com/example/planbook/planbook/core/TestKind" "key" "Ljava/lang/String;" (.ref ka) := F7.ext E23
    have F27 : Exa s h23 ka "java/lang/String" := F8.ext E23
    have F28 : Fld s h23 ka "java/lang/String" "coder" "B" (.int (0 : Int32)) := F9.ext E23
    have F29 : Fld s h23 ka "java/lang/String" "value" "[B" (.ref va) := F10.ext E23
    have F30 : Arv s h23 va ca .byte (3 : Int32) ([(97 : Int32), (100 : Int32), (112 : Int32)].map Value.int) (.int 0) := F11.ext E23
    have F31 : Sta s h23 "com/example/planbook/planbook/core/TestKind" "ACP" "Lcom/example/planbook/planbook/core/TestKind;" (.ref rc) := F12.ext E23
    have F32 : Exa s h23 rc "com/example/planbook/planbook/core/TestKind" := F13.ext E23
    have F33 : Fld s h23 rc "com/example/planbook/planbook/core/TestKind" "key" "Ljava/lang/String;" (.ref kc) := F14.ext E23
    have F34 : Exa s h23 kc "java/lang/String" := F15.ext E23
    have F35 : Fld s h23 kc "java/lang/String" "coder" "B" (.int (0 : Int32)) := F16.ext E23
    have F36 : Fld s h23 kc "java/lang/String" "value" "[B" (.ref vc) := F17.ext E23
    have F37 : Arv s h23 vc cc .byte (3 : Int32) ([(97 : Int32), (99 : Int32), (112 : Int32)].map Value.int) (.int 0) := F18.ext E23
    have F38 : Sta s h23 "java/lang/String" "COMPACT_STRINGS" "Z" (.int z) := F19.ext E23
    have F39 : Exa s h23 a4 "java/lang/String" := Ea4.ext E23
    have F40 : Fld s h23 a4 "java/lang/String" "coder" "B" (.int (0 : Int32)) := Fc4.ext E23
    have F41 : Fld s h23 a4 "java/lang/String" "value" "[B" (.ref b4) := Fv4.ext E23
    have F42 : Arv s h23 b4 kb4 .byte (3 : Int32) ([(97 : Int32), (100 : Int32), (112 : Int32)].map Value.int) (.int 0) := Ab4.ext E23
    have sz43 : s.heap.size ≤ h23.size := Nat.le_trans sz20 E23.1
    refine o_callVP (rv := (.int (own_e3 [(97 : Int32), (100 : Int32), (112 : Int32)] [(97 : Int32), (99 : Int32), (112 : Int32)]))) 40 X23 hx rfl hZ23 hown23 (wd_24 hw) (wd_25 hw) (wd_27 hw) (wd_26 hw) (wd_17 hw) (wd_28 hw) (by decide) e23 (rm3 l s a0 hw ka a23 va b23 ca kb23 [(97 : Int32), (100 : Int32), (112 : Int32)] [(97 : Int32), (99 : Int32), (112 : Int32)] z h23 F27 F28 F29 F30 Ea23 Fc23 Fv23 Ab23 F38 hz) pd_lLjava_lang_ObjectsrZ [(.ref a23)] [] rfl F27 rfl (by rw [hml]; rfl) rfl (hb hby at_37) 0 (Nat.le_of_eq rfl) (by decide) (by decide) (by decide) (by decide) rfl rfl fun T44 X44 e44 => ?_
    rw [show (own_e3 [(97 : Int32), (100 : Int32), (112 : Int32)] [(97 : Int32), (99 : Int32), (112 : Int32)]) = (0 : Int32) from by decide]
    refine o_istore 42 X44 hx rfl (hb hby at_40) #[.val (.int i0), .val (.ref ra), .val (.int (1 : Int32)), .val (.int (1 : Int32)), .val (.int (0 : Int32))] rfl ?_
    refine o_iloadN 43 X44 hx rfl (hb hby at_42) rfl ?_
    refine o_iloadN 44 X44 hx rfl (hb hby at_43) rfl ?_
    refine o_icmpNo 47 X44 hx rfl (hb hby at_44) (teq rfl).2 ?_
    refine o_iloadN 48 X44 hx rfl (hb hby at_47) rfl ?_
    refine o_iload 50 X44 hx rfl (hb hby at_48) rfl ?_
    refine o_icmpNo 53 X44 hx rfl (hb hby at_50) (feq (show ¬ ((1 : Int32) = (0 : Int32)) by decide)).1 ?_
    refine o_iconst 54 X44 hx rfl (hb hby at_53) (1 : Int32) rfl ?_
    refine o_goto 58 X44 hx (hb hby at_54) (by decide) (by decide) ?_
    refine o_outW X44 hx S23 (by rw [e44]; exact kl23) .boolean (by simp) hret hlk (hb hby at_58) (by decide) (by decide) ?_
    exact ⟨rfl, N0⟩
  · refine o_ifYes 12 X0' hx (hb hby at_3) (feq hk).2 (by decide) (by decide) ?_
    refine o_getS 15 X0' hx rfl hZ hown (wd_39 hw) Via.refl e0 Src (hb hby at_12) fun T45 X45 e45 => ?_
    refine o_astoreN 16 X45 hx rfl (hb hby at_15) rfl #[.val (.int i0), .val (.ref rc), .unset, .unset, .unset] rfl ?_
    refine o_aloadN 17 X45 hx rfl (hb hby at_16) rfl rfl ?_
    refine o_callVP (rv := (.int (own_lim rc ra))) 20 X45 hx rfl hZ hown (wd_3 hw) (wd_4 hw) (wd_6 hw) (wd_5 hw) (wd_1 hw) (wd_7 hw) (by decide) e45 (rm1 l s a0 hw rc ra s.heap Sra) pd_lrZ [] [] rfl Erc rfl (by rw [hml]; rfl) rfl (hb hby at_17) 0 (Nat.le_of_eq rfl) (by decide) (by decide) (by decide) (by decide) rfl rfl fun T46 X46 e46 => ?_
    rw [show (own_lim rc ra) = (0 : Int32) from by rw [own_lim, if_neg hne]; rfl]
    refine o_istoreN 21 X46 hx rfl (hb hby at_20) #[.val (.int i0), .val (.ref rc), .val (.int (0 : Int32)), .unset, .unset] rfl ?_
    refine o_aloadN 22 X46 hx rfl (hb hby at_21) rfl rfl ?_
    refine o_callVP (rv := (.ref kc)) 25 X46 hx rfl hZ hown (wd_9 hw) (wd_10 hw) (wd_12 hw) (wd_11 hw) (wd_1 hw) (wd_13 hw) (by decide) e46 (rm2 l s a0 hw rc kc s.heap Krc) pd_lrLjava_lang_Strings [] [] rfl Erc rfl (by rw [hml]; rfl) rfl (hb hby at_22) 0 (Nat.le_of_eq rfl) (by decide) (by decide) (by decide) (by decide) rfl rfl fun T47 X47 e47 => ?_
    refine o_ldcV 27 X47 hx rfl hZ hown (wd_16 hw) (own_sa hw) e47 S0 (Nat.zero_le _) N0 hkeep I0 (by decide) hh24 hcw ([(97 : Int32), (100 : Int32), (112 : Int32)].map Value.int) (3 : Int32) ⟨by decide, rfl⟩ (by decide) rfl (hb hby at_25) 12 (by decide) (by decide) (by decide) (by decide) fun a48 T48 h48 k48 b48 kb48 X48 e48 E48 S48 kl48 hZ48 hown48 Ea48 Fc48 Fv48 Ab48 I48 => ?_
    have F49 : Sta s h48 "com/example/planbook/planbook/core/TestKind" "ADP" "Lcom/example/planbook/planbook/core/TestKind;" (.ref ra) := Sra.ext E48
    have F50 : Exa s h48 ra "com/example/planbook/planbook/core/TestKind" := Era.ext E48
    have F51 : Fld s h48 ra "com/example/planbook/planbook/core/TestKind" "key" "Ljava/lang/String;" (.ref ka) := Kra.ext E48
    have F52 : Exa s h48 ka "java/lang/String" := Eka.ext E48
    have F53 : Fld s h48 ka "java/lang/String" "coder" "B" (.int (0 : Int32)) := Cka.ext E48
    have F54 : Fld s h48 ka "java/lang/String" "value" "[B" (.ref va) := Vka.ext E48
    have F55 : Arv s h48 va ca .byte (3 : Int32) ([(97 : Int32), (100 : Int32), (112 : Int32)].map Value.int) (.int 0) := Aka.ext E48
    have F56 : Sta s h48 "com/example/planbook/planbook/core/TestKind" "ACP" "Lcom/example/planbook/planbook/core/TestKind;" (.ref rc) := Src.ext E48
    have F57 : Exa s h48 rc "com/example/planbook/planbook/core/TestKind" := Erc.ext E48
    have F58 : Fld s h48 rc "com/example/planbook/planbook/core/TestKind" "key" "Ljava/lang/String;" (.ref kc) := Krc.ext E48
    have F59 : Exa s h48 kc "java/lang/String" := Ekc.ext E48
    have F60 : Fld s h48 kc "java/lang/String" "coder" "B" (.int (0 : Int32)) := Ckc.ext E48
    have F61 : Fld s h48 kc "java/lang/String" "value" "[B" (.ref vc) := Vkc.ext E48
    have F62 : Arv s h48 vc cc .byte (3 : Int32) ([(97 : Int32), (99 : Int32), (112 : Int32)].map Value.int) (.int 0) := Akc.ext E48
    have F63 : Sta s h48 "java/lang/String" "COMPACT_STRINGS" "Z" (.int z) := Sz.ext E48
    have sz64 : s.heap.size ≤ h48.size := Nat.le_trans Z0 E48.1
    refine o_callVP (rv := (.int (own_e3 [(97 : Int32), (99 : Int32), (112 : Int32)] [(97 : Int32), (100 : Int32), (112 : Int32)]))) 30 X48 hx rfl hZ48 hown48 (wd_24 hw) (wd_25 hw) (wd_27 hw) (wd_26 hw) (wd_17 hw) (wd_28 hw) (by decide) e48 (rm3 l s a0 hw kc a48 vc b48 cc kb48 [(97 : Int32), (99 : Int32), (112 : Int32)] [(97 : Int32), (100 : Int32), (112 : Int32)] z h48 F59 F60 F61 F62 Ea48 Fc48 Fv48 Ab48 F63 hz) pd_lLjava_lang_ObjectsrZ [(.ref a48)] [] rfl F59 rfl (by rw [hml]; rfl) rfl (hb hby at_27) 0 (Nat.le_of_eq rfl) (by decide) (by decide) (by decide) (by decide) rfl rfl fun T65 X65 e65 => ?_
    rw [show (own_e3 [(97 : Int32), (99 : Int32), (112 : Int32)] [(97 : Int32), (100 : Int32), (112 : Int32)]) = (0 : Int32) from by decide]
    refine o_istoreN 31 X65 hx rfl (hb hby at_30) #[.val (.int i0), .val (.ref rc), .val (.int (0 : Int32)), .val (.int (0 : Int32)), .unset] rfl ?_
    refine o_aloadN 32 X65 hx rfl (hb hby at_31) rfl rfl ?_
    refine o_callVP (rv := (.ref kc)) 35 X65 hx rfl hZ48 hown48 (wd_9 hw) (wd_10 hw) (wd_12 hw) (wd_11 hw) (wd_1 hw) (wd_13 hw) (by decide) e65 (rm2 l s a0 hw rc kc h48 F58) pd_lrLjava_lang_Strings [] [] rfl F57 rfl (by rw [hml]; rfl) rfl (hb hby at_32) 0 (Nat.le_of_eq rfl) (by decide) (by decide) (by decide) (by decide) rfl rfl fun T66 X66 e66 => ?_
    refine o_ldcV 37 X66 hx rfl hZ48 hown48 (wd_38 hw) (own_sa hw) e66 S48 kl48 N0 hkeep I48 (by decide) hh32 hcw ([(97 : Int32), (99 : Int32), (112 : Int32)].map Value.int) (3 : Int32) ⟨by decide, rfl⟩ (by decide) rfl (hb hby at_35) 12 (by decide) (by decide) (by decide) (by decide) fun a67 T67 h67 k67 b67 kb67 X67 e67 E67 S67 kl67 hZ67 hown67 Ea67 Fc67 Fv67 Ab67 I67 => ?_
    have F68 : Sta s h67 "com/example/planbook/planbook/core/TestKind" "ADP" "Lcom/example/planbook/planbook/core/TestKind;" (.ref ra) := F49.ext E67
    have F69 : Exa s h67 ra "com/example/planbook/planbook/core/TestKind" := F50.ext E67
    have F70 : Fld s h67 ra "com/example/planbook/planbook/core/TestKind" "key" "Ljava/lang/String;" (.ref ka) := F51.ext E67
    have F71 : Exa s h67 ka "java/lang/String" := F52.ext E67
    have F72 : Fld s h67 ka "java/lang/String" "coder" "B" (.int (0 : Int32)) := F53.ext E67
    have F73 : Fld s h67 ka "java/lang/String" "value" "[B" (.ref va) := F54.ext E67
    have F74 : Arv s h67 va ca .byte (3 : Int32) ([(97 : Int32), (100 : Int32), (112 : Int32)].map Value.int) (.int 0) := F55.ext E67
    have F75 : Sta s h67 "com/example/planbook/planbook/core/TestKind" "ACP" "Lcom/example/planbook/planbook/core/TestKind;" (.ref rc) := F56.ext E67
    have F76 : Exa s h67 rc "com/example/planbook/planbook/core/TestKind" := F57.ext E67
    have F77 : Fld s h67 rc "com/example/planbook/planbook/core/TestKind" "key" "Ljava/lang/String;" (.ref kc) := F58.ext E67
    have F78 : Exa s h67 kc "java/lang/String" := F59.ext E67
    have F79 : Fld s h67 kc "java/lang/String" "coder" "B" (.int (0 : Int32)) := F60.ext E67
    have F80 : Fld s h67 kc "java/lang/String" "value" "[B" (.ref vc) := F61.ext E67
    have F81 : Arv s h67 vc cc .byte (3 : Int32) ([(97 : Int32), (99 : Int32), (112 : Int32)].map Value.int) (.int 0) := F62.ext E67
    have F82 : Sta s h67 "java/lang/String" "COMPACT_STRINGS" "Z" (.int z) := F63.ext E67
    have F83 : Exa s h67 a48 "java/lang/String" := Ea48.ext E67
    have F84 : Fld s h67 a48 "java/lang/String" "coder" "B" (.int (0 : Int32)) := Fc48.ext E67
    have F85 : Fld s h67 a48 "java/lang/String" "value" "[B" (.ref b48) := Fv48.ext E67
    have F86 : Arv s h67 b48 kb48 .byte (3 : Int32) ([(97 : Int32), (100 : Int32), (112 : Int32)].map Value.int) (.int 0) := Ab48.ext E67
    have sz87 : s.heap.size ≤ h67.size := Nat.le_trans sz64 E67.1
    refine o_callVP (rv := (.int (own_e3 [(97 : Int32), (99 : Int32), (112 : Int32)] [(97 : Int32), (99 : Int32), (112 : Int32)]))) 40 X67 hx rfl hZ67 hown67 (wd_24 hw) (wd_25 hw) (wd_27 hw) (wd_26 hw) (wd_17 hw) (wd_28 hw) (by decide) e67 (rm3 l s a0 hw kc a67 vc b67 cc kb67 [(97 : Int32), (99 : Int32), (112 : Int32)] [(97 : Int32), (99 : Int32), (112 : Int32)] z h67 F78 F79 F80 F81 Ea67 Fc67 Fv67 Ab67 F82 hz) pd_lLjava_lang_ObjectsrZ [(.ref a67)] [] rfl F78 rfl (by rw [hml]; rfl) rfl (hb hby at_37) 0 (Nat.le_of_eq rfl) (by decide) (by decide) (by decide) (by decide) rfl rfl fun T88 X88 e88 => ?_
    rw [show (own_e3 [(97 : Int32), (99 : Int32), (112 : Int32)] [(97 : Int32), (99 : Int32), (112 : Int32)]) = (1 : Int32) from by decide]
    refine o_istore 42 X88 hx rfl (hb hby at_40) #[.val (.int i0), .val (.ref rc), .val (.int (0 : Int32)), .val (.int (0 : Int32)), .val (.int (1 : Int32))] rfl ?_
    refine o_iloadN 43 X88 hx rfl (hb hby at_42) rfl ?_
    refine o_iloadN 44 X88 hx rfl (hb hby at_43) rfl ?_
    refine o_icmpNo 47 X88 hx rfl (hb hby at_44) (teq rfl).2 ?_
    refine o_iloadN 48 X88 hx rfl (hb hby at_47) rfl ?_
    refine o_iload 50 X88 hx rfl (hb hby at_48) rfl ?_
    refine o_icmpNo 53 X88 hx rfl (hb hby at_50) (feq (show ¬ ((0 : Int32) = (1 : Int32)) by decide)).1 ?_
    refine o_iconst 54 X88 hx rfl (hb hby at_53) (1 : Int32) rfl ?_
    refine o_goto 58 X88 hx (hb hby at_54) (by decide) (by decide) ?_
    refine o_outW X88 hx S67 (by rw [e88]; exact kl67) .boolean (by simp) hret hlk (hb hby at_58) (by decide) (by decide) ?_
    exact ⟨rfl, N0⟩
theorem own_ev {args : Array Value} {s : State} {t : Term} {n : Int32} (h : (Jvm.Cond.eq t (Jvm.Term.int n)).value args s none s [] = some true) : t.eval args s none [] s = some (.int n) := by
  obtain ⟨x, y, h1, h2, -, k2⟩ := cmp_v (Or.inl h)
  have ey : y = .int n := (Option.some.inj (h2.symm.trans (Term.int_eval n)))
  subst ey
  obtain ⟨w, rfl⟩ : ∃ w, x = .int w := k2
  have q := gotT (Cond.eq_ints h1 h2) h
  rw [h1, q]
theorem own_av {args : Array Value} {s : State} {t : Term} {a : Addr} {c : Cell} {x0 x1 x2 : Int32} (hfit : Fit s) (A : Arr s s.heap a c .byte) (et : t.eval args s none [] s = some (.ref a)) (hl : (Term.length t).eval args s none [] s = some (.int (3 : Int32))) (h0 : (Term.elem t (Term.int (0 : Int32))).eval args s none [] s = some (.int x0)) (h1 : (Term.elem t (Term.int (1 : Int32))).eval args s none [] s = some (.int x1)) (h2 : (Term.elem t (Term.int (2 : Int32))).eval args s none [] s = some (.int x2)) : Arv s s.heap a c.cls .byte (3 : Int32) ([x0, x1, x2].map Value.int) (.int 0) := by
  have ha : s.arrayAt? a = some c := Arr.fin (State.Warmed39.refl s).alike A
  obtain ⟨a', c', e1, e2, e3⟩ := Term.length_spec hl
  have ea : a' = a := Value.ref.inj (Option.some.inj (e1.symm.trans et))
  subst ea
  have ec : c' = c := Option.some.inj (e2.symm.trans ha)
  subst ec
  have g0 := (elem_in h0 et (Term.int_eval 0) A.1).2
  have g1 := (elem_in h1 et (Term.int_eval 1) A.1).2
  have g2 := (elem_in h2 et (Term.int_eval 2) A.1).2
  have q : c'.slots.size < 2 ^ 31 := Classical.byContradiction fun q => by simp [Term.eval, et, ha, q] at hl
  exact Arv.start hfit A q (Value.int.inj e3).symm (by decide) rfl ⟨g0, g1, g2, trivial⟩
theorem own_ch {s : State} {own : String} {index : Nat} (h : Jvm.D.constHeld s own index) : Jvm.Lit.constHeld s own index := h
set_option maxRecDepth 65536 in
set_option maxHeartbeats 40000000 in
theorem comes_1 {Post : Tables → Env → Array Value → State → Outcome → State → Prop} (hpost : ∀ tb e args s v u, (limb_1_1.after args s (.returned v) u = true ∧ limb_1_2.after args s (.returned v) u = true ∧ True) → ReturnedEndW s (.returned v) u (Jvm.fieldLocs frame_1_writes args s ++ Jvm.arrayLocs frame_1_arrays args s ++ Jvm.staticLocs frame_1_statics s) 8 2112 → Post tb e args s (.returned v) u) :
    ArmFor flags0 classFile x code maxLocals ret World_1 tables_1 room_1 Calls_1 rest_1 Pre_1 Post := by
  intro l hfl _ _ p e ha hc hk s m args below hf hA hF happ hP
  obtain ⟨hcalls, hrest, hpre⟩ := hP
  obtain ⟨-, -, -, hnamed, -, -, -, hat⟩ := (Spec.applies_iff hf).mp happ
  obtain ⟨hg, hn⟩ := and_e (Cond.before_iff.mp (show (Jvm.Cond.and given_1 narrow_1).before args s = true from hpre))
  obtain ⟨gc, g0⟩ := and_e hg
  obtain ⟨w0, rfl⟩ : ∃ w0 : Value, args = #[w0] := by
    have hs : args.size = 1 := by simpa [Cond.value, given_1] using gc
    obtain ⟨L⟩ := args
    match L, hs with
    | [w0], _ => exact ⟨w0, rfl⟩
  have hw := fun d (hd : d ∈ tables_1) => atoms_spec (ws := Jvm.Cond.code x code maxLocals ret :: tables_1) hat d (List.mem_cons_of_mem _ hd)
  obtain ⟨i0, ei0⟩ := is_v g0
  obtain rfl : w0 = (.int i0) := Option.some.inj ei0
  have hfit : Fit s := fun {y c} hc i hi => by
    obtain ⟨ha, rfl⟩ := Array.getElem?_eq_some_iff.mp hc
    have q := List.all_eq_true.mp ((Array.all_eq_true_iff_forall_mem.mp hF) _ (Array.getElem_mem ha)) i (List.mem_range.mpr hi)
    simpa [Array.getElem?_eq_getElem hi] using q
  obtain ⟨hsets, -⟩ := atoms_of _ (rest_1_c_eq ▸ (show rest_1_c.before _ s = true from hrest))
  obtain ⟨n0, hn⟩ := and_e hn
  obtain ⟨n1, hn⟩ := and_e hn
  obtain ⟨n2, hn⟩ := and_e hn
  obtain ⟨n3, hn⟩ := and_e hn
  obtain ⟨n4, hn⟩ := and_e hn
  obtain ⟨n5, hn⟩ := and_e hn
  obtain ⟨n6, hn⟩ := and_e hn
  obtain ⟨n7, hn⟩ := and_e hn
  obtain ⟨n8, hn⟩ := and_e hn
  obtain ⟨n9, hn⟩ := and_e hn
  obtain ⟨n10, hn⟩ := and_e hn
  obtain ⟨n11, hn⟩ := and_e hn
  obtain ⟨n12, hn⟩ := and_e hn
  obtain ⟨n13, hn⟩ := and_e hn
  obtain ⟨n14, hn⟩ := and_e hn
  obtain ⟨n15, hn⟩ := and_e hn
  obtain ⟨n16, hn⟩ := and_e hn
  have n17 := hn
  obtain ⟨ra, era⟩ := exa_v n0
  have Era := Exa.start era n0
  have Sra : Sta s s.heap "com/example/planbook/planbook/core/TestKind" "ADP" "Lcom/example/planbook/planbook/core/TestKind;" (.ref ra) := Sta.start era (Or.inr ⟨(wd_1 hw), (wd_2 hw)⟩)
  obtain ⟨ka, eka⟩ := exa_v n1
  have Eka := Exa.start eka n1
  have Kra : Fld s s.heap ra "com/example/planbook/planbook/core/TestKind" "key" "Ljava/lang/String;" (.ref ka) := Fld.start ((fld_at era).symm.trans eka)
  have Cka : Fld s s.heap ka "java/lang/String" "coder" "B" (.int (0 : Int32)) := Fld.start ((fld_at eka).symm.trans (own_ev n2))
  obtain ⟨va, eva⟩ := arr_v n3
  have Vka : Fld s s.heap ka "java/lang/String" "value" "[B" (.ref va) := Fld.start ((fld_at eka).symm.trans eva)
  obtain ⟨xva, Xva⟩ := Arr.start eva n3
  have Aka : Arv s s.heap va xva.cls .byte (3 : Int32) ([(97 : Int32), (100 : Int32), (112 : Int32)].map Value.int) (.int 0) := own_av hfit Xva eva (own_ev n4) (own_ev n5) (own_ev n6) (own_ev n7)
  obtain ⟨rc, erc⟩ := exa_v n8
  have Erc := Exa.start erc n8
  have Src : Sta s s.heap "com/example/planbook/planbook/core/TestKind" "ACP" "Lcom/example/planbook/planbook/core/TestKind;" (.ref rc) := Sta.start erc (Or.inr ⟨(wd_1 hw), (wd_40 hw)⟩)
  obtain ⟨kc, ekc⟩ := exa_v n11
  have Ekc := Exa.start ekc n11
  have Krc : Fld s s.heap rc "com/example/planbook/planbook/core/TestKind" "key" "Ljava/lang/String;" (.ref kc) := Fld.start ((fld_at erc).symm.trans ekc)
  have Ckc : Fld s s.heap kc "java/lang/String" "coder" "B" (.int (0 : Int32)) := Fld.start ((fld_at ekc).symm.trans (own_ev n12))
  obtain ⟨vc, evc⟩ := arr_v n13
  have Vkc : Fld s s.heap kc "java/lang/String" "value" "[B" (.ref vc) := Fld.start ((fld_at ekc).symm.trans evc)
  obtain ⟨xvc, Xvc⟩ := Arr.start evc n13
  have Akc : Arv s s.heap vc xvc.cls .byte (3 : Int32) ([(97 : Int32), (99 : Int32), (112 : Int32)].map Value.int) (.int 0) := own_av hfit Xvc evc (own_ev n14) (own_ev n15) (own_ev n16) (own_ev n17)
  have hne : ¬ rc = ra := Fld.ne (Fld.start ((fld_at erc).symm.trans (own_ev n9))) (Fld.start ((fld_at era).symm.trans (own_ev n10))) (by decide)
  have nz := not_v (Cond.before_iff.mp (hsets _ (List.mem_of_getElem? (i := 2) rfl)))
  obtain ⟨z, ez⟩ := is_v (Cond.before_iff.mp (hsets _ (List.mem_of_getElem? (i := 1) rfl)))
  have Sz : Sta s s.heap "java/lang/String" "COMPACT_STRINGS" "Z" (.int z) := Sta.start ez (Or.inl (hsets _ (List.mem_of_getElem? (i := 0) rfl)))
  have hz : ¬ z = (0 : Int32) := gotF (Cond.eq_ints ez (Term.int_eval (0))) nz
  have hcw : Jvm.Lit.compactW.before _ s = true := hsets _ (List.mem_of_getElem? (i := 2) rfl)
  have hh24 : Jvm.Lit.constHeld s "com/example/planbook/planbook/core/TestKindLimitsDeferralsPinLaw" 24 := own_ch (hcalls.1 _ (List.mem_of_getElem? (i := 0) rfl))
  have hh32 : Jvm.Lit.constHeld s "com/example/planbook/planbook/core/TestKindLimitsDeferralsPinLaw" 32 := own_ch (hcalls.1 _ (List.mem_of_getElem? (i := 1) rfl))
  obtain ⟨n, o, h1, h2, h3, _, L, rfl, ⟨rfl, N⟩, hq⟩ := rm0 l s _ hw tables_1 i0 ra rc ka kc va vc _ _ z hz hne Sra Era Kra Eka Cka Vka Aka Src Erc Krc Ekc Ckc Vkc Akc Sz hh24 hh32 hcw p e ha hc hk s m _ below hf ((Spec.applies_iff_loose hf).mp happ).1 ⟨rfl, rfl⟩ trivial
  refine ⟨n, _, h1, h2, h3, hpost _ _ _ _ _ _ ⟨Cond.after_iff.mpr rfl, Cond.after_iff.mpr (eq_i res_at (Term.int_eval (1)) rfl), trivial⟩ ⟨hq.1, hq.2.1, hq.2.2.1, (hq.2.2.2.sift fun y hy => Or.inr (N y hy)).mono (by decide) (by decide)⟩⟩
theorem main_1_1 : Claimed_1_1 := comes_1 fun _ _ _ _ _ _ h hF => ⟨h.1, hF⟩
theorem main_1_2 : Claimed_1_2 := comes_1 fun _ _ _ _ _ _ h hF => ⟨h.2.1, hF⟩
end Jvm.Pilot.@@N@@
namespace Jvm.Pilot.@@N@@
open Jvm Jvm.ClassFile Sem Op Lib Jvm.Free Jvm.Stand Jvm.Pilot.@@N@@.Jvm.D
/-! MADE BY PROGRAM (witnessworld.py) out of the Statement's table words and the real class files: 18 classes; the members and pool entries that the words name. The judged class is class 1, her method 1. -/
namespace start1
open Jvm.ClassFile
def u (s : String) : CpInfo := .utf8 (stringToUtf16 s)
/-- a pool by its gaps: so many unusable entries, then the entry; so many at the end -/
def gap : Nat → List CpInfo → List CpInfo
  | 0, r => r
  | n + 1, r => .unusable :: gap n r
def poolList (es : List (Nat × CpInfo)) (last : Nat) : List CpInfo := es.foldr (fun e r => gap e.1 (e.2 :: r)) (gap last [])
def pool (es : List (Nat × CpInfo)) (last : Nat) : Array CpInfo := ⟨poolList es last⟩
def fileOf (pool : Array CpInfo) (this : Nat) (attrs : Array Attribute := #[]) (ms : Array MethodInfo := #[]) (fl : Nat := 33) (sup : Nat := 0) (ifs : Array Nat := #[]) (fds : Array FieldInfo := #[]) : ClassFile where
  minorVersion := 0
  majorVersion := 65
  constantPool := pool
  accessFlags := fl
  thisClass := this
  superClass := sup
  interfaces := ifs
  fields := fds
  methods := ms
  attributes := attrs
def plain (name : String) (sup : Option ClassId) : Class where
  name := name
  kind := .ordinary
  loader := none
  accessFlags := 33
  super := sup
  interfaces := #[]
  cf := none
  fields := #[]
  methods := #[]
  instanceTypes := #[]
  staticTypes := #[]
  resolved := #[]
  callSites := []
  init := .initialized
  statics := none
  mirror := none

def pool0 : Array CpInfo := pool [(5, u "<init>"), (0, u "()V"), (1, .class_ 10), (1, u "java/lang/Object")] 113

def k0m0 : Method := { name := "<init>", desc := "()V", sig := { parameters := [], returnType := none }, accessFlags := 1, code := none }
/-- java/lang/Object -/
def k0 : Class := { plain "java/lang/Object" none with
  accessFlags := 33
  interfaces := #[]
  cf := some (fileOf pool0 8 #[] #[{ accessFlags := 1, nameIndex := 5, descriptorIndex := 6, attributes := #[] }] 33 0 #[] #[])
  fields := #[]
  methods := #[k0m0]
  instanceTypes := #[]
  staticTypes := #[]
  resolved := Array.replicate 124 none
  statics := none }

def pool1 : Array CpInfo := pool [(2, .class_ 4), (1, u "java/lang/Object"), (0, u "<init>"), (0, u "()V"), (0, .fieldref 8 9), (0, .class_ 10), (0, .nameAndType 11 12), (0, u "com/example/planbook/planbook/core/TestKind"), (0, u "ADP"), (0, u "Lcom/example/planbook/planbook/core/TestKind;"), (0, .fieldref 8 14), (0, .nameAndType 15 12), (0, u "ACP"), (0, .methodref 8 17), (0, .nameAndType 18 19), (0, u "limitsDeferrals"), (0, u "()Z"), (0, .methodref 8 21), (0, .nameAndType 22 23), (0, u "key"), (0, u "()Ljava/lang/String;"), (0, .string 25), (0, u "adp"), (0, .methodref 27 28), (0, .class_ 29), (0, .nameAndType 30 31), (0, u "java/lang/String"), (0, u "equals"), (0, u "(Ljava/lang/Object;)Z"), (0, .string 33), (0, u "acp"), (0, .class_ 35), (0, u "com/example/planbook/planbook/core/TestKindLimitsDeferralsPinLaw"), (2, u "law"), (0, u "(I)Z")] 3

def k1m0 : Method := { name := "<init>", desc := "()V", sig := { parameters := [], returnType := none }, accessFlags := 2, code := none }
def k1c1 : Code := { maxStack := 2, maxLocals := 5, code := code, exceptionTable := #[], attributes := #[] }
def k1m1 : Method := { name := "law", desc := "(I)Z", sig := { parameters := [.int], returnType := some .boolean }, accessFlags := 9, code := some k1c1 }
/-- com/example/planbook/planbook/core/TestKindLimitsDeferralsPinLaw -/
def k1 : Class := { plain "com/example/planbook/planbook/core/TestKindLimitsDeferralsPinLaw" (some 0) with
  accessFlags := 49
  interfaces := #[]
  cf := some (fileOf pool1 34 #[] #[{ accessFlags := 2, nameIndex := 5, descriptorIndex := 6, attributes := #[] }, { accessFlags := 9, nameIndex := 38, descriptorIndex := 39, attributes := #[] }] 49 2 #[] #[])
  fields := #[]
  methods := #[k1m0, k1m1]
  instanceTypes := #[]
  staticTypes := #[]
  resolved := Array.replicate 43 none
  statics := none }

def pool2 : Array CpInfo := pool [(1, .class_ 2), (0, u "java/lang/constant/Constable"), (0, .class_ 4), (0, u "java/lang/Object")] 6

/-- java/lang/constant/Constable -/
def k2 : Class := { plain "java/lang/constant/Constable" (some 0) with
  accessFlags := 1537
  interfaces := #[]
  cf := some (fileOf pool2 1 #[] #[] 1537 3 #[] #[])
  fields := #[]
  methods := #[]
  instanceTypes := #[]
  staticTypes := #[]
  resolved := Array.replicate 11 none
  statics := none }

def pool3 : Array CpInfo := pool [(1, .class_ 2), (0, u "java/lang/Comparable"), (0, .class_ 4), (0, u "java/lang/Object")] 7

/-- java/lang/Comparable -/
def k3 : Class := { plain "java/lang/Comparable" (some 0) with
  accessFlags := 1537
  interfaces := #[]
  cf := some (fileOf pool3 1 #[] #[] 1537 3 #[] #[])
  fields := #[]
  methods := #[]
  instanceTypes := #[]
  staticTypes := #[]
  resolved := Array.replicate 12 none
  statics := none }

def pool4 : Array CpInfo := pool [(1, .class_ 2), (0, u "java/io/Serializable"), (0, .class_ 4), (0, u "java/lang/Object")] 2

/-- java/io/Serializable -/
def k4 : Class := { plain "java/io/Serializable" (some 0) with
  accessFlags := 1537
  interfaces := #[]
  cf := some (fileOf pool4 1 #[] #[] 1537 3 #[] #[])
  fields := #[]
  methods := #[]
  instanceTypes := #[]
  staticTypes := #[]
  resolved := Array.replicate 7 none
  statics := none }

def pool5 : Array CpInfo := pool [(2, .class_ 4), (1, u "java/lang/Enum"), (0, u "name"), (0, u "Ljava/lang/String;"), (2, u "ordinal"), (0, u "I"), (1, .class_ 14), (1, u "java/lang/Object"), (4, u "hash"), (86, .class_ 108), (1, u "java/lang/Enum$EnumDesc"), (2, .class_ 112), (0, u "java/lang/constant/Constable"), (0, .class_ 114), (0, u "java/lang/Comparable"), (0, .class_ 116), (0, u "java/io/Serializable")] 87

/-- java/lang/Enum -/
def k5 : Class := { plain "java/lang/Enum" (some 0) with
  accessFlags := 1057
  interfaces := #[2, 3, 4]
  cf := some (fileOf pool5 2 #[.nestMembers #[106]] #[] 1057 12 #[111, 113, 115] #[{ accessFlags := 18, nameIndex := 5, descriptorIndex := 6, attributes := #[] }, { accessFlags := 18, nameIndex := 9, descriptorIndex := 10, attributes := #[] }, { accessFlags := 2, nameIndex := 19, descriptorIndex := 10, attributes := #[] }])
  fields := #[{ name := "name", type := (.object "java/lang/String"), accessFlags := 18, slot := 0, constantValue := 0 }, { name := "ordinal", type := .int, accessFlags := 18, slot := 1, constantValue := 0 }, { name := "hash", type := .int, accessFlags := 2, slot := 2, constantValue := 0 }]
  methods := #[]
  instanceTypes := #[(.object "java/lang/String"), .int, .int]
  staticTypes := #[]
  resolved := Array.replicate 204 none
  statics := none }

def pool6 : Array CpInfo := pool [(1, .class_ 2), (0, u "com/example/planbook/planbook/core/TestKind"), (0, .fieldref 1 4), (0, .nameAndType 5 6), (0, u "ADP"), (0, u "Lcom/example/planbook/planbook/core/TestKind;"), (2, u "ACP"), (2, u "$VALUES"), (0, u "[Lcom/example/planbook/planbook/core/TestKind;"), (6, .class_ 22), (1, u "java/lang/Enum"), (6, .fieldref 1 30), (0, .nameAndType 31 32), (0, u "key"), (0, u "Ljava/lang/String;"), (2, u "excessName"), (49, .class_ 87), (1, u "com/example/planbook/planbook/core/TestKind$Weighed"), (6, u "()Ljava/lang/String;"), (7, .class_ 104), (1, u "com/example/planbook/planbook/core/TestKind$1"), (40, u "()Z"), (175, u "limitsDeferrals")] 98

def k6c0 : Code := { maxStack := 1, maxLocals := 1, code := prog_68_method_4_code, exceptionTable := #[], attributes := #[] }
def k6m0 : Method := { name := "key", desc := "()Ljava/lang/String;", sig := { parameters := [], returnType := some (.object "java/lang/String") }, accessFlags := 1, code := some k6c0 }
def k6c1 : Code := { maxStack := 2, maxLocals := 1, code := prog_68_method_7_code, exceptionTable := #[], attributes := #[] }
def k6m1 : Method := { name := "limitsDeferrals", desc := "()Z", sig := { parameters := [], returnType := some .boolean }, accessFlags := 0, code := some k6c1 }
/-- com/example/planbook/planbook/core/TestKind -/
def k6 : Class := { plain "com/example/planbook/planbook/core/TestKind" (some 5) with
  accessFlags := 16433
  interfaces := #[]
  cf := some (fileOf pool6 1 #[.nestMembers #[102, 85]] #[{ accessFlags := 1, nameIndex := 31, descriptorIndex := 94, attributes := #[] }, { accessFlags := 0, nameIndex := 321, descriptorIndex := 145, attributes := #[] }] 16433 20 #[] #[{ accessFlags := 16409, nameIndex := 5, descriptorIndex := 6, attributes := #[] }, { accessFlags := 16409, nameIndex := 9, descriptorIndex := 6, attributes := #[] }, { accessFlags := 18, nameIndex := 31, descriptorIndex := 32, attributes := #[] }, { accessFlags := 18, nameIndex := 35, descriptorIndex := 32, attributes := #[] }, { accessFlags := 4122, nameIndex := 12, descriptorIndex := 13, attributes := #[] }])
  fields := #[{ name := "ADP", type := (.object "com/example/planbook/planbook/core/TestKind"), accessFlags := 16409, slot := 0, constantValue := 0 }, { name := "ACP", type := (.object "com/example/planbook/planbook/core/TestKind"), accessFlags := 16409, slot := 1, constantValue := 0 }, { name := "key", type := (.object "java/lang/String"), accessFlags := 18, slot := 3, constantValue := 0 }, { name := "excessName", type := (.object "java/lang/String"), accessFlags := 18, slot := 4, constantValue := 0 }, { name := "$VALUES", type := (.array (.object "com/example/planbook/planbook/core/TestKind")), accessFlags := 4122, slot := 2, constantValue := 0 }]
  methods := #[k6m0, k6m1]
  instanceTypes := #[(.object "java/lang/String"), .int, .int, (.object "java/lang/String"), (.object "java/lang/String")]
  staticTypes := #[(.object "com/example/planbook/planbook/core/TestKind"), (.object "com/example/planbook/planbook/core/TestKind"), (.array (.object "com/example/planbook/planbook/core/TestKind"))]
  resolved := Array.replicate 420 none
  statics := some 0 }

def pool7 : Array CpInfo := pool [(2, .class_ 4), (1, u "java/lang/CharSequence"), (42, .class_ 48), (0, u "java/lang/CharSequence$1CodePointIterator"), (10, .class_ 60), (0, u "java/lang/CharSequence$1CharIterator"), (5, .class_ 67), (0, u "java/lang/Object")] 63

/-- java/lang/CharSequence -/
def k7 : Class := { plain "java/lang/CharSequence" (some 0) with
  accessFlags := 1537
  interfaces := #[]
  cf := some (fileOf pool7 2 #[.nestMembers #[47, 59]] #[] 1537 66 #[] #[])
  fields := #[]
  methods := #[]
  instanceTypes := #[]
  staticTypes := #[]
  resolved := Array.replicate 131 none
  statics := none }

def pool8 : Array CpInfo := pool [(1, .class_ 2), (0, u "java/lang/constant/ConstantDesc"), (0, .class_ 4), (0, u "java/lang/Object")] 32

/-- java/lang/constant/ConstantDesc -/
def k8 : Class := { plain "java/lang/constant/ConstantDesc" (some 0) with
  accessFlags := 1537
  interfaces := #[]
  cf := some (fileOf pool8 1 #[] #[] 1537 3 #[] #[])
  fields := #[]
  methods := #[]
  instanceTypes := #[]
  staticTypes := #[]
  resolved := Array.replicate 37 none
  statics := none }

def pool9 : Array CpInfo := pool [(2, .class_ 4), (1, u "java/lang/Object"), (0, u "<init>"), (0, u "()V"), (2, .fieldref 10 11), (0, .class_ 12), (0, .nameAndType 13 14), (0, u "java/lang/String"), (0, u "value"), (0, u "[B"), (0, .fieldref 10 16), (0, .nameAndType 17 18), (0, u "coder"), (0, u "B"), (2, u "hash"), (0, u "I"), (2, u "hashIsZero"), (0, u "Z"), (11, .fieldref 10 39), (0, .nameAndType 40 26), (0, u "COMPACT_STRINGS"), (66, .class_ 109), (1, u "java/lang/StringLatin1"), (431, .methodref 107 542), (0, .nameAndType 543 544), (0, u "equals"), (0, u "([B[B)Z"), (28, u "(Ljava/lang/Object;)Z"), (1, .class_ 576), (0, u "java/lang/CharSequence"), (22, u "CASE_INSENSITIVE_ORDER"), (0, u "Ljava/util/Comparator;"), (500, u "serialPersistentFields"), (0, u "[Ljava/io/ObjectStreamField;"), (0, .class_ 1104), (0, u "java/lang/String$CaseInsensitiveComparator"), (1, .class_ 1107), (0, u "java/io/Serializable"), (0, .class_ 1109), (0, u "java/lang/Comparable"), (0, .class_ 1111), (0, u "java/lang/constant/Constable"), (0, .class_ 1113), (0, u "java/lang/constant/ConstantDesc"), (2, u "serialVersionUID"), (0, u "J"), (3, u "REPL"), (0, u "C"), (2, u "LATIN1"), (1, u "UTF16")] 323

def k9m0 : Method := { name := "<init>", desc := "()V", sig := { parameters := [], returnType := none }, accessFlags := 1, code := none }
def k9c1 : Code := { maxStack := 2, maxLocals := 3, code := jdk_42_method_66_code, exceptionTable := #[], attributes := #[] }
def k9m1 : Method := { name := "equals", desc := "(Ljava/lang/Object;)Z", sig := { parameters := [(.object "java/lang/Object")], returnType := some .boolean }, accessFlags := 1, code := some k9c1 }
/-- java/lang/String -/
def k9 : Class := { plain "java/lang/String" (some 0) with
  accessFlags := 49
  interfaces := #[4, 3, 7, 2, 8]
  cf := some (fileOf pool9 10 #[.nestMembers #[1103]] #[{ accessFlags := 1, nameIndex := 5, descriptorIndex := 6, attributes := #[] }, { accessFlags := 1, nameIndex := 543, descriptorIndex := 573, attributes := #[] }] 49 2 #[1106, 1108, 575, 1110, 1112] #[{ accessFlags := 18, nameIndex := 13, descriptorIndex := 14, attributes := #[] }, { accessFlags := 18, nameIndex := 17, descriptorIndex := 18, attributes := #[] }, { accessFlags := 2, nameIndex := 21, descriptorIndex := 22, attributes := #[] }, { accessFlags := 2, nameIndex := 25, descriptorIndex := 26, attributes := #[] }, { accessFlags := 26, nameIndex := 1116, descriptorIndex := 1117, attributes := #[] }, { accessFlags := 24, nameIndex := 40, descriptorIndex := 26, attributes := #[] }, { accessFlags := 26, nameIndex := 1101, descriptorIndex := 1102, attributes := #[] }, { accessFlags := 26, nameIndex := 1121, descriptorIndex := 1122, attributes := #[] }, { accessFlags := 25, nameIndex := 599, descriptorIndex := 600, attributes := #[] }, { accessFlags := 24, nameIndex := 1125, descriptorIndex := 18, attributes := #[] }, { accessFlags := 24, nameIndex := 1127, descriptorIndex := 18, attributes := #[] }])
  fields := #[{ name := "value", type := (.array .byte), accessFlags := 18, slot := 0, constantValue := 0 }, { name := "coder", type := .byte, accessFlags := 18, slot := 1, constantValue := 0 }, { name := "hash", type := .int, accessFlags := 2, slot := 2, constantValue := 0 }, { name := "hashIsZero", type := .boolean, accessFlags := 2, slot := 3, constantValue := 0 }, { name := "serialVersionUID", type := .long, accessFlags := 26, slot := 0, constantValue := 0 }, { name := "COMPACT_STRINGS", type := .boolean, accessFlags := 24, slot := 1, constantValue := 0 }, { name := "serialPersistentFields", type := (.array (.object "java/io/ObjectStreamField")), accessFlags := 26, slot := 2, constantValue := 0 }, { name := "REPL", type := .char, accessFlags := 26, slot := 3, constantValue := 0 }, { name := "CASE_INSENSITIVE_ORDER", type := (.object "java/util/Comparator"), accessFlags := 25, slot := 4, constantValue := 0 }, { name := "LATIN1", type := .byte, accessFlags := 24, slot := 5, constantValue := 0 }, { name := "UTF16", type := .byte, accessFlags := 24, slot := 6, constantValue := 0 }]
  methods := #[k9m0, k9m1]
  instanceTypes := #[(.array .byte), .byte, .int, .boolean]
  staticTypes := #[.long, .boolean, (.array (.object "java/io/ObjectStreamField")), .char, (.object "java/util/Comparator"), .byte, .byte]
  resolved := Array.replicate 1451 none
  statics := some 1 }

def pool10 : Array CpInfo := pool [(4, .class_ 6), (1, u "java/lang/Object"), (0, u "<init>"), (0, u "()V"), (5, .class_ 16), (1, u "java/lang/StringLatin1"), (104, u "$assertionsDisabled"), (0, u "Z"), (98, .class_ 223), (1, u "java/lang/StringLatin1$LinesSpliterator"), (57, u "equals"), (0, u "([B[B)Z"), (107, .class_ 391), (0, u "java/lang/StringLatin1$CharsSpliterator")] 3

def k10m0 : Method := { name := "<init>", desc := "()V", sig := { parameters := [], returnType := none }, accessFlags := 0, code := none }
def k10c1 : Code := { maxStack := 3, maxLocals := 3, code := jdk_43_method_13_code, exceptionTable := #[], attributes := #[] }
def k10m1 : Method := { name := "equals", desc := "([B[B)Z", sig := { parameters := [(.array .byte), (.array .byte)], returnType := some .boolean }, accessFlags := 9, code := some k10c1 }
/-- java/lang/StringLatin1 -/
def k10 : Class := { plain "java/lang/StringLatin1" (some 0) with
  accessFlags := 48
  interfaces := #[]
  cf := some (fileOf pool10 14 #[.nestMembers #[390, 221]] #[{ accessFlags := 0, nameIndex := 7, descriptorIndex := 8, attributes := #[] }, { accessFlags := 9, nameIndex := 281, descriptorIndex := 282, attributes := #[] }] 48 4 #[] #[{ accessFlags := 4120, nameIndex := 121, descriptorIndex := 122, attributes := #[] }])
  fields := #[{ name := "$assertionsDisabled", type := .boolean, accessFlags := 4120, slot := 0, constantValue := 0 }]
  methods := #[k10m0, k10m1]
  instanceTypes := #[]
  staticTypes := #[.boolean]
  resolved := Array.replicate 395 none
  statics := none }

def pool11 : Array CpInfo := pool [(2, .class_ 4), (1, u "java/lang/Object"), (0, u "<init>"), (0, u "()V"), (17, .class_ 26), (1, u "jdk/internal/util/Preconditions"), (28, .class_ 56), (0, u "jdk/internal/util/Preconditions$4"), (57, .class_ 115), (0, u "jdk/internal/util/Preconditions$1"), (7, u "SIOOBE_FORMATTER"), (0, u "Ljava/util/function/BiFunction;"), (0, .class_ 126), (0, u "jdk/internal/util/Preconditions$2"), (3, u "AIOOBE_FORMATTER"), (0, .class_ 132), (0, u "jdk/internal/util/Preconditions$3"), (3, u "IOOBE_FORMATTER")] 57

def k11m0 : Method := { name := "<init>", desc := "()V", sig := { parameters := [], returnType := none }, accessFlags := 1, code := none }
/-- jdk/internal/util/Preconditions -/
def k11 : Class := { plain "jdk/internal/util/Preconditions" (some 0) with
  accessFlags := 33
  interfaces := #[]
  cf := some (fileOf pool11 24 #[.nestMembers #[55, 131, 125, 114]] #[{ accessFlags := 1, nameIndex := 5, descriptorIndex := 6, attributes := #[] }] 33 2 #[] #[{ accessFlags := 25, nameIndex := 123, descriptorIndex := 124, attributes := #[] }, { accessFlags := 25, nameIndex := 130, descriptorIndex := 124, attributes := #[] }, { accessFlags := 25, nameIndex := 136, descriptorIndex := 124, attributes := #[] }])
  fields := #[{ name := "SIOOBE_FORMATTER", type := (.object "java/util/function/BiFunction"), accessFlags := 25, slot := 0, constantValue := 0 }, { name := "AIOOBE_FORMATTER", type := (.object "java/util/function/BiFunction"), accessFlags := 25, slot := 1, constantValue := 0 }, { name := "IOOBE_FORMATTER", type := (.object "java/util/function/BiFunction"), accessFlags := 25, slot := 2, constantValue := 0 }]
  methods := #[k11m0]
  instanceTypes := #[]
  staticTypes := #[(.object "java/util/function/BiFunction"), (.object "java/util/function/BiFunction"), (.object "java/util/function/BiFunction")]
  resolved := Array.replicate 194 none
  statics := some 2 }

def pool12 : Array CpInfo := pool [(9, u "<init>"), (6, .class_ 18), (1, u "java/lang/Object"), (0, u "()V"), (1, .class_ 23), (1, u "jdk/internal/util/ArraysSupport"), (0, u "LOG2_ARRAY_LONG_INDEX_SCALE"), (0, u "I"), (2, u "U"), (0, u "Ljdk/internal/misc/Unsafe;"), (8, u "BIG_ENDIAN"), (0, u "Z"), (8, u "LOG2_BYTE_BIT_SIZE"), (4, u "LOG2_ARRAY_INT_INDEX_SCALE"), (54, u "JLA"), (0, u "Ljdk/internal/access/JavaLangAccess;"), (11, u "LOG2_ARRAY_BOOLEAN_INDEX_SCALE"), (9, u "LOG2_ARRAY_BYTE_INDEX_SCALE"), (5, u "LOG2_ARRAY_CHAR_INDEX_SCALE"), (5, u "LOG2_ARRAY_SHORT_INDEX_SCALE"), (18, u "LOG2_ARRAY_FLOAT_INDEX_SCALE"), (24, u "LOG2_ARRAY_DOUBLE_INDEX_SCALE"), (89, u "T_BOOLEAN"), (2, u "T_CHAR"), (1, u "T_FLOAT"), (1, u "T_DOUBLE"), (1, u "T_BYTE"), (1, u "T_SHORT"), (1, u "T_INT"), (1, u "T_LONG"), (1, u "SOFT_MAX_ARRAY_LENGTH")] 83

def k12m0 : Method := { name := "<init>", desc := "()V", sig := { parameters := [], returnType := none }, accessFlags := 2, code := none }
/-- jdk/internal/util/ArraysSupport -/
def k12 : Class := { plain "jdk/internal/util/ArraysSupport" (some 0) with
  accessFlags := 33
  interfaces := #[]
  cf := some (fileOf pool12 21 #[] #[{ accessFlags := 2, nameIndex := 9, descriptorIndex := 19, attributes := #[] }] 33 16 #[] #[{ accessFlags := 24, nameIndex := 28, descriptorIndex := 29, attributes := #[] }, { accessFlags := 26, nameIndex := 38, descriptorIndex := 39, attributes := #[] }, { accessFlags := 25, nameIndex := 121, descriptorIndex := 25, attributes := #[] }, { accessFlags := 25, nameIndex := 131, descriptorIndex := 25, attributes := #[] }, { accessFlags := 25, nameIndex := 137, descriptorIndex := 25, attributes := #[] }, { accessFlags := 25, nameIndex := 143, descriptorIndex := 25, attributes := #[] }, { accessFlags := 25, nameIndex := 53, descriptorIndex := 25, attributes := #[] }, { accessFlags := 25, nameIndex := 24, descriptorIndex := 25, attributes := #[] }, { accessFlags := 25, nameIndex := 162, descriptorIndex := 25, attributes := #[] }, { accessFlags := 25, nameIndex := 187, descriptorIndex := 25, attributes := #[] }, { accessFlags := 26, nameIndex := 48, descriptorIndex := 25, attributes := #[] }, { accessFlags := 25, nameIndex := 277, descriptorIndex := 25, attributes := #[] }, { accessFlags := 25, nameIndex := 280, descriptorIndex := 25, attributes := #[] }, { accessFlags := 25, nameIndex := 282, descriptorIndex := 25, attributes := #[] }, { accessFlags := 25, nameIndex := 284, descriptorIndex := 25, attributes := #[] }, { accessFlags := 25, nameIndex := 286, descriptorIndex := 25, attributes := #[] }, { accessFlags := 25, nameIndex := 288, descriptorIndex := 25, attributes := #[] }, { accessFlags := 25, nameIndex := 290, descriptorIndex := 25, attributes := #[] }, { accessFlags := 25, nameIndex := 292, descriptorIndex := 25, attributes := #[] }, { accessFlags := 26, nameIndex := 108, descriptorIndex := 109, attributes := #[] }, { accessFlags := 25, nameIndex := 294, descriptorIndex := 25, attributes := #[] }])
  fields := #[{ name := "U", type := (.object "jdk/internal/misc/Unsafe"), accessFlags := 24, slot := 0, constantValue := 0 }, { name := "BIG_ENDIAN", type := .boolean, accessFlags := 26, slot := 1, constantValue := 0 }, { name := "LOG2_ARRAY_BOOLEAN_INDEX_SCALE", type := .int, accessFlags := 25, slot := 2, constantValue := 0 }, { name := "LOG2_ARRAY_BYTE_INDEX_SCALE", type := .int, accessFlags := 25, slot := 3, constantValue := 0 }, { name := "LOG2_ARRAY_CHAR_INDEX_SCALE", type := .int, accessFlags := 25, slot := 4, constantValue := 0 }, { name := "LOG2_ARRAY_SHORT_INDEX_SCALE", type := .int, accessFlags := 25, slot := 5, constantValue := 0 }, { name := "LOG2_ARRAY_INT_INDEX_SCALE", type := .int, accessFlags := 25, slot := 6, constantValue := 0 }, { name := "LOG2_ARRAY_LONG_INDEX_SCALE", type := .int, accessFlags := 25, slot := 7, constantValue := 0 }, { name := "LOG2_ARRAY_FLOAT_INDEX_SCALE", type := .int, accessFlags := 25, slot := 8, constantValue := 0 }, { name := "LOG2_ARRAY_DOUBLE_INDEX_SCALE", type := .int, accessFlags := 25, slot := 9, constantValue := 0 }, { name := "LOG2_BYTE_BIT_SIZE", type := .int, accessFlags := 26, slot := 10, constantValue := 0 }, { name := "T_BOOLEAN", type := .int, accessFlags := 25, slot := 11, constantValue := 0 }, { name := "T_CHAR", type := .int, accessFlags := 25, slot := 12, constantValue := 0 }, { name := "T_FLOAT", type := .int, accessFlags := 25, slot := 13, constantValue := 0 }, { name := "T_DOUBLE", type := .int, accessFlags := 25, slot := 14, constantValue := 0 }, { name := "T_BYTE", type := .int, accessFlags := 25, slot := 15, constantValue := 0 }, { name := "T_SHORT", type := .int, accessFlags := 25, slot := 16, constantValue := 0 }, { name := "T_INT", type := .int, accessFlags := 25, slot := 17, constantValue := 0 }, { name := "T_LONG", type := .int, accessFlags := 25, slot := 18, constantValue := 0 }, { name := "JLA", type := (.object "jdk/internal/access/JavaLangAccess"), accessFlags := 26, slot := 19, constantValue := 0 }, { name := "SOFT_MAX_ARRAY_LENGTH", type := .int, accessFlags := 25, slot := 20, constantValue := 0 }]
  methods := #[k12m0]
  instanceTypes := #[]
  staticTypes := #[(.object "jdk/internal/misc/Unsafe"), .boolean, .int, .int, .int, .int, .int, .int, .int, .int, .int, .int, .int, .int, .int, .int, .int, .int, .int, (.object "jdk/internal/access/JavaLangAccess"), .int]
  resolved := Array.replicate 378 none
  statics := none }

def pool13 : Array CpInfo := pool [(1, u "java/lang/Cloneable"), (0, .class_ 1), (0, u "java/lang/Object"), (0, .class_ 3)] 3

/-- java/lang/Cloneable -/
def k13 : Class := { plain "java/lang/Cloneable" (some 0) with
  accessFlags := 1537
  interfaces := #[]
  cf := some (fileOf pool13 2 #[] #[] 1537 4 #[] #[])
  fields := #[]
  methods := #[]
  instanceTypes := #[]
  staticTypes := #[]
  resolved := Array.replicate 8 none
  statics := none }

/-- the primitive byte -/
def k14 : Class := { plain "byte" none with kind := .primitive 'B', accessFlags := 0x411 }
/-- [B -/
def k15 : Class := { plain "[B" (some 0) with kind := .array 14 .byte, interfaces := #[13, 4], accessFlags := 1041 }

/-- the primitive int -/
def k16 : Class := { plain "int" none with kind := .primitive 'I', accessFlags := 0x411 }
/-- [I -/
def k17 : Class := { plain "[I" (some 0) with kind := .array 16 .int, interfaces := #[13, 4], accessFlags := 1041 }

def heap : Heap := #[{ cls := 6, slots := #[.ref 7, .ref 8, .null], vm := .statics 6 },
  { cls := 9, slots := #[.long 0, .int 1, .null, .int 0, .null, .int 0, .int 0], vm := .statics 9 },
  { cls := 11, slots := #[.null, .null, .null], vm := .statics 11 },
  { cls := 15, slots := #[.int 97, .int 100, .int 112], vm := .none },
  { cls := 15, slots := #[.int 97, .int 99, .int 112], vm := .none },
  { cls := 9, slots := #[.ref 3, .int 0, .int 0, .int 0], vm := .none },
  { cls := 9, slots := #[.ref 4, .int 0, .int 0, .int 0], vm := .none },
  { cls := 6, slots := #[.null, .int 0, .int 0, .ref 5, .null], vm := .none },
  { cls := 6, slots := #[.null, .int 1, .int 0, .ref 6, .null], vm := .none }]
def classes : Array Class := #[k0, k1, k2, k3, k4, k5, k6, k7, k8, k9, k10, k11, k12, k13, k14, k15, k16, k17]
def interned : List (Array UInt16 × Addr) := []
def slotsUsed : Nat := 37
def theMethod : MethodId := ⟨1, 1⟩
def args0 : Array Value := #[.int 5]
def aboutOver (below : List Frame) : State where
  vm := { classes := classes, interned := interned.toArray }
  heap := heap
  slotsUsed := slotsUsed
  threads := #[{ frames := .invoking theMethod args0 :: below }]
def below0 : List Frame := [.native { method := ⟨0, 0⟩, args := #[] }]
def about1 : State := aboutOver below0
def p0 : Program := .bare "" "" ""
def e0 : Env := launch0.env 0 0 0
theorem w_frames : about1.frames = Frame.invoking theMethod args0 :: below0 := rfl
set_option maxRecDepth 65536 in
theorem w_args : argsFit about1.vm theMethod args0 = true := by decide +kernel
set_option maxRecDepth 65536 in
theorem w_heap : heapFits about1 = true := by decide +kernel
set_option maxRecDepth 65536 in
theorem w_runnable : about1.curStatus? = some .runnable := by decide +kernel
set_option maxRecDepth 65536 in
theorem w_alone : about1.alone = true := by decide +kernel
set_option maxRecDepth 65536 in
theorem w_named : about1.methodNamed? x = some theMethod := by decide +kernel
set_option maxRecDepth 65536 in
theorem w_hears : about1.hears theMethod below0 = true := by decide +kernel
set_option maxRecDepth 65536 in
theorem w_ripe : about1.ripe theMethod args0 below0 = true := by decide +kernel
theorem w_running : about1.status = .running := rfl
set_option maxRecDepth 65536 in
theorem w_room : about1.hasRoom e0.platform room_1 = true :=
  launch0.hasRoom_least _ room_1 (by decide +kernel) (by decide +kernel) (by decide +kernel) (by decide +kernel) (by decide +kernel) (by decide +kernel)
theorem allAtoms_all (ts : List Jvm.Cond) (a : Array Jvm.Value) (st : Jvm.State) : (allAtoms ts).before a st = ts.all (fun c => c.before a st) := by
  induction ts with
  | nil => rfl
  | cons c t ih =>
    show (Jvm.Cond.and c (allAtoms t)).before a st = _
    rw [Jvm.Cond.before_and, ih, List.all_cons]
def words1 : List Jvm.Cond := Jvm.Cond.code x code maxLocals ret :: tables_1
/-- a 'code' word, met by the world's own term for the bytes: nothing is compared byte by byte -/
theorem code_word {y : MethodName} {bytes : ByteArray} {mx : Nat} {rt : Option FieldType} {a : Array Value} {s : State} {m : MethodId} {meth : Method} {c : Code} (h1 : s.methodNamed? y = some m) (h2 : s.vm.method? m = some meth) (h3 : meth.code = some c) (h4 : c.code = bytes)
    (h5 : (c.maxLocals == mx && c.exceptionTable.isEmpty && decide (c.maxStack ≤ mostOperands) && decide (meth.sig.returnType = rt) && !meth.locks && decide (parseMethodDescriptor y.desc = some meth.sig)) = true) : (Jvm.Cond.code y bytes mx rt).before a s = true := by
  simp only [Bool.and_eq_true, beq_iff_eq, Bool.not_eq_true', decide_eq_true_eq] at h5
  obtain ⟨⟨⟨⟨⟨g1, g2⟩, g3⟩, g4⟩, g5⟩, g6⟩ := h5
  simp [Cond.before, Cond.holds, Cond.value, h1, h2, h3, h4, g1, g2, g3, g4, g5, g6]
def isCode : Jvm.Cond → Bool
  | .code _ _ _ _ => true
  | _ => false
theorem all_split {L : List Jvm.Cond} {P : Jvm.Cond → Bool} (h1 : L.all (fun c => isCode c || P c) = true) (h2 : ∀ c ∈ L.filter isCode, P c = true) : L.all P = true := by
  refine List.all_eq_true.mpr fun c hc => ?_
  have h := List.all_eq_true.mp h1 c hc
  rcases Bool.eq_false_or_eq_true (isCode c) with hi | hi
  · exact h2 c (List.mem_filter.mpr ⟨hc, hi⟩)
  · simpa [hi] using h
set_option maxRecDepth 65536 in
theorem w_c0 : (Jvm.Cond.code x code maxLocals ret).before args0 about1 = true := code_word (m := ⟨1, 1⟩) (meth := k1m1) (c := k1c1) (by decide +kernel) rfl rfl rfl (by decide +kernel)
set_option maxRecDepth 65536 in
theorem w_c1 : (Jvm.Cond.code ({ cls := "com/example/planbook/planbook/core/TestKind", name := "limitsDeferrals", desc := "()Z" } : Jvm.MethodName) prog_68_method_7_code (1 : Nat) (Option.some Jvm.ClassFile.FieldType.boolean)).before args0 about1 = true := code_word (m := ⟨6, 1⟩) (meth := k6m1) (c := k6c1) (by decide +kernel) rfl rfl rfl (by decide +kernel)
set_option maxRecDepth 65536 in
theorem w_c2 : (Jvm.Cond.code ({ cls := "com/example/planbook/planbook/core/TestKind", name := "key", desc := "()Ljava/lang/String;" } : Jvm.MethodName) prog_68_method_4_code (1 : Nat) (Option.some (Jvm.ClassFile.FieldType.object "java/lang/String"))).before args0 about1 = true := code_word (m := ⟨6, 0⟩) (meth := k6m0) (c := k6c0) (by decide +kernel) rfl rfl rfl (by decide +kernel)
set_option maxRecDepth 65536 in
theorem w_c3 : (Jvm.Cond.code ({ cls := "java/lang/String", name := "equals", desc := "(Ljava/lang/Object;)Z" } : Jvm.MethodName) jdk_42_method_66_code (3 : Nat) (Option.some Jvm.ClassFile.FieldType.boolean)).before args0 about1 = true := code_word (m := ⟨9, 1⟩) (meth := k9m1) (c := k9c1) (by decide +kernel) rfl rfl rfl (by decide +kernel)
set_option maxRecDepth 65536 in
theorem w_c4 : (Jvm.Cond.code ({ cls := "java/lang/StringLatin1", name := "equals", desc := "([B[B)Z" } : Jvm.MethodName) jdk_43_method_13_code (3 : Nat) (Option.some Jvm.ClassFile.FieldType.boolean)).before args0 about1 = true := code_word (m := ⟨10, 1⟩) (meth := k10m1) (c := k10c1) (by decide +kernel) rfl rfl rfl (by decide +kernel)
def codes1 : List Jvm.Cond := [Jvm.Cond.code x code maxLocals ret, Jvm.Cond.code ({ cls := "com/example/planbook/planbook/core/TestKind", name := "limitsDeferrals", desc := "()Z" } : Jvm.MethodName) prog_68_method_7_code (1 : Nat) (Option.some Jvm.ClassFile.FieldType.boolean), Jvm.Cond.code ({ cls := "com/example/planbook/planbook/core/TestKind", name := "key", desc := "()Ljava/lang/String;" } : Jvm.MethodName) prog_68_method_4_code (1 : Nat) (Option.some (Jvm.ClassFile.FieldType.object "java/lang/String")), Jvm.Cond.code ({ cls := "java/lang/String", name := "equals", desc := "(Ljava/lang/Object;)Z" } : Jvm.MethodName) jdk_42_method_66_code (3 : Nat) (Option.some Jvm.ClassFile.FieldType.boolean), Jvm.Cond.code ({ cls := "java/lang/StringLatin1", name := "equals", desc := "([B[B)Z" } : Jvm.MethodName) jdk_43_method_13_code (3 : Nat) (Option.some Jvm.ClassFile.FieldType.boolean)]
set_option maxRecDepth 65536 in
theorem codes_eq : words1.filter isCode = codes1 := rfl
theorem w_codes : ∀ c ∈ words1.filter isCode, c.before args0 about1 = true := by
  rw [codes_eq]
  intro c hc
  simp only [codes1, List.mem_cons, List.not_mem_nil, or_false] at hc
  rcases hc with rfl | rfl | rfl | rfl | rfl
  · exact w_c0
  · exact w_c1
  · exact w_c2
  · exact w_c3
  · exact w_c4
set_option maxRecDepth 65536 in
theorem w_t1 : (words1.take 24).all (fun c => isCode c || c.before args0 about1) = true := by decide +kernel
set_option maxRecDepth 65536 in
theorem w_t2 : (words1.drop 24).all (fun c => isCode c || c.before args0 about1) = true := by decide +kernel
theorem w_tables : (allAtoms (Jvm.Cond.code x code maxLocals ret :: tables_1)).before args0 about1 = true := by
  rw [allAtoms_all]
  show words1.all (fun c => c.before args0 about1) = true
  refine all_split ?_ w_codes
  rw [← List.take_append_drop 24 words1, List.all_append, w_t1, w_t2]
  rfl
set_option maxRecDepth 65536 in
theorem w_rest : rest_1_c.before args0 about1 = true := by decide +kernel
set_option maxRecDepth 65536 in
theorem w_case : (Jvm.Cond.and given_1 narrow_1).before args0 about1 = true := by decide +kernel
set_option maxRecDepth 65536 in
theorem w_consts : constsHeld consts_1 about1 := Jvm.Lit.constsHeldB_iff.mp (by decide +kernel)
theorem w_applies : (headSpec (Jvm.Cond.code x code maxLocals ret :: tables_1) room_1).applies x e0.platform about1 = true :=
  (Spec.applies_iff w_frames).mpr ⟨w_running, w_runnable, w_alone, w_named, w_hears, w_ripe, w_room, w_tables⟩
theorem atStart : AtStart classFile x code maxLocals ret World_1 tables_1 room_1 Calls_1 rest_1 Pre_1 launch0 p0 e0 about1 theMethod args0 below0 :=
  ⟨lists_1, trivial, launch0.admits_env _ _ _, launch0.least_env, fairChoices_fair.cas, fairChoices_fair.clock, w_frames, w_args, w_heap, w_applies, ⟨w_consts, trivial⟩, w_rest, w_case⟩
end start1
theorem witness_1 : WitnessClaimed_1 := ⟨start1.p0, start1.e0, start1.about1, start1.theMethod, start1.args0, start1.below0, start1.atStart⟩
end Jvm.Pilot.@@N@@
