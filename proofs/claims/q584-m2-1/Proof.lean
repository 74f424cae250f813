import JvmDerived
import JvmDerived.Pilot.@@N@@Statement
import JvmDerived.Pilot.@@N@@Code
set_option linter.unusedVariables false
set_option linter.unusedSimpArgs false
namespace Jvm.Pilot.@@N@@
open Jvm Jvm.ClassFile Sem Op Lib Jvm.Free Jvm.Stand Jvm.LawKit Jvm.RoadKit Bundle Jvm.Pilot.@@N@@.Jvm.D
/-- from S the run goes on below 'below', ends, and E holds of the end -/
def Go (tb : Tables) (e : Env) (below : List Frame) (E : State → Outcome → Prop) (S : State) : Prop := ∃ s₂ o, Steps tb e below S s₂ ∧ s₂.status = .running ∧ Ended s₂ below o ∧ E s₂ o
theorem Go.via {tb : Tables} {e : Env} {below : List Frame} {E : State → Outcome → Prop} {S S' : State} (k : ∀ t, Steps tb e below S' t → Steps tb e below S t) (h : Go tb e below E S') : Go tb e below E S := by
  obtain ⟨a, b, c, d⟩ := h; exact ⟨a, b, k _ c, d⟩
/-- a body's contract, short -/
abbrev MetP (l : Launch) (y : MethodName) (bytes : ByteArray) (maxL : Nat) (ret : Option FieldType) (ws : List Jvm.Cond) (rm : Room) (Z : State) (as' : Array Value) (h0 : Heap) (Q : Option Value → Heap → List Loc → Prop) : Prop :=
  MetFree l y (head1 (Jvm.Cond.code y bytes maxL ret :: ws) rm) (fun a U => a = as' ∧ Z.Warmed39 U.vm ∧ U.heap = h0) (fun _ _ _ _ _ => True) (fun _ U o U' => ∃ v L, o = .returned v ∧ Q v U'.heap L ∧ FrameEnd U o U' L rm.cells rm.slots)
/-- it returned r and wrote and made nothing -/
def Pure (r : Value) (h0 : Heap) (v : Option Value) (h : Heap) (L : List Loc) : Prop := v = some r ∧ L = [] ∧ h = h0
abbrev EndE (s : State) (rm : Room) (Q : Option Value → Heap → List Loc → Prop) : State → Outcome → Prop := fun s₂ o => ∃ v L, o = .returned v ∧ Q v s₂.heap L ∧ FrameEnd s o s₂ L rm.cells rm.slots
theorem met_go {l : Launch} {y : MethodName} {bytes : ByteArray} {maxL : Nat} {ret : Option FieldType} {ws : List Jvm.Cond} {rm : Room} {Z : State} {as' : Array Value} {h0 : Heap} {Q : Option Value → Heap → List Loc → Prop} (hpl : plainFor y = true)
    (body : ∀ (p : Program) (e : Env) (s : State) (m : MethodId) (below : List Frame) (meth : Method) (c : Code) (s₁ : State), p.tables.exec = Jvm.exec → c.code = bytes → c.maxLocals = maxL → s.vm.findClass y.cls = some m.cls → meth.name = y.name → meth.sig.returnType = ret → meth.locks = false → Z.Warmed39 s.vm → s₁.heap = h0 →
      Stand p l e rm s m as' below meth c s₁ [] 0 0 → Go p.tables e below (EndE s rm Q) (s₁.setTop (entryFrame m as' maxL))) : MetP l y bytes maxL ret ws rm Z as' h0 Q := by
  refine MetFree.of_bodySF hpl hisR ?_
  intro p e s m args below meth c s₁ Bd hml hP hK
  obtain ⟨rfl, hZ, hh⟩ := hP
  exact body p e s m below meth c s₁ Bd.exec Bd.bytes hml (findClass_of_methodNamed Bd.named) (name_of_methodNamed Bd.named Bd.method).1 Bd.returns Bd.notSynchronized hZ (by rw [← hh, Bd.state]; rfl) (Stand.of_body Bd)
abbrev EndW (s : State) (rm : Room) (Q : Option Value → Heap → List Loc → Prop) : State → Outcome → Prop := fun s₂ o => ∃ v L, o = .returned v ∧ Q v s₂.heap L ∧ ReturnedEndW s o s₂ L rm.cells rm.slots
theorem met_goW {l : Launch} {y : MethodName} {bytes : ByteArray} {maxL : Nat} {ret : Option FieldType} {ws : List Jvm.Cond} {rm : Room} {Z : State} {as' : Array Value} {h0 : Heap} {Q : Option Value → Heap → List Loc → Prop} (hpl : plainFor y = true)
    (body : ∀ (p : Program) (e : Env) (s : State) (m : MethodId) (below : List Frame) (meth : Method) (c : Code) (s₁ : State), p.tables.exec = Jvm.exec → c.code = bytes → c.maxLocals = maxL → s.vm.findClass y.cls = some m.cls → meth.name = y.name → meth.sig.returnType = ret → meth.locks = false → Z.Warmed39 s.vm → s₁.heap = h0 →
      Stand p l e rm s m as' below meth c s₁ [] 0 0 → Go p.tables e below (EndW s rm Q) (s₁.setTop (entryFrame m as' maxL))) : MetFree l y (head1 (Jvm.Cond.code y bytes maxL ret :: ws) rm) (fun a U => a = as' ∧ Z.Warmed39 U.vm ∧ U.heap = h0) (fun _ _ _ _ _ => True) (fun _ U o U' => ∃ v L, o = .returned v ∧ Q v U'.heap L ∧ ReturnedEndW U o U' L rm.cells rm.slots) := by
  refine MetFree.of_bodySF hpl hisR ?_
  intro p e s m args below meth c s₁ Bd hml hP hK
  obtain ⟨rfl, hZ, hh⟩ := hP
  exact body p e s m below meth c s₁ Bd.exec Bd.bytes hml (findClass_of_methodNamed Bd.named) (name_of_methodNamed Bd.named Bd.method).1 Bd.returns Bd.notSynchronized hZ (by rw [← hh, Bd.state]; rfl) (Stand.of_body Bd)
theorem met_goZ {l : Launch} {y : MethodName} {bytes : ByteArray} {maxL : Nat} {ret : Option FieldType} {ws : List Jvm.Cond} {rm : Room} {Z : State} {as' : Array Value} {Q : Option Value → Heap → List Loc → Prop} (hpl : plainFor y = true)
    (body : ∀ (p : Program) (e : Env) (s : State) (m : MethodId) (below : List Frame) (meth : Method) (c : Code) (s₁ : State), p.tables.exec = Jvm.exec → c.code = bytes → c.maxLocals = maxL → s.vm.findClass y.cls = some m.cls → meth.name = y.name → meth.sig.returnType = ret → meth.locks = false → s = Z → s₁.heap = Z.heap →
      Stand p l e rm s m as' below meth c s₁ [] 0 0 → Go p.tables e below (EndW s rm Q) (s₁.setTop (entryFrame m as' maxL))) : MetFree l y (head1 (Jvm.Cond.code y bytes maxL ret :: ws) rm) (fun a U => a = as' ∧ U = Z) (fun _ _ _ _ _ => True) (fun _ U o U' => ∃ v L, o = .returned v ∧ Q v U'.heap L ∧ ReturnedEndW U o U' L rm.cells rm.slots) := by
  refine MetFree.of_bodySF hpl hisR ?_
  intro p e s m args below meth c s₁ Bd hml hP hK
  obtain ⟨rfl, hZ⟩ := hP
  exact body p e s m below meth c s₁ Bd.exec Bd.bytes hml (findClass_of_methodNamed Bd.named) (name_of_methodNamed Bd.named Bd.method).1 Bd.returns Bd.notSynchronized hZ (by rw [← hZ, Bd.state]; rfl) (Stand.of_body Bd)
section OwnKit
variable {p : Program} {l : Launch} {e : Env} {R : Room} {s : State} {m : MethodId} {args : Array Value} {below : List Frame} {meth : Method} {c : Code} {T : State} {locs : List Loc} {cells slots : Nat} {E : State → Outcome → Prop} {Z : State} {a0 : Array Value} {h : Heap} {pc : Nat} {Ls Ls' : Array Slot} {st : List Value}
theorem o_iload (pc' : Nat) (X : Stand p l e R s m args below meth c T locs cells slots) (hx : p.tables.exec = Jvm.exec) (hpc : pc + 2 = pc') {k : Nat} {v : Int32} (hd : decode c.code pc = .ok (.iload k, 2)) (hl : Ls[k]? = some (.val (.int v))) (h : Go p.tables e below E (T.setTop (mkF m pc' Ls ((.int v) :: st)))) : Go p.tables e below E (T.setTop (mkF m pc Ls st)) := by
  subst hpc; exact Go.via (fun _ k => XS.iload X.here hx rfl hd hl k) h
theorem o_lload (pc' : Nat) (X : Stand p l e R s m args below meth c T locs cells slots) (hx : p.tables.exec = Jvm.exec) (hpc : pc + 2 = pc') {k : Nat} {v : Int64} (hd : decode c.code pc = .ok (.lload k, 2)) (hl : Ls[k]? = some (.val (.long v))) (h : Go p.tables e below E (T.setTop (mkF m pc' Ls ((.long v) :: st)))) : Go p.tables e below E (T.setTop (mkF m pc Ls st)) := by
  subst hpc; exact Go.via (fun _ k => XS.lload X.here hx rfl hd hl k) h
theorem o_iloadN (pc' : Nat) (X : Stand p l e R s m args below meth c T locs cells slots) (hx : p.tables.exec = Jvm.exec) (hpc : pc + 1 = pc') {k : Fin 4} {v : Int32} (hd : decode c.code pc = .ok (.iload_n k, 1)) (hl : Ls[k.val]? = some (.val (.int v))) (h : Go p.tables e below E (T.setTop (mkF m pc' Ls ((.int v) :: st)))) : Go p.tables e below E (T.setTop (mkF m pc Ls st)) := by
  subst hpc; exact Go.via (fun _ k => XS.iloadN X.here hx rfl hd hl k) h
theorem o_lloadN (pc' : Nat) (X : Stand p l e R s m args below meth c T locs cells slots) (hx : p.tables.exec = Jvm.exec) (hpc : pc + 1 = pc') {k : Fin 4} {v : Int64} (hd : decode c.code pc = .ok (.lload_n k, 1)) (hl : Ls[k.val]? = some (.val (.long v))) (h : Go p.tables e below E (T.setTop (mkF m pc' Ls ((.long v) :: st)))) : Go p.tables e below E (T.setTop (mkF m pc Ls st)) := by
  subst hpc; exact Go.via (fun _ k => XS.lloadN X.here hx rfl hd hl k) h
theorem o_aload (pc' : Nat) (X : Stand p l e R s m args below meth c T locs cells slots) (hx : p.tables.exec = Jvm.exec) (hpc : pc + 2 = pc') {k : Nat} {v : Value} (hd : decode c.code pc = .ok (.aload k, 2)) (hl : Ls[k]? = some (.val v)) (hv : v.isRef = true) (h : Go p.tables e below E (T.setTop (mkF m pc' Ls (v :: st)))) : Go p.tables e below E (T.setTop (mkF m pc Ls st)) := by
  subst hpc; exact Go.via (fun _ k => XS.aload X.here hx rfl hd hl hv k) h
theorem o_aloadN (pc' : Nat) (X : Stand p l e R s m args below meth c T locs cells slots) (hx : p.tables.exec = Jvm.exec) (hpc : pc + 1 = pc') {k : Fin 4} {v : Value} (hd : decode c.code pc = .ok (.aload_n k, 1)) (hl : Ls[k.val]? = some (.val v)) (hv : v.isRef = true) (h : Go p.tables e below E (T.setTop (mkF m pc' Ls (v :: st)))) : Go p.tables e below E (T.setTop (mkF m pc Ls st)) := by
  subst hpc; exact Go.via (fun _ k => XS.aloadN X.here hx rfl hd hl hv k) h
theorem o_lstore (pc' : Nat) (X : Stand p l e R s m args below meth c T locs cells slots) (hx : p.tables.exec = Jvm.exec) (hpc : pc + 2 = pc') {k : Nat} {v : Int64} (hd : decode c.code pc = .ok (.lstore k, 2)) (Ls' : Array Slot) (hl : storeLocals Ls k (.long v) = some Ls') (h : Go p.tables e below E (T.setTop (mkF m pc' Ls' st))) : Go p.tables e below E (T.setTop (mkF m pc Ls ((.long v) :: st))) := by
  subst hpc; exact Go.via (fun _ k => XS.lstore X.here hx rfl hd rfl hl k) h
theorem o_astore (pc' : Nat) (X : Stand p l e R s m args below meth c T locs cells slots) (hx : p.tables.exec = Jvm.exec) (hpc : pc + 2 = pc') {k : Nat} {v : Value} (hd : decode c.code pc = .ok (.astore k, 2)) (hv : v.isRef = true) (Ls' : Array Slot) (hl : storeLocals Ls k v = some Ls') (h : Go p.tables e below E (T.setTop (mkF m pc' Ls' st))) : Go p.tables e below E (T.setTop (mkF m pc Ls (v :: st))) := by
  subst hpc; exact Go.via (fun _ k => XS.astore X.here hx rfl hd rfl hv hl k) h
theorem o_iconst (pc' : Nat) (X : Stand p l e R s m args below meth c T locs cells slots) (hx : p.tables.exec = Jvm.exec) (hpc : pc + 1 = pc') {i : Int} (hd : decode c.code pc = .ok (.iconst i, 1)) (v : Int32) (hv : Int32.ofInt i = v) (h : Go p.tables e below E (T.setTop (mkF m pc' Ls (.int v :: st)))) : Go p.tables e below E (T.setTop (mkF m pc Ls st)) := by
  subst hpc; exact Go.via (fun _ k => XS.iconst X.here hx rfl hd (by rw [hv]; exact k)) h
theorem o_lconst (pc' : Nat) (X : Stand p l e R s m args below meth c T locs cells slots) (hx : p.tables.exec = Jvm.exec) (hpc : pc + 1 = pc') {i : Fin 2} (hd : decode c.code pc = .ok (.lconst i, 1)) (v : Int64) (hv : Int64.ofNat i = v) (h : Go p.tables e below E (T.setTop (mkF m pc' Ls (.long v :: st)))) : Go p.tables e below E (T.setTop (mkF m pc Ls st)) := by
  subst hpc; exact Go.via (fun _ k => XS.lconst X.here hx rfl hd (by rw [hv]; exact k)) h
theorem o_ldc2Long (pc' : Nat) (X : Stand p l e R s m args below meth c T locs cells slots) (hx : p.tables.exec = Jvm.exec) (hpc : pc + 3 = pc') (hZ : Z.Warmed39 s.vm) {own : String} {index : Nat} (hown : s.vm.findClass own = some m.cls) {v : Int64} (w : (Jvm.Cond.constantLong own index v).before a0 Z = true) (hd : decode c.code pc = .ok (.ldc2_w index, 3)) (h : Go p.tables e below E (T.setTop (mkF m pc' Ls (.long v :: st)))) : Go p.tables e below E (T.setTop (mkF m pc Ls st)) := by
  subst hpc; exact Go.via (fun _ k => X.ldc2Long hx hown (mvT hZ w) (g := mkF m pc Ls st) rfl hd _ k) h
theorem o_ladd (pc' : Nat) (X : Stand p l e R s m args below meth c T locs cells slots) (hx : p.tables.exec = Jvm.exec) (hpc : pc + 1 = pc') {x : Int64} {y : Int64} (hd : decode c.code pc = .ok (.ladd, 1)) (h : Go p.tables e below E (T.setTop (mkF m pc' Ls (.long (x + y) :: st)))) : Go p.tables e below E (T.setTop (mkF m pc Ls (.long y :: .long x :: st))) := by
  subst hpc; exact Go.via (fun _ k => XS.ladd X.here hx rfl hd rfl k) h
theorem o_lmul (pc' : Nat) (X : Stand p l e R s m args below meth c T locs cells slots) (hx : p.tables.exec = Jvm.exec) (hpc : pc + 1 = pc') {x : Int64} {y : Int64} (hd : decode c.code pc = .ok (.lmul, 1)) (h : Go p.tables e below E (T.setTop (mkF m pc' Ls (.long (x * y) :: st)))) : Go p.tables e below E (T.setTop (mkF m pc Ls (.long y :: .long x :: st))) := by
  subst hpc; exact Go.via (fun _ k => XS.lmul X.here hx rfl hd rfl k) h
theorem o_i2l (pc' : Nat) (X : Stand p l e R s m args below meth c T locs cells slots) (hx : p.tables.exec = Jvm.exec) (hpc : pc + 1 = pc') {x : Int32} (hd : decode c.code pc = .ok (.i2l, 1)) (h : Go p.tables e below E (T.setTop (mkF m pc' Ls (.long (x.toInt64) :: st)))) : Go p.tables e below E (T.setTop (mkF m pc Ls (.int x :: st))) := by
  subst hpc; exact Go.via (fun _ k => XS.i2l X.here hx rfl hd rfl k) h
theorem o_lcmp (pc' : Nat) (X : Stand p l e R s m args below meth c T locs cells slots) (hx : p.tables.exec = Jvm.exec) (hpc : pc + 1 = pc') {x y : Int64} (hd : decode c.code pc = .ok (.lcmp, 1)) (h : Go p.tables e below E (T.setTop (mkF m pc' Ls (.int (lcmpW x y) :: st)))) : Go p.tables e below E (T.setTop (mkF m pc Ls (.long y :: .long x :: st))) := by
  subst hpc; exact Go.via (fun _ k => XS.lcmp X.here hx rfl hd rfl k) h
theorem o_dup (pc' : Nat) (X : Stand p l e R s m args below meth c T locs cells slots) (hx : p.tables.exec = Jvm.exec) (hpc : pc + 1 = pc') {v : Value} (hd : decode c.code pc = .ok (.dup, 1)) (hv : v.category = 1) (h : Go p.tables e below E (T.setTop (mkF m pc' Ls (v :: v :: st)))) : Go p.tables e below E (T.setTop (mkF m pc Ls (v :: st))) := by
  subst hpc; exact Go.via (fun _ k => XS.dup X.here hx rfl hd rfl hv k) h
theorem o_goto (pc' : Nat) (X : Stand p l e R s m args below meth c T locs cells slots) (hx : p.tables.exec = Jvm.exec) {o : Int} (hd : decode c.code pc = .ok (.goto o, 3)) (ho : 0 ≤ (pc : Int) + o) (hp : ((pc : Int) + o).toNat = pc') (h : Go p.tables e below E (T.setTop (mkF m pc' Ls st))) : Go p.tables e below E (T.setTop (mkF m pc Ls st)) := by
  exact Go.via (fun _ k => XS.goto X.here hx rfl (pc0 := pc) (pc' := pc') rfl hd ho hp k) h
theorem o_ifNo (pc' : Nat) (X : Stand p l e R s m args below meth c T locs cells slots) (hx : p.tables.exec = Jvm.exec) (hpc : pc + 3 = pc') {cd : ClassFile.Cond} {x : Int32} {o : Int} (hd : decode c.code pc = .ok (.ifCond cd o, 3)) (hc : if_icmp.holds cd x 0 = false) (h : Go p.tables e below E (T.setTop (mkF m pc' Ls st))) : Go p.tables e below E (T.setTop (mkF m pc Ls (.int x :: st))) := by
  subst hpc; exact Go.via (fun _ k => XS.ifNo X.here hx rfl hd rfl ((if0 _ _).trans hc) k) h
theorem o_icmpNo (pc' : Nat) (X : Stand p l e R s m args below meth c T locs cells slots) (hx : p.tables.exec = Jvm.exec) (hpc : pc + 3 = pc') {cd : ClassFile.Cond} {x y : Int32} {o : Int} (hd : decode c.code pc = .ok (.if_icmp cd o, 3)) (hc : if_icmp.holds cd x y = false) (h : Go p.tables e below E (T.setTop (mkF m pc' Ls st))) : Go p.tables e below E (T.setTop (mkF m pc Ls (.int y :: .int x :: st))) := by
  subst hpc; exact Go.via (fun _ k => XS.icmpNo X.here hx rfl hd rfl hc k) h
theorem o_out (X : Stand p l e R s m args below meth c T locs cells slots) (hx : p.tables.exec = Jvm.exec) {rm : Room} {Q : Option Value → Heap → List Loc → Prop} {v : Option Value} (hv : meth.sig.returnType = none → v = none) (hlk : meth.locks = false) {g : JFrame}
    (hst : ∀ fs, (∀ (f : JFrame) (acts : List Action), f.method = m → f.locked = none → f.entered = [] → (doReturn e (T.setTop f) acts v).1 = T.setFrames fs) → Steps p.tables e below (T.setTop g) (T.setFrames fs)) (hq : Q v T.heap locs) (hk : cells ≤ rm.cells) (hn : slots ≤ rm.slots) : Go p.tables e below (EndE s rm Q) (T.setTop g) := by
  obtain ⟨fs, hr, hrun, hended, hW, hsame⟩ := X.leave (v := v) hv hlk
  exact ⟨_, _, hst fs hr, hrun, hended, _, _, rfl, hq, ⟨_, rfl⟩, hW, hsame.mono hk hn⟩
theorem own_retI (X : Stand p l e R s m args below meth c T locs cells slots) (hx : p.tables.exec = Jvm.exec) {z : Int32} (hret : meth.sig.returnType = some .int) (hd : decode c.code pc = .ok (.ireturn, 1)) {fs : List Frame}
    (hl : ∀ (f : JFrame) (acts : List Action), f.method = m → f.locked = none → f.entered = [] → (doReturn e (T.setTop f) acts (some (.int z))).1 = T.setFrames fs) : Steps p.tables e below (T.setTop (mkF m pc Ls (.int z :: st))) (T.setFrames fs) :=
  retOut X hx hret rfl (Or.inl ⟨rfl, Or.inl rfl, z, rfl⟩) hd hl
theorem o_retI (X : Stand p l e R s m args below meth c T locs cells slots) (hx : p.tables.exec = Jvm.exec) {z : Int32} {rm : Room} {Q : Option Value → Heap → List Loc → Prop} (hret : meth.sig.returnType = some .int) (hlk : meth.locks = false) (hd : decode c.code pc = .ok (.ireturn, 1)) (hk : cells ≤ rm.cells) (hn : slots ≤ rm.slots) (hq : Q (some (.int z)) T.heap locs) : Go p.tables e below (EndE s rm Q) (T.setTop (mkF m pc Ls (.int z :: st))) :=
  o_out X hx (fun q => by rw [hret] at q; cases q) hlk (fun fs hr => own_retI X hx hret hd hr) hq hk hn
theorem o_retJ (X : Stand p l e R s m args below meth c T locs cells slots) (hx : p.tables.exec = Jvm.exec) {z : Int64} {rm : Room} {Q : Option Value → Heap → List Loc → Prop} (hret : meth.sig.returnType = some .long) (hlk : meth.locks = false) (hd : decode c.code pc = .ok (.lreturn, 1)) (hk : cells ≤ rm.cells) (hn : slots ≤ rm.slots) (hq : Q (some (.long z)) T.heap locs) : Go p.tables e below (EndE s rm Q) (T.setTop (mkF m pc Ls (.long z :: st))) :=
  o_out X hx (fun q => by rw [hret] at q; cases q) hlk (fun fs hr => retOut X hx hret rfl (Or.inr (Or.inl ⟨rfl, rfl, z, rfl⟩)) hd hr) hq hk hn
theorem o_retV (X : Stand p l e R s m args below meth c T locs cells slots) (hx : p.tables.exec = Jvm.exec) {rm : Room} {Q : Option Value → Heap → List Loc → Prop} (hret : meth.sig.returnType = none) (hlk : meth.locks = false) (hd : decode c.code pc = .ok (.return_, 1)) (hk : cells ≤ rm.cells) (hn : slots ≤ rm.slots) (hq : Q none T.heap locs) : Go p.tables e below (EndE s rm Q) (T.setTop (mkF m pc Ls [])) :=
  o_out X hx (fun _ => rfl) hlk (fun fs hr => X.returnOut hx hret hd hr) hq hk hn
theorem o_getF (pc' : Nat) (X : Stand p l e R s m args below meth c T locs cells slots) (hx : p.tables.exec = Jvm.exec) (hpc : pc + 3 = pc') (hZ : Z.Warmed39 s.vm) {own R0 O n d : String} {index : Nat} (hown : s.vm.findClass own = some m.cls) (w : (Jvm.Cond.fieldLink own index R0 n d).before a0 Z = true) (via : Via Z R0 O n d) (eT : T.heap = h) {a : Addr} {v : Value} (F : Fld Z h a O n d v) (hd : decode c.code pc = .ok (.getfield index, 3))
    (k : ∀ (T' : State), Stand p l e R s m args below meth c T' locs cells slots → T'.heap = h → Go p.tables e below E (T'.setTop (mkF m pc' Ls (v :: st)))) : Go p.tables e below E (T.setTop (mkF m pc Ls (.ref a :: st))) := by
  subst hpc
  obtain ⟨T', X', e', st'⟩ := getF X hx hZ hown (host := "") (Or.inl w) via eT F (g := mkF m pc Ls (.ref a :: st)) rfl rfl hd
  exact Go.via st' (k T' X' e')
theorem o_putF (pc' : Nat) (X : Stand p l e R s m args below meth c T locs cells slots) (hx : p.tables.exec = Jvm.exec) (hpc : pc + 3 = pc') (hZ : Z.Warmed39 s.vm) {own R0 O n d C : String} {index kk : Nat} (ty : FieldType) (hown : s.vm.findClass own = some m.cls) (w : (Jvm.Cond.fieldLink own index R0 n d).before a0 Z = true) (via : Via Z R0 O n d) (eT : T.heap = h) {a : Addr} {v old : Value} (F : Fld Z h a O n d old) (X2 : Exa Z h a C)
    (L : (Jvm.Cond.lays C O n d).before a0 Z = true ∨ ((Jvm.Cond.laysFinal C O n d).before a0 Z = true ∧ own = O ∧ meth.name = "<init>")) (wi : (Jvm.Cond.instantiable C kk).before a0 Z = true) (hty : parseFieldDescriptor d = some ty) (hn : narrow ty v = v) (hf : fits ty v = true) {n0 : Nat} (N : Fr n0 locs) (ga : n0 ≤ a) (hd : decode c.code pc = .ok (.putfield index, 3))
    (k : ∀ (T' : State) (h' : Heap) (L' : List Loc), Stand p l e R s m args below meth c T' L' cells slots → Fr n0 L' → T'.heap = h' → Wr h h' a (Jvm.RoadKit.slotOf Z O n d) v → Go p.tables e below E (T'.setTop (mkF m pc' Ls st))) : Go p.tables e below E (T.setTop (mkF m pc Ls (v :: .ref a :: st))) := by
  subst hpc
  obtain ⟨T', h', X', e', W', st'⟩ := putF X hx hZ hown (host := "") (Or.inl w) via eT F X2 L wi hty hn hf (g := mkF m pc Ls (v :: .ref a :: st)) rfl rfl hd
  exact Go.via st' (k T' h' _ X' (Fr.snoc X' N ga) e' W')
theorem o_new (pc' : Nat) (X : Stand p l e R s m args below meth c T locs cells slots) (hx : p.tables.exec = Jvm.exec) (hpc : pc + 3 = pc') (hZ : Z.Warmed39 s.vm) {own C : String} {index n : Nat} (hown : s.vm.findClass own = some m.cls) (w : (Jvm.Cond.classLink own index C).before a0 Z = true) (wi : (Jvm.Cond.instantiable C n).before a0 Z = true) (wz : (Jvm.Cond.initialized C).before a0 Z = true) (eT : T.heap = h) (hd : decode c.code pc = .ok (.new index, 3)) (hc : cells + 1 ≤ R.cells) (hl : slots + n ≤ R.slots)
    (k : ∀ (T' : State) (h' : Heap) (a : Addr), a = h.size → Stand p l e R s m args below meth c T' locs (cells + 1) (slots + n) → T'.heap = h' → Ext h h' → Exa Z h' a C → (∀ {O nm d : String} {ty : FieldType}, Laid Z a0 C O nm d → parseFieldDescriptor d = some ty → Fld Z h' a O nm d (defaultValue ty)) → Go p.tables e below E (T'.setTop (mkF m pc' Ls (.ref a :: st)))) : Go p.tables e below E (T.setTop (mkF m pc Ls st)) := by
  subst hpc
  obtain ⟨T', h', X', e', E', A', D', -, st'⟩ := newO X hx hZ hown w wi wz eT (g := mkF m pc Ls st) rfl hd hc hl
  exact Go.via st' (k T' h' h.size rfl X' e' E' A' D')
theorem o_initO (pc' : Nat) (X : Stand p l e R s m args below meth c T locs cells slots) (hx : p.tables.exec = Jvm.exec) (hpc : pc + 3 = pc') (hZ : Z.Warmed39 s.vm) {own : String} {idx : Nat} (hown : s.vm.findClass own = some m.cls) (w1 : (Jvm.Cond.methodLink own idx Lib.objectInit).before a0 Z = true) (w2 : (Jvm.Cond.instanceMethod Lib.objectInit).before a0 Z = true) (w3 : (Jvm.Cond.code Lib.objectInit ⟨#[0xb1]⟩ 1 none).before a0 Z = true) (eT : T.heap = h) (hsize : Ls.size = c.maxLocals) {a : Addr} (hd : decode c.code pc = .ok (.invokespecial idx, 3)) (hf : 1 ≤ R.frames) (W : Nat) (hW : (st.map fun v => v.category).sum ≤ W) (hl : W + 12 ≤ R.locals)
    (k : ∀ (T' : State), Stand p l e R s m args below meth c T' locs cells slots → T'.heap = h → Go p.tables e below E (T'.setTop (mkF m pc' Ls st))) : Go p.tables e below E (T.setTop (mkF m pc Ls (.ref a :: st))) := by
  subst hpc
  obtain ⟨T', X', e', st'⟩ := initO X hx hZ hown w1 w2 w3 eT (g := mkF m pc Ls (.ref a :: st)) rfl hsize rfl hd hf (W := W) (by show 2 * 0 + _ ≤ _; rw [Nat.mul_zero, Nat.zero_add]; exact hW) hl
  exact Go.via st' (k T' X' e')
theorem o_callS (pc' : Nat) (X : Stand p l e R s m args below meth c T locs cells slots) (hx : p.tables.exec = Jvm.exec) (hpc : pc + 3 = pc') (hZ : Z.Warmed39 s.vm) {own : String} {index : Nat} {y : MethodName} {bytes : ByteArray} {maxL : Nat} {ret : Option FieldType} {rm : Room} {as' : Array Value} {Q : Option Value → Heap → List Loc → Prop} (hown : s.vm.findClass own = some m.cls) (w1 : (Jvm.Cond.methodLink own index y).before a0 Z = true) (w2 : (Jvm.Cond.static y).before a0 Z = true) (w3 : (Jvm.Cond.initialized y.cls).before a0 Z = true) (w4 : (Jvm.Cond.code y bytes maxL ret).before a0 Z = true) (hy : y.cls ≠ "java/lang/invoke/MethodHandle" ∧ y.cls ≠ "java/lang/invoke/VarHandle") (eT : T.heap = h)
    (hM : MetP l y bytes maxL ret [] rm Z as' h Q) {ps : List FieldType} {r : Option FieldType} (hdsc : parseMethodDescriptor y.desc = some ⟨ps, r⟩) (argsL rest : List Value) (hlen : argsL.length = ps.length) (has : argsL.toArray = as') (hsize : Ls.size = c.maxLocals) (hst : st = argsL.reverse ++ rest) (hd : decode c.code pc = .ok (.invokestatic index, 3)) (W : Nat) (hW : (rest.map fun v => v.category).sum ≤ W) (hf : rm.frames + 1 ≤ R.frames) (hlo : W + (maxL + 11) + rm.locals ≤ R.locals) (hc : cells + rm.cells ≤ R.cells) (hsl : slots + rm.slots ≤ R.slots)
    (k : ∀ (v : Option Value) (T' : State) (L : List Loc), Stand p l e R s m args below meth c T' (locs ++ L) (cells + rm.cells) (slots + rm.slots) → Q v T'.heap L → Go p.tables e below E (T'.setTop (mkF m pc' Ls (v.toList ++ rest)))) : Go p.tables e below E (T.setTop (mkF m pc Ls st)) := by
  subst hpc
  obtain ⟨v, _, ⟨T', L', c', s'⟩, -, X', ⟨L, hQ, h1, h2, h3⟩, st'⟩ := Jvm.LawKit.callS X hx (y := y) hown (mvT hZ w1) (mvT hZ w2) (mvT hZ w3) (mvT hZ w4) hy (backOf (W := W) hM hZ w4 w3 hf hlo) (g := mkF m pc Ls st) rfl hsize (argsL := argsL) (rest := rest) (lenOf hdsc hlen) hst (by show 2 * 0 + _ ≤ _; rw [Nat.mul_zero, Nat.zero_add]; exact hW) hd (fun _ _ => ⟨has, eT, hc, hsl⟩)
  dsimp only [Pt.U, Pt.locs, Pt.cells, Pt.slots] at X' h1 h2 h3 st' hQ
  subst h1 h2 h3
  exact Go.via st' (k v T' L X' hQ)
theorem o_callP (pc' : Nat) (X : Stand p l e R s m args below meth c T locs cells slots) (hx : p.tables.exec = Jvm.exec) (hpc : pc + 3 = pc') (hZ : Z.Warmed39 s.vm) {own : String} {index : Nat} {y : MethodName} {bytes : ByteArray} {maxL : Nat} {ret : Option FieldType} {rm : Room} {as' : Array Value} {rv : Value} (hown : s.vm.findClass own = some m.cls) (w1 : (Jvm.Cond.methodLink own index y).before a0 Z = true) (w2 : (Jvm.Cond.static y).before a0 Z = true) (w3 : (Jvm.Cond.initialized y.cls).before a0 Z = true) (w4 : (Jvm.Cond.code y bytes maxL ret).before a0 Z = true) (hy : y.cls ≠ "java/lang/invoke/MethodHandle" ∧ y.cls ≠ "java/lang/invoke/VarHandle") (eT : T.heap = h)
    (hM : MetP l y bytes maxL ret [] rm Z as' h (Pure rv h)) {ps : List FieldType} {r : Option FieldType} (hdsc : parseMethodDescriptor y.desc = some ⟨ps, r⟩) (argsL rest : List Value) (hlen : argsL.length = ps.length) (has : argsL.toArray = as') (hsize : Ls.size = c.maxLocals) (hst : st = argsL.reverse ++ rest) (hd : decode c.code pc = .ok (.invokestatic index, 3)) (W : Nat) (hW : (rest.map fun v => v.category).sum ≤ W) (hf : rm.frames + 1 ≤ R.frames) (hlo : W + (maxL + 11) + rm.locals ≤ R.locals) (hc : cells + rm.cells ≤ R.cells) (hsl : slots + rm.slots ≤ R.slots) (hc0 : rm.cells = 0) (hs0 : rm.slots = 0)
    (k : ∀ (T' : State), Stand p l e R s m args below meth c T' locs cells slots → T'.heap = h → Go p.tables e below E (T'.setTop (mkF m pc' Ls (rv :: rest)))) : Go p.tables e below E (T.setTop (mkF m pc Ls st)) := by
  refine o_callS pc' X hx hpc hZ hown w1 w2 w3 w4 hy eT hM hdsc argsL rest hlen has hsize hst hd W hW hf hlo hc hsl ?_
  intro v T' L X' hQ
  obtain ⟨rfl, rfl, e'⟩ := hQ
  rw [hc0, hs0, List.append_nil] at X'
  exact k T' X' e' 
theorem o_callI (pc' : Nat) (X : Stand p l e R s m args below meth c T locs cells slots) (hx : p.tables.exec = Jvm.exec) (hpc : pc + 3 = pc') (hZ : Z.Warmed39 s.vm) {own : String} {index : Nat} {y : MethodName} {bytes : ByteArray} {maxL : Nat} {rm : Room} {as' : Array Value} {Q : Option Value → Heap → List Loc → Prop} (hy1 : y.name = "<init>") (hown : s.vm.findClass own = some m.cls) (w1 : (Jvm.Cond.methodLink own index y).before a0 Z = true) (w2 : (Jvm.Cond.instanceMethod y).before a0 Z = true) (w3 : (Jvm.Cond.initialized y.cls).before a0 Z = true) (w4 : (Jvm.Cond.code y bytes maxL none).before a0 Z = true) (hy : y.cls ≠ "java/lang/invoke/MethodHandle" ∧ y.cls ≠ "java/lang/invoke/VarHandle") (eT : T.heap = h)
    (hM : MetP l y bytes maxL none [] rm Z as' h Q) {ps : List FieldType} {r : Option FieldType} (hdsc : parseMethodDescriptor y.desc = some ⟨ps, r⟩) (a : Addr) (argsL rest : List Value) (hlen : argsL.length = ps.length) (has : (.ref a :: argsL).toArray = as') (hsize : Ls.size = c.maxLocals) (hst : st = argsL.reverse ++ .ref a :: rest) (hd : decode c.code pc = .ok (.invokespecial index, 3)) (W : Nat) (hW : (rest.map fun v => v.category).sum ≤ W) (hf : rm.frames + 1 ≤ R.frames) (hlo : W + (maxL + 11) + rm.locals ≤ R.locals) (hc : cells + rm.cells ≤ R.cells) (hsl : slots + rm.slots ≤ R.slots)
    (k : ∀ (v : Option Value) (T' : State) (L : List Loc), Stand p l e R s m args below meth c T' (locs ++ L) (cells + rm.cells) (slots + rm.slots) → Q v T'.heap L → Go p.tables e below E (T'.setTop (mkF m pc' Ls (v.toList ++ rest)))) : Go p.tables e below E (T.setTop (mkF m pc Ls st)) := by
  subst hpc
  obtain ⟨v, _, ⟨T', L', c', s'⟩, -, X', ⟨L, hQ, h1, h2, h3⟩, st'⟩ := X.specialBack hx (y := y) hy1 hown (mvT hZ w1) (mvT hZ w2) (mvT hZ w4) hy (backOf (W := W) hM hZ w4 w3 hf hlo) (g := mkF m pc Ls st) rfl hsize (Steps.refl _) (a := a) (argsL := argsL) (rest := rest) (lenOf hdsc hlen) hst (by show 2 * 0 + _ ≤ _; rw [Nat.mul_zero, Nat.zero_add]; exact hW) hd (fun _ _ => ⟨has, eT, hc, hsl⟩)
  dsimp only [Pt.U, Pt.locs, Pt.cells, Pt.slots] at X' h1 h2 h3 st' hQ
  subst h1 h2 h3
  exact Go.via (fun _ q => st'.trans q) (k v T' L X' hQ)
theorem o_callV (pc' : Nat) (X : Stand p l e R s m args below meth c T locs cells slots) (hx : p.tables.exec = Jvm.exec) (hpc : pc + 3 = pc') (hZ : Z.Warmed39 s.vm) {own C : String} {index : Nat} {y : MethodName} {bytes : ByteArray} {maxL : Nat} {ret : Option FieldType} {rm : Room} {as' : Array Value} {Q : Option Value → Heap → List Loc → Prop} (hown : s.vm.findClass own = some m.cls) (w1 : (Jvm.Cond.methodLink own index y).before a0 Z = true) (w2 : (Jvm.Cond.declares y).before a0 Z = true) (wsel : (Jvm.Cond.selects C y y).before a0 Z = true) (w5 : (Jvm.Cond.instanceMethod y).before a0 Z = true) (w3 : (Jvm.Cond.initialized y.cls).before a0 Z = true) (w4 : (Jvm.Cond.code y bytes maxL ret).before a0 Z = true) (hy : y.cls ≠ "java/lang/invoke/MethodHandle" ∧ y.cls ≠ "java/lang/invoke/VarHandle") (eT : T.heap = h)
    (hM : MetP l y bytes maxL ret [] rm Z as' h Q) {ps : List FieldType} {r : Option FieldType} (hdsc : parseMethodDescriptor y.desc = some ⟨ps, r⟩) (argsL rest : List Value) (hlen : argsL.length = ps.length) {a : Addr} (X2 : Exa Z h a C) (has : (.ref a :: argsL).toArray = as') (hsize : Ls.size = c.maxLocals) (hst : st = argsL.reverse ++ .ref a :: rest) (hd : decode c.code pc = .ok (.invokevirtual index, 3)) (W : Nat) (hW : (rest.map fun v => v.category).sum ≤ W) (hf : rm.frames + 1 ≤ R.frames) (hlo : W + (maxL + 11) + rm.locals ≤ R.locals) (hc : cells + rm.cells ≤ R.cells) (hsl : slots + rm.slots ≤ R.slots)
    (k : ∀ (v : Option Value) (T' : State) (L : List Loc), Stand p l e R s m args below meth c T' (locs ++ L) (cells + rm.cells) (slots + rm.slots) → Q v T'.heap L → Go p.tables e below E (T'.setTop (mkF m pc' Ls (v.toList ++ rest)))) : Go p.tables e below E (T.setTop (mkF m pc Ls st)) := by
  subst hpc
  obtain ⟨cq, kq, qa, qb, qc⟩ := isOf hZ eT X2
  obtain ⟨v, _, ⟨T', L', c', s'⟩, -, X', ⟨L, hQ, h1, h2, h3⟩, st'⟩ := X.virtualBack hx (y := y) (z := y) hown (mvT hZ w1) (mvT hZ w2) (notFace_of_selects (args := #[]) (mvT hZ wsel)) (mvT hZ wsel) (mvT hZ w5) hy (backOf (W := W) hM hZ w4 w3 hf hlo) qa qc (g := mkF m pc Ls st) rfl hsize (Steps.refl _) (argsL := argsL) (rest := rest) (lenOf hdsc hlen) hst (by show 2 * 0 + _ ≤ _; rw [Nat.mul_zero, Nat.zero_add]; exact hW) hd (fun _ _ => ⟨has, eT, hc, hsl⟩)
  dsimp only [Pt.U, Pt.locs, Pt.cells, Pt.slots] at X' h1 h2 h3 st' hQ
  subst h1 h2 h3
  exact Go.via (fun _ q => st'.trans q) (k v T' L X' hQ)
theorem o_callVP (pc' : Nat) (X : Stand p l e R s m args below meth c T locs cells slots) (hx : p.tables.exec = Jvm.exec) (hpc : pc + 3 = pc') (hZ : Z.Warmed39 s.vm) {own C : String} {index : Nat} {y : MethodName} {bytes : ByteArray} {maxL : Nat} {ret : Option FieldType} {rm : Room} {as' : Array Value} {rv : Value} (hown : s.vm.findClass own = some m.cls) (w1 : (Jvm.Cond.methodLink own index y).before a0 Z = true) (w2 : (Jvm.Cond.declares y).before a0 Z = true) (wsel : (Jvm.Cond.selects C y y).before a0 Z = true) (w5 : (Jvm.Cond.instanceMethod y).before a0 Z = true) (w3 : (Jvm.Cond.initialized y.cls).before a0 Z = true) (w4 : (Jvm.Cond.code y bytes maxL ret).before a0 Z = true) (hy : y.cls ≠ "java/lang/invoke/MethodHandle" ∧ y.cls ≠ "java/lang/invoke/VarHandle") (eT : T.heap = h)
    (hM : MetP l y bytes maxL ret [] rm Z as' h (Pure rv h)) {ps : List FieldType} {r : Option FieldType} (hdsc : parseMethodDescriptor y.desc = some ⟨ps, r⟩) (argsL rest : List Value) (hlen : argsL.length = ps.length) {a : Addr} (X2 : Exa Z h a C) (has : (.ref a :: argsL).toArray = as') (hsize : Ls.size = c.maxLocals) (hst : st = argsL.reverse ++ .ref a :: rest) (hd : decode c.code pc = .ok (.invokevirtual index, 3)) (W : Nat) (hW : (rest.map fun v => v.category).sum ≤ W) (hf : rm.frames + 1 ≤ R.frames) (hlo : W + (maxL + 11) + rm.locals ≤ R.locals) (hc : cells + rm.cells ≤ R.cells) (hsl : slots + rm.slots ≤ R.slots) (hc0 : rm.cells = 0) (hs0 : rm.slots = 0)
    (k : ∀ (T' : State), Stand p l e R s m args below meth c T' locs cells slots → T'.heap = h → Go p.tables e below E (T'.setTop (mkF m pc' Ls (rv :: rest)))) : Go p.tables e below E (T.setTop (mkF m pc Ls st)) := by
  refine o_callV pc' X hx hpc hZ hown w1 w2 wsel w5 w3 w4 hy eT hM hdsc argsL rest hlen X2 has hsize hst hd W hW hf hlo hc hsl ?_
  intro v T' L X' hQ
  obtain ⟨rfl, rfl, e'⟩ := hQ
  rw [hc0, hs0, List.append_nil] at X'
  exact k T' X' e' 
theorem o_callIw (pc' : Nat) (X : Stand p l e R s m args below meth c T locs cells slots) (hx : p.tables.exec = Jvm.exec) (hpc : pc + 3 = pc') (hZ : Z.Warmed39 s.vm) {own : String} {index : Nat} {y : MethodName} {bytes : ByteArray} {maxL : Nat} {rm : Room} {as' : Array Value} {Q : Option Value → Heap → List Loc → Prop} (hy1 : y.name = "<init>") (hown : s.vm.findClass own = some m.cls) (w1 : (Jvm.Cond.methodLink own index y).before a0 Z = true) (w2 : (Jvm.Cond.instanceMethod y).before a0 Z = true) (w3 : (Jvm.Cond.initialized y.cls).before a0 Z = true) (w4 : (Jvm.Cond.code y bytes maxL none).before a0 Z = true) (hy : y.cls ≠ "java/lang/invoke/MethodHandle" ∧ y.cls ≠ "java/lang/invoke/VarHandle") (eT : T.heap = h) {n0 : Nat} (N : Fr n0 locs)
    (hM : MetP l y bytes maxL none [] rm Z as' h Q) {ps : List FieldType} {r : Option FieldType} (hdsc : parseMethodDescriptor y.desc = some ⟨ps, r⟩) (a : Addr) (argsL rest : List Value) (hlen : argsL.length = ps.length) (has : (.ref a :: argsL).toArray = as') (hsize : Ls.size = c.maxLocals) (hst : st = argsL.reverse ++ .ref a :: rest) (hd : decode c.code pc = .ok (.invokespecial index, 3)) (W : Nat) (hW : (rest.map fun v => v.category).sum ≤ W) (hf : rm.frames + 1 ≤ R.frames) (hlo : W + (maxL + 11) + rm.locals ≤ R.locals) (hc : cells + rm.cells ≤ R.cells) (hsl : slots + rm.slots ≤ R.slots)
    (k : ∀ (v : Option Value) (T' : State) (L L' : List Loc), Stand p l e R s m args below meth c T' L' (cells + rm.cells) (slots + rm.slots) → Q v T'.heap L → (Fr n0 L → Fr n0 L') → Go p.tables e below E (T'.setTop (mkF m pc' Ls (v.toList ++ rest)))) : Go p.tables e below E (T.setTop (mkF m pc Ls st)) :=
  o_callI pc' X hx hpc hZ hy1 hown w1 w2 w3 w4 hy eT hM hdsc a argsL rest hlen has hsize hst hd W hW hf hlo hc hsl (fun v T' L X' hQ => k v T' L _ X' hQ (fun M => Fr.app N M))
theorem o_ldcS (pc' : Nat) {vm0 : Vm} (X : Stand p l e R (s.setVm vm0) m args below meth c T locs cells slots) (hx : p.tables.exec = Jvm.exec) (hpc : pc + 2 = pc') (hZ : Z.Warmed39 vm0) {own text : String} {index : Nat} (hown : vm0.findClass own = some m.cls) (w : (Jvm.Cond.stringLink own index text).before a0 Z = true) (wS : ∀ a ∈ Bundle.stringAtoms, a.before a0 Z = true) (eT : T.heap = h) {k0 : Nat} (hS : s.Since vm0 k0) (hk : k0 ≤ h.size) (hd : decode c.code pc = .ok (.ldc index, 2)) (n : Nat) (hn : 4 * text.toList.length ≤ n) (hbig : n ≤ 536870912) (hc : cells + 2 ≤ R.cells) (hl : slots + (n + 4) ≤ R.slots)
    (k : ∀ (a : Addr) (T' : State) (h' : Heap) (k1 : Nat), Stand p l e R (s.setVm T'.vm) m args below meth c T' locs (cells + 2) (slots + (n + 4)) → T'.heap = h' → Ext h h' → s.Since T'.vm k1 → k1 ≤ h'.size → Z.Warmed39 (s.setVm T'.vm).vm → (s.setVm T'.vm).vm.findClass own = some m.cls → Go p.tables e below E (T'.setTop (mkF m pc' Ls (.ref a :: st)))) : Go p.tables e below E (T.setTop (mkF m pc Ls st)) := by
  subst hpc
  obtain ⟨a, T', h', k1, X', e', E', hS', hk', hZ', hown', st'⟩ := ldcS X hx hZ hown w wS eT hS hk (g := mkF m pc Ls st) rfl hd hn hbig hc hl
  exact Go.via st' (k a T' h' k1 X' e' E' hS' hk' hZ' hown')
theorem o_outW {vm0 : Vm} (X : Stand p l e R (s.setVm vm0) m args below meth c T locs cells slots) (hx : p.tables.exec = Jvm.exec) {k0 : Nat} (hS : s.Since vm0 k0) (hk0 : k0 ≤ T.heap.size) {rm : Room} {Q : Option Value → Heap → List Loc → Prop} {z : Int32} (t : FieldType) (ht : t = .boolean ∨ t = .byte ∨ t = .char ∨ t = .short) (hret : meth.sig.returnType = some t) (hlk : meth.locks = false) (hd : decode c.code pc = .ok (.ireturn, 1)) (hk : cells ≤ rm.cells) (hn : slots ≤ rm.slots) (hq : Q (some (.int (nar t z))) T.heap locs) : Go p.tables e below (EndW s rm Q) (T.setTop (mkF m pc Ls (.int z :: st))) := by
  obtain ⟨fs, hr, hrun, hended, hend⟩ := X.leaveW hS hk0 (v := some (.int (nar t z))) (fun q => by rw [hret] at q; cases q) hlk
  exact ⟨_, _, retN X hx hret ht hd hr, hrun, hended, _, _, rfl, hq, hend.1, hend.2.1, hend.2.2.1, hend.2.2.2.mono hk hn⟩
end OwnKit
theorem l_tlt {x y : Int64} (h : x < y) : lcmpW x y < 0 := (lw_lt x y).mpr h
theorem l_flt {x y : Int64} (h : ¬ x < y) : ¬ lcmpW x y < 0 := fun q => h ((lw_lt x y).mp q)
theorem l_tgt {x y : Int64} (h : y < x) : 0 < lcmpW x y := (lw_gt x y).mpr h
theorem l_fgt {x y : Int64} (h : ¬ y < x) : ¬ 0 < lcmpW x y := fun q => h ((lw_gt x y).mp q)
theorem l_teq {x y : Int64} (h : x = y) : lcmpW x y = 0 := (lw_eq x y).mpr h
theorem l_feq {x y : Int64} (h : ¬ x = y) : ¬ lcmpW x y = 0 := fun q => h ((lw_eq x y).mp q)
theorem wd_0 {Z : State} {a0 : Array Value} (hw : ∀ d ∈ tables_1, d.before a0 Z = true) : (Jvm.Cond.classLink "com/example/headword/headword/quickdic/ListHeadDataPinLaw" (7 : Nat) "com/example/headword/headword/quickdic/Fields$Part").before a0 Z = true := hw _ (List.mem_of_getElem? (i := 0) rfl)
theorem wd_1 {Z : State} {a0 : Array Value} (hw : ∀ d ∈ tables_1, d.before a0 Z = true) : (Jvm.Cond.instantiable "com/example/headword/headword/quickdic/Fields$Part" (2 : Nat)).before a0 Z = true := hw _ (List.mem_of_getElem? (i := 1) rfl)
theorem wd_2 {Z : State} {a0 : Array Value} (hw : ∀ d ∈ tables_1, d.before a0 Z = true) : (Jvm.Cond.initialized "com/example/headword/headword/quickdic/Fields$Part").before a0 Z = true := hw _ (List.mem_of_getElem? (i := 2) rfl)
theorem wd_3 {Z : State} {a0 : Array Value} (hw : ∀ d ∈ tables_1, d.before a0 Z = true) : (Jvm.Cond.stringLink "com/example/headword/headword/quickdic/ListHeadDataPinLaw" (9 : Nat) "list").before a0 Z = true := hw _ (List.mem_of_getElem? (i := 3) rfl)
theorem wd_4 {Z : State} {a0 : Array Value} (hw : ∀ d ∈ tables_1, d.before a0 Z = true) : (Jvm.Cond.initialized "java/lang/String").before a0 Z = true := hw _ (List.mem_of_getElem? (i := 4) rfl)
theorem wd_5 {Z : State} {a0 : Array Value} (hw : ∀ d ∈ tables_1, d.before a0 Z = true) : (Jvm.Cond.instantiable "java/lang/String" (4 : Nat)).before a0 Z = true := hw _ (List.mem_of_getElem? (i := 5) rfl)
theorem wd_6 {Z : State} {a0 : Array Value} (hw : ∀ d ∈ tables_1, d.before a0 Z = true) : (Jvm.Cond.arrayClass Jvm.ClassFile.FieldType.byte).before a0 Z = true := hw _ (List.mem_of_getElem? (i := 6) rfl)
theorem wd_7 {Z : State} {a0 : Array Value} (hw : ∀ d ∈ tables_1, d.before a0 Z = true) : (Jvm.Cond.laysFinal "java/lang/String" "java/lang/String" "value" "[B").before a0 Z = true := hw _ (List.mem_of_getElem? (i := 7) rfl)
theorem wd_8 {Z : State} {a0 : Array Value} (hw : ∀ d ∈ tables_1, d.before a0 Z = true) : (Jvm.Cond.laysFinal "java/lang/String" "java/lang/String" "coder" "B").before a0 Z = true := hw _ (List.mem_of_getElem? (i := 8) rfl)
theorem wd_9 {Z : State} {a0 : Array Value} (hw : ∀ d ∈ tables_1, d.before a0 Z = true) : (Jvm.Cond.soleField "java/lang/String" "value").before a0 Z = true := hw _ (List.mem_of_getElem? (i := 9) rfl)
theorem wd_10 {Z : State} {a0 : Array Value} (hw : ∀ d ∈ tables_1, d.before a0 Z = true) : (Jvm.Cond.soleField "java/lang/String" "coder").before a0 Z = true := hw _ (List.mem_of_getElem? (i := 10) rfl)
theorem wd_11 {Z : State} {a0 : Array Value} (hw : ∀ d ∈ tables_1, d.before a0 Z = true) : (Jvm.Cond.methodLink "com/example/headword/headword/quickdic/ListHeadDataPinLaw" (11 : Nat) ({ cls := "com/example/headword/headword/quickdic/Fields$Part", name := "<init>", desc := "(Ljava/lang/String;J)V" } : Jvm.MethodName)).before a0 Z = true := hw _ (List.mem_of_getElem? (i := 11) rfl)
theorem wd_12 {Z : State} {a0 : Array Value} (hw : ∀ d ∈ tables_1, d.before a0 Z = true) : (Jvm.Cond.instanceMethod ({ cls := "com/example/headword/headword/quickdic/Fields$Part", name := "<init>", desc := "(Ljava/lang/String;J)V" } : Jvm.MethodName)).before a0 Z = true := hw _ (List.mem_of_getElem? (i := 12) rfl)
theorem wd_13 {Z : State} {a0 : Array Value} (hw : ∀ d ∈ tables_1, d.before a0 Z = true) : (Jvm.Cond.code ({ cls := "com/example/headword/headword/quickdic/Fields$Part", name := "<init>", desc := "(Ljava/lang/String;J)V" } : Jvm.MethodName) prog_42_method_1_code (4 : Nat) (Option.none : Option Jvm.ClassFile.FieldType)).before a0 Z = true := hw _ (List.mem_of_getElem? (i := 13) rfl)
theorem wd_14 {Z : State} {a0 : Array Value} (hw : ∀ d ∈ tables_1, d.before a0 Z = true) : (Jvm.Cond.methodLink "com/example/headword/headword/quickdic/Fields$Part" (1 : Nat) ({ cls := "java/lang/Record", name := "<init>", desc := "()V" } : Jvm.MethodName)).before a0 Z = true := hw _ (List.mem_of_getElem? (i := 14) rfl)
theorem wd_15 {Z : State} {a0 : Array Value} (hw : ∀ d ∈ tables_1, d.before a0 Z = true) : (Jvm.Cond.instanceMethod ({ cls := "java/lang/Record", name := "<init>", desc := "()V" } : Jvm.MethodName)).before a0 Z = true := hw _ (List.mem_of_getElem? (i := 15) rfl)
theorem wd_17 {Z : State} {a0 : Array Value} (hw : ∀ d ∈ tables_1, d.before a0 Z = true) : (Jvm.Cond.initialized "java/lang/Record").before a0 Z = true := hw _ (List.mem_of_getElem? (i := 17) rfl)
theorem wd_18 {Z : State} {a0 : Array Value} (hw : ∀ d ∈ tables_1, d.before a0 Z = true) : (Jvm.Cond.code ({ cls := "java/lang/Record", name := "<init>", desc := "()V" } : Jvm.MethodName) jdk_30_method_1_code (1 : Nat) (Option.none : Option Jvm.ClassFile.FieldType)).before a0 Z = true := hw _ (List.mem_of_getElem? (i := 18) rfl)
theorem wd_19 {Z : State} {a0 : Array Value} (hw : ∀ d ∈ tables_1, d.before a0 Z = true) : (Jvm.Cond.methodLink "java/lang/Record" (1 : Nat) ({ cls := "java/lang/Object", name := "<init>", desc := "()V" } : Jvm.MethodName)).before a0 Z = true := hw _ (List.mem_of_getElem? (i := 19) rfl)
theorem wd_20 {Z : State} {a0 : Array Value} (hw : ∀ d ∈ tables_1, d.before a0 Z = true) : (Jvm.Cond.instanceMethod ({ cls := "java/lang/Object", name := "<init>", desc := "()V" } : Jvm.MethodName)).before a0 Z = true := hw _ (List.mem_of_getElem? (i := 20) rfl)
theorem wd_21 {Z : State} {a0 : Array Value} (hw : ∀ d ∈ tables_1, d.before a0 Z = true) : (Jvm.Cond.code ({ cls := "java/lang/Object", name := "<init>", desc := "()V" } : Jvm.MethodName) object_method_1_code (1 : Nat) (Option.none : Option Jvm.ClassFile.FieldType)).before a0 Z = true := hw _ (List.mem_of_getElem? (i := 21) rfl)
theorem wd_22 {Z : State} {a0 : Array Value} (hw : ∀ d ∈ tables_1, d.before a0 Z = true) : (Jvm.Cond.fieldLink "com/example/headword/headword/quickdic/Fields$Part" (7 : Nat) "com/example/headword/headword/quickdic/Fields$Part" "kind" "Ljava/lang/String;").before a0 Z = true := hw _ (List.mem_of_getElem? (i := 22) rfl)
theorem wd_23 {Z : State} {a0 : Array Value} (hw : ∀ d ∈ tables_1, d.before a0 Z = true) : (Jvm.Cond.laysFinal "com/example/headword/headword/quickdic/Fields$Part" "com/example/headword/headword/quickdic/Fields$Part" "kind" "Ljava/lang/String;").before a0 Z = true := hw _ (List.mem_of_getElem? (i := 23) rfl)
theorem wd_24 {Z : State} {a0 : Array Value} (hw : ∀ d ∈ tables_1, d.before a0 Z = true) : (Jvm.Cond.fieldLink "com/example/headword/headword/quickdic/Fields$Part" (13 : Nat) "com/example/headword/headword/quickdic/Fields$Part" "index" "J").before a0 Z = true := hw _ (List.mem_of_getElem? (i := 24) rfl)
theorem wd_25 {Z : State} {a0 : Array Value} (hw : ∀ d ∈ tables_1, d.before a0 Z = true) : (Jvm.Cond.laysFinal "com/example/headword/headword/quickdic/Fields$Part" "com/example/headword/headword/quickdic/Fields$Part" "index" "J").before a0 Z = true := hw _ (List.mem_of_getElem? (i := 25) rfl)
theorem wd_26 {Z : State} {a0 : Array Value} (hw : ∀ d ∈ tables_1, d.before a0 Z = true) : (Jvm.Cond.classLink "com/example/headword/headword/quickdic/ListHeadDataPinLaw" (14 : Nat) "com/example/headword/headword/quickdic/ListHead").before a0 Z = true := hw _ (List.mem_of_getElem? (i := 26) rfl)
theorem wd_27 {Z : State} {a0 : Array Value} (hw : ∀ d ∈ tables_1, d.before a0 Z = true) : (Jvm.Cond.instantiable "com/example/headword/headword/quickdic/ListHead" (6 : Nat)).before a0 Z = true := hw _ (List.mem_of_getElem? (i := 27) rfl)
theorem wd_28 {Z : State} {a0 : Array Value} (hw : ∀ d ∈ tables_1, d.before a0 Z = true) : (Jvm.Cond.initialized "com/example/headword/headword/quickdic/ListHead").before a0 Z = true := hw _ (List.mem_of_getElem? (i := 28) rfl)
theorem wd_29 {Z : State} {a0 : Array Value} (hw : ∀ d ∈ tables_1, d.before a0 Z = true) : (Jvm.Cond.stringLink "com/example/headword/headword/quickdic/ListHeadDataPinLaw" (16 : Nat) "name").before a0 Z = true := hw _ (List.mem_of_getElem? (i := 29) rfl)
theorem wd_30 {Z : State} {a0 : Array Value} (hw : ∀ d ∈ tables_1, d.before a0 Z = true) : (Jvm.Cond.stringLink "com/example/headword/headword/quickdic/ListHeadDataPinLaw" (18 : Nat) "element").before a0 Z = true := hw _ (List.mem_of_getElem? (i := 30) rfl)
theorem wd_31 {Z : State} {a0 : Array Value} (hw : ∀ d ∈ tables_1, d.before a0 Z = true) : (Jvm.Cond.methodLink "com/example/headword/headword/quickdic/ListHeadDataPinLaw" (20 : Nat) ({ cls := "com/example/headword/headword/quickdic/ListHead", name := "<init>", desc := "(Lcom/example/headword/headword/quickdic/Fields$Part;Ljava/lang/String;Ljava/lang/String;JIJ)V" } : Jvm.MethodName)).before a0 Z = true := hw _ (List.mem_of_getElem? (i := 31) rfl)
theorem wd_32 {Z : State} {a0 : Array Value} (hw : ∀ d ∈ tables_1, d.before a0 Z = true) : (Jvm.Cond.instanceMethod ({ cls := "com/example/headword/headword/quickdic/ListHead", name := "<init>", desc := "(Lcom/example/headword/headword/quickdic/Fields$Part;Ljava/lang/String;Ljava/lang/String;JIJ)V" } : Jvm.MethodName)).before a0 Z = true := hw _ (List.mem_of_getElem? (i := 32) rfl)
theorem wd_33 {Z : State} {a0 : Array Value} (hw : ∀ d ∈ tables_1, d.before a0 Z = true) : (Jvm.Cond.code ({ cls := "com/example/headword/headword/quickdic/ListHead", name := "<init>", desc := "(Lcom/example/headword/headword/quickdic/Fields$Part;Ljava/lang/String;Ljava/lang/String;JIJ)V" } : Jvm.MethodName) prog_43_method_1_code (9 : Nat) (Option.none : Option Jvm.ClassFile.FieldType)).before a0 Z = true := hw _ (List.mem_of_getElem? (i := 33) rfl)
theorem wd_34 {Z : State} {a0 : Array Value} (hw : ∀ d ∈ tables_1, d.before a0 Z = true) : (Jvm.Cond.methodLink "com/example/headword/headword/quickdic/ListHead" (1 : Nat) ({ cls := "java/lang/Record", name := "<init>", desc := "()V" } : Jvm.MethodName)).before a0 Z = true := hw _ (List.mem_of_getElem? (i := 34) rfl)
theorem wd_35 {Z : State} {a0 : Array Value} (hw : ∀ d ∈ tables_1, d.before a0 Z = true) : (Jvm.Cond.fieldLink "com/example/headword/headword/quickdic/ListHead" (7 : Nat) "com/example/headword/headword/quickdic/ListHead" "owner" "Lcom/example/headword/headword/quickdic/Fields$Part;").before a0 Z = true := hw _ (List.mem_of_getElem? (i := 35) rfl)
theorem wd_36 {Z : State} {a0 : Array Value} (hw : ∀ d ∈ tables_1, d.before a0 Z = true) : (Jvm.Cond.laysFinal "com/example/headword/headword/quickdic/ListHead" "com/example/headword/headword/quickdic/ListHead" "owner" "Lcom/example/headword/headword/quickdic/Fields$Part;").before a0 Z = true := hw _ (List.mem_of_getElem? (i := 36) rfl)
theorem wd_37 {Z : State} {a0 : Array Value} (hw : ∀ d ∈ tables_1, d.before a0 Z = true) : (Jvm.Cond.fieldLink "com/example/headword/headword/quickdic/ListHead" (13 : Nat) "com/example/headword/headword/quickdic/ListHead" "name" "Ljava/lang/String;").before a0 Z = true := hw _ (List.mem_of_getElem? (i := 37) rfl)
theorem wd_38 {Z : State} {a0 : Array Value} (hw : ∀ d ∈ tables_1, d.before a0 Z = true) : (Jvm.Cond.laysFinal "com/example/headword/headword/quickdic/ListHead" "com/example/headword/headword/quickdic/ListHead" "name" "Ljava/lang/String;").before a0 Z = true := hw _ (List.mem_of_getElem? (i := 38) rfl)
theorem wd_39 {Z : State} {a0 : Array Value} (hw : ∀ d ∈ tables_1, d.before a0 Z = true) : (Jvm.Cond.fieldLink "com/example/headword/headword/quickdic/ListHead" (17 : Nat) "com/example/headword/headword/quickdic/ListHead" "element" "Ljava/lang/String;").before a0 Z = true := hw _ (List.mem_of_getElem? (i := 39) rfl)
theorem wd_40 {Z : State} {a0 : Array Value} (hw : ∀ d ∈ tables_1, d.before a0 Z = true) : (Jvm.Cond.laysFinal "com/example/headword/headword/quickdic/ListHead" "com/example/headword/headword/quickdic/ListHead" "element" "Ljava/lang/String;").before a0 Z = true := hw _ (List.mem_of_getElem? (i := 40) rfl)
theorem wd_41 {Z : State} {a0 : Array Value} (hw : ∀ d ∈ tables_1, d.before a0 Z = true) : (Jvm.Cond.fieldLink "com/example/headword/headword/quickdic/ListHead" (20 : Nat) "com/example/headword/headword/quickdic/ListHead" "table" "J").before a0 Z = true := hw _ (List.mem_of_getElem? (i := 41) rfl)
theorem wd_42 {Z : State} {a0 : Array Value} (hw : ∀ d ∈ tables_1, d.before a0 Z = true) : (Jvm.Cond.laysFinal "com/example/headword/headword/quickdic/ListHead" "com/example/headword/headword/quickdic/ListHead" "table" "J").before a0 Z = true := hw _ (List.mem_of_getElem? (i := 42) rfl)
theorem wd_43 {Z : State} {a0 : Array Value} (hw : ∀ d ∈ tables_1, d.before a0 Z = true) : (Jvm.Cond.fieldLink "com/example/headword/headword/quickdic/ListHead" (24 : Nat) "com/example/headword/headword/quickdic/ListHead" "count" "I").before a0 Z = true := hw _ (List.mem_of_getElem? (i := 43) rfl)
theorem wd_44 {Z : State} {a0 : Array Value} (hw : ∀ d ∈ tables_1, d.before a0 Z = true) : (Jvm.Cond.laysFinal "com/example/headword/headword/quickdic/ListHead" "com/example/headword/headword/quickdic/ListHead" "count" "I").before a0 Z = true := hw _ (List.mem_of_getElem? (i := 44) rfl)
theorem wd_45 {Z : State} {a0 : Array Value} (hw : ∀ d ∈ tables_1, d.before a0 Z = true) : (Jvm.Cond.fieldLink "com/example/headword/headword/quickdic/ListHead" (28 : Nat) "com/example/headword/headword/quickdic/ListHead" "end" "J").before a0 Z = true := hw _ (List.mem_of_getElem? (i := 45) rfl)
theorem wd_46 {Z : State} {a0 : Array Value} (hw : ∀ d ∈ tables_1, d.before a0 Z = true) : (Jvm.Cond.laysFinal "com/example/headword/headword/quickdic/ListHead" "com/example/headword/headword/quickdic/ListHead" "end" "J").before a0 Z = true := hw _ (List.mem_of_getElem? (i := 46) rfl)
theorem wd_47 {Z : State} {a0 : Array Value} (hw : ∀ d ∈ tables_1, d.before a0 Z = true) : (Jvm.Cond.constantLong "com/example/headword/headword/quickdic/ListHeadDataPinLaw" (23 : Nat) (8 : Int64)).before a0 Z = true := hw _ (List.mem_of_getElem? (i := 47) rfl)
theorem wd_48 {Z : State} {a0 : Array Value} (hw : ∀ d ∈ tables_1, d.before a0 Z = true) : (Jvm.Cond.methodLink "com/example/headword/headword/quickdic/ListHeadDataPinLaw" (25 : Nat) ({ cls := "com/example/headword/headword/quickdic/ListHead", name := "data", desc := "()J" } : Jvm.MethodName)).before a0 Z = true := hw _ (List.mem_of_getElem? (i := 48) rfl)
theorem wd_49 {Z : State} {a0 : Array Value} (hw : ∀ d ∈ tables_1, d.before a0 Z = true) : (Jvm.Cond.declares ({ cls := "com/example/headword/headword/quickdic/ListHead", name := "data", desc := "()J" } : Jvm.MethodName)).before a0 Z = true := hw _ (List.mem_of_getElem? (i := 49) rfl)
theorem wd_50 {Z : State} {a0 : Array Value} (hw : ∀ d ∈ tables_1, d.before a0 Z = true) : (Jvm.Cond.instanceMethod ({ cls := "com/example/headword/headword/quickdic/ListHead", name := "data", desc := "()J" } : Jvm.MethodName)).before a0 Z = true := hw _ (List.mem_of_getElem? (i := 50) rfl)
theorem wd_51 {Z : State} {a0 : Array Value} (hw : ∀ d ∈ tables_1, d.before a0 Z = true) : (Jvm.Cond.selects "com/example/headword/headword/quickdic/ListHead" ({ cls := "com/example/headword/headword/quickdic/ListHead", name := "data", desc := "()J" } : Jvm.MethodName) ({ cls := "com/example/headword/headword/quickdic/ListHead", name := "data", desc := "()J" } : Jvm.MethodName)).before a0 Z = true := hw _ (List.mem_of_getElem? (i := 51) rfl)
theorem wd_52 {Z : State} {a0 : Array Value} (hw : ∀ d ∈ tables_1, d.before a0 Z = true) : (Jvm.Cond.code ({ cls := "com/example/headword/headword/quickdic/ListHead", name := "data", desc := "()J" } : Jvm.MethodName) prog_43_method_4_code (1 : Nat) (Option.some Jvm.ClassFile.FieldType.long)).before a0 Z = true := hw _ (List.mem_of_getElem? (i := 52) rfl)
theorem wd_53 {Z : State} {a0 : Array Value} (hw : ∀ d ∈ tables_1, d.before a0 Z = true) : (Jvm.Cond.methodLink "com/example/headword/headword/quickdic/ListHead" (69 : Nat) ({ cls := "com/example/headword/headword/quickdic/ListHead", name := "data", desc := "(JI)J" } : Jvm.MethodName)).before a0 Z = true := hw _ (List.mem_of_getElem? (i := 53) rfl)
theorem wd_54 {Z : State} {a0 : Array Value} (hw : ∀ d ∈ tables_1, d.before a0 Z = true) : (Jvm.Cond.static ({ cls := "com/example/headword/headword/quickdic/ListHead", name := "data", desc := "(JI)J" } : Jvm.MethodName)).before a0 Z = true := hw _ (List.mem_of_getElem? (i := 54) rfl)
theorem wd_55 {Z : State} {a0 : Array Value} (hw : ∀ d ∈ tables_1, d.before a0 Z = true) : (Jvm.Cond.code ({ cls := "com/example/headword/headword/quickdic/ListHead", name := "data", desc := "(JI)J" } : Jvm.MethodName) prog_43_method_9_code (3 : Nat) (Option.some Jvm.ClassFile.FieldType.long)).before a0 Z = true := hw _ (List.mem_of_getElem? (i := 55) rfl)
theorem wd_56 {Z : State} {a0 : Array Value} (hw : ∀ d ∈ tables_1, d.before a0 Z = true) : (Jvm.Cond.constantLong "com/example/headword/headword/quickdic/ListHead" (48 : Nat) (8 : Int64)).before a0 Z = true := hw _ (List.mem_of_getElem? (i := 56) rfl)
theorem wd_57 {Z : State} {a0 : Array Value} (hw : ∀ d ∈ tables_1, d.before a0 Z = true) : (Jvm.Cond.methodLink "com/example/headword/headword/quickdic/ListHeadDataPinLaw" (29 : Nat) ({ cls := "com/example/headword/headword/quickdic/ListHead", name := "table", desc := "()J" } : Jvm.MethodName)).before a0 Z = true := hw _ (List.mem_of_getElem? (i := 57) rfl)
theorem wd_58 {Z : State} {a0 : Array Value} (hw : ∀ d ∈ tables_1, d.before a0 Z = true) : (Jvm.Cond.declares ({ cls := "com/example/headword/headword/quickdic/ListHead", name := "table", desc := "()J" } : Jvm.MethodName)).before a0 Z = true := hw _ (List.mem_of_getElem? (i := 58) rfl)
theorem wd_59 {Z : State} {a0 : Array Value} (hw : ∀ d ∈ tables_1, d.before a0 Z = true) : (Jvm.Cond.instanceMethod ({ cls := "com/example/headword/headword/quickdic/ListHead", name := "table", desc := "()J" } : Jvm.MethodName)).before a0 Z = true := hw _ (List.mem_of_getElem? (i := 59) rfl)
theorem wd_60 {Z : State} {a0 : Array Value} (hw : ∀ d ∈ tables_1, d.before a0 Z = true) : (Jvm.Cond.selects "com/example/headword/headword/quickdic/ListHead" ({ cls := "com/example/headword/headword/quickdic/ListHead", name := "table", desc := "()J" } : Jvm.MethodName) ({ cls := "com/example/headword/headword/quickdic/ListHead", name := "table", desc := "()J" } : Jvm.MethodName)).before a0 Z = true := hw _ (List.mem_of_getElem? (i := 60) rfl)
theorem wd_61 {Z : State} {a0 : Array Value} (hw : ∀ d ∈ tables_1, d.before a0 Z = true) : (Jvm.Cond.code ({ cls := "com/example/headword/headword/quickdic/ListHead", name := "table", desc := "()J" } : Jvm.MethodName) prog_43_method_16_code (1 : Nat) (Option.some Jvm.ClassFile.FieldType.long)).before a0 Z = true := hw _ (List.mem_of_getElem? (i := 61) rfl)
theorem wd_62 {Z : State} {a0 : Array Value} (hw : ∀ d ∈ tables_1, d.before a0 Z = true) : (Jvm.Cond.methodLink "com/example/headword/headword/quickdic/ListHeadDataPinLaw" (32 : Nat) ({ cls := "com/example/headword/headword/quickdic/ListHead", name := "count", desc := "()I" } : Jvm.MethodName)).before a0 Z = true := hw _ (List.mem_of_getElem? (i := 62) rfl)
theorem wd_63 {Z : State} {a0 : Array Value} (hw : ∀ d ∈ tables_1, d.before a0 Z = true) : (Jvm.Cond.declares ({ cls := "com/example/headword/headword/quickdic/ListHead", name := "count", desc := "()I" } : Jvm.MethodName)).before a0 Z = true := hw _ (List.mem_of_getElem? (i := 63) rfl)
theorem wd_64 {Z : State} {a0 : Array Value} (hw : ∀ d ∈ tables_1, d.before a0 Z = true) : (Jvm.Cond.instanceMethod ({ cls := "com/example/headword/headword/quickdic/ListHead", name := "count", desc := "()I" } : Jvm.MethodName)).before a0 Z = true := hw _ (List.mem_of_getElem? (i := 64) rfl)
theorem wd_65 {Z : State} {a0 : Array Value} (hw : ∀ d ∈ tables_1, d.before a0 Z = true) : (Jvm.Cond.selects "com/example/headword/headword/quickdic/ListHead" ({ cls := "com/example/headword/headword/quickdic/ListHead", name := "count", desc := "()I" } : Jvm.MethodName) ({ cls := "com/example/headword/headword/quickdic/ListHead", name := "count", desc := "()I" } : Jvm.MethodName)).before a0 Z = true := hw _ (List.mem_of_getElem? (i := 65) rfl)
theorem wd_66 {Z : State} {a0 : Array Value} (hw : ∀ d ∈ tables_1, d.before a0 Z = true) : (Jvm.Cond.code ({ cls := "com/example/headword/headword/quickdic/ListHead", name := "count", desc := "()I" } : Jvm.MethodName) prog_43_method_17_code (1 : Nat) (Option.some Jvm.ClassFile.FieldType.int)).before a0 Z = true := hw _ (List.mem_of_getElem? (i := 66) rfl)
theorem d1_0 : decode prog_42_method_1_code 0 = .ok (.aload_n 0, 1) := by decide +kernel
theorem d1_1 : decode prog_42_method_1_code 1 = .ok (.invokespecial 1, 3) := by decide +kernel
theorem d1_10 : decode prog_42_method_1_code 10 = .ok (.lload_n 2, 1) := by decide +kernel
theorem d1_11 : decode prog_42_method_1_code 11 = .ok (.putfield 13, 3) := by decide +kernel
theorem d1_14 : decode prog_42_method_1_code 14 = .ok (.return_, 1) := by decide +kernel
theorem d1_4 : decode prog_42_method_1_code 4 = .ok (.aload_n 0, 1) := by decide +kernel
theorem d1_5 : decode prog_42_method_1_code 5 = .ok (.aload_n 1, 1) := by decide +kernel
theorem d1_6 : decode prog_42_method_1_code 6 = .ok (.putfield 7, 3) := by decide +kernel
theorem d1_9 : decode prog_42_method_1_code 9 = .ok (.aload_n 0, 1) := by decide +kernel
theorem d2_0 : decode jdk_30_method_1_code 0 = .ok (.aload_n 0, 1) := by decide +kernel
theorem d2_1 : decode jdk_30_method_1_code 1 = .ok (.invokespecial 1, 3) := by decide +kernel
theorem d2_4 : decode jdk_30_method_1_code 4 = .ok (.return_, 1) := by decide +kernel
theorem d4_0 : decode prog_43_method_1_code 0 = .ok (.aload_n 0, 1) := by decide +kernel
theorem d4_1 : decode prog_43_method_1_code 1 = .ok (.invokespecial 1, 3) := by decide +kernel
theorem d4_10 : decode prog_43_method_1_code 10 = .ok (.aload_n 2, 1) := by decide +kernel
theorem d4_11 : decode prog_43_method_1_code 11 = .ok (.putfield 13, 3) := by decide +kernel
theorem d4_14 : decode prog_43_method_1_code 14 = .ok (.aload_n 0, 1) := by decide +kernel
theorem d4_15 : decode prog_43_method_1_code 15 = .ok (.aload_n 3, 1) := by decide +kernel
theorem d4_16 : decode prog_43_method_1_code 16 = .ok (.putfield 17, 3) := by decide +kernel
theorem d4_19 : decode prog_43_method_1_code 19 = .ok (.aload_n 0, 1) := by decide +kernel
theorem d4_20 : decode prog_43_method_1_code 20 = .ok (.lload 4, 2) := by decide +kernel
theorem d4_22 : decode prog_43_method_1_code 22 = .ok (.putfield 20, 3) := by decide +kernel
theorem d4_25 : decode prog_43_method_1_code 25 = .ok (.aload_n 0, 1) := by decide +kernel
theorem d4_26 : decode prog_43_method_1_code 26 = .ok (.iload 6, 2) := by decide +kernel
theorem d4_28 : decode prog_43_method_1_code 28 = .ok (.putfield 24, 3) := by decide +kernel
theorem d4_31 : decode prog_43_method_1_code 31 = .ok (.aload_n 0, 1) := by decide +kernel
theorem d4_32 : decode prog_43_method_1_code 32 = .ok (.lload 7, 2) := by decide +kernel
theorem d4_34 : decode prog_43_method_1_code 34 = .ok (.putfield 28, 3) := by decide +kernel
theorem d4_37 : decode prog_43_method_1_code 37 = .ok (.return_, 1) := by decide +kernel
theorem d4_4 : decode prog_43_method_1_code 4 = .ok (.aload_n 0, 1) := by decide +kernel
theorem d4_5 : decode prog_43_method_1_code 5 = .ok (.aload_n 1, 1) := by decide +kernel
theorem d4_6 : decode prog_43_method_1_code 6 = .ok (.putfield 7, 3) := by decide +kernel
theorem d4_9 : decode prog_43_method_1_code 9 = .ok (.aload_n 0, 1) := by decide +kernel
theorem d5_0 : decode prog_43_method_4_code 0 = .ok (.aload_n 0, 1) := by decide +kernel
theorem d5_1 : decode prog_43_method_4_code 1 = .ok (.getfield 20, 3) := by decide +kernel
theorem d5_11 : decode prog_43_method_4_code 11 = .ok (.lreturn, 1) := by decide +kernel
theorem d5_4 : decode prog_43_method_4_code 4 = .ok (.aload_n 0, 1) := by decide +kernel
theorem d5_5 : decode prog_43_method_4_code 5 = .ok (.getfield 24, 3) := by decide +kernel
theorem d5_8 : decode prog_43_method_4_code 8 = .ok (.invokestatic 69, 3) := by decide +kernel
theorem d6_0 : decode prog_43_method_9_code 0 = .ok (.lload_n 0, 1) := by decide +kernel
theorem d6_1 : decode prog_43_method_9_code 1 = .ok (.iload_n 2, 1) := by decide +kernel
theorem d6_10 : decode prog_43_method_9_code 10 = .ok (.lreturn, 1) := by decide +kernel
theorem d6_2 : decode prog_43_method_9_code 2 = .ok (.i2l, 1) := by decide +kernel
theorem d6_3 : decode prog_43_method_9_code 3 = .ok (.lconst 1, 1) := by decide +kernel
theorem d6_4 : decode prog_43_method_9_code 4 = .ok (.ladd, 1) := by decide +kernel
theorem d6_5 : decode prog_43_method_9_code 5 = .ok (.ldc2_w 48, 3) := by decide +kernel
theorem d6_8 : decode prog_43_method_9_code 8 = .ok (.lmul, 1) := by decide +kernel
theorem d6_9 : decode prog_43_method_9_code 9 = .ok (.ladd, 1) := by decide +kernel
theorem d7_0 : decode prog_43_method_16_code 0 = .ok (.aload_n 0, 1) := by decide +kernel
theorem d7_1 : decode prog_43_method_16_code 1 = .ok (.getfield 20, 3) := by decide +kernel
theorem d7_4 : decode prog_43_method_16_code 4 = .ok (.lreturn, 1) := by decide +kernel
theorem d8_0 : decode prog_43_method_17_code 0 = .ok (.aload_n 0, 1) := by decide +kernel
theorem d8_1 : decode prog_43_method_17_code 1 = .ok (.getfield 24, 3) := by decide +kernel
theorem d8_4 : decode prog_43_method_17_code 4 = .ok (.ireturn, 1) := by decide +kernel
theorem pd_lrI : parseMethodDescriptor "()I" = some ⟨[], some .int⟩ := by decide +kernel
theorem pd_lrJ : parseMethodDescriptor "()J" = some ⟨[], some .long⟩ := by decide +kernel
theorem pd_lrV : parseMethodDescriptor "()V" = some ⟨[], none⟩ := by decide +kernel
theorem pd_lJIrJ : parseMethodDescriptor "(JI)J" = some ⟨[.long, .int], some .long⟩ := by decide +kernel
theorem pd_lLcom_example_headword_headword_quickdic_FieldsdPartsLjava_lang_StringsLjava_lang_StringsJIJrV : parseMethodDescriptor "(Lcom/example/headword/headword/quickdic/Fields$Part;Ljava/lang/String;Ljava/lang/String;JIJ)V" = some ⟨[(.object "com/example/headword/headword/quickdic/Fields$Part"), (.object "java/lang/String"), (.object "java/lang/String"), .long, .int, .long], none⟩ := by decide +kernel
theorem pd_lLjava_lang_StringsJrV : parseMethodDescriptor "(Ljava/lang/String;J)V" = some ⟨[(.object "java/lang/String"), .long], none⟩ := by decide +kernel
theorem pn_0 : plainFor x = true := plainFor_of_name (show plainName "com/example/headword/headword/quickdic/ListHeadDataPinLaw" = true by first | (simp [plainName, overriddenIn]; done) | decide +kernel)
theorem pn_1 : plainFor (⟨"com/example/headword/headword/quickdic/Fields$Part", "<init>", "(Ljava/lang/String;J)V"⟩ : MethodName) = true := plainFor_of_name (show plainName "com/example/headword/headword/quickdic/Fields$Part" = true by first | (simp [plainName, overriddenIn]; done) | decide +kernel)
theorem pn_2 : plainFor (⟨"java/lang/Record", "<init>", "()V"⟩ : MethodName) = true := plainFor_of_name (show plainName "java/lang/Record" = true by first | (simp [plainName, overriddenIn]; done) | decide +kernel)
theorem pn_4 : plainFor (⟨"com/example/headword/headword/quickdic/ListHead", "<init>", "(Lcom/example/headword/headword/quickdic/Fields$Part;Ljava/lang/String;Ljava/lang/String;JIJ)V"⟩ : MethodName) = true := plainFor_of_name (show plainName "com/example/headword/headword/quickdic/ListHead" = true by first | (simp [plainName, overriddenIn]; done) | decide +kernel)
theorem pn_5 : plainFor (⟨"com/example/headword/headword/quickdic/ListHead", "data", "()J"⟩ : MethodName) = true := plainFor_of_name (show plainName "com/example/headword/headword/quickdic/ListHead" = true by first | (simp [plainName, overriddenIn]; done) | decide +kernel)
theorem pn_6 : plainFor (⟨"com/example/headword/headword/quickdic/ListHead", "data", "(JI)J"⟩ : MethodName) = true := plainFor_of_name (show plainName "com/example/headword/headword/quickdic/ListHead" = true by first | (simp [plainName, overriddenIn]; done) | decide +kernel)
theorem pn_7 : plainFor (⟨"com/example/headword/headword/quickdic/ListHead", "table", "()J"⟩ : MethodName) = true := plainFor_of_name (show plainName "com/example/headword/headword/quickdic/ListHead" = true by first | (simp [plainName, overriddenIn]; done) | decide +kernel)
theorem pn_8 : plainFor (⟨"com/example/headword/headword/quickdic/ListHead", "count", "()I"⟩ : MethodName) = true := plainFor_of_name (show plainName "com/example/headword/headword/quickdic/ListHead" = true by first | (simp [plainName, overriddenIn]; done) | decide +kernel)
theorem ef_2 (m : MethodId) (y0 : Addr) : entryFrame m #[(.ref y0)] 1 = mkF m 0 #[.val (.ref y0)] [] := by first | (simp [entryFrame, mkF, argsToLocals, Value.category]; done) | rfl
set_option maxRecDepth 65536 in
set_option maxHeartbeats 40000000 in
theorem rm2 (l : Launch) (Z : State) (a0 : Array Value) (hw : ∀ d ∈ tables_1, d.before a0 Z = true) (r0 : Addr) (h0 : Heap) : MetP l (⟨"java/lang/Record", "<init>", "()V"⟩ : MethodName) jdk_30_method_1_code 1 none [] ({ frames := 1, cells := 0, slots := 0, locals := 12 } : Room) Z #[(.ref r0)] h0 (fun v h L => v = none ∧ L = [] ∧ h = h0) := by
  refine met_go pn_2 ?_
  intro p e s m below meth c s₁ hx hby hml hown hnm hret hlk hZ e0 X0
  rw [ef_2 m r0]
  refine o_aloadN 1 X0 hx rfl (hb hby d2_0) rfl rfl ?_
  refine o_initO 4 X0 hx rfl hZ hown (wd_19 hw) (wd_20 hw) (wd_21 hw) e0 (by rw [hml]; rfl) (hb hby d2_1) (by decide) 0 (Nat.le_of_eq rfl) (by decide) fun T1 X1 e1 => ?_
  refine o_retV X1 hx hret hlk (hb hby d2_4) (by decide) (by decide) ?_
  exact ⟨rfl, rfl, e1⟩
theorem ef_1 (m : MethodId) (y0 : Addr) (y1 : Addr) (y2 : Int64) : entryFrame m #[(.ref y0), (.ref y1), (.long y2)] 4 = mkF m 0 #[.val (.ref y0), .val (.ref y1), .val (.long y2), .second] [] := by first | (simp [entryFrame, mkF, argsToLocals, Value.category]; done) | rfl
def Qc1 (Z : State) (n0 : Nat) (h0 : Heap) (r0 : Addr) (r1 : Addr) (q2 : Int64) (v : Option Value) (h : Heap) (L : List Loc) : Prop := v = none ∧ Fr n0 L ∧ Keep h0 h [r0] ∧ Exa Z h r0 "com/example/headword/headword/quickdic/Fields$Part" ∧ Fld Z h r0 "com/example/headword/headword/quickdic/Fields$Part" "kind" "Ljava/lang/String;" (.ref r1) ∧ Fld Z h r0 "com/example/headword/headword/quickdic/Fields$Part" "index" "J" (.long q2)
set_option maxRecDepth 65536 in
set_option maxHeartbeats 40000000 in
theorem rm1 (l : Launch) (Z : State) (a0 : Array Value) (hw : ∀ d ∈ tables_1, d.before a0 Z = true) (r0 : Addr) (r1 : Addr) (q2 : Int64) (h0 : Heap) (n0 : Nat) (Z0 : n0 ≤ h0.size) (ga : n0 ≤ r0) (E0 : Exa Z h0 r0 "com/example/headword/headword/quickdic/Fields$Part") (F_kind : Fld Z h0 r0 "com/example/headword/headword/quickdic/Fields$Part" "kind" "Ljava/lang/String;" .null) (F_index : Fld Z h0 r0 "com/example/headword/headword/quickdic/Fields$Part" "index" "J" (.long (0 : Int64))) : MetP l (⟨"com/example/headword/headword/quickdic/Fields$Part", "<init>", "(Ljava/lang/String;J)V"⟩ : MethodName) prog_42_method_1_code 4 none [] ({ frames := 2, cells := 0, slots := 0, locals := 24 } : Room) Z #[(.ref r0), (.ref r1), (.long q2)] h0 (Qc1 Z n0 h0 r0 r1 q2) := by
  refine met_go pn_1 ?_
  intro p e s m below meth c s₁ hx hby hml hown hnm hret hlk hZ e0 X0
  have N0 := Fr.nil n0
  have K0 : Keep h0 h0 [r0] := Keep.refl _ _
  rw [ef_1 m r0 r1 q2]
  refine o_aloadN 1 X0 hx rfl (hb hby d1_0) rfl rfl ?_
  refine o_callI 4 X0 hx rfl hZ rfl hown (wd_14 hw) (wd_15 hw) (wd_17 hw) (wd_18 hw) (by decide) e0 (rm2 l Z a0 hw r0 h0) pd_lrV r0 [] [] rfl rfl (by rw [hml]; rfl) rfl (hb hby d1_1) 0 (Nat.le_of_eq rfl) (by decide) (by decide) (by decide) (by decide) fun v1 T1 L1 X1 Q1 => ?_
  obtain ⟨rfl, rfl, e1⟩ := Q1
  rw [List.append_nil] at X1
  show Go p.tables e below (EndE s ({ frames := 2, cells := 0, slots := 0, locals := 24 } : Room) (Qc1 Z n0 h0 r0 r1 q2)) (T1.setTop (mkF m 4 #[.val (.ref r0), .val (.ref r1), .val (.long q2), .second] []))
  refine o_aloadN 5 X1 hx rfl (hb hby d1_4) rfl rfl ?_
  refine o_aloadN 6 X1 hx rfl (hb hby d1_5) rfl rfl ?_
  refine o_putF 9 X1 hx rfl hZ (.object "java/lang/String") hown (wd_22 hw) Via.refl e1 F_kind E0 (Or.inr ⟨(wd_23 hw), rfl, hnm⟩) (wd_1 hw) (by decide) rfl rfl N0 ga (hb hby d1_6) fun T2 h2 L2 X2 N2 e2 W2 => ?_
  have F3 : Fld Z h2 r0 "com/example/headword/headword/quickdic/Fields$Part" "kind" "Ljava/lang/String;" (.ref r1) := F_kind.same W2
  have F4 : Exa Z h2 r0 "com/example/headword/headword/quickdic/Fields$Part" := E0.wr W2
  have F5 : Fld Z h2 r0 "com/example/headword/headword/quickdic/Fields$Part" "index" "J" (.long (0 : Int64)) := F_index.other W2 (Or.inr (slot_ne (Or.inr (wd_25 hw)) (Or.inr (wd_23 hw)) (by decide) (t := .long) (t' := (.object "java/lang/String")) (by decide) (by decide)))
  have sz6 : n0 ≤ h2.size := Nat.le_trans Z0 (Keep.of_wr W2).1
  have K7 : Keep h0 h2 [r0] := K0.wr W2 (Or.inl (by simp))
  refine o_aloadN 10 X2 hx rfl (hb hby d1_9) rfl rfl ?_
  refine o_lloadN 11 X2 hx rfl (hb hby d1_10) rfl ?_
  refine o_putF 14 X2 hx rfl hZ .long hown (wd_24 hw) Via.refl e2 F5 F4 (Or.inr ⟨(wd_25 hw), rfl, hnm⟩) (wd_1 hw) (by decide) rfl rfl N2 ga (hb hby d1_11) fun T8 h8 L8 X8 N8 e8 W8 => ?_
  have F9 : Fld Z h8 r0 "com/example/headword/headword/quickdic/Fields$Part" "index" "J" (.long q2) := F5.same W8
  have F10 : Exa Z h8 r0 "com/example/headword/headword/quickdic/Fields$Part" := F4.wr W8
  have F11 : Fld Z h8 r0 "com/example/headword/headword/quickdic/Fields$Part" "kind" "Ljava/lang/String;" (.ref r1) := F3.other W8 (Or.inr (slot_ne (Or.inr (wd_23 hw)) (Or.inr (wd_25 hw)) (by decide) (t := (.object "java/lang/String")) (t' := .long) (by decide) (by decide)))
  have sz12 : n0 ≤ h8.size := Nat.le_trans sz6 (Keep.of_wr W8).1
  have K13 : Keep h0 h8 [r0] := K7.wr W8 (Or.inl (by simp))
  refine o_retV X8 hx hret hlk (hb hby d1_14) (by decide) (by decide) ?_
  rw [e8]
  exact ⟨rfl, N8, K13, F10, F11, F9⟩
theorem ef_4 (m : MethodId) (y0 : Addr) (y1 : Addr) (y2 : Addr) (y3 : Addr) (y4 : Int64) (y5 : Int32) (y6 : Int64) : entryFrame m #[(.ref y0), (.ref y1), (.ref y2), (.ref y3), (.long y4), (.int y5), (.long y6)] 9 = mkF m 0 #[.val (.ref y0), .val (.ref y1), .val (.ref y2), .val (.ref y3), .val (.long y4), .second, .val (.int y5), .val (.long y6), .second] [] := by first | (simp [entryFrame, mkF, argsToLocals, Value.category]; done) | rfl
def Qc4 (Z : State) (n0 : Nat) (h0 : Heap) (r0 : Addr) (r1 : Addr) (r2 : Addr) (r3 : Addr) (q4 : Int64) (i5 : Int32) (q6 : Int64) (v : Option Value) (h : Heap) (L : List Loc) : Prop := v = none ∧ Fr n0 L ∧ Keep h0 h [r0] ∧ Exa Z h r0 "com/example/headword/headword/quickdic/ListHead" ∧ Fld Z h r0 "com/example/headword/headword/quickdic/ListHead" "owner" "Lcom/example/headword/headword/quickdic/Fields$Part;" (.ref r1) ∧ Fld Z h r0 "com/example/headword/headword/quickdic/ListHead" "name" "Ljava/lang/String;" (.ref r2) ∧ Fld Z h r0 "com/example/headword/headword/quickdic/ListHead" "element" "Ljava/lang/String;" (.ref r3) ∧ Fld Z h r0 "com/example/headword/headword/quickdic/ListHead" "table" "J" (.long q4) ∧ Fld Z h r0 "com/example/headword/headword/quickdic/ListHead" "count" "I" (.int i5) ∧ Fld Z h r0 "com/example/headword/headword/quickdic/ListHead" "end" "J" (.long q6)
set_option maxRecDepth 65536 in
set_option maxHeartbeats 40000000 in
theorem rm4 (l : Launch) (Z : State) (a0 : Array Value) (hw : ∀ d ∈ tables_1, d.before a0 Z = true) (r0 : Addr) (r1 : Addr) (r2 : Addr) (r3 : Addr) (q4 : Int64) (i5 : Int32) (q6 : Int64) (h0 : Heap) (n0 : Nat) (Z0 : n0 ≤ h0.size) (ga : n0 ≤ r0) (E0 : Exa Z h0 r0 "com/example/headword/headword/quickdic/ListHead") (F_owner : Fld Z h0 r0 "com/example/headword/headword/quickdic/ListHead" "owner" "Lcom/example/headword/headword/quickdic/Fields$Part;" .null) (F_name : Fld Z h0 r0 "com/example/headword/headword/quickdic/ListHead" "name" "Ljava/lang/String;" .null) (F_element : Fld Z h0 r0 "com/example/headword/headword/quickdic/ListHead" "element" "Ljava/lang/String;" .null) (F_table : Fld Z h0 r0 "com/example/headword/headword/quickdic/ListHead" "table" "J" (.long (0 : Int64))) (F_count : Fld Z h0 r0 "com/example/headword/headword/quickdic/ListHead" "count" "I" (.int (0 : Int32))) (F_end : Fld Z h0 r0 "com/example/headword/headword/quickdic/ListHead" "end" "J" (.long (0 : Int64))) : MetP l (⟨"com/example/headword/headword/quickdic/ListHead", "<init>", "(Lcom/example/headword/headword/quickdic/Fields$Part;Ljava/lang/String;Ljava/lang/String;JIJ)V"⟩ : MethodName) prog_43_method_1_code 9 none [] ({ frames := 2, cells := 0, slots := 0, locals := 24 } : Room) Z #[(.ref r0), (.ref r1), (.ref r2), (.ref r3), (.long q4), (.int i5), (.long q6)] h0 (Qc4 Z n0 h0 r0 r1 r2 r3 q4 i5 q6) := by
  refine met_go pn_4 ?_
  intro p e s m below meth c s₁ hx hby hml hown hnm hret hlk hZ e0 X0
  have N0 := Fr.nil n0
  have K0 : Keep h0 h0 [r0] := Keep.refl _ _
  rw [ef_4 m r0 r1 r2 r3 q4 i5 q6]
  refine o_aloadN 1 X0 hx rfl (hb hby d4_0) rfl rfl ?_
  refine o_callI 4 X0 hx rfl hZ rfl hown (wd_34 hw) (wd_15 hw) (wd_17 hw) (wd_18 hw) (by decide) e0 (rm2 l Z a0 hw r0 h0) pd_lrV r0 [] [] rfl rfl (by rw [hml]; rfl) rfl (hb hby d4_1) 0 (Nat.le_of_eq rfl) (by decide) (by decide) (by decide) (by decide) fun v1 T1 L1 X1 Q1 => ?_
  obtain ⟨rfl, rfl, e1⟩ := Q1
  rw [List.append_nil] at X1
  show Go p.tables e below (EndE s ({ frames := 2, cells := 0, slots := 0, locals := 24 } : Room) (Qc4 Z n0 h0 r0 r1 r2 r3 q4 i5 q6)) (T1.setTop (mkF m 4 #[.val (.ref r0), .val (.ref r1), .val (.ref r2), .val (.ref r3), .val (.long q4), .second, .val (.int i5), .val (.long q6), .second] []))
  refine o_aloadN 5 X1 hx rfl (hb hby d4_4) rfl rfl ?_
  refine o_aloadN 6 X1 hx rfl (hb hby d4_5) rfl rfl ?_
  refine o_putF 9 X1 hx rfl hZ (.object "com/example/headword/headword/quickdic/Fields$Part") hown (wd_35 hw) Via.refl e1 F_owner E0 (Or.inr ⟨(wd_36 hw), rfl, hnm⟩) (wd_27 hw) (by decide) rfl rfl N0 ga (hb hby d4_6) fun T2 h2 L2 X2 N2 e2 W2 => ?_
  have F3 : Fld Z h2 r0 "com/example/headword/headword/quickdic/ListHead" "owner" "Lcom/example/headword/headword/quickdic/Fields$Part;" (.ref r1) := F_owner.same W2
  have F4 : Exa Z h2 r0 "com/example/headword/headword/quickdic/ListHead" := E0.wr W2
  have F5 : Fld Z h2 r0 "com/example/headword/headword/quickdic/ListHead" "name" "Ljava/lang/String;" .null := F_name.other W2 (Or.inr (slot_ne (Or.inr (wd_38 hw)) (Or.inr (wd_36 hw)) (by decide) (t := (.object "java/lang/String")) (t' := (.object "com/example/headword/headword/quickdic/Fields$Part")) (by decide) (by decide)))
  have F6 : Fld Z h2 r0 "com/example/headword/headword/quickdic/ListHead" "element" "Ljava/lang/String;" .null := F_element.other W2 (Or.inr (slot_ne (Or.inr (wd_40 hw)) (Or.inr (wd_36 hw)) (by decide) (t := (.object "java/lang/String")) (t' := (.object "com/example/headword/headword/quickdic/Fields$Part")) (by decide) (by decide)))
  have F7 : Fld Z h2 r0 "com/example/headword/headword/quickdic/ListHead" "table" "J" (.long (0 : Int64)) := F_table.other W2 (Or.inr (slot_ne (Or.inr (wd_42 hw)) (Or.inr (wd_36 hw)) (by decide) (t := .long) (t' := (.object "com/example/headword/headword/quickdic/Fields$Part")) (by decide) (by decide)))
  have F8 : Fld Z h2 r0 "com/example/headword/headword/quickdic/ListHead" "count" "I" (.int (0 : Int32)) := F_count.other W2 (Or.inr (slot_ne (Or.inr (wd_44 hw)) (Or.inr (wd_36 hw)) (by decide) (t := .int) (t' := (.object "com/example/headword/headword/quickdic/Fields$Part")) (by decide) (by decide)))
  have F9 : Fld Z h2 r0 "com/example/headword/headword/quickdic/ListHead" "end" "J" (.long (0 : Int64)) := F_end.other W2 (Or.inr (slot_ne (Or.inr (wd_46 hw)) (Or.inr (wd_36 hw)) (by decide) (t := .long) (t' := (.object "com/example/headword/headword/quickdic/Fields$Part")) (by decide) (by decide)))
  have sz10 : n0 ≤ h2.size := Nat.le_trans Z0 (Keep.of_wr W2).1
  have K11 : Keep h0 h2 [r0] := K0.wr W2 (Or.inl (by simp))
  refine o_aloadN 10 X2 hx rfl (hb hby d4_9) rfl rfl ?_
  refine o_aloadN 11 X2 hx rfl (hb hby d4_10) rfl rfl ?_
  refine o_putF 14 X2 hx rfl hZ (.object "java/lang/String") hown (wd_37 hw) Via.refl e2 F5 F4 (Or.inr ⟨(wd_38 hw), rfl, hnm⟩) (wd_27 hw) (by decide) rfl rfl N2 ga (hb hby d4_11) fun T12 h12 L12 X12 N12 e12 W12 => ?_
  have F13 : Fld Z h12 r0 "com/example/headword/headword/quickdic/ListHead" "name" "Ljava/lang/String;" (.ref r2) := F5.same W12
  have F14 : Exa Z h12 r0 "com/example/headword/headword/quickdic/ListHead" := F4.wr W12
  have F15 : Fld Z h12 r0 "com/example/headword/headword/quickdic/ListHead" "owner" "Lcom/example/headword/headword/quickdic/Fields$Part;" (.ref r1) := F3.other W12 (Or.inr (slot_ne (Or.inr (wd_36 hw)) (Or.inr (wd_38 hw)) (by decide) (t := (.object "com/example/headword/headword/quickdic/Fields$Part")) (t' := (.object "java/lang/String")) (by decide) (by decide)))
  have F16 : Fld Z h12 r0 "com/example/headword/headword/quickdic/ListHead" "element" "Ljava/lang/String;" .null := F6.other W12 (Or.inr (slot_ne (Or.inr (wd_40 hw)) (Or.inr (wd_38 hw)) (by decide) (t := (.object "java/lang/String")) (t' := (.object "java/lang/String")) (by decide) (by decide)))
  have F17 : Fld Z h12 r0 "com/example/headword/headword/quickdic/ListHead" "table" "J" (.long (0 : Int64)) := F7.other W12 (Or.inr (slot_ne (Or.inr (wd_42 hw)) (Or.inr (wd_38 hw)) (by decide) (t := .long) (t' := (.object "java/lang/String")) (by decide) (by decide)))
  have F18 : Fld Z h12 r0 "com/example/headword/headword/quickdic/ListHead" "count" "I" (.int (0 : Int32)) := F8.other W12 (Or.inr (slot_ne (Or.inr (wd_44 hw)) (Or.inr (wd_38 hw)) (by decide) (t := .int) (t' := (.object "java/lang/String")) (by decide) (by decide)))
  have F19 : Fld Z h12 r0 "com/example/headword/headword/quickdic/ListHead" "end" "J" (.long (0 : Int64)) := F9.other W12 (Or.inr (slot_ne (Or.inr (wd_46 hw)) (Or.inr (wd_38 hw)) (by decide) (t := .long) (t' := (.object "java/lang/String")) (by decide) (by decide)))
  have sz20 : n0 ≤ h12.size := Nat.le_trans sz10 (Keep.of_wr W12).1
  have K21 : Keep h0 h12 [r0] := K11.wr W12 (Or.inl (by simp))
  refine o_aloadN 15 X12 hx rfl (hb hby d4_14) rfl rfl ?_
  refine o_aloadN 16 X12 hx rfl (hb hby d4_15) rfl rfl ?_
  refine o_putF 19 X12 hx rfl hZ (.object "java/lang/String") hown (wd_39 hw) Via.refl e12 F16 F14 (Or.inr ⟨(wd_40 hw), rfl, hnm⟩) (wd_27 hw) (by decide) rfl rfl N12 ga (hb hby d4_16) fun T22 h22 L22 X22 N22 e22 W22 => ?_
  have F23 : Fld Z h22 r0 "com/example/headword/headword/quickdic/ListHead" "element" "Ljava/lang/String;" (.ref r3) := F16.same W22
  have F24 : Exa Z h22 r0 "com/example/headword/headword/quickdic/ListHead" := F14.wr W22
  have F25 : Fld Z h22 r0 "com/example/headword/headword/quickdic/ListHead" "owner" "Lcom/example/headword/headword/quickdic/Fields$Part;" (.ref r1) := F15.other W22 (Or.inr (slot_ne (Or.inr (wd_36 hw)) (Or.inr (wd_40 hw)) (by decide) (t := (.object "com/example/headword/headword/quickdic/Fields$Part")) (t' := (.object "java/lang/String")) (by decide) (by decide)))
  have F26 : Fld Z h22 r0 "com/example/headword/headword/quickdic/ListHead" "name" "Ljava/lang/String;" (.ref r2) := F13.other W22 (Or.inr (slot_ne (Or.inr (wd_38 hw)) (Or.inr (wd_40 hw)) (by decide) (t := (.object "java/lang/String")) (t' := (.object "java/lang/String")) (by decide) (by decide)))
  have F27 : Fld Z h22 r0 "com/example/headword/headword/quickdic/ListHead" "table" "J" (.long (0 : Int64)) := F17.other W22 (Or.inr (slot_ne (Or.inr (wd_42 hw)) (Or.inr (wd_40 hw)) (by decide) (t := .long) (t' := (.object "java/lang/String")) (by decide) (by decide)))
  have F28 : Fld Z h22 r0 "com/example/headword/headword/quickdic/ListHead" "count" "I" (.int (0 : Int32)) := F18.other W22 (Or.inr (slot_ne (Or.inr (wd_44 hw)) (Or.inr (wd_40 hw)) (by decide) (t := .int) (t' := (.object "java/lang/String")) (by decide) (by decide)))
  have F29 : Fld Z h22 r0 "com/example/headword/headword/quickdic/ListHead" "end" "J" (.long (0 : Int64)) := F19.other W22 (Or.inr (slot_ne (Or.inr (wd_46 hw)) (Or.inr (wd_40 hw)) (by decide) (t := .long) (t' := (.object "java/lang/String")) (by decide) (by decide)))
  have sz30 : n0 ≤ h22.size := Nat.le_trans sz20 (Keep.of_wr W22).1
  have K31 : Keep h0 h22 [r0] := K21.wr W22 (Or.inl (by simp))
  refine o_aloadN 20 X22 hx rfl (hb hby d4_19) rfl rfl ?_
  refine o_lload 22 X22 hx rfl (hb hby d4_20) rfl ?_
  refine o_putF 25 X22 hx rfl hZ .long hown (wd_41 hw) Via.refl e22 F27 F24 (Or.inr ⟨(wd_42 hw), rfl, hnm⟩) (wd_27 hw) (by decide) rfl rfl N22 ga (hb hby d4_22) fun T32 h32 L32 X32 N32 e32 W32 => ?_
  have F33 : Fld Z h32 r0 "com/example/headword/headword/quickdic/ListHead" "table" "J" (.long q4) := F27.same W32
  have F34 : Exa Z h32 r0 "com/example/headword/headword/quickdic/ListHead" := F24.wr W32
  have F35 : Fld Z h32 r0 "com/example/headword/headword/quickdic/ListHead" "owner" "Lcom/example/headword/headword/quickdic/Fields$Part;" (.ref r1) := F25.other W32 (Or.inr (slot_ne (Or.inr (wd_36 hw)) (Or.inr (wd_42 hw)) (by decide) (t := (.object "com/example/headword/headword/quickdic/Fields$Part")) (t' := .long) (by decide) (by decide)))
  have F36 : Fld Z h32 r0 "com/example/headword/headword/quickdic/ListHead" "name" "Ljava/lang/String;" (.ref r2) := F26.other W32 (Or.inr (slot_ne (Or.inr (wd_38 hw)) (Or.inr (wd_42 hw)) (by decide) (t := (.object "java/lang/String")) (t' := .long) (by decide) (by decide)))
  have F37 : Fld Z h32 r0 "com/example/headword/headword/quickdic/ListHead" "element" "Ljava/lang/String;" (.ref r3) := F23.other W32 (Or.inr (slot_ne (Or.inr (wd_40 hw)) (Or.inr (wd_42 hw)) (by decide) (t := (.object "java/lang/String")) (t' := .long) (by decide) (by decide)))
  have F38 : Fld Z h32 r0 "com/example/headword/headword/quickdic/ListHead" "count" "I" (.int (0 : Int32)) := F28.other W32 (Or.inr (slot_ne (Or.inr (wd_44 hw)) (Or.inr (wd_42 hw)) (by decide) (t := .int) (t' := .long) (by decide) (by decide)))
  have F39 : Fld Z h32 r0 "com/example/headword/headword/quickdic/ListHead" "end" "J" (.long (0 : Int64)) := F29.other W32 (Or.inr (slot_ne (Or.inr (wd_46 hw)) (Or.inr (wd_42 hw)) (by decide) (t := .long) (t' := .long) (by decide) (by decide)))
  have sz40 : n0 ≤ h32.size := Nat.le_trans sz30 (Keep.of_wr W32).1
  have K41 : Keep h0 h32 [r0] := K31.wr W32 (Or.inl (by simp))
  refine o_aloadN 26 X32 hx rfl (hb hby d4_25) rfl rfl ?_
  refine o_iload 28 X32 hx rfl (hb hby d4_26) rfl ?_
  refine o_putF 31 X32 hx rfl hZ .int hown (wd_43 hw) Via.refl e32 F38 F34 (Or.inr ⟨(wd_44 hw), rfl, hnm⟩) (wd_27 hw) (by decide) rfl rfl N32 ga (hb hby d4_28) fun T42 h42 L42 X42 N42 e42 W42 => ?_
  have F43 : Fld Z h42 r0 "com/example/headword/headword/quickdic/ListHead" "count" "I" (.int i5) := F38.same W42
  have F44 : Exa Z h42 r0 "com/example/headword/headword/quickdic/ListHead" := F34.wr W42
  have F45 : Fld Z h42 r0 "com/example/headword/headword/quickdic/ListHead" "owner" "Lcom/example/headword/headword/quickdic/Fields$Part;" (.ref r1) := F35.other W42 (Or.inr (slot_ne (Or.inr (wd_36 hw)) (Or.inr (wd_44 hw)) (by decide) (t := (.object "com/example/headword/headword/quickdic/Fields$Part")) (t' := .int) (by decide) (by decide)))
  have F46 : Fld Z h42 r0 "com/example/headword/headword/quickdic/ListHead" "name" "Ljava/lang/String;" (.ref r2) := F36.other W42 (Or.inr (slot_ne (Or.inr (wd_38 hw)) (Or.inr (wd_44 hw)) (by decide) (t := (.object "java/lang/String")) (t' := .int) (by decide) (by decide)))
  have F47 : Fld Z h42 r0 "com/example/headword/headword/quickdic/ListHead" "element" "Ljava/lang/String;" (.ref r3) := F37.other W42 (Or.inr (slot_ne (Or.inr (wd_40 hw)) (Or.inr (wd_44 hw)) (by decide) (t := (.object "java/lang/String")) (t' := .int) (by decide) (by decide)))
  have F48 : Fld Z h42 r0 "com/example/headword/headword/quickdic/ListHead" "table" "J" (.long q4) := F33.other W42 (Or.inr (slot_ne (Or.inr (wd_42 hw)) (Or.inr (wd_44 hw)) (by decide) (t := .long) (t' := .int) (by decide) (by decide)))
  have F49 : Fld Z h42 r0 "com/example/headword/headword/quickdic/ListHead" "end" "J" (.long (0 : Int64)) := F39.other W42 (Or.inr (slot_ne (Or.inr (wd_46 hw)) (Or.inr (wd_44 hw)) (by decide) (t := .long) (t' := .int) (by decide) (by decide)))
  have sz50 : n0 ≤ h42.size := Nat.le_trans sz40 (Keep.of_wr W42).1
  have K51 : Keep h0 h42 [r0] := K41.wr W42 (Or.inl (by simp))
  refine o_aloadN 32 X42 hx rfl (hb hby d4_31) rfl rfl ?_
  refine o_lload 34 X42 hx rfl (hb hby d4_32) rfl ?_
  refine o_putF 37 X42 hx rfl hZ .long hown (wd_45 hw) Via.refl e42 F49 F44 (Or.inr ⟨(wd_46 hw), rfl, hnm⟩) (wd_27 hw) (by decide) rfl rfl N42 ga (hb hby d4_34) fun T52 h52 L52 X52 N52 e52 W52 => ?_
  have F53 : Fld Z h52 r0 "com/example/headword/headword/quickdic/ListHead" "end" "J" (.long q6) := F49.same W52
  have F54 : Exa Z h52 r0 "com/example/headword/headword/quickdic/ListHead" := F44.wr W52
  have F55 : Fld Z h52 r0 "com/example/headword/headword/quickdic/ListHead" "owner" "Lcom/example/headword/headword/quickdic/Fields$Part;" (.ref r1) := F45.other W52 (Or.inr (slot_ne (Or.inr (wd_36 hw)) (Or.inr (wd_46 hw)) (by decide) (t := (.object "com/example/headword/headword/quickdic/Fields$Part")) (t' := .long) (by decide) (by decide)))
  have F56 : Fld Z h52 r0 "com/example/headword/headword/quickdic/ListHead" "name" "Ljava/lang/String;" (.ref r2) := F46.other W52 (Or.inr (slot_ne (Or.inr (wd_38 hw)) (Or.inr (wd_46 hw)) (by decide) (t := (.object "java/lang/String")) (t' := .long) (by decide) (by decide)))
  have F57 : Fld Z h52 r0 "com/example/headword/headword/quickdic/ListHead" "element" "Ljava/lang/String;" (.ref r3) := F47.other W52 (Or.inr (slot_ne (Or.inr (wd_40 hw)) (Or.inr (wd_46 hw)) (by decide) (t := (.object "java/lang/String")) (t' := .long) (by decide) (by decide)))
  have F58 : Fld Z h52 r0 "com/example/headword/headword/quickdic/ListHead" "table" "J" (.long q4) := F48.other W52 (Or.inr (slot_ne (Or.inr (wd_42 hw)) (Or.inr (wd_46 hw)) (by decide) (t := .long) (t' := .long) (by decide) (by decide)))
  have F59 : Fld Z h52 r0 "com/example/headword/headword/quickdic/ListHead" "count" "I" (.int i5) := F43.other W52 (Or.inr (slot_ne (Or.inr (wd_44 hw)) (Or.inr (wd_46 hw)) (by decide) (t := .int) (t' := .long) (by decide) (by decide)))
  have sz60 : n0 ≤ h52.size := Nat.le_trans sz50 (Keep.of_wr W52).1
  have K61 : Keep h0 h52 [r0] := K51.wr W52 (Or.inl (by simp))
  refine o_retV X52 hx hret hlk (hb hby d4_37) (by decide) (by decide) ?_
  rw [e52]
  exact ⟨rfl, N52, K61, F54, F55, F56, F57, F58, F59, F53⟩
theorem ef_6 (m : MethodId) (y0 : Int64) (y1 : Int32) : entryFrame m #[(.long y0), (.int y1)] 3 = mkF m 0 #[.val (.long y0), .second, .val (.int y1)] [] := by first | (simp [entryFrame, mkF, argsToLocals, Value.category]; done) | rfl
def fn6 (q0 : Int64) (i1 : Int32) : Int64 := (q0 + (((i1.toInt64) + (1 : Int64)) * (8 : Int64)))
set_option maxRecDepth 65536 in
set_option maxHeartbeats 40000000 in
theorem rm6 (l : Launch) (Z : State) (a0 : Array Value) (hw : ∀ d ∈ tables_1, d.before a0 Z = true) (q0 : Int64) (i1 : Int32) (h0 : Heap) : MetP l (⟨"com/example/headword/headword/quickdic/ListHead", "data", "(JI)J"⟩ : MethodName) prog_43_method_9_code 3 (some .long) [] ({ frames := 0, cells := 0, slots := 0, locals := 0 } : Room) Z #[(.long q0), (.int i1)] h0 (Pure (.long (fn6 q0 i1)) h0) := by
  refine met_go pn_6 ?_
  intro p e s m below meth c s₁ hx hby hml hown hnm hret hlk hZ e0 X0
  rw [ef_6 m q0 i1]
  refine o_lloadN 1 X0 hx rfl (hb hby d6_0) rfl ?_
  refine o_iloadN 2 X0 hx rfl (hb hby d6_1) rfl ?_
  refine o_i2l 3 X0 hx rfl (hb hby d6_2) ?_
  refine o_lconst 4 X0 hx rfl (hb hby d6_3) (1 : Int64) rfl ?_
  refine o_ladd 5 X0 hx rfl (hb hby d6_4) ?_
  refine o_ldc2Long 8 X0 hx rfl hZ hown (wd_56 hw) (hb hby d6_5) ?_
  refine o_lmul 9 X0 hx rfl (hb hby d6_8) ?_
  refine o_ladd 10 X0 hx rfl (hb hby d6_9) ?_
  refine o_retJ X0 hx hret hlk (hb hby d6_10) (by decide) (by decide) ?_
  exact ⟨show some (Value.long (q0 + (((i1.toInt64) + (1 : Int64)) * (8 : Int64)))) = some (Value.long (fn6 q0 i1)) from by rw [show (fn6 q0 i1) = (q0 + (((i1.toInt64) + (1 : Int64)) * (8 : Int64))) from by rfl], rfl, e0⟩
theorem ef_5 (m : MethodId) (y0 : Addr) : entryFrame m #[(.ref y0)] 1 = mkF m 0 #[.val (.ref y0)] [] := by first | (simp [entryFrame, mkF, argsToLocals, Value.category]; done) | rfl
def fn5 (v_table : Int64) (v_count : Int32) : Int64 := (fn6 v_table v_count)
set_option maxRecDepth 65536 in
set_option maxHeartbeats 40000000 in
theorem rm5 (l : Launch) (Z : State) (a0 : Array Value) (hw : ∀ d ∈ tables_1, d.before a0 Z = true) (r0 : Addr) (v_table : Int64) (v_count : Int32) (h0 : Heap) (E0 : Exa Z h0 r0 "com/example/headword/headword/quickdic/ListHead") (F_table : Fld Z h0 r0 "com/example/headword/headword/quickdic/ListHead" "table" "J" (.long v_table)) (F_count : Fld Z h0 r0 "com/example/headword/headword/quickdic/ListHead" "count" "I" (.int v_count)) : MetP l (⟨"com/example/headword/headword/quickdic/ListHead", "data", "()J"⟩ : MethodName) prog_43_method_4_code 1 (some .long) [] ({ frames := 1, cells := 0, slots := 0, locals := 14 } : Room) Z #[(.ref r0)] h0 (Pure (.long (fn5 v_table v_count)) h0) := by
  refine met_go pn_5 ?_
  intro p e s m below meth c s₁ hx hby hml hown hnm hret hlk hZ e0 X0
  rw [ef_5 m r0]
  refine o_aloadN 1 X0 hx rfl (hb hby d5_0) rfl rfl ?_
  refine o_getF 4 X0 hx rfl hZ hown (wd_41 hw) Via.refl e0 F_table (hb hby d5_1) fun T1 X1 e1 => ?_
  refine o_aloadN 5 X1 hx rfl (hb hby d5_4) rfl rfl ?_
  refine o_getF 8 X1 hx rfl hZ hown (wd_43 hw) Via.refl e1 F_count (hb hby d5_5) fun T2 X2 e2 => ?_
  refine o_callP (rv := (.long (fn6 v_table v_count))) 11 X2 hx rfl hZ hown (wd_53 hw) (wd_54 hw) (wd_28 hw) (wd_55 hw) (by decide) e2 (rm6 l Z a0 hw v_table v_count h0) pd_lJIrJ [(.long v_table), (.int v_count)] [] rfl rfl (by rw [hml]; rfl) rfl (hb hby d5_8) 0 (Nat.le_of_eq rfl) (by decide) (by decide) (by decide) (by decide) rfl rfl fun T3 X3 e3 => ?_
  refine o_retJ X3 hx hret hlk (hb hby d5_11) (by decide) (by decide) ?_
  exact ⟨show some (Value.long (fn6 v_table v_count)) = some (Value.long (fn5 v_table v_count)) from by rw [show (fn5 v_table v_count) = (fn6 v_table v_count) from by rfl], rfl, e3⟩
theorem ef_7 (m : MethodId) (y0 : Addr) : entryFrame m #[(.ref y0)] 1 = mkF m 0 #[.val (.ref y0)] [] := by first | (simp [entryFrame, mkF, argsToLocals, Value.category]; done) | rfl
def fn7 (v_table : Int64) : Int64 := v_table
set_option maxRecDepth 65536 in
set_option maxHeartbeats 40000000 in
theorem rm7 (l : Launch) (Z : State) (a0 : Array Value) (hw : ∀ d ∈ tables_1, d.before a0 Z = true) (r0 : Addr) (v_table : Int64) (h0 : Heap) (E0 : Exa Z h0 r0 "com/example/headword/headword/quickdic/ListHead") (F_table : Fld Z h0 r0 "com/example/headword/headword/quickdic/ListHead" "table" "J" (.long v_table)) : MetP l (⟨"com/example/headword/headword/quickdic/ListHead", "table", "()J"⟩ : MethodName) prog_43_method_16_code 1 (some .long) [] ({ frames := 0, cells := 0, slots := 0, locals := 0 } : Room) Z #[(.ref r0)] h0 (Pure (.long (fn7 v_table)) h0) := by
  refine met_go pn_7 ?_
  intro p e s m below meth c s₁ hx hby hml hown hnm hret hlk hZ e0 X0
  rw [ef_7 m r0]
  refine o_aloadN 1 X0 hx rfl (hb hby d7_0) rfl rfl ?_
  refine o_getF 4 X0 hx rfl hZ hown (wd_41 hw) Via.refl e0 F_table (hb hby d7_1) fun T1 X1 e1 => ?_
  refine o_retJ X1 hx hret hlk (hb hby d7_4) (by decide) (by decide) ?_
  exact ⟨show some (Value.long v_table) = some (Value.long (fn7 v_table)) from by rw [show (fn7 v_table) = v_table from by rfl], rfl, e1⟩
theorem ef_8 (m : MethodId) (y0 : Addr) : entryFrame m #[(.ref y0)] 1 = mkF m 0 #[.val (.ref y0)] [] := by first | (simp [entryFrame, mkF, argsToLocals, Value.category]; done) | rfl
def fn8 (v_count : Int32) : Int32 := v_count
set_option maxRecDepth 65536 in
set_option maxHeartbeats 40000000 in
theorem rm8 (l : Launch) (Z : State) (a0 : Array Value) (hw : ∀ d ∈ tables_1, d.before a0 Z = true) (r0 : Addr) (v_count : Int32) (h0 : Heap) (E0 : Exa Z h0 r0 "com/example/headword/headword/quickdic/ListHead") (F_count : Fld Z h0 r0 "com/example/headword/headword/quickdic/ListHead" "count" "I" (.int v_count)) : MetP l (⟨"com/example/headword/headword/quickdic/ListHead", "count", "()I"⟩ : MethodName) prog_43_method_17_code 1 (some .int) [] ({ frames := 0, cells := 0, slots := 0, locals := 0 } : Room) Z #[(.ref r0)] h0 (Pure (.int (fn8 v_count)) h0) := by
  refine met_go pn_8 ?_
  intro p e s m below meth c s₁ hx hby hml hown hnm hret hlk hZ e0 X0
  rw [ef_8 m r0]
  refine o_aloadN 1 X0 hx rfl (hb hby d8_0) rfl rfl ?_
  refine o_getF 4 X0 hx rfl hZ hown (wd_43 hw) Via.refl e0 F_count (hb hby d8_1) fun T1 X1 e1 => ?_
  refine o_retI X1 hx hret hlk (hb hby d8_4) (by decide) (by decide) ?_
  exact ⟨show some (Value.int v_count) = some (Value.int (fn8 v_count)) from by rw [show (fn8 v_count) = v_count from by rfl], rfl, e1⟩
theorem own_sa {Z : State} {a0 : Array Value} (hw : ∀ d ∈ tables_1, d.before a0 Z = true) : ∀ a ∈ Bundle.stringAtoms, a.before a0 Z = true := by
  intro a ha
  simp only [Bundle.stringAtoms, List.mem_cons, List.not_mem_nil, or_false] at ha
  rcases ha with rfl | rfl | rfl | rfl | rfl | rfl | rfl
  all_goals first | exact (wd_4 hw) | exact (wd_5 hw) | exact (wd_6 hw) | exact (wd_7 hw) | exact (wd_8 hw) | exact (wd_9 hw) | exact (wd_10 hw)
theorem ef_0 (m : MethodId) (y0 : Int64) (y1 : Int32) (y2 : Int64) (y3 : Int32) : entryFrame m #[(.long y0), (.int y1), (.long y2), (.int y3)] maxLocals = mkF m 0 #[.val (.long y0), .second, .val (.int y1), .val (.long y2), .second, .val (.int y3), .unset, .unset, .unset, .unset, .unset, .unset] [] := by first | (simp [entryFrame, mkF, argsToLocals, Value.category, maxLocals]; done) | rfl
theorem own_d (q0 : Int64) (i1 : Int32) : (fn5 q0 i1) = ((q0 + ((8 : Int64) * (i1.toInt64))) + (8 : Int64)) := by
  unfold fn5 fn6
  rw [Int64.add_mul, Int64.mul_comm (i1.toInt64), Int64.one_mul, Int64.add_assoc]
set_option maxRecDepth 65536 in
set_option maxHeartbeats 40000000 in
theorem rm0 (l : Launch) (Z : State) (a0 : Array Value) (hw : ∀ d ∈ tables_1, d.before a0 Z = true) (ws : List Jvm.Cond) (q0 : Int64) (i1 : Int32) (q2 : Int64) (i3 : Int32) (h0 : Heap) (n0 : Nat) (Z0 : n0 ≤ h0.size) : MetFree l x (head1 (Jvm.Cond.code x code maxLocals ret :: ws) room_1) (fun a U => a = #[(.long q0), (.int i1), (.long q2), (.int i3)] ∧ Z.Warmed39 U.vm ∧ U.heap = h0) (fun _ _ _ _ _ => True) (fun _ U o U' => ∃ v L, o = .returned v ∧ (fun v h L => v = some (.int (1 : Int32)) ∧ Fr n0 L) v U'.heap L ∧ ReturnedEndW U o U' L room_1.cells room_1.slots) := by
  refine met_goW (Q := fun v h L => v = some (.int (1 : Int32)) ∧ Fr n0 L) pn_0 ?_
  intro p e s m below meth c s₁ hx hby hml hown hnm hret hlk hZ e0 X0
  have N0 := Fr.nil n0
  have X0' : Stand p l e room_1 (s.setVm s.vm) m #[(.long q0), (.int i1), (.long q2), (.int i3)] below meth c s₁ [] 0 0 := X0
  have S0 : s.Since s.vm 0 := (State.WarmedH.refl s).since _
  rw [ef_0 m q0 i1 q2 i3]
  refine o_new 3 X0' hx rfl hZ hown (wd_0 hw) (wd_1 hw) (wd_2 hw) e0 (hb hby at_0) (by decide) (by decide) fun T1 h1 a1 g1 X1 e1 E1 A1 D1 => ?_
  have ge2 : n0 ≤ a1 := Nat.le_trans Z0 (Nat.le_of_eq g1.symm)
  have sz3 : n0 ≤ h1.size := Nat.le_trans Z0 E1.1
  have F4 : Fld Z h1 a1 "com/example/headword/headword/quickdic/Fields$Part" "kind" "Ljava/lang/String;" .null := D1 (Or.inr (wd_23 hw)) (ty := (.object "java/lang/String")) (by decide)
  have F5 : Fld Z h1 a1 "com/example/headword/headword/quickdic/Fields$Part" "index" "J" (.long (0 : Int64)) := D1 (Or.inr (wd_25 hw)) (ty := .long) (by decide)
  refine o_dup 4 X1 hx rfl (hb hby at_3) rfl ?_
  refine o_ldcS 6 X1 hx rfl hZ hown (wd_3 hw) (own_sa hw) e1 S0 (Nat.zero_le _) (hb hby at_4) 16 (by decide) (by decide) (by decide) (by decide) fun a6 T6 h6 k6 X6 e6 E6 S6 kl6 hZ6 hown6 => ?_
  have F7 : Exa Z h6 a1 "com/example/headword/headword/quickdic/Fields$Part" := A1.ext E6
  have F8 : Fld Z h6 a1 "com/example/headword/headword/quickdic/Fields$Part" "kind" "Ljava/lang/String;" .null := F4.ext E6
  have F9 : Fld Z h6 a1 "com/example/headword/headword/quickdic/Fields$Part" "index" "J" (.long (0 : Int64)) := F5.ext E6
  have sz10 : n0 ≤ h6.size := Nat.le_trans sz3 E6.1
  refine o_iload 8 X6 hx rfl (hb hby at_6) rfl ?_
  refine o_i2l 9 X6 hx rfl (hb hby at_8) ?_
  refine o_callIw 12 X6 hx rfl hZ6 rfl hown6 (wd_11 hw) (wd_12 hw) (wd_2 hw) (wd_13 hw) (by decide) e6 N0 (rm1 l Z a0 hw a1 a6 (i3.toInt64) h6 n0 sz10 ge2 F7 F8 F9) pd_lLjava_lang_StringsJrV a1 [(.ref a6), (.long (i3.toInt64))] [(.ref a1)] rfl rfl (by rw [hml]; rfl) rfl (hb hby at_9) 1 (Nat.le_of_eq rfl) (by decide) (by decide) (by decide) (by decide) fun v11 T11 L11 LL11 X11 Q11 NF11 => ?_
  obtain ⟨rfl, M11, K11, E11, F11_kind, F11_index⟩ := Q11
  have NN11 := NF11 M11
  have sz12 : n0 ≤ T11.heap.size := Nat.le_trans sz10 K11.1
  show Go p.tables e below (EndW s room_1 (fun v h L => v = some (.int (1 : Int32)) ∧ Fr n0 L)) (T11.setTop (mkF m 12 #[.val (.long q0), .second, .val (.int i1), .val (.long q2), .second, .val (.int i3), .unset, .unset, .unset, .unset, .unset, .unset] [(.ref a1)]))
  refine o_astore 14 X11 hx rfl (hb hby at_12) rfl #[.val (.long q0), .second, .val (.int i1), .val (.long q2), .second, .val (.int i3), .val (.ref a1), .unset, .unset, .unset, .unset, .unset] rfl ?_
  refine o_new 17 X11 hx rfl hZ6 hown6 (wd_26 hw) (wd_27 hw) (wd_28 hw) rfl (hb hby at_14) (by decide) (by decide) fun T13 h13 a13 g13 X13 e13 E13 A13 D13 => ?_
  have ne14 : a1 ≠ a13 := Nat.ne_of_lt (Nat.lt_of_lt_of_eq E11.lt g13.symm)
  have ge15 : n0 ≤ a13 := Nat.le_trans sz12 (Nat.le_of_eq g13.symm)
  have F16 : Exa Z h13 a1 "com/example/headword/headword/quickdic/Fields$Part" := E11.ext E13
  have F17 : Fld Z h13 a1 "com/example/headword/headword/quickdic/Fields$Part" "kind" "Ljava/lang/String;" (.ref a6) := F11_kind.ext E13
  have F18 : Fld Z h13 a1 "com/example/headword/headword/quickdic/Fields$Part" "index" "J" (.long (i3.toInt64)) := F11_index.ext E13
  have sz19 : n0 ≤ h13.size := Nat.le_trans sz12 E13.1
  have F20 : Fld Z h13 a13 "com/example/headword/headword/quickdic/ListHead" "owner" "Lcom/example/headword/headword/quickdic/Fields$Part;" .null := D13 (Or.inr (wd_36 hw)) (ty := (.object "com/example/headword/headword/quickdic/Fields$Part")) (by decide)
  have F21 : Fld Z h13 a13 "com/example/headword/headword/quickdic/ListHead" "name" "Ljava/lang/String;" .null := D13 (Or.inr (wd_38 hw)) (ty := (.object "java/lang/String")) (by decide)
  have F22 : Fld Z h13 a13 "com/example/headword/headword/quickdic/ListHead" "element" "Ljava/lang/String;" .null := D13 (Or.inr (wd_40 hw)) (ty := (.object "java/lang/String")) (by decide)
  have F23 : Fld Z h13 a13 "com/example/headword/headword/quickdic/ListHead" "table" "J" (.long (0 : Int64)) := D13 (Or.inr (wd_42 hw)) (ty := .long) (by decide)
  have F24 : Fld Z h13 a13 "com/example/headword/headword/quickdic/ListHead" "count" "I" (.int (0 : Int32)) := D13 (Or.inr (wd_44 hw)) (ty := .int) (by decide)
  have F25 : Fld Z h13 a13 "com/example/headword/headword/quickdic/ListHead" "end" "J" (.long (0 : Int64)) := D13 (Or.inr (wd_46 hw)) (ty := .long) (by decide)
  refine o_dup 18 X13 hx rfl (hb hby at_17) rfl ?_
  refine o_aload 20 X13 hx rfl (hb hby at_18) rfl rfl ?_
  refine o_ldcS 22 X13 hx rfl hZ6 hown6 (wd_29 hw) (own_sa hw) e13 S6 (Nat.le_trans kl6 (Nat.le_trans K11.1 E13.1)) (hb hby at_20) 16 (by decide) (by decide) (by decide) (by decide) fun a26 T26 h26 k26 X26 e26 E26 S26 kl26 hZ26 hown26 => ?_
  have F27 : Exa Z h26 a1 "com/example/headword/headword/quickdic/Fields$Part" := F16.ext E26
  have F28 : Fld Z h26 a1 "com/example/headword/headword/quickdic/Fields$Part" "kind" "Ljava/lang/String;" (.ref a6) := F17.ext E26
  have F29 : Fld Z h26 a1 "com/example/headword/headword/quickdic/Fields$Part" "index" "J" (.long (i3.toInt64)) := F18.ext E26
  have F30 : Exa Z h26 a13 "com/example/headword/headword/quickdic/ListHead" := A13.ext E26
  have F31 : Fld Z h26 a13 "com/example/headword/headword/quickdic/ListHead" "owner" "Lcom/example/headword/headword/quickdic/Fields$Part;" .null := F20.ext E26
  have F32 : Fld Z h26 a13 "com/example/headword/headword/quickdic/ListHead" "name" "Ljava/lang/String;" .null := F21.ext E26
  have F33 : Fld Z h26 a13 "com/example/headword/headword/quickdic/ListHead" "element" "Ljava/lang/String;" .null := F22.ext E26
  have F34 : Fld Z h26 a13 "com/example/headword/headword/quickdic/ListHead" "table" "J" (.long (0 : Int64)) := F23.ext E26
  have F35 : Fld Z h26 a13 "com/example/headword/headword/quickdic/ListHead" "count" "I" (.int (0 : Int32)) := F24.ext E26
  have F36 : Fld Z h26 a13 "com/example/headword/headword/quickdic/ListHead" "end" "J" (.long (0 : Int64)) := F25.ext E26
  have sz37 : n0 ≤ h26.size := Nat.le_trans sz19 E26.1
  refine o_ldcS 24 X26 hx rfl hZ26 hown26 (wd_30 hw) (own_sa hw) e26 S26 kl26 (hb hby at_22) 28 (by decide) (by decide) (by decide) (by decide) fun a38 T38 h38 k38 X38 e38 E38 S38 kl38 hZ38 hown38 => ?_
  have F39 : Exa Z h38 a1 "com/example/headword/headword/quickdic/Fields$Part" := F27.ext E38
  have F40 : Fld Z h38 a1 "com/example/headword/headword/quickdic/Fields$Part" "kind" "Ljava/lang/String;" (.ref a6) := F28.ext E38
  have F41 : Fld Z h38 a1 "com/example/headword/headword/quickdic/Fields$Part" "index" "J" (.long (i3.toInt64)) := F29.ext E38
  have F42 : Exa Z h38 a13 "com/example/headword/headword/quickdic/ListHead" := F30.ext E38
  have F43 : Fld Z h38 a13 "com/example/headword/headword/quickdic/ListHead" "owner" "Lcom/example/headword/headword/quickdic/Fields$Part;" .null := F31.ext E38
  have F44 : Fld Z h38 a13 "com/example/headword/headword/quickdic/ListHead" "name" "Ljava/lang/String;" .null := F32.ext E38
  have F45 : Fld Z h38 a13 "com/example/headword/headword/quickdic/ListHead" "element" "Ljava/lang/String;" .null := F33.ext E38
  have F46 : Fld Z h38 a13 "com/example/headword/headword/quickdic/ListHead" "table" "J" (.long (0 : Int64)) := F34.ext E38
  have F47 : Fld Z h38 a13 "com/example/headword/headword/quickdic/ListHead" "count" "I" (.int (0 : Int32)) := F35.ext E38
  have F48 : Fld Z h38 a13 "com/example/headword/headword/quickdic/ListHead" "end" "J" (.long (0 : Int64)) := F36.ext E38
  have sz49 : n0 ≤ h38.size := Nat.le_trans sz37 E38.1
  refine o_lloadN 25 X38 hx rfl (hb hby at_24) rfl ?_
  refine o_iloadN 26 X38 hx rfl (hb hby at_25) rfl ?_
  refine o_lloadN 27 X38 hx rfl (hb hby at_26) rfl ?_
  refine o_callIw 30 X38 hx rfl hZ38 rfl hown38 (wd_31 hw) (wd_32 hw) (wd_28 hw) (wd_33 hw) (by decide) e38 NN11 (rm4 l Z a0 hw a13 a1 a26 a38 q0 i1 q2 h38 n0 sz49 ge15 F42 F43 F44 F45 F46 F47 F48) pd_lLcom_example_headword_headword_quickdic_FieldsdPartsLjava_lang_StringsLjava_lang_StringsJIJrV a13 [(.ref a1), (.ref a26), (.ref a38), (.long q0), (.int i1), (.long q2)] [(.ref a13)] rfl rfl (by rw [hml]; rfl) rfl (hb hby at_27) 1 (Nat.le_of_eq rfl) (by decide) (by decide) (by decide) (by decide) fun v50 T50 L50 LL50 X50 Q50 NF50 => ?_
  obtain ⟨rfl, M50, K50, E50, F50_owner, F50_name, F50_element, F50_table, F50_count, F50_end⟩ := Q50
  have NN50 := NF50 M50
  have F51 : Exa Z T50.heap a1 "com/example/headword/headword/quickdic/Fields$Part" := F39.keep K50
  have F52 : Fld Z T50.heap a1 "com/example/headword/headword/quickdic/Fields$Part" "kind" "Ljava/lang/String;" (.ref a6) := F40.keep K50 (ninS ne14 nin0)
  have F53 : Fld Z T50.heap a1 "com/example/headword/headword/quickdic/Fields$Part" "index" "J" (.long (i3.toInt64)) := F41.keep K50 (ninS ne14 nin0)
  have sz54 : n0 ≤ T50.heap.size := Nat.le_trans sz49 K50.1
  show Go p.tables e below (EndW s room_1 (fun v h L => v = some (.int (1 : Int32)) ∧ Fr n0 L)) (T50.setTop (mkF m 30 #[.val (.long q0), .second, .val (.int i1), .val (.long q2), .second, .val (.int i3), .val (.ref a1), .unset, .unset, .unset, .unset, .unset] [(.ref a13)]))
  refine o_astore 32 X50 hx rfl (hb hby at_30) rfl #[.val (.long q0), .second, .val (.int i1), .val (.long q2), .second, .val (.int i3), .val (.ref a1), .val (.ref a13), .unset, .unset, .unset, .unset] rfl ?_
  refine o_lloadN 33 X50 hx rfl (hb hby at_32) rfl ?_
  refine o_ldc2Long 36 X50 hx rfl hZ38 hown38 (wd_47 hw) (hb hby at_33) ?_
  refine o_iloadN 37 X50 hx rfl (hb hby at_36) rfl ?_
  refine o_i2l 38 X50 hx rfl (hb hby at_37) ?_
  refine o_lmul 39 X50 hx rfl (hb hby at_38) ?_
  refine o_ladd 40 X50 hx rfl (hb hby at_39) ?_
  refine o_ldc2Long 43 X50 hx rfl hZ38 hown38 (wd_47 hw) (hb hby at_40) ?_
  refine o_ladd 44 X50 hx rfl (hb hby at_43) ?_
  refine o_lstore 46 X50 hx rfl (hb hby at_44) #[.val (.long q0), .second, .val (.int i1), .val (.long q2), .second, .val (.int i3), .val (.ref a1), .val (.ref a13), .val (.long ((q0 + ((8 : Int64) * (i1.toInt64))) + (8 : Int64))), .second, .unset, .unset] rfl ?_
  refine o_aload 48 X50 hx rfl (hb hby at_46) rfl rfl ?_
  refine o_callVP (rv := (.long (fn5 q0 i1))) 51 X50 hx rfl hZ38 hown38 (wd_48 hw) (wd_49 hw) (wd_51 hw) (wd_50 hw) (wd_28 hw) (wd_52 hw) (by decide) rfl (rm5 l Z a0 hw a13 q0 i1 T50.heap E50 F50_table F50_count) pd_lrJ [] [] rfl E50 rfl (by rw [hml]; rfl) rfl (hb hby at_48) 0 (Nat.le_of_eq rfl) (by decide) (by decide) (by decide) (by decide) rfl rfl fun T55 X55 e55 => ?_
  refine o_lstore 53 X55 hx rfl (hb hby at_51) #[.val (.long q0), .second, .val (.int i1), .val (.long q2), .second, .val (.int i3), .val (.ref a1), .val (.ref a13), .val (.long ((q0 + ((8 : Int64) * (i1.toInt64))) + (8 : Int64))), .second, .val (.long (fn5 q0 i1)), .second] rfl ?_
  refine o_lload 55 X55 hx rfl (hb hby at_53) rfl ?_
  refine o_lload 57 X55 hx rfl (hb hby at_55) rfl ?_
  refine o_lcmp 58 X55 hx rfl (hb hby at_57) ?_
  refine o_ifNo 61 X55 hx rfl (hb hby at_58) (teq (l_teq (own_d q0 i1))).2 ?_
  refine o_aload 63 X55 hx rfl (hb hby at_61) rfl rfl ?_
  refine o_callVP (rv := (.long (fn7 q0))) 66 X55 hx rfl hZ38 hown38 (wd_57 hw) (wd_58 hw) (wd_60 hw) (wd_59 hw) (wd_28 hw) (wd_61 hw) (by decide) e55 (rm7 l Z a0 hw a13 q0 T50.heap E50 F50_table) pd_lrJ [] [] rfl E50 rfl (by rw [hml]; rfl) rfl (hb hby at_63) 0 (Nat.le_of_eq rfl) (by decide) (by decide) (by decide) (by decide) rfl rfl fun T56 X56 e56 => ?_
  refine o_lloadN 67 X56 hx rfl (hb hby at_66) rfl ?_
  refine o_lcmp 68 X56 hx rfl (hb hby at_67) ?_
  refine o_ifNo 71 X56 hx rfl (hb hby at_68) (teq (l_teq rfl)).2 ?_
  refine o_aload 73 X56 hx rfl (hb hby at_71) rfl rfl ?_
  refine o_callVP (rv := (.int (fn8 i1))) 76 X56 hx rfl hZ38 hown38 (wd_62 hw) (wd_63 hw) (wd_65 hw) (wd_64 hw) (wd_28 hw) (wd_66 hw) (by decide) e56 (rm8 l Z a0 hw a13 i1 T50.heap E50 F50_count) pd_lrI [] [] rfl E50 rfl (by rw [hml]; rfl) rfl (hb hby at_73) 0 (Nat.le_of_eq rfl) (by decide) (by decide) (by decide) (by decide) rfl rfl fun T57 X57 e57 => ?_
  refine o_iloadN 77 X57 hx rfl (hb hby at_76) rfl ?_
  refine o_icmpNo 80 X57 hx rfl (hb hby at_77) (teq rfl).2 ?_
  refine o_iconst 81 X57 hx rfl (hb hby at_80) (1 : Int32) rfl ?_
  refine o_goto 85 X57 hx (hb hby at_81) (by decide) (by decide) ?_
  refine o_outW X57 hx S38 (by rw [e57]; exact Nat.le_trans kl38 K50.1) .boolean (by simp) hret hlk (hb hby at_85) (by decide) (by decide) ?_
  exact ⟨rfl, NN50⟩
set_option maxRecDepth 65536 in
set_option maxHeartbeats 40000000 in
theorem comes_1 {Post : Tables → Env → Array Value → State → Outcome → State → Prop} (hpost : ∀ tb e args s v u, (limb_1_1.after args s (.returned v) u = true ∧ limb_1_2.after args s (.returned v) u = true ∧ True) → ReturnedEndW s (.returned v) u (Jvm.fieldLocs frame_1_writes args s ++ Jvm.arrayLocs frame_1_arrays args s ++ Jvm.staticLocs frame_1_statics s) 24 3200 → Post tb e args s (.returned v) u) :
    ArmFor flags0 classFile x code maxLocals ret World_1 tables_1 room_1 Calls_1 rest_1 Pre_1 Post := by
  intro l hfl _ _ p e ha hc hk s m args below hf hA hF happ hP
  obtain ⟨hcalls, hrest, hpre⟩ := hP
  obtain ⟨-, -, -, hnamed, -, -, -, hat⟩ := (Spec.applies_iff hf).mp happ
  obtain ⟨hg, hn⟩ := and_e (Cond.before_iff.mp (show (Jvm.Cond.and given_1 narrow_1).before args s = true from hpre))
  obtain ⟨gc, g0⟩ := and_e hg
  obtain ⟨ga0, g1⟩ := and_e g0
  obtain ⟨ga1, g2⟩ := and_e g1
  obtain ⟨ga2, g3⟩ := and_e g2
  obtain ⟨w0, w1, w2, w3, rfl⟩ : ∃ w0 w1 w2 w3 : Value, args = #[w0, w1, w2, w3] := by
    have hs : args.size = 4 := by simpa [Cond.value, given_1] using gc
    obtain ⟨L⟩ := args
    match L, hs with
    | [w0, w1, w2, w3], _ => exact ⟨w0, w1, w2, w3, rfl⟩
  have hw := fun d (hd : d ∈ tables_1) => atoms_spec (ws := Jvm.Cond.code x code maxLocals ret :: tables_1) hat d (List.mem_cons_of_mem _ hd)
  obtain ⟨i0, ei0⟩ := isL_v ga0
  obtain rfl : w0 = (.long i0) := Option.some.inj ei0
  obtain ⟨i1, ei1⟩ := is_v ga1
  obtain rfl : w1 = (.int i1) := Option.some.inj ei1
  obtain ⟨i2, ei2⟩ := isL_v ga2
  obtain rfl : w2 = (.long i2) := Option.some.inj ei2
  obtain ⟨i3, ei3⟩ := is_v g3
  obtain rfl : w3 = (.int i3) := Option.some.inj ei3
  obtain ⟨n, o, h1, h2, h3, _, L, rfl, ⟨rfl, N⟩, hq⟩ := rm0 l s _ hw tables_1 i0 i1 i2 i3 s.heap s.heap.size (Nat.le_refl _) p e ha hc hk s m _ below hf ((Spec.applies_iff_loose hf).mp happ).1 ⟨rfl, State.Warmed39.refl s, rfl⟩ trivial
  refine ⟨n, _, h1, h2, h3, hpost _ _ _ _ _ _ ⟨Cond.after_iff.mpr rfl, Cond.after_iff.mpr (eq_i res_at (Term.int_eval (1)) rfl), trivial⟩ ⟨hq.1, hq.2.1, hq.2.2.1, (hq.2.2.2.sift fun y hy => Or.inr (N y hy)).mono (by decide) (by decide)⟩⟩
theorem main_1_1 : Claimed_1_1 := comes_1 fun _ _ _ _ _ _ h hF => ⟨h.1, hF⟩
theorem main_1_2 : Claimed_1_2 := comes_1 fun _ _ _ _ _ _ h hF => ⟨h.2.1, hF⟩
end Jvm.Pilot.@@N@@
namespace Jvm.Pilot.@@N@@
open Jvm Jvm.ClassFile Sem Op Lib Jvm.Free Jvm.Stand Jvm.Pilot.@@N@@.Jvm.D
/-! MADE BY PROGRAM (witnessworld.py) out of the Statement's table words and the real class files: 16 classes; the members and pool entries that the words name. The judged class is class 1, her method 1. -/
namespace start1
open Jvm.ClassFile
def u (s : String) : CpInfo := .utf8 (stringToUtf16 s)
/-- a pool by its gaps: so many unusable entries, then the entry; so many at the end -/
def gap : Nat → List CpInfo → List CpInfo
  | 0, r => r
  | n + 1, r => .unusable :: gap n r
def poolList (es : List (Nat × CpInfo)) (last : Nat) : List CpInfo := es.foldr (fun e r => gap e.1 (e.2 :: r)) (gap last [])
def pool (es : List (Nat × CpInfo)) (last : Nat) : Array CpInfo := ⟨poolList es last⟩
def fileOf (pool : Array CpInfo) (this : Nat) (attrs : Array Attribute := #[]) (ms : Array MethodInfo := #[]) (fl : Nat := 33) (sup : Nat := 0) (ifs : Array Nat := #[]) (fds : Array FieldInfo := #[]) : ClassFile where
  minorVersion := 0
  majorVersion := 65
  constantPool := pool
  accessFlags := fl
  thisClass := this
  superClass := sup
  interfaces := ifs
  fields := fds
  methods := ms
  attributes := attrs
def plain (name : String) (sup : Option ClassId) : Class where
  name := name
  kind := .ordinary
  loader := none
  accessFlags := 33
  super := sup
  interfaces := #[]
  cf := none
  fields := #[]
  methods := #[]
  instanceTypes := #[]
  staticTypes := #[]
  resolved := #[]
  callSites := []
  init := .initialized
  statics := none
  mirror := none

def pool0 : Array CpInfo := pool [(5, u "<init>"), (0, u "()V"), (1, .class_ 10), (1, u "java/lang/Object")] 113

def k0c0 : Code := { maxStack := 0, maxLocals := 1, code := object_method_1_code, exceptionTable := #[], attributes := #[] }
def k0m0 : Method := { name := "<init>", desc := "()V", sig := { parameters := [], returnType := none }, accessFlags := 1, code := some k0c0 }
/-- java/lang/Object -/
def k0 : Class := { plain "java/lang/Object" none with
  accessFlags := 33
  interfaces := #[]
  cf := some (fileOf pool0 8 #[] #[{ accessFlags := 1, nameIndex := 5, descriptorIndex := 6, attributes := #[] }] 33 0 #[] #[])
  fields := #[]
  methods := #[k0m0]
  instanceTypes := #[]
  staticTypes := #[]
  resolved := Array.replicate 124 none
  statics := none }

def pool1 : Array CpInfo := pool [(2, .class_ 4), (1, u "java/lang/Object"), (0, u "<init>"), (0, u "()V"), (0, .class_ 8), (0, u "com/example/headword/headword/quickdic/Fields$Part"), (0, .string 10), (0, u "list"), (0, .methodref 7 12), (0, .nameAndType 5 13), (0, u "(Ljava/lang/String;J)V"), (0, .class_ 15), (0, u "com/example/headword/headword/quickdic/ListHead"), (0, .string 17), (0, u "name"), (0, .string 19), (0, u "element"), (0, .methodref 14 21), (0, .nameAndType 5 22), (0, u "(Lcom/example/headword/headword/quickdic/Fields$Part;Ljava/lang/String;Ljava/lang/String;JIJ)V"), (0, .long 8), (1, .methodref 14 26), (0, .nameAndType 27 28), (0, u "data"), (0, u "()J"), (0, .methodref 14 30), (0, .nameAndType 31 28), (0, u "table"), (0, .methodref 14 33), (0, .nameAndType 34 35), (0, u "count"), (0, u "()I"), (0, .class_ 37), (0, u "com/example/headword/headword/quickdic/ListHeadDataPinLaw"), (2, u "law"), (0, u "(JIJI)Z")] 7

def k1m0 : Method := { name := "<init>", desc := "()V", sig := { parameters := [], returnType := none }, accessFlags := 1, code := none }
def k1c1 : Code := { maxStack := 10, maxLocals := 12, code := code, exceptionTable := #[], attributes := #[] }
def k1m1 : Method := { name := "law", desc := "(JIJI)Z", sig := { parameters := [.long, .int, .long, .int], returnType := some .boolean }, accessFlags := 9, code := some k1c1 }
/-- com/example/headword/headword/quickdic/ListHeadDataPinLaw -/
def k1 : Class := { plain "com/example/headword/headword/quickdic/ListHeadDataPinLaw" (some 0) with
  accessFlags := 49
  interfaces := #[]
  cf := some (fileOf pool1 36 #[] #[{ accessFlags := 1, nameIndex := 5, descriptorIndex := 6, attributes := #[] }, { accessFlags := 9, nameIndex := 40, descriptorIndex := 41, attributes := #[] }] 49 2 #[] #[])
  fields := #[]
  methods := #[k1m0, k1m1]
  instanceTypes := #[]
  staticTypes := #[]
  resolved := Array.replicate 49 none
  statics := none }

def pool2 : Array CpInfo := pool [(1, .methodref 2 3), (0, .class_ 4), (0, .nameAndType 5 6), (0, u "java/lang/Object"), (0, u "<init>"), (0, u "()V"), (0, .class_ 8), (0, u "java/lang/Record")] 13

def k2c0 : Code := { maxStack := 1, maxLocals := 1, code := jdk_30_method_1_code, exceptionTable := #[], attributes := #[] }
def k2m0 : Method := { name := "<init>", desc := "()V", sig := { parameters := [], returnType := none }, accessFlags := 4, code := some k2c0 }
/-- java/lang/Record -/
def k2 : Class := { plain "java/lang/Record" (some 0) with
  accessFlags := 1057
  interfaces := #[]
  cf := some (fileOf pool2 7 #[] #[{ accessFlags := 4, nameIndex := 5, descriptorIndex := 6, attributes := #[] }] 1057 2 #[] #[])
  fields := #[]
  methods := #[k2m0]
  instanceTypes := #[]
  staticTypes := #[]
  resolved := Array.replicate 22 none
  statics := none }

def pool3 : Array CpInfo := pool [(1, .methodref 2 3), (0, .class_ 4), (0, .nameAndType 5 6), (0, u "java/lang/Record"), (0, u "<init>"), (0, u "()V"), (0, .fieldref 8 9), (0, .class_ 10), (0, .nameAndType 11 12), (0, u "com/example/headword/headword/quickdic/Fields$Part"), (0, u "kind"), (0, u "Ljava/lang/String;"), (0, .fieldref 8 14), (0, .nameAndType 15 16), (0, u "index"), (0, u "J"), (12, u "(Ljava/lang/String;J)V"), (14, .class_ 45), (0, u "com/example/headword/headword/quickdic/Fields")] 28

def k3c0 : Code := { maxStack := 3, maxLocals := 4, code := prog_42_method_1_code, exceptionTable := #[], attributes := #[] }
def k3m0 : Method := { name := "<init>", desc := "(Ljava/lang/String;J)V", sig := { parameters := [(.object "java/lang/String"), .long], returnType := none }, accessFlags := 0, code := some k3c0 }
/-- com/example/headword/headword/quickdic/Fields$Part -/
def k3 : Class := { plain "com/example/headword/headword/quickdic/Fields$Part" (some 2) with
  accessFlags := 48
  interfaces := #[]
  cf := some (fileOf pool3 8 #[.nestHost 44] #[{ accessFlags := 0, nameIndex := 5, descriptorIndex := 29, attributes := #[] }] 48 2 #[] #[{ accessFlags := 18, nameIndex := 11, descriptorIndex := 12, attributes := #[] }, { accessFlags := 18, nameIndex := 15, descriptorIndex := 16, attributes := #[] }])
  fields := #[{ name := "kind", type := (.object "java/lang/String"), accessFlags := 18, slot := 0, constantValue := 0 }, { name := "index", type := .long, accessFlags := 18, slot := 1, constantValue := 0 }]
  methods := #[k3m0]
  instanceTypes := #[(.object "java/lang/String"), .long]
  staticTypes := #[]
  resolved := Array.replicate 74 none
  statics := none }

def pool4 : Array CpInfo := pool [(1, .class_ 2), (0, u "java/io/Serializable"), (0, .class_ 4), (0, u "java/lang/Object")] 2

/-- java/io/Serializable -/
def k4 : Class := { plain "java/io/Serializable" (some 0) with
  accessFlags := 1537
  interfaces := #[]
  cf := some (fileOf pool4 1 #[] #[] 1537 3 #[] #[])
  fields := #[]
  methods := #[]
  instanceTypes := #[]
  staticTypes := #[]
  resolved := Array.replicate 7 none
  statics := none }

def pool5 : Array CpInfo := pool [(1, .class_ 2), (0, u "java/lang/Comparable"), (0, .class_ 4), (0, u "java/lang/Object")] 7

/-- java/lang/Comparable -/
def k5 : Class := { plain "java/lang/Comparable" (some 0) with
  accessFlags := 1537
  interfaces := #[]
  cf := some (fileOf pool5 1 #[] #[] 1537 3 #[] #[])
  fields := #[]
  methods := #[]
  instanceTypes := #[]
  staticTypes := #[]
  resolved := Array.replicate 12 none
  statics := none }

def pool6 : Array CpInfo := pool [(2, .class_ 4), (1, u "java/lang/CharSequence"), (42, .class_ 48), (0, u "java/lang/CharSequence$1CodePointIterator"), (10, .class_ 60), (0, u "java/lang/CharSequence$1CharIterator"), (5, .class_ 67), (0, u "java/lang/Object")] 63

/-- java/lang/CharSequence -/
def k6 : Class := { plain "java/lang/CharSequence" (some 0) with
  accessFlags := 1537
  interfaces := #[]
  cf := some (fileOf pool6 2 #[.nestMembers #[47, 59]] #[] 1537 66 #[] #[])
  fields := #[]
  methods := #[]
  instanceTypes := #[]
  staticTypes := #[]
  resolved := Array.replicate 131 none
  statics := none }

def pool7 : Array CpInfo := pool [(1, .class_ 2), (0, u "java/lang/constant/Constable"), (0, .class_ 4), (0, u "java/lang/Object")] 6

/-- java/lang/constant/Constable -/
def k7 : Class := { plain "java/lang/constant/Constable" (some 0) with
  accessFlags := 1537
  interfaces := #[]
  cf := some (fileOf pool7 1 #[] #[] 1537 3 #[] #[])
  fields := #[]
  methods := #[]
  instanceTypes := #[]
  staticTypes := #[]
  resolved := Array.replicate 11 none
  statics := none }

def pool8 : Array CpInfo := pool [(1, .class_ 2), (0, u "java/lang/constant/ConstantDesc"), (0, .class_ 4), (0, u "java/lang/Object")] 32

/-- java/lang/constant/ConstantDesc -/
def k8 : Class := { plain "java/lang/constant/ConstantDesc" (some 0) with
  accessFlags := 1537
  interfaces := #[]
  cf := some (fileOf pool8 1 #[] #[] 1537 3 #[] #[])
  fields := #[]
  methods := #[]
  instanceTypes := #[]
  staticTypes := #[]
  resolved := Array.replicate 37 none
  statics := none }

def pool9 : Array CpInfo := pool [(2, .class_ 4), (1, u "java/lang/Object"), (0, u "<init>"), (0, u "()V"), (3, .class_ 12), (1, u "java/lang/String"), (0, u "value"), (0, u "[B"), (2, u "coder"), (0, u "B"), (2, u "hash"), (0, u "I"), (2, u "hashIsZero"), (0, u "Z"), (13, u "COMPACT_STRINGS"), (534, .class_ 576), (0, u "java/lang/CharSequence"), (22, u "CASE_INSENSITIVE_ORDER"), (0, u "Ljava/util/Comparator;"), (500, u "serialPersistentFields"), (0, u "[Ljava/io/ObjectStreamField;"), (0, .class_ 1104), (0, u "java/lang/String$CaseInsensitiveComparator"), (1, .class_ 1107), (0, u "java/io/Serializable"), (0, .class_ 1109), (0, u "java/lang/Comparable"), (0, .class_ 1111), (0, u "java/lang/constant/Constable"), (0, .class_ 1113), (0, u "java/lang/constant/ConstantDesc"), (2, u "serialVersionUID"), (0, u "J"), (3, u "REPL"), (0, u "C"), (2, u "LATIN1"), (1, u "UTF16")] 323

def k9m0 : Method := { name := "<init>", desc := "()V", sig := { parameters := [], returnType := none }, accessFlags := 1, code := none }
/-- java/lang/String -/
def k9 : Class := { plain "java/lang/String" (some 0) with
  accessFlags := 49
  interfaces := #[4, 5, 6, 7, 8]
  cf := some (fileOf pool9 10 #[.nestMembers #[1103]] #[{ accessFlags := 1, nameIndex := 5, descriptorIndex := 6, attributes := #[] }] 49 2 #[1106, 1108, 575, 1110, 1112] #[{ accessFlags := 18, nameIndex := 13, descriptorIndex := 14, attributes := #[] }, { accessFlags := 18, nameIndex := 17, descriptorIndex := 18, attributes := #[] }, { accessFlags := 2, nameIndex := 21, descriptorIndex := 22, attributes := #[] }, { accessFlags := 2, nameIndex := 25, descriptorIndex := 26, attributes := #[] }, { accessFlags := 26, nameIndex := 1116, descriptorIndex := 1117, attributes := #[] }, { accessFlags := 24, nameIndex := 40, descriptorIndex := 26, attributes := #[] }, { accessFlags := 26, nameIndex := 1101, descriptorIndex := 1102, attributes := #[] }, { accessFlags := 26, nameIndex := 1121, descriptorIndex := 1122, attributes := #[] }, { accessFlags := 25, nameIndex := 599, descriptorIndex := 600, attributes := #[] }, { accessFlags := 24, nameIndex := 1125, descriptorIndex := 18, attributes := #[] }, { accessFlags := 24, nameIndex := 1127, descriptorIndex := 18, attributes := #[] }])
  fields := #[{ name := "value", type := (.array .byte), accessFlags := 18, slot := 0, constantValue := 0 }, { name := "coder", type := .byte, accessFlags := 18, slot := 1, constantValue := 0 }, { name := "hash", type := .int, accessFlags := 2, slot := 2, constantValue := 0 }, { name := "hashIsZero", type := .boolean, accessFlags := 2, slot := 3, constantValue := 0 }, { name := "serialVersionUID", type := .long, accessFlags := 26, slot := 0, constantValue := 0 }, { name := "COMPACT_STRINGS", type := .boolean, accessFlags := 24, slot := 1, constantValue := 0 }, { name := "serialPersistentFields", type := (.array (.object "java/io/ObjectStreamField")), accessFlags := 26, slot := 2, constantValue := 0 }, { name := "REPL", type := .char, accessFlags := 26, slot := 3, constantValue := 0 }, { name := "CASE_INSENSITIVE_ORDER", type := (.object "java/util/Comparator"), accessFlags := 25, slot := 4, constantValue := 0 }, { name := "LATIN1", type := .byte, accessFlags := 24, slot := 5, constantValue := 0 }, { name := "UTF16", type := .byte, accessFlags := 24, slot := 6, constantValue := 0 }]
  methods := #[k9m0]
  instanceTypes := #[(.array .byte), .byte, .int, .boolean]
  staticTypes := #[.long, .boolean, (.array (.object "java/io/ObjectStreamField")), .char, (.object "java/util/Comparator"), .byte, .byte]
  resolved := Array.replicate 1451 none
  statics := none }

def pool10 : Array CpInfo := pool [(1, .methodref 2 3), (0, .class_ 4), (0, .nameAndType 5 6), (0, u "java/lang/Record"), (0, u "<init>"), (0, u "()V"), (0, .fieldref 8 9), (0, .class_ 10), (0, .nameAndType 11 12), (0, u "com/example/headword/headword/quickdic/ListHead"), (0, u "owner"), (0, u "Lcom/example/headword/headword/quickdic/Fields$Part;"), (0, .fieldref 8 14), (0, .nameAndType 15 16), (0, u "name"), (0, u "Ljava/lang/String;"), (0, .fieldref 8 18), (0, .nameAndType 19 16), (0, u "element"), (0, .fieldref 8 21), (0, .nameAndType 22 23), (0, u "table"), (0, u "J"), (0, .fieldref 8 25), (0, .nameAndType 26 27), (0, u "count"), (0, u "I"), (0, .fieldref 8 29), (0, .nameAndType 30 23), (0, u "end"), (11, u "()J"), (5, .long 8), (20, .methodref 8 70), (0, .nameAndType 71 72), (0, u "data"), (0, u "(JI)J"), (14, u "(Lcom/example/headword/headword/quickdic/Fields$Part;Ljava/lang/String;Ljava/lang/String;JIJ)V"), (28, .class_ 117), (0, u "com/example/headword/headword/quickdic/ListHead$Walk"), (46, u "()I")] 47

def k10c0 : Code := { maxStack := 3, maxLocals := 9, code := prog_43_method_1_code, exceptionTable := #[], attributes := #[] }
def k10m0 : Method := { name := "<init>", desc := "(Lcom/example/headword/headword/quickdic/Fields$Part;Ljava/lang/String;Ljava/lang/String;JIJ)V", sig := { parameters := [(.object "com/example/headword/headword/quickdic/Fields$Part"), (.object "java/lang/String"), (.object "java/lang/String"), .long, .int, .long], returnType := none }, accessFlags := 0, code := some k10c0 }
def k10c1 : Code := { maxStack := 3, maxLocals := 1, code := prog_43_method_4_code, exceptionTable := #[], attributes := #[] }
def k10m1 : Method := { name := "data", desc := "()J", sig := { parameters := [], returnType := some .long }, accessFlags := 0, code := some k10c1 }
def k10c2 : Code := { maxStack := 6, maxLocals := 3, code := prog_43_method_9_code, exceptionTable := #[], attributes := #[] }
def k10m2 : Method := { name := "data", desc := "(JI)J", sig := { parameters := [.long, .int], returnType := some .long }, accessFlags := 10, code := some k10c2 }
def k10c3 : Code := { maxStack := 2, maxLocals := 1, code := prog_43_method_16_code, exceptionTable := #[], attributes := #[] }
def k10m3 : Method := { name := "table", desc := "()J", sig := { parameters := [], returnType := some .long }, accessFlags := 1, code := some k10c3 }
def k10c4 : Code := { maxStack := 1, maxLocals := 1, code := prog_43_method_17_code, exceptionTable := #[], attributes := #[] }
def k10m4 : Method := { name := "count", desc := "()I", sig := { parameters := [], returnType := some .int }, accessFlags := 1, code := some k10c4 }
/-- com/example/headword/headword/quickdic/ListHead -/
def k10 : Class := { plain "com/example/headword/headword/quickdic/ListHead" (some 2) with
  accessFlags := 48
  interfaces := #[]
  cf := some (fileOf pool10 8 #[.nestMembers #[116]] #[{ accessFlags := 0, nameIndex := 5, descriptorIndex := 87, attributes := #[] }, { accessFlags := 0, nameIndex := 71, descriptorIndex := 42, attributes := #[] }, { accessFlags := 10, nameIndex := 71, descriptorIndex := 72, attributes := #[] }, { accessFlags := 1, nameIndex := 22, descriptorIndex := 42, attributes := #[] }, { accessFlags := 1, nameIndex := 26, descriptorIndex := 164, attributes := #[] }] 48 2 #[] #[{ accessFlags := 18, nameIndex := 11, descriptorIndex := 12, attributes := #[] }, { accessFlags := 18, nameIndex := 15, descriptorIndex := 16, attributes := #[] }, { accessFlags := 18, nameIndex := 19, descriptorIndex := 16, attributes := #[] }, { accessFlags := 18, nameIndex := 22, descriptorIndex := 23, attributes := #[] }, { accessFlags := 18, nameIndex := 26, descriptorIndex := 27, attributes := #[] }, { accessFlags := 18, nameIndex := 30, descriptorIndex := 23, attributes := #[] }])
  fields := #[{ name := "owner", type := (.object "com/example/headword/headword/quickdic/Fields$Part"), accessFlags := 18, slot := 0, constantValue := 0 }, { name := "name", type := (.object "java/lang/String"), accessFlags := 18, slot := 1, constantValue := 0 }, { name := "element", type := (.object "java/lang/String"), accessFlags := 18, slot := 2, constantValue := 0 }, { name := "table", type := .long, accessFlags := 18, slot := 3, constantValue := 0 }, { name := "count", type := .int, accessFlags := 18, slot := 4, constantValue := 0 }, { name := "end", type := .long, accessFlags := 18, slot := 5, constantValue := 0 }]
  methods := #[k10m0, k10m1, k10m2, k10m3, k10m4]
  instanceTypes := #[(.object "com/example/headword/headword/quickdic/Fields$Part"), (.object "java/lang/String"), (.object "java/lang/String"), .long, .int, .long]
  staticTypes := #[]
  resolved := Array.replicate 212 none
  statics := none }

def pool11 : Array CpInfo := pool [(1, u "java/lang/Cloneable"), (0, .class_ 1), (0, u "java/lang/Object"), (0, .class_ 3)] 3

/-- java/lang/Cloneable -/
def k11 : Class := { plain "java/lang/Cloneable" (some 0) with
  accessFlags := 1537
  interfaces := #[]
  cf := some (fileOf pool11 2 #[] #[] 1537 4 #[] #[])
  fields := #[]
  methods := #[]
  instanceTypes := #[]
  staticTypes := #[]
  resolved := Array.replicate 8 none
  statics := none }

/-- the primitive byte -/
def k12 : Class := { plain "byte" none with kind := .primitive 'B', accessFlags := 0x411 }
/-- [B -/
def k13 : Class := { plain "[B" (some 0) with kind := .array 12 .byte, interfaces := #[11, 4], accessFlags := 1041 }

/-- the primitive int -/
def k14 : Class := { plain "int" none with kind := .primitive 'I', accessFlags := 0x411 }
/-- [I -/
def k15 : Class := { plain "[I" (some 0) with kind := .array 14 .int, interfaces := #[11, 4], accessFlags := 1041 }

def heap : Heap := #[]
def classes : Array Class := #[k0, k1, k2, k3, k4, k5, k6, k7, k8, k9, k10, k11, k12, k13, k14, k15]
def interned : List (Array UInt16 × Addr) := []
def slotsUsed : Nat := 0
def theMethod : MethodId := ⟨1, 1⟩
def args0 : Array Value := #[.long 5, .int 5, .long 5, .int 5]
def aboutOver (below : List Frame) : State where
  vm := { classes := classes, interned := interned.toArray }
  heap := heap
  slotsUsed := slotsUsed
  threads := #[{ frames := .invoking theMethod args0 :: below }]
def below0 : List Frame := [.native { method := ⟨0, 0⟩, args := #[] }]
def about1 : State := aboutOver below0
def p0 : Program := .bare "" "" ""
def e0 : Env := launch0.env 0 0 0
theorem w_frames : about1.frames = Frame.invoking theMethod args0 :: below0 := rfl
set_option maxRecDepth 65536 in
theorem w_args : argsFit about1.vm theMethod args0 = true := by decide +kernel
set_option maxRecDepth 65536 in
theorem w_heap : heapFits about1 = true := by decide +kernel
set_option maxRecDepth 65536 in
theorem w_runnable : about1.curStatus? = some .runnable := by decide +kernel
set_option maxRecDepth 65536 in
theorem w_alone : about1.alone = true := by decide +kernel
set_option maxRecDepth 65536 in
theorem w_named : about1.methodNamed? x = some theMethod := by decide +kernel
set_option maxRecDepth 65536 in
theorem w_hears : about1.hears theMethod below0 = true := by decide +kernel
set_option maxRecDepth 65536 in
theorem w_ripe : about1.ripe theMethod args0 below0 = true := by decide +kernel
theorem w_running : about1.status = .running := rfl
set_option maxRecDepth 65536 in
theorem w_room : about1.hasRoom e0.platform room_1 = true :=
  launch0.hasRoom_least _ room_1 (by decide +kernel) (by decide +kernel) (by decide +kernel) (by decide +kernel) (by decide +kernel) (by decide +kernel)
theorem allAtoms_all (ts : List Jvm.Cond) (a : Array Jvm.Value) (st : Jvm.State) : (allAtoms ts).before a st = ts.all (fun c => c.before a st) := by
  induction ts with
  | nil => rfl
  | cons c t ih =>
    show (Jvm.Cond.and c (allAtoms t)).before a st = _
    rw [Jvm.Cond.before_and, ih, List.all_cons]
def words1 : List Jvm.Cond := Jvm.Cond.code x code maxLocals ret :: tables_1
/-- a 'code' word, met by the world's own term for the bytes: nothing is compared byte by byte -/
theorem code_word {y : MethodName} {bytes : ByteArray} {mx : Nat} {rt : Option FieldType} {a : Array Value} {s : State} {m : MethodId} {meth : Method} {c : Code} (h1 : s.methodNamed? y = some m) (h2 : s.vm.method? m = some meth) (h3 : meth.code = some c) (h4 : c.code = bytes)
    (h5 : (c.maxLocals == mx && c.exceptionTable.isEmpty && decide (c.maxStack ≤ mostOperands) && decide (meth.sig.returnType = rt) && !meth.locks && decide (parseMethodDescriptor y.desc = some meth.sig)) = true) : (Jvm.Cond.code y bytes mx rt).before a s = true := by
  simp only [Bool.and_eq_true, beq_iff_eq, Bool.not_eq_true', decide_eq_true_eq] at h5
  obtain ⟨⟨⟨⟨⟨g1, g2⟩, g3⟩, g4⟩, g5⟩, g6⟩ := h5
  simp [Cond.before, Cond.holds, Cond.value, h1, h2, h3, h4, g1, g2, g3, g4, g5, g6]
def isCode : Jvm.Cond → Bool
  | .code _ _ _ _ => true
  | _ => false
theorem all_split {L : List Jvm.Cond} {P : Jvm.Cond → Bool} (h1 : L.all (fun c => isCode c || P c) = true) (h2 : ∀ c ∈ L.filter isCode, P c = true) : L.all P = true := by
  refine List.all_eq_true.mpr fun c hc => ?_
  have h := List.all_eq_true.mp h1 c hc
  rcases Bool.eq_false_or_eq_true (isCode c) with hi | hi
  · exact h2 c (List.mem_filter.mpr ⟨hc, hi⟩)
  · simpa [hi] using h
set_option maxRecDepth 65536 in
theorem w_c0 : (Jvm.Cond.code x code maxLocals ret).before args0 about1 = true := code_word (m := ⟨1, 1⟩) (meth := k1m1) (c := k1c1) (by decide +kernel) rfl rfl rfl (by decide +kernel)
set_option maxRecDepth 65536 in
theorem w_c1 : (Jvm.Cond.code ({ cls := "com/example/headword/headword/quickdic/Fields$Part", name := "<init>", desc := "(Ljava/lang/String;J)V" } : Jvm.MethodName) prog_42_method_1_code (4 : Nat) (Option.none : Option Jvm.ClassFile.FieldType)).before args0 about1 = true := code_word (m := ⟨3, 0⟩) (meth := k3m0) (c := k3c0) (by decide +kernel) rfl rfl rfl (by decide +kernel)
set_option maxRecDepth 65536 in
theorem w_c2 : (Jvm.Cond.code ({ cls := "java/lang/Record", name := "<init>", desc := "()V" } : Jvm.MethodName) jdk_30_method_1_code (1 : Nat) (Option.none : Option Jvm.ClassFile.FieldType)).before args0 about1 = true := code_word (m := ⟨2, 0⟩) (meth := k2m0) (c := k2c0) (by decide +kernel) rfl rfl rfl (by decide +kernel)
set_option maxRecDepth 65536 in
theorem w_c3 : (Jvm.Cond.code ({ cls := "java/lang/Object", name := "<init>", desc := "()V" } : Jvm.MethodName) object_method_1_code (1 : Nat) (Option.none : Option Jvm.ClassFile.FieldType)).before args0 about1 = true := code_word (m := ⟨0, 0⟩) (meth := k0m0) (c := k0c0) (by decide +kernel) rfl rfl rfl (by decide +kernel)
set_option maxRecDepth 65536 in
theorem w_c4 : (Jvm.Cond.code ({ cls := "com/example/headword/headword/quickdic/ListHead", name := "<init>", desc := "(Lcom/example/headword/headword/quickdic/Fields$Part;Ljava/lang/String;Ljava/lang/String;JIJ)V" } : Jvm.MethodName) prog_43_method_1_code (9 : Nat) (Option.none : Option Jvm.ClassFile.FieldType)).before args0 about1 = true := code_word (m := ⟨10, 0⟩) (meth := k10m0) (c := k10c0) (by decide +kernel) rfl rfl rfl (by decide +kernel)
set_option maxRecDepth 65536 in
theorem w_c5 : (Jvm.Cond.code ({ cls := "com/example/headword/headword/quickdic/ListHead", name := "data", desc := "()J" } : Jvm.MethodName) prog_43_method_4_code (1 : Nat) (Option.some Jvm.ClassFile.FieldType.long)).before args0 about1 = true := code_word (m := ⟨10, 1⟩) (meth := k10m1) (c := k10c1) (by decide +kernel) rfl rfl rfl (by decide +kernel)
set_option maxRecDepth 65536 in
theorem w_c6 : (Jvm.Cond.code ({ cls := "com/example/headword/headword/quickdic/ListHead", name := "data", desc := "(JI)J" } : Jvm.MethodName) prog_43_method_9_code (3 : Nat) (Option.some Jvm.ClassFile.FieldType.long)).before args0 about1 = true := code_word (m := ⟨10, 2⟩) (meth := k10m2) (c := k10c2) (by decide +kernel) rfl rfl rfl (by decide +kernel)
set_option maxRecDepth 65536 in
theorem w_c7 : (Jvm.Cond.code ({ cls := "com/example/headword/headword/quickdic/ListHead", name := "table", desc := "()J" } : Jvm.MethodName) prog_43_method_16_code (1 : Nat) (Option.some Jvm.ClassFile.FieldType.long)).before args0 about1 = true := code_word (m := ⟨10, 3⟩) (meth := k10m3) (c := k10c3) (by decide +kernel) rfl rfl rfl (by decide +kernel)
set_option maxRecDepth 65536 in
theorem w_c8 : (Jvm.Cond.code ({ cls := "com/example/headword/headword/quickdic/ListHead", name := "count", desc := "()I" } : Jvm.MethodName) prog_43_method_17_code (1 : Nat) (Option.some Jvm.ClassFile.FieldType.int)).before args0 about1 = true := code_word (m := ⟨10, 4⟩) (meth := k10m4) (c := k10c4) (by decide +kernel) rfl rfl rfl (by decide +kernel)
def codes1 : List Jvm.Cond := [Jvm.Cond.code x code maxLocals ret, Jvm.Cond.code ({ cls := "com/example/headword/headword/quickdic/Fields$Part", name := "<init>", desc := "(Ljava/lang/String;J)V" } : Jvm.MethodName) prog_42_method_1_code (4 : Nat) (Option.none : Option Jvm.ClassFile.FieldType), Jvm.Cond.code ({ cls := "java/lang/Record", name := "<init>", desc := "()V" } : Jvm.MethodName) jdk_30_method_1_code (1 : Nat) (Option.none : Option Jvm.ClassFile.FieldType), Jvm.Cond.code ({ cls := "java/lang/Object", name := "<init>", desc := "()V" } : Jvm.MethodName) object_method_1_code (1 : Nat) (Option.none : Option Jvm.ClassFile.FieldType), Jvm.Cond.code ({ cls := "com/example/headword/headword/quickdic/ListHead", name := "<init>", desc := "(Lcom/example/headword/headword/quickdic/Fields$Part;Ljava/lang/String;Ljava/lang/String;JIJ)V" } : Jvm.MethodName) prog_43_method_1_code (9 : Nat) (Option.none : Option Jvm.ClassFile.FieldType), Jvm.Cond.code ({ cls := "com/example/headword/headword/quickdic/ListHead", name := "data", desc := "()J" } : Jvm.MethodName) prog_43_method_4_code (1 : Nat) (Option.some Jvm.ClassFile.FieldType.long), Jvm.Cond.code ({ cls := "com/example/headword/headword/quickdic/ListHead", name := "data", desc := "(JI)J" } : Jvm.MethodName) prog_43_method_9_code (3 : Nat) (Option.some Jvm.ClassFile.FieldType.long), Jvm.Cond.code ({ cls := "com/example/headword/headword/quickdic/ListHead", name := "table", desc := "()J" } : Jvm.MethodName) prog_43_method_16_code (1 : Nat) (Option.some Jvm.ClassFile.FieldType.long), Jvm.Cond.code ({ cls := "com/example/headword/headword/quickdic/ListHead", name := "count", desc := "()I" } : Jvm.MethodName) prog_43_method_17_code (1 : Nat) (Option.some Jvm.ClassFile.FieldType.int)]
set_option maxRecDepth 65536 in
theorem codes_eq : words1.filter isCode = codes1 := rfl
theorem w_codes : ∀ c ∈ words1.filter isCode, c.before args0 about1 = true := by
  rw [codes_eq]
  intro c hc
  simp only [codes1, List.mem_cons, List.not_mem_nil, or_false] at hc
  rcases hc with rfl | rfl | rfl | rfl | rfl | rfl | rfl | rfl | rfl
  · exact w_c0
  · exact w_c1
  · exact w_c2
  · exact w_c3
  · exact w_c4
  · exact w_c5
  · exact w_c6
  · exact w_c7
  · exact w_c8
set_option maxRecDepth 65536 in
theorem w_t1 : (words1.take 24).all (fun c => isCode c || c.before args0 about1) = true := by decide +kernel
set_option maxRecDepth 65536 in
theorem w_t2 : ((words1.drop 24).take 24).all (fun c => isCode c || c.before args0 about1) = true := by decide +kernel
set_option maxRecDepth 65536 in
theorem w_t3 : ((words1.drop 24).drop 24).all (fun c => isCode c || c.before args0 about1) = true := by decide +kernel
theorem w_tables : (allAtoms (Jvm.Cond.code x code maxLocals ret :: tables_1)).before args0 about1 = true := by
  rw [allAtoms_all]
  show words1.all (fun c => c.before args0 about1) = true
  refine all_split ?_ w_codes
  rw [← List.take_append_drop 24 words1, List.all_append, w_t1, ← List.take_append_drop 24 (words1.drop 24), List.all_append, w_t2, w_t3]
  rfl
set_option maxRecDepth 65536 in
theorem w_case : (Jvm.Cond.and given_1 narrow_1).before args0 about1 = true := by decide +kernel
theorem w_applies : (headSpec (Jvm.Cond.code x code maxLocals ret :: tables_1) room_1).applies x e0.platform about1 = true :=
  (Spec.applies_iff w_frames).mpr ⟨w_running, w_runnable, w_alone, w_named, w_hears, w_ripe, w_room, w_tables⟩
theorem atStart : AtStart classFile x code maxLocals ret World_1 tables_1 room_1 Calls_1 rest_1 Pre_1 launch0 p0 e0 about1 theMethod args0 below0 :=
  ⟨lists_1, trivial, launch0.admits_env _ _ _, launch0.least_env, fairChoices_fair.cas, fairChoices_fair.clock, w_frames, w_args, w_heap, w_applies, trivial, trivial, w_case⟩
end start1
theorem witness_1 : WitnessClaimed_1 := ⟨start1.p0, start1.e0, start1.about1, start1.theMethod, start1.args0, start1.below0, start1.atStart⟩
end Jvm.Pilot.@@N@@
