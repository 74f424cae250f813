import JvmDerived
import JvmDerived.Pilot.@@N@@Statement
import JvmDerived.Pilot.@@N@@Code
set_option linter.unusedVariables false
set_option linter.unusedSimpArgs false
namespace Jvm.Pilot.@@N@@
open Jvm Jvm.ClassFile Sem Op Lib Jvm.Free Jvm.Stand Jvm.LawKit Jvm.RoadKit Bundle Jvm.Pilot.@@N@@.Jvm.D
/-- from S the run goes on below 'below', ends, and E holds of the end -/
def Go (tb : Tables) (e : Env) (below : List Frame) (E : State → Outcome → Prop) (S : State) : Prop := ∃ s₂ o, Steps tb e below S s₂ ∧ s₂.status = .running ∧ Ended s₂ below o ∧ E s₂ o
theorem Go.via {tb : Tables} {e : Env} {below : List Frame} {E : State → Outcome → Prop} {S S' : State} (k : ∀ t, Steps tb e below S' t → Steps tb e below S t) (h : Go tb e below E S') : Go tb e below E S := by
  obtain ⟨a, b, c, d⟩ := h; exact ⟨a, b, k _ c, d⟩
/-- a body's contract, short -/
abbrev MetP (l : Launch) (y : MethodName) (bytes : ByteArray) (maxL : Nat) (ret : Option FieldType) (ws : List Jvm.Cond) (rm : Room) (Z : State) (as' : Array Value) (h0 : Heap) (Q : Option Value → Heap → List Loc → Prop) : Prop :=
  MetFree l y (head1 (Jvm.Cond.code y bytes maxL ret :: ws) rm) (fun a U => a = as' ∧ Z.Warmed39 U.vm ∧ U.heap = h0) (fun _ _ _ _ _ => True) (fun _ U o U' => ∃ v L, o = .returned v ∧ Q v U'.heap L ∧ FrameEnd U o U' L rm.cells rm.slots)
/-- it returned r and wrote and made nothing -/
def Pure (r : Value) (h0 : Heap) (v : Option Value) (h : Heap) (L : List Loc) : Prop := v = some r ∧ L = [] ∧ h = h0
abbrev EndE (s : State) (rm : Room) (Q : Option Value → Heap → List Loc → Prop) : State → Outcome → Prop := fun s₂ o => ∃ v L, o = .returned v ∧ Q v s₂.heap L ∧ FrameEnd s o s₂ L rm.cells rm.slots
theorem met_go {l : Launch} {y : MethodName} {bytes : ByteArray} {maxL : Nat} {ret : Option FieldType} {ws : List Jvm.Cond} {rm : Room} {Z : State} {as' : Array Value} {h0 : Heap} {Q : Option Value → Heap → List Loc → Prop} (hpl : plainFor y = true)
    (body : ∀ (p : Program) (e : Env) (s : State) (m : MethodId) (below : List Frame) (meth : Method) (c : Code) (s₁ : State), p.tables.exec = Jvm.exec → c.code = bytes → c.maxLocals = maxL → s.vm.findClass y.cls = some m.cls → meth.name = y.name → meth.sig.returnType = ret → meth.locks = false → Z.Warmed39 s.vm → s₁.heap = h0 →
      Stand p l e rm s m as' below meth c s₁ [] 0 0 → Go p.tables e below (EndE s rm Q) (s₁.setTop (entryFrame m as' maxL))) : MetP l y bytes maxL ret ws rm Z as' h0 Q := by
  refine MetFree.of_bodySF hpl hisR ?_
  intro p e s m args below meth c s₁ Bd hml hP hK
  obtain ⟨rfl, hZ, hh⟩ := hP
  exact body p e s m below meth c s₁ Bd.exec Bd.bytes hml (findClass_of_methodNamed Bd.named) (name_of_methodNamed Bd.named Bd.method).1 Bd.returns Bd.notSynchronized hZ (by rw [← hh, Bd.state]; rfl) (Stand.of_body Bd)
abbrev EndW (s : State) (rm : Room) (Q : Option Value → Heap → List Loc → Prop) : State → Outcome → Prop := fun s₂ o => ∃ v L, o = .returned v ∧ Q v s₂.heap L ∧ ReturnedEndW s o s₂ L rm.cells rm.slots
theorem met_goW {l : Launch} {y : MethodName} {bytes : ByteArray} {maxL : Nat} {ret : Option FieldType} {ws : List Jvm.Cond} {rm : Room} {Z : State} {as' : Array Value} {h0 : Heap} {Q : Option Value → Heap → List Loc → Prop} (hpl : plainFor y = true)
    (body : ∀ (p : Program) (e : Env) (s : State) (m : MethodId) (below : List Frame) (meth : Method) (c : Code) (s₁ : State), p.tables.exec = Jvm.exec → c.code = bytes → c.maxLocals = maxL → s.vm.findClass y.cls = some m.cls → meth.name = y.name → meth.sig.returnType = ret → meth.locks = false → Z.Warmed39 s.vm → s₁.heap = h0 →
      Stand p l e rm s m as' below meth c s₁ [] 0 0 → Go p.tables e below (EndW s rm Q) (s₁.setTop (entryFrame m as' maxL))) : MetFree l y (head1 (Jvm.Cond.code y bytes maxL ret :: ws) rm) (fun a U => a = as' ∧ Z.Warmed39 U.vm ∧ U.heap = h0) (fun _ _ _ _ _ => True) (fun _ U o U' => ∃ v L, o = .returned v ∧ Q v U'.heap L ∧ ReturnedEndW U o U' L rm.cells rm.slots) := by
  refine MetFree.of_bodySF hpl hisR ?_
  intro p e s m args below meth c s₁ Bd hml hP hK
  obtain ⟨rfl, hZ, hh⟩ := hP
  exact body p e s m below meth c s₁ Bd.exec Bd.bytes hml (findClass_of_methodNamed Bd.named) (name_of_methodNamed Bd.named Bd.method).1 Bd.returns Bd.notSynchronized hZ (by rw [← hh, Bd.state]; rfl) (Stand.of_body Bd)
theorem met_goZ {l : Launch} {y : MethodName} {bytes : ByteArray} {maxL : Nat} {ret : Option FieldType} {ws : List Jvm.Cond} {rm : Room} {Z : State} {as' : Array Value} {Q : Option Value → Heap → List Loc → Prop} (hpl : plainFor y = true)
    (body : ∀ (p : Program) (e : Env) (s : State) (m : MethodId) (below : List Frame) (meth : Method) (c : Code) (s₁ : State), p.tables.exec = Jvm.exec → c.code = bytes → c.maxLocals = maxL → s.vm.findClass y.cls = some m.cls → meth.name = y.name → meth.sig.returnType = ret → meth.locks = false → s = Z → s₁.heap = Z.heap →
      Stand p l e rm s m as' below meth c s₁ [] 0 0 → Go p.tables e below (EndW s rm Q) (s₁.setTop (entryFrame m as' maxL))) : MetFree l y (head1 (Jvm.Cond.code y bytes maxL ret :: ws) rm) (fun a U => a = as' ∧ U = Z) (fun _ _ _ _ _ => True) (fun _ U o U' => ∃ v L, o = .returned v ∧ Q v U'.heap L ∧ ReturnedEndW U o U' L rm.cells rm.slots) := by
  refine MetFree.of_bodySF hpl hisR ?_
  intro p e s m args below meth c s₁ Bd hml hP hK
  obtain ⟨rfl, hZ⟩ := hP
  exact body p e s m below meth c s₁ Bd.exec Bd.bytes hml (findClass_of_methodNamed Bd.named) (name_of_methodNamed Bd.named Bd.method).1 Bd.returns Bd.notSynchronized hZ (by rw [← hZ, Bd.state]; rfl) (Stand.of_body Bd)
section OwnKit
variable {p : Program} {l : Launch} {e : Env} {R : Room} {s : State} {m : MethodId} {args : Array Value} {below : List Frame} {meth : Method} {c : Code} {T : State} {locs : List Loc} {cells slots : Nat} {E : State → Outcome → Prop} {Z : State} {a0 : Array Value} {h : Heap} {pc : Nat} {Ls Ls' : Array Slot} {st : List Value}
theorem o_lload (pc' : Nat) (X : Stand p l e R s m args below meth c T locs cells slots) (hx : p.tables.exec = Jvm.exec) (hpc : pc + 2 = pc') {k : Nat} {v : Int64} (hd : decode c.code pc = .ok (.lload k, 2)) (hl : Ls[k]? = some (.val (.long v))) (h : Go p.tables e below E (T.setTop (mkF m pc' Ls ((.long v) :: st)))) : Go p.tables e below E (T.setTop (mkF m pc Ls st)) := by
  subst hpc; exact Go.via (fun _ k => XS.lload X.here hx rfl hd hl k) h
theorem o_lloadN (pc' : Nat) (X : Stand p l e R s m args below meth c T locs cells slots) (hx : p.tables.exec = Jvm.exec) (hpc : pc + 1 = pc') {k : Fin 4} {v : Int64} (hd : decode c.code pc = .ok (.lload_n k, 1)) (hl : Ls[k.val]? = some (.val (.long v))) (h : Go p.tables e below E (T.setTop (mkF m pc' Ls ((.long v) :: st)))) : Go p.tables e below E (T.setTop (mkF m pc Ls st)) := by
  subst hpc; exact Go.via (fun _ k => XS.lloadN X.here hx rfl hd hl k) h
theorem o_aloadN (pc' : Nat) (X : Stand p l e R s m args below meth c T locs cells slots) (hx : p.tables.exec = Jvm.exec) (hpc : pc + 1 = pc') {k : Fin 4} {v : Value} (hd : decode c.code pc = .ok (.aload_n k, 1)) (hl : Ls[k.val]? = some (.val v)) (hv : v.isRef = true) (h : Go p.tables e below E (T.setTop (mkF m pc' Ls (v :: st)))) : Go p.tables e below E (T.setTop (mkF m pc Ls st)) := by
  subst hpc; exact Go.via (fun _ k => XS.aloadN X.here hx rfl hd hl hv k) h
theorem o_lstore (pc' : Nat) (X : Stand p l e R s m args below meth c T locs cells slots) (hx : p.tables.exec = Jvm.exec) (hpc : pc + 2 = pc') {k : Nat} {v : Int64} (hd : decode c.code pc = .ok (.lstore k, 2)) (Ls' : Array Slot) (hl : storeLocals Ls k (.long v) = some Ls') (h : Go p.tables e below E (T.setTop (mkF m pc' Ls' st))) : Go p.tables e below E (T.setTop (mkF m pc Ls ((.long v) :: st))) := by
  subst hpc; exact Go.via (fun _ k => XS.lstore X.here hx rfl hd rfl hl k) h
theorem o_lstoreN (pc' : Nat) (X : Stand p l e R s m args below meth c T locs cells slots) (hx : p.tables.exec = Jvm.exec) (hpc : pc + 1 = pc') {k : Fin 4} {v : Int64} (hd : decode c.code pc = .ok (.lstore_n k, 1)) (Ls' : Array Slot) (hl : storeLocals Ls k.val (.long v) = some Ls') (h : Go p.tables e below E (T.setTop (mkF m pc' Ls' st))) : Go p.tables e below E (T.setTop (mkF m pc Ls ((.long v) :: st))) := by
  subst hpc; exact Go.via (fun _ k => XS.lstoreN X.here hx rfl hd rfl hl k) h
theorem o_astoreN (pc' : Nat) (X : Stand p l e R s m args below meth c T locs cells slots) (hx : p.tables.exec = Jvm.exec) (hpc : pc + 1 = pc') {k : Fin 4} {v : Value} (hd : decode c.code pc = .ok (.astore_n k, 1)) (hv : v.isRef = true) (Ls' : Array Slot) (hl : storeLocals Ls k.val v = some Ls') (h : Go p.tables e below E (T.setTop (mkF m pc' Ls' st))) : Go p.tables e below E (T.setTop (mkF m pc Ls (v :: st))) := by
  subst hpc; exact Go.via (fun _ k => XS.astoreN X.here hx rfl hd rfl hv hl k) h
theorem o_iconst (pc' : Nat) (X : Stand p l e R s m args below meth c T locs cells slots) (hx : p.tables.exec = Jvm.exec) (hpc : pc + 1 = pc') {i : Int} (hd : decode c.code pc = .ok (.iconst i, 1)) (v : Int32) (hv : Int32.ofInt i = v) (h : Go p.tables e below E (T.setTop (mkF m pc' Ls (.int v :: st)))) : Go p.tables e below E (T.setTop (mkF m pc Ls st)) := by
  subst hpc; exact Go.via (fun _ k => XS.iconst X.here hx rfl hd (by rw [hv]; exact k)) h
theorem o_bipush (pc' : Nat) (X : Stand p l e R s m args below meth c T locs cells slots) (hx : p.tables.exec = Jvm.exec) (hpc : pc + 2 = pc') {i : Int} (hd : decode c.code pc = .ok (.bipush i, 2)) (v : Int32) (hv : (Int8.ofInt i).toInt32 = v) (h : Go p.tables e below E (T.setTop (mkF m pc' Ls (.int v :: st)))) : Go p.tables e below E (T.setTop (mkF m pc Ls st)) := by
  subst hpc; exact Go.via (fun _ k => XS.bipush X.here hx rfl hd (by rw [hv]; exact k)) h
theorem o_ldc2Long (pc' : Nat) (X : Stand p l e R s m args below meth c T locs cells slots) (hx : p.tables.exec = Jvm.exec) (hpc : pc + 3 = pc') (hZ : Z.Warmed39 s.vm) {own : String} {index : Nat} (hown : s.vm.findClass own = some m.cls) {v : Int64} (w : (Jvm.Cond.constantLong own index v).before a0 Z = true) (hd : decode c.code pc = .ok (.ldc2_w index, 3)) (h : Go p.tables e below E (T.setTop (mkF m pc' Ls (.long v :: st)))) : Go p.tables e below E (T.setTop (mkF m pc Ls st)) := by
  subst hpc; exact Go.via (fun _ k => X.ldc2Long hx hown (mvT hZ w) (g := mkF m pc Ls st) rfl hd _ k) h
theorem o_ladd (pc' : Nat) (X : Stand p l e R s m args below meth c T locs cells slots) (hx : p.tables.exec = Jvm.exec) (hpc : pc + 1 = pc') {x : Int64} {y : Int64} (hd : decode c.code pc = .ok (.ladd, 1)) (h : Go p.tables e below E (T.setTop (mkF m pc' Ls (.long (x + y) :: st)))) : Go p.tables e below E (T.setTop (mkF m pc Ls (.long y :: .long x :: st))) := by
  subst hpc; exact Go.via (fun _ k => XS.ladd X.here hx rfl hd rfl k) h
theorem o_lmul (pc' : Nat) (X : Stand p l e R s m args below meth c T locs cells slots) (hx : p.tables.exec = Jvm.exec) (hpc : pc + 1 = pc') {x : Int64} {y : Int64} (hd : decode c.code pc = .ok (.lmul, 1)) (h : Go p.tables e below E (T.setTop (mkF m pc' Ls (.long (x * y) :: st)))) : Go p.tables e below E (T.setTop (mkF m pc Ls (.long y :: .long x :: st))) := by
  subst hpc; exact Go.via (fun _ k => XS.lmul X.here hx rfl hd rfl k) h
theorem o_lxor (pc' : Nat) (X : Stand p l e R s m args below meth c T locs cells slots) (hx : p.tables.exec = Jvm.exec) (hpc : pc + 1 = pc') {x : Int64} {y : Int64} (hd : decode c.code pc = .ok (.lxor, 1)) (h : Go p.tables e below E (T.setTop (mkF m pc' Ls (.long (x ^^^ y) :: st)))) : Go p.tables e below E (T.setTop (mkF m pc Ls (.long y :: .long x :: st))) := by
  subst hpc; exact Go.via (fun _ k => XS.lxor X.here hx rfl hd rfl k) h
theorem o_lushr (pc' : Nat) (X : Stand p l e R s m args below meth c T locs cells slots) (hx : p.tables.exec = Jvm.exec) (hpc : pc + 1 = pc') {x : Int64} {y : Int32} (hd : decode c.code pc = .ok (.lushr, 1)) (h : Go p.tables e below E (T.setTop (mkF m pc' Ls (.long ((x.toUInt64 >>> (y &&& 0x3f).toInt64.toUInt64).toInt64) :: st)))) : Go p.tables e below E (T.setTop (mkF m pc Ls (.int y :: .long x :: st))) := by
  subst hpc; exact Go.via (fun _ k => XS.lushr X.here hx rfl hd rfl k) h
theorem o_lcmp (pc' : Nat) (X : Stand p l e R s m args below meth c T locs cells slots) (hx : p.tables.exec = Jvm.exec) (hpc : pc + 1 = pc') {x y : Int64} (hd : decode c.code pc = .ok (.lcmp, 1)) (h : Go p.tables e below E (T.setTop (mkF m pc' Ls (.int (lcmpW x y) :: st)))) : Go p.tables e below E (T.setTop (mkF m pc Ls (.long y :: .long x :: st))) := by
  subst hpc; exact Go.via (fun _ k => XS.lcmp X.here hx rfl hd rfl k) h
theorem o_dup (pc' : Nat) (X : Stand p l e R s m args below meth c T locs cells slots) (hx : p.tables.exec = Jvm.exec) (hpc : pc + 1 = pc') {v : Value} (hd : decode c.code pc = .ok (.dup, 1)) (hv : v.category = 1) (h : Go p.tables e below E (T.setTop (mkF m pc' Ls (v :: v :: st)))) : Go p.tables e below E (T.setTop (mkF m pc Ls (v :: st))) := by
  subst hpc; exact Go.via (fun _ k => XS.dup X.here hx rfl hd rfl hv k) h
theorem o_goto (pc' : Nat) (X : Stand p l e R s m args below meth c T locs cells slots) (hx : p.tables.exec = Jvm.exec) {o : Int} (hd : decode c.code pc = .ok (.goto o, 3)) (ho : 0 ≤ (pc : Int) + o) (hp : ((pc : Int) + o).toNat = pc') (h : Go p.tables e below E (T.setTop (mkF m pc' Ls st))) : Go p.tables e below E (T.setTop (mkF m pc Ls st)) := by
  exact Go.via (fun _ k => XS.goto X.here hx rfl (pc0 := pc) (pc' := pc') rfl hd ho hp k) h
theorem o_ifYes (pc' : Nat) (X : Stand p l e R s m args below meth c T locs cells slots) (hx : p.tables.exec = Jvm.exec) {cd : ClassFile.Cond} {x : Int32} {o : Int} (hd : decode c.code pc = .ok (.ifCond cd o, 3)) (hc : if_icmp.holds cd x 0 = true) (ho : 0 ≤ (pc : Int) + o) (hp : ((pc : Int) + o).toNat = pc') (h : Go p.tables e below E (T.setTop (mkF m pc' Ls st))) : Go p.tables e below E (T.setTop (mkF m pc Ls (.int x :: st))) := by
  exact Go.via (fun _ k => XS.ifYes X.here hx rfl (pc0 := pc) (pc' := pc') rfl hd rfl ((if0 _ _).trans hc) ho hp k) h
theorem o_ifNo (pc' : Nat) (X : Stand p l e R s m args below meth c T locs cells slots) (hx : p.tables.exec = Jvm.exec) (hpc : pc + 3 = pc') {cd : ClassFile.Cond} {x : Int32} {o : Int} (hd : decode c.code pc = .ok (.ifCond cd o, 3)) (hc : if_icmp.holds cd x 0 = false) (h : Go p.tables e below E (T.setTop (mkF m pc' Ls st))) : Go p.tables e below E (T.setTop (mkF m pc Ls (.int x :: st))) := by
  subst hpc; exact Go.via (fun _ k => XS.ifNo X.here hx rfl hd rfl ((if0 _ _).trans hc) k) h
theorem o_out (X : Stand p l e R s m args below meth c T locs cells slots) (hx : p.tables.exec = Jvm.exec) {rm : Room} {Q : Option Value → Heap → List Loc → Prop} {v : Option Value} (hv : meth.sig.returnType = none → v = none) (hlk : meth.locks = false) {g : JFrame}
    (hst : ∀ fs, (∀ (f : JFrame) (acts : List Action), f.method = m → f.locked = none → f.entered = [] → (doReturn e (T.setTop f) acts v).1 = T.setFrames fs) → Steps p.tables e below (T.setTop g) (T.setFrames fs)) (hq : Q v T.heap locs) (hk : cells ≤ rm.cells) (hn : slots ≤ rm.slots) : Go p.tables e below (EndE s rm Q) (T.setTop g) := by
  obtain ⟨fs, hr, hrun, hended, hW, hsame⟩ := X.leave (v := v) hv hlk
  exact ⟨_, _, hst fs hr, hrun, hended, _, _, rfl, hq, ⟨_, rfl⟩, hW, hsame.mono hk hn⟩
theorem o_retJ (X : Stand p l e R s m args below meth c T locs cells slots) (hx : p.tables.exec = Jvm.exec) {z : Int64} {rm : Room} {Q : Option Value → Heap → List Loc → Prop} (hret : meth.sig.returnType = some .long) (hlk : meth.locks = false) (hd : decode c.code pc = .ok (.lreturn, 1)) (hk : cells ≤ rm.cells) (hn : slots ≤ rm.slots) (hq : Q (some (.long z)) T.heap locs) : Go p.tables e below (EndE s rm Q) (T.setTop (mkF m pc Ls (.long z :: st))) :=
  o_out X hx (fun q => by rw [hret] at q; cases q) hlk (fun fs hr => retOut X hx hret rfl (Or.inr (Or.inl ⟨rfl, rfl, z, rfl⟩)) hd hr) hq hk hn
theorem o_retN (X : Stand p l e R s m args below meth c T locs cells slots) (hx : p.tables.exec = Jvm.exec) {z : Int32} (t : FieldType) (ht : t = .boolean ∨ t = .byte ∨ t = .char ∨ t = .short) {rm : Room} {Q : Option Value → Heap → List Loc → Prop} (hret : meth.sig.returnType = some t) (hlk : meth.locks = false) (hd : decode c.code pc = .ok (.ireturn, 1)) (hk : cells ≤ rm.cells) (hn : slots ≤ rm.slots) (hq : Q (some (.int (nar t z))) T.heap locs) : Go p.tables e below (EndE s rm Q) (T.setTop (mkF m pc Ls (.int z :: st))) :=
  o_out X hx (fun q => by rw [hret] at q; cases q) hlk (fun fs hr => retN X hx hret ht hd hr) hq hk hn
theorem o_retV (X : Stand p l e R s m args below meth c T locs cells slots) (hx : p.tables.exec = Jvm.exec) {rm : Room} {Q : Option Value → Heap → List Loc → Prop} (hret : meth.sig.returnType = none) (hlk : meth.locks = false) (hd : decode c.code pc = .ok (.return_, 1)) (hk : cells ≤ rm.cells) (hn : slots ≤ rm.slots) (hq : Q none T.heap locs) : Go p.tables e below (EndE s rm Q) (T.setTop (mkF m pc Ls [])) :=
  o_out X hx (fun _ => rfl) hlk (fun fs hr => X.returnOut hx hret hd hr) hq hk hn
theorem o_getF (pc' : Nat) (X : Stand p l e R s m args below meth c T locs cells slots) (hx : p.tables.exec = Jvm.exec) (hpc : pc + 3 = pc') (hZ : Z.Warmed39 s.vm) {own R0 O n d : String} {index : Nat} (hown : s.vm.findClass own = some m.cls) (w : (Jvm.Cond.fieldLink own index R0 n d).before a0 Z = true) (via : Via Z R0 O n d) (eT : T.heap = h) {a : Addr} {v : Value} (F : Fld Z h a O n d v) (hd : decode c.code pc = .ok (.getfield index, 3))
    (k : ∀ (T' : State), Stand p l e R s m args below meth c T' locs cells slots → T'.heap = h → Go p.tables e below E (T'.setTop (mkF m pc' Ls (v :: st)))) : Go p.tables e below E (T.setTop (mkF m pc Ls (.ref a :: st))) := by
  subst hpc
  obtain ⟨T', X', e', st'⟩ := getF X hx hZ hown (host := "") (Or.inl w) via eT F (g := mkF m pc Ls (.ref a :: st)) rfl rfl hd
  exact Go.via st' (k T' X' e')
theorem o_putF (pc' : Nat) (X : Stand p l e R s m args below meth c T locs cells slots) (hx : p.tables.exec = Jvm.exec) (hpc : pc + 3 = pc') (hZ : Z.Warmed39 s.vm) {own R0 O n d C : String} {index kk : Nat} (ty : FieldType) (hown : s.vm.findClass own = some m.cls) (w : (Jvm.Cond.fieldLink own index R0 n d).before a0 Z = true) (via : Via Z R0 O n d) (eT : T.heap = h) {a : Addr} {v old : Value} (F : Fld Z h a O n d old) (X2 : Exa Z h a C)
    (L : (Jvm.Cond.lays C O n d).before a0 Z = true ∨ ((Jvm.Cond.laysFinal C O n d).before a0 Z = true ∧ own = O ∧ meth.name = "<init>")) (wi : (Jvm.Cond.instantiable C kk).before a0 Z = true) (hty : parseFieldDescriptor d = some ty) (hn : narrow ty v = v) (hf : fits ty v = true) {n0 : Nat} (N : Fr n0 locs) (ga : n0 ≤ a) (hd : decode c.code pc = .ok (.putfield index, 3))
    (k : ∀ (T' : State) (h' : Heap) (L' : List Loc), Stand p l e R s m args below meth c T' L' cells slots → Fr n0 L' → T'.heap = h' → Wr h h' a (Jvm.RoadKit.slotOf Z O n d) v → Go p.tables e below E (T'.setTop (mkF m pc' Ls st))) : Go p.tables e below E (T.setTop (mkF m pc Ls (v :: .ref a :: st))) := by
  subst hpc
  obtain ⟨T', h', X', e', W', st'⟩ := putF X hx hZ hown (host := "") (Or.inl w) via eT F X2 L wi hty hn hf (g := mkF m pc Ls (v :: .ref a :: st)) rfl rfl hd
  exact Go.via st' (k T' h' _ X' (Fr.snoc X' N ga) e' W')
theorem o_new (pc' : Nat) (X : Stand p l e R s m args below meth c T locs cells slots) (hx : p.tables.exec = Jvm.exec) (hpc : pc + 3 = pc') (hZ : Z.Warmed39 s.vm) {own C : String} {index n : Nat} (hown : s.vm.findClass own = some m.cls) (w : (Jvm.Cond.classLink own index C).before a0 Z = true) (wi : (Jvm.Cond.instantiable C n).before a0 Z = true) (wz : (Jvm.Cond.initialized C).before a0 Z = true) (eT : T.heap = h) (hd : decode c.code pc = .ok (.new index, 3)) (hc : cells + 1 ≤ R.cells) (hl : slots + n ≤ R.slots)
    (k : ∀ (T' : State) (h' : Heap) (a : Addr), a = h.size → Stand p l e R s m args below meth c T' locs (cells + 1) (slots + n) → T'.heap = h' → Ext h h' → Exa Z h' a C → (∀ {O nm d : String} {ty : FieldType}, Laid Z a0 C O nm d → parseFieldDescriptor d = some ty → Fld Z h' a O nm d (defaultValue ty)) → Go p.tables e below E (T'.setTop (mkF m pc' Ls (.ref a :: st)))) : Go p.tables e below E (T.setTop (mkF m pc Ls st)) := by
  subst hpc
  obtain ⟨T', h', X', e', E', A', D', -, st'⟩ := newO X hx hZ hown w wi wz eT (g := mkF m pc Ls st) rfl hd hc hl
  exact Go.via st' (k T' h' h.size rfl X' e' E' A' D')
theorem o_initO (pc' : Nat) (X : Stand p l e R s m args below meth c T locs cells slots) (hx : p.tables.exec = Jvm.exec) (hpc : pc + 3 = pc') (hZ : Z.Warmed39 s.vm) {own : String} {idx : Nat} (hown : s.vm.findClass own = some m.cls) (w1 : (Jvm.Cond.methodLink own idx Lib.objectInit).before a0 Z = true) (w2 : (Jvm.Cond.instanceMethod Lib.objectInit).before a0 Z = true) (w3 : (Jvm.Cond.code Lib.objectInit ⟨#[0xb1]⟩ 1 none).before a0 Z = true) (eT : T.heap = h) (hsize : Ls.size = c.maxLocals) {a : Addr} (hd : decode c.code pc = .ok (.invokespecial idx, 3)) (hf : 1 ≤ R.frames) (W : Nat) (hW : (st.map fun v => v.category).sum ≤ W) (hl : W + 12 ≤ R.locals)
    (k : ∀ (T' : State), Stand p l e R s m args below meth c T' locs cells slots → T'.heap = h → Go p.tables e below E (T'.setTop (mkF m pc' Ls st))) : Go p.tables e below E (T.setTop (mkF m pc Ls (.ref a :: st))) := by
  subst hpc
  obtain ⟨T', X', e', st'⟩ := initO X hx hZ hown w1 w2 w3 eT (g := mkF m pc Ls (.ref a :: st)) rfl hsize rfl hd hf (W := W) (by show 2 * 0 + _ ≤ _; rw [Nat.mul_zero, Nat.zero_add]; exact hW) hl
  exact Go.via st' (k T' X' e')
theorem o_callS (pc' : Nat) (X : Stand p l e R s m args below meth c T locs cells slots) (hx : p.tables.exec = Jvm.exec) (hpc : pc + 3 = pc') (hZ : Z.Warmed39 s.vm) {own : String} {index : Nat} {y : MethodName} {bytes : ByteArray} {maxL : Nat} {ret : Option FieldType} {rm : Room} {as' : Array Value} {Q : Option Value → Heap → List Loc → Prop} (hown : s.vm.findClass own = some m.cls) (w1 : (Jvm.Cond.methodLink own index y).before a0 Z = true) (w2 : (Jvm.Cond.static y).before a0 Z = true) (w3 : (Jvm.Cond.initialized y.cls).before a0 Z = true) (w4 : (Jvm.Cond.code y bytes maxL ret).before a0 Z = true) (hy : y.cls ≠ "java/lang/invoke/MethodHandle" ∧ y.cls ≠ "java/lang/invoke/VarHandle") (eT : T.heap = h)
    (hM : MetP l y bytes maxL ret [] rm Z as' h Q) {ps : List FieldType} {r : Option FieldType} (hdsc : parseMethodDescriptor y.desc = some ⟨ps, r⟩) (argsL rest : List Value) (hlen : argsL.length = ps.length) (has : argsL.toArray = as') (hsize : Ls.size = c.maxLocals) (hst : st = argsL.reverse ++ rest) (hd : decode c.code pc = .ok (.invokestatic index, 3)) (W : Nat) (hW : (rest.map fun v => v.category).sum ≤ W) (hf : rm.frames + 1 ≤ R.frames) (hlo : W + (maxL + 11) + rm.locals ≤ R.locals) (hc : cells + rm.cells ≤ R.cells) (hsl : slots + rm.slots ≤ R.slots)
    (k : ∀ (v : Option Value) (T' : State) (L : List Loc), Stand p l e R s m args below meth c T' (locs ++ L) (cells + rm.cells) (slots + rm.slots) → Q v T'.heap L → Go p.tables e below E (T'.setTop (mkF m pc' Ls (v.toList ++ rest)))) : Go p.tables e below E (T.setTop (mkF m pc Ls st)) := by
  subst hpc
  obtain ⟨v, _, ⟨T', L', c', s'⟩, -, X', ⟨L, hQ, h1, h2, h3⟩, st'⟩ := Jvm.LawKit.callS X hx (y := y) hown (mvT hZ w1) (mvT hZ w2) (mvT hZ w3) (mvT hZ w4) hy (backOf (W := W) hM hZ w4 w3 hf hlo) (g := mkF m pc Ls st) rfl hsize (argsL := argsL) (rest := rest) (lenOf hdsc hlen) hst (by show 2 * 0 + _ ≤ _; rw [Nat.mul_zero, Nat.zero_add]; exact hW) hd (fun _ _ => ⟨has, eT, hc, hsl⟩)
  dsimp only [Pt.U, Pt.locs, Pt.cells, Pt.slots] at X' h1 h2 h3 st' hQ
  subst h1 h2 h3
  exact Go.via st' (k v T' L X' hQ)
theorem o_callP (pc' : Nat) (X : Stand p l e R s m args below meth c T locs cells slots) (hx : p.tables.exec = Jvm.exec) (hpc : pc + 3 = pc') (hZ : Z.Warmed39 s.vm) {own : String} {index : Nat} {y : MethodName} {bytes : ByteArray} {maxL : Nat} {ret : Option FieldType} {rm : Room} {as' : Array Value} {rv : Value} (hown : s.vm.findClass own = some m.cls) (w1 : (Jvm.Cond.methodLink own index y).before a0 Z = true) (w2 : (Jvm.Cond.static y).before a0 Z = true) (w3 : (Jvm.Cond.initialized y.cls).before a0 Z = true) (w4 : (Jvm.Cond.code y bytes maxL ret).before a0 Z = true) (hy : y.cls ≠ "java/lang/invoke/MethodHandle" ∧ y.cls ≠ "java/lang/invoke/VarHandle") (eT : T.heap = h)
    (hM : MetP l y bytes maxL ret [] rm Z as' h (Pure rv h)) {ps : List FieldType} {r : Option FieldType} (hdsc : parseMethodDescriptor y.desc = some ⟨ps, r⟩) (argsL rest : List Value) (hlen : argsL.length = ps.length) (has : argsL.toArray = as') (hsize : Ls.size = c.maxLocals) (hst : st = argsL.reverse ++ rest) (hd : decode c.code pc = .ok (.invokestatic index, 3)) (W : Nat) (hW : (rest.map fun v => v.category).sum ≤ W) (hf : rm.frames + 1 ≤ R.frames) (hlo : W + (maxL + 11) + rm.locals ≤ R.locals) (hc : cells + rm.cells ≤ R.cells) (hsl : slots + rm.slots ≤ R.slots) (hc0 : rm.cells = 0) (hs0 : rm.slots = 0)
    (k : ∀ (T' : State), Stand p l e R s m args below meth c T' locs cells slots → T'.heap = h → Go p.tables e below E (T'.setTop (mkF m pc' Ls (rv :: rest)))) : Go p.tables e below E (T.setTop (mkF m pc Ls st)) := by
  refine o_callS pc' X hx hpc hZ hown w1 w2 w3 w4 hy eT hM hdsc argsL rest hlen has hsize hst hd W hW hf hlo hc hsl ?_
  intro v T' L X' hQ
  obtain ⟨rfl, rfl, e'⟩ := hQ
  rw [hc0, hs0, List.append_nil] at X'
  exact k T' X' e' 
theorem o_callI (pc' : Nat) (X : Stand p l e R s m args below meth c T locs cells slots) (hx : p.tables.exec = Jvm.exec) (hpc : pc + 3 = pc') (hZ : Z.Warmed39 s.vm) {own : String} {index : Nat} {y : MethodName} {bytes : ByteArray} {maxL : Nat} {rm : Room} {as' : Array Value} {Q : Option Value → Heap → List Loc → Prop} (hy1 : y.name = "<init>") (hown : s.vm.findClass own = some m.cls) (w1 : (Jvm.Cond.methodLink own index y).before a0 Z = true) (w2 : (Jvm.Cond.instanceMethod y).before a0 Z = true) (w3 : (Jvm.Cond.initialized y.cls).before a0 Z = true) (w4 : (Jvm.Cond.code y bytes maxL none).before a0 Z = true) (hy : y.cls ≠ "java/lang/invoke/MethodHandle" ∧ y.cls ≠ "java/lang/invoke/VarHandle") (eT : T.heap = h)
    (hM : MetP l y bytes maxL none [] rm Z as' h Q) {ps : List FieldType} {r : Option FieldType} (hdsc : parseMethodDescriptor y.desc = some ⟨ps, r⟩) (a : Addr) (argsL rest : List Value) (hlen : argsL.length = ps.length) (has : (.ref a :: argsL).toArray = as') (hsize : Ls.size = c.maxLocals) (hst : st = argsL.reverse ++ .ref a :: rest) (hd : decode c.code pc = .ok (.invokespecial index, 3)) (W : Nat) (hW : (rest.map fun v => v.category).sum ≤ W) (hf : rm.frames + 1 ≤ R.frames) (hlo : W + (maxL + 11) + rm.locals ≤ R.locals) (hc : cells + rm.cells ≤ R.cells) (hsl : slots + rm.slots ≤ R.slots)
    (k : ∀ (v : Option Value) (T' : State) (L : List Loc), Stand p l e R s m args below meth c T' (locs ++ L) (cells + rm.cells) (slots + rm.slots) → Q v T'.heap L → Go p.tables e below E (T'.setTop (mkF m pc' Ls (v.toList ++ rest)))) : Go p.tables e below E (T.setTop (mkF m pc Ls st)) := by
  subst hpc
  obtain ⟨v, _, ⟨T', L', c', s'⟩, -, X', ⟨L, hQ, h1, h2, h3⟩, st'⟩ := X.specialBack hx (y := y) hy1 hown (mvT hZ w1) (mvT hZ w2) (mvT hZ w4) hy (backOf (W := W) hM hZ w4 w3 hf hlo) (g := mkF m pc Ls st) rfl hsize (Steps.refl _) (a := a) (argsL := argsL) (rest := rest) (lenOf hdsc hlen) hst (by show 2 * 0 + _ ≤ _; rw [Nat.mul_zero, Nat.zero_add]; exact hW) hd (fun _ _ => ⟨has, eT, hc, hsl⟩)
  dsimp only [Pt.U, Pt.locs, Pt.cells, Pt.slots] at X' h1 h2 h3 st' hQ
  subst h1 h2 h3
  exact Go.via (fun _ q => st'.trans q) (k v T' L X' hQ)
theorem o_callV (pc' : Nat) (X : Stand p l e R s m args below meth c T locs cells slots) (hx : p.tables.exec = Jvm.exec) (hpc : pc + 3 = pc') (hZ : Z.Warmed39 s.vm) {own C : String} {index : Nat} {y : MethodName} {bytes : ByteArray} {maxL : Nat} {ret : Option FieldType} {rm : Room} {as' : Array Value} {Q : Option Value → Heap → List Loc → Prop} (hown : s.vm.findClass own = some m.cls) (w1 : (Jvm.Cond.methodLink own index y).before a0 Z = true) (w2 : (Jvm.Cond.declares y).before a0 Z = true) (wsel : (Jvm.Cond.selects C y y).before a0 Z = true) (w5 : (Jvm.Cond.instanceMethod y).before a0 Z = true) (w3 : (Jvm.Cond.initialized y.cls).before a0 Z = true) (w4 : (Jvm.Cond.code y bytes maxL ret).before a0 Z = true) (hy : y.cls ≠ "java/lang/invoke/MethodHandle" ∧ y.cls ≠ "java/lang/invoke/VarHandle") (eT : T.heap = h)
    (hM : MetP l y bytes maxL ret [] rm Z as' h Q) {ps : List FieldType} {r : Option FieldType} (hdsc : parseMethodDescriptor y.desc = some ⟨ps, r⟩) (argsL rest : List Value) (hlen : argsL.length = ps.length) {a : Addr} (X2 : Exa Z h a C) (has : (.ref a :: argsL).toArray = as') (hsize : Ls.size = c.maxLocals) (hst : st = argsL.reverse ++ .ref a :: rest) (hd : decode c.code pc = .ok (.invokevirtual index, 3)) (W : Nat) (hW : (rest.map fun v => v.category).sum ≤ W) (hf : rm.frames + 1 ≤ R.frames) (hlo : W + (maxL + 11) + rm.locals ≤ R.locals) (hc : cells + rm.cells ≤ R.cells) (hsl : slots + rm.slots ≤ R.slots)
    (k : ∀ (v : Option Value) (T' : State) (L : List Loc), Stand p l e R s m args below meth c T' (locs ++ L) (cells + rm.cells) (slots + rm.slots) → Q v T'.heap L → Go p.tables e below E (T'.setTop (mkF m pc' Ls (v.toList ++ rest)))) : Go p.tables e below E (T.setTop (mkF m pc Ls st)) := by
  subst hpc
  obtain ⟨cq, kq, qa, qb, qc⟩ := isOf hZ eT X2
  obtain ⟨v, _, ⟨T', L', c', s'⟩, -, X', ⟨L, hQ, h1, h2, h3⟩, st'⟩ := X.virtualBack hx (y := y) (z := y) hown (mvT hZ w1) (mvT hZ w2) (notFace_of_selects (args := #[]) (mvT hZ wsel)) (mvT hZ wsel) (mvT hZ w5) hy (backOf (W := W) hM hZ w4 w3 hf hlo) qa qc (g := mkF m pc Ls st) rfl hsize (Steps.refl _) (argsL := argsL) (rest := rest) (lenOf hdsc hlen) hst (by show 2 * 0 + _ ≤ _; rw [Nat.mul_zero, Nat.zero_add]; exact hW) hd (fun _ _ => ⟨has, eT, hc, hsl⟩)
  dsimp only [Pt.U, Pt.locs, Pt.cells, Pt.slots] at X' h1 h2 h3 st' hQ
  subst h1 h2 h3
  exact Go.via (fun _ q => st'.trans q) (k v T' L X' hQ)
theorem o_callIw (pc' : Nat) (X : Stand p l e R s m args below meth c T locs cells slots) (hx : p.tables.exec = Jvm.exec) (hpc : pc + 3 = pc') (hZ : Z.Warmed39 s.vm) {own : String} {index : Nat} {y : MethodName} {bytes : ByteArray} {maxL : Nat} {rm : Room} {as' : Array Value} {Q : Option Value → Heap → List Loc → Prop} (hy1 : y.name = "<init>") (hown : s.vm.findClass own = some m.cls) (w1 : (Jvm.Cond.methodLink own index y).before a0 Z = true) (w2 : (Jvm.Cond.instanceMethod y).before a0 Z = true) (w3 : (Jvm.Cond.initialized y.cls).before a0 Z = true) (w4 : (Jvm.Cond.code y bytes maxL none).before a0 Z = true) (hy : y.cls ≠ "java/lang/invoke/MethodHandle" ∧ y.cls ≠ "java/lang/invoke/VarHandle") (eT : T.heap = h) {n0 : Nat} (N : Fr n0 locs)
    (hM : MetP l y bytes maxL none [] rm Z as' h Q) {ps : List FieldType} {r : Option FieldType} (hdsc : parseMethodDescriptor y.desc = some ⟨ps, r⟩) (a : Addr) (argsL rest : List Value) (hlen : argsL.length = ps.length) (has : (.ref a :: argsL).toArray = as') (hsize : Ls.size = c.maxLocals) (hst : st = argsL.reverse ++ .ref a :: rest) (hd : decode c.code pc = .ok (.invokespecial index, 3)) (W : Nat) (hW : (rest.map fun v => v.category).sum ≤ W) (hf : rm.frames + 1 ≤ R.frames) (hlo : W + (maxL + 11) + rm.locals ≤ R.locals) (hc : cells + rm.cells ≤ R.cells) (hsl : slots + rm.slots ≤ R.slots)
    (k : ∀ (v : Option Value) (T' : State) (L L' : List Loc), Stand p l e R s m args below meth c T' L' (cells + rm.cells) (slots + rm.slots) → Q v T'.heap L → (Fr n0 L → Fr n0 L') → Go p.tables e below E (T'.setTop (mkF m pc' Ls (v.toList ++ rest)))) : Go p.tables e below E (T.setTop (mkF m pc Ls st)) :=
  o_callI pc' X hx hpc hZ hy1 hown w1 w2 w3 w4 hy eT hM hdsc a argsL rest hlen has hsize hst hd W hW hf hlo hc hsl (fun v T' L X' hQ => k v T' L _ X' hQ (fun M => Fr.app N M))
theorem o_callVw (pc' : Nat) (X : Stand p l e R s m args below meth c T locs cells slots) (hx : p.tables.exec = Jvm.exec) (hpc : pc + 3 = pc') (hZ : Z.Warmed39 s.vm) {own C : String} {index : Nat} {y : MethodName} {bytes : ByteArray} {maxL : Nat} {ret : Option FieldType} {rm : Room} {as' : Array Value} {Q : Option Value → Heap → List Loc → Prop} (hown : s.vm.findClass own = some m.cls) (w1 : (Jvm.Cond.methodLink own index y).before a0 Z = true) (w2 : (Jvm.Cond.declares y).before a0 Z = true) (wsel : (Jvm.Cond.selects C y y).before a0 Z = true) (w5 : (Jvm.Cond.instanceMethod y).before a0 Z = true) (w3 : (Jvm.Cond.initialized y.cls).before a0 Z = true) (w4 : (Jvm.Cond.code y bytes maxL ret).before a0 Z = true) (hy : y.cls ≠ "java/lang/invoke/MethodHandle" ∧ y.cls ≠ "java/lang/invoke/VarHandle") (eT : T.heap = h) {n0 : Nat} (N : Fr n0 locs)
    (hM : MetP l y bytes maxL ret [] rm Z as' h Q) {ps : List FieldType} {r : Option FieldType} (hdsc : parseMethodDescriptor y.desc = some ⟨ps, r⟩) (argsL rest : List Value) (hlen : argsL.length = ps.length) {a : Addr} (X2 : Exa Z h a C) (has : (.ref a :: argsL).toArray = as') (hsize : Ls.size = c.maxLocals) (hst : st = argsL.reverse ++ .ref a :: rest) (hd : decode c.code pc = .ok (.invokevirtual index, 3)) (W : Nat) (hW : (rest.map fun v => v.category).sum ≤ W) (hf : rm.frames + 1 ≤ R.frames) (hlo : W + (maxL + 11) + rm.locals ≤ R.locals) (hc : cells + rm.cells ≤ R.cells) (hsl : slots + rm.slots ≤ R.slots)
    (k : ∀ (v : Option Value) (T' : State) (L L' : List Loc), Stand p l e R s m args below meth c T' L' (cells + rm.cells) (slots + rm.slots) → Q v T'.heap L → (Fr n0 L → Fr n0 L') → Go p.tables e below E (T'.setTop (mkF m pc' Ls (v.toList ++ rest)))) : Go p.tables e below E (T.setTop (mkF m pc Ls st)) :=
  o_callV pc' X hx hpc hZ hown w1 w2 wsel w5 w3 w4 hy eT hM hdsc argsL rest hlen X2 has hsize hst hd W hW hf hlo hc hsl (fun v T' L X' hQ => k v T' L _ X' hQ (fun M => Fr.app N M))
end OwnKit
theorem l_tlt {x y : Int64} (h : x < y) : lcmpW x y < 0 := (lw_lt x y).mpr h
theorem l_flt {x y : Int64} (h : ¬ x < y) : ¬ lcmpW x y < 0 := fun q => h ((lw_lt x y).mp q)
theorem l_tgt {x y : Int64} (h : y < x) : 0 < lcmpW x y := (lw_gt x y).mpr h
theorem l_fgt {x y : Int64} (h : ¬ y < x) : ¬ 0 < lcmpW x y := fun q => h ((lw_gt x y).mp q)
theorem l_teq {x y : Int64} (h : x = y) : lcmpW x y = 0 := (lw_eq x y).mpr h
theorem l_feq {x y : Int64} (h : ¬ x = y) : ¬ lcmpW x y = 0 := fun q => h ((lw_eq x y).mp q)
theorem wd_0 {Z : State} {a0 : Array Value} (hw : ∀ d ∈ tables_1, d.before a0 Z = true) : (Jvm.Cond.classLink "com/example/roundelay/roundelay/random/SeededRandomNextPinLaw" (13 : Nat) "com/example/roundelay/roundelay/random/SeededRandom").before a0 Z = true := hw _ (List.mem_of_getElem? (i := 0) rfl)
theorem wd_1 {Z : State} {a0 : Array Value} (hw : ∀ d ∈ tables_1, d.before a0 Z = true) : (Jvm.Cond.instantiable "com/example/roundelay/roundelay/random/SeededRandom" (1 : Nat)).before a0 Z = true := hw _ (List.mem_of_getElem? (i := 1) rfl)
theorem wd_2 {Z : State} {a0 : Array Value} (hw : ∀ d ∈ tables_1, d.before a0 Z = true) : (Jvm.Cond.initialized "com/example/roundelay/roundelay/random/SeededRandom").before a0 Z = true := hw _ (List.mem_of_getElem? (i := 2) rfl)
theorem wd_3 {Z : State} {a0 : Array Value} (hw : ∀ d ∈ tables_1, d.before a0 Z = true) : (Jvm.Cond.methodLink "com/example/roundelay/roundelay/random/SeededRandomNextPinLaw" (15 : Nat) ({ cls := "com/example/roundelay/roundelay/random/SeededRandom", name := "<init>", desc := "(J)V" } : Jvm.MethodName)).before a0 Z = true := hw _ (List.mem_of_getElem? (i := 3) rfl)
theorem wd_4 {Z : State} {a0 : Array Value} (hw : ∀ d ∈ tables_1, d.before a0 Z = true) : (Jvm.Cond.instanceMethod ({ cls := "com/example/roundelay/roundelay/random/SeededRandom", name := "<init>", desc := "(J)V" } : Jvm.MethodName)).before a0 Z = true := hw _ (List.mem_of_getElem? (i := 4) rfl)
theorem wd_5 {Z : State} {a0 : Array Value} (hw : ∀ d ∈ tables_1, d.before a0 Z = true) : (Jvm.Cond.code ({ cls := "com/example/roundelay/roundelay/random/SeededRandom", name := "<init>", desc := "(J)V" } : Jvm.MethodName) prog_43_method_1_code (3 : Nat) (Option.none : Option Jvm.ClassFile.FieldType)).before a0 Z = true := hw _ (List.mem_of_getElem? (i := 5) rfl)
theorem wd_6 {Z : State} {a0 : Array Value} (hw : ∀ d ∈ tables_1, d.before a0 Z = true) : (Jvm.Cond.methodLink "com/example/roundelay/roundelay/random/SeededRandom" (1 : Nat) ({ cls := "java/lang/Object", name := "<init>", desc := "()V" } : Jvm.MethodName)).before a0 Z = true := hw _ (List.mem_of_getElem? (i := 6) rfl)
theorem wd_7 {Z : State} {a0 : Array Value} (hw : ∀ d ∈ tables_1, d.before a0 Z = true) : (Jvm.Cond.instanceMethod ({ cls := "java/lang/Object", name := "<init>", desc := "()V" } : Jvm.MethodName)).before a0 Z = true := hw _ (List.mem_of_getElem? (i := 7) rfl)
theorem wd_8 {Z : State} {a0 : Array Value} (hw : ∀ d ∈ tables_1, d.before a0 Z = true) : (Jvm.Cond.code ({ cls := "java/lang/Object", name := "<init>", desc := "()V" } : Jvm.MethodName) object_method_1_code (1 : Nat) (Option.none : Option Jvm.ClassFile.FieldType)).before a0 Z = true := hw _ (List.mem_of_getElem? (i := 8) rfl)
theorem wd_9 {Z : State} {a0 : Array Value} (hw : ∀ d ∈ tables_1, d.before a0 Z = true) : (Jvm.Cond.fieldLink "com/example/roundelay/roundelay/random/SeededRandom" (7 : Nat) "com/example/roundelay/roundelay/random/SeededRandom" "state" "J").before a0 Z = true := hw _ (List.mem_of_getElem? (i := 9) rfl)
theorem wd_10 {Z : State} {a0 : Array Value} (hw : ∀ d ∈ tables_1, d.before a0 Z = true) : (Jvm.Cond.lays "com/example/roundelay/roundelay/random/SeededRandom" "com/example/roundelay/roundelay/random/SeededRandom" "state" "J").before a0 Z = true := hw _ (List.mem_of_getElem? (i := 10) rfl)
theorem wd_11 {Z : State} {a0 : Array Value} (hw : ∀ d ∈ tables_1, d.before a0 Z = true) : (Jvm.Cond.methodLink "com/example/roundelay/roundelay/random/SeededRandomNextPinLaw" (18 : Nat) ({ cls := "com/example/roundelay/roundelay/random/SeededRandom", name := "next", desc := "()J" } : Jvm.MethodName)).before a0 Z = true := hw _ (List.mem_of_getElem? (i := 11) rfl)
theorem wd_12 {Z : State} {a0 : Array Value} (hw : ∀ d ∈ tables_1, d.before a0 Z = true) : (Jvm.Cond.declares ({ cls := "com/example/roundelay/roundelay/random/SeededRandom", name := "next", desc := "()J" } : Jvm.MethodName)).before a0 Z = true := hw _ (List.mem_of_getElem? (i := 12) rfl)
theorem wd_13 {Z : State} {a0 : Array Value} (hw : ∀ d ∈ tables_1, d.before a0 Z = true) : (Jvm.Cond.instanceMethod ({ cls := "com/example/roundelay/roundelay/random/SeededRandom", name := "next", desc := "()J" } : Jvm.MethodName)).before a0 Z = true := hw _ (List.mem_of_getElem? (i := 13) rfl)
theorem wd_14 {Z : State} {a0 : Array Value} (hw : ∀ d ∈ tables_1, d.before a0 Z = true) : (Jvm.Cond.selects "com/example/roundelay/roundelay/random/SeededRandom" ({ cls := "com/example/roundelay/roundelay/random/SeededRandom", name := "next", desc := "()J" } : Jvm.MethodName) ({ cls := "com/example/roundelay/roundelay/random/SeededRandom", name := "next", desc := "()J" } : Jvm.MethodName)).before a0 Z = true := hw _ (List.mem_of_getElem? (i := 14) rfl)
theorem wd_15 {Z : State} {a0 : Array Value} (hw : ∀ d ∈ tables_1, d.before a0 Z = true) : (Jvm.Cond.code ({ cls := "com/example/roundelay/roundelay/random/SeededRandom", name := "next", desc := "()J" } : Jvm.MethodName) prog_43_method_3_code (3 : Nat) (Option.some Jvm.ClassFile.FieldType.long)).before a0 Z = true := hw _ (List.mem_of_getElem? (i := 15) rfl)
theorem wd_16 {Z : State} {a0 : Array Value} (hw : ∀ d ∈ tables_1, d.before a0 Z = true) : (Jvm.Cond.constantLong "com/example/roundelay/roundelay/random/SeededRandom" (16 : Nat) (-7046029254386353131 : Int64)).before a0 Z = true := hw _ (List.mem_of_getElem? (i := 16) rfl)
theorem wd_17 {Z : State} {a0 : Array Value} (hw : ∀ d ∈ tables_1, d.before a0 Z = true) : (Jvm.Cond.constantLong "com/example/roundelay/roundelay/random/SeededRandom" (18 : Nat) (-4658895280553007687 : Int64)).before a0 Z = true := hw _ (List.mem_of_getElem? (i := 17) rfl)
theorem wd_18 {Z : State} {a0 : Array Value} (hw : ∀ d ∈ tables_1, d.before a0 Z = true) : (Jvm.Cond.constantLong "com/example/roundelay/roundelay/random/SeededRandom" (20 : Nat) (-7723592293110705685 : Int64)).before a0 Z = true := hw _ (List.mem_of_getElem? (i := 18) rfl)
theorem wd_19 {Z : State} {a0 : Array Value} (hw : ∀ d ∈ tables_1, d.before a0 Z = true) : (Jvm.Cond.methodLink "com/example/roundelay/roundelay/random/SeededRandomNextPinLaw" (22 : Nat) ({ cls := "com/example/roundelay/roundelay/random/SeededRandomNextPinLaw", name := "unmix", desc := "(J)J" } : Jvm.MethodName)).before a0 Z = true := hw _ (List.mem_of_getElem? (i := 19) rfl)
theorem wd_20 {Z : State} {a0 : Array Value} (hw : ∀ d ∈ tables_1, d.before a0 Z = true) : (Jvm.Cond.static ({ cls := "com/example/roundelay/roundelay/random/SeededRandomNextPinLaw", name := "unmix", desc := "(J)J" } : Jvm.MethodName)).before a0 Z = true := hw _ (List.mem_of_getElem? (i := 20) rfl)
theorem wd_21 {Z : State} {a0 : Array Value} (hw : ∀ d ∈ tables_1, d.before a0 Z = true) : (Jvm.Cond.initialized "com/example/roundelay/roundelay/random/SeededRandomNextPinLaw").before a0 Z = true := hw _ (List.mem_of_getElem? (i := 21) rfl)
theorem wd_22 {Z : State} {a0 : Array Value} (hw : ∀ d ∈ tables_1, d.before a0 Z = true) : (Jvm.Cond.code ({ cls := "com/example/roundelay/roundelay/random/SeededRandomNextPinLaw", name := "unmix", desc := "(J)J" } : Jvm.MethodName) method_2_code (4 : Nat) (Option.some Jvm.ClassFile.FieldType.long)).before a0 Z = true := hw _ (List.mem_of_getElem? (i := 22) rfl)
theorem wd_23 {Z : State} {a0 : Array Value} (hw : ∀ d ∈ tables_1, d.before a0 Z = true) : (Jvm.Cond.constantLong "com/example/roundelay/roundelay/random/SeededRandomNextPinLaw" (9 : Nat) (3573116690164977347 : Int64)).before a0 Z = true := hw _ (List.mem_of_getElem? (i := 23) rfl)
theorem wd_24 {Z : State} {a0 : Array Value} (hw : ∀ d ∈ tables_1, d.before a0 Z = true) : (Jvm.Cond.constantLong "com/example/roundelay/roundelay/random/SeededRandomNextPinLaw" (11 : Nat) (-7575587736534282103 : Int64)).before a0 Z = true := hw _ (List.mem_of_getElem? (i := 24) rfl)
theorem wd_25 {Z : State} {a0 : Array Value} (hw : ∀ d ∈ tables_1, d.before a0 Z = true) : (Jvm.Cond.constantLong "com/example/roundelay/roundelay/random/SeededRandomNextPinLaw" (26 : Nat) (-7046029254386353131 : Int64)).before a0 Z = true := hw _ (List.mem_of_getElem? (i := 25) rfl)
theorem d1_0 : decode prog_43_method_1_code 0 = .ok (.aload_n 0, 1) := by decide +kernel
theorem d1_1 : decode prog_43_method_1_code 1 = .ok (.invokespecial 1, 3) := by decide +kernel
theorem d1_4 : decode prog_43_method_1_code 4 = .ok (.aload_n 0, 1) := by decide +kernel
theorem d1_5 : decode prog_43_method_1_code 5 = .ok (.lload_n 1, 1) := by decide +kernel
theorem d1_6 : decode prog_43_method_1_code 6 = .ok (.putfield 7, 3) := by decide +kernel
theorem d1_9 : decode prog_43_method_1_code 9 = .ok (.return_, 1) := by decide +kernel
theorem d3_0 : decode prog_43_method_3_code 0 = .ok (.aload_n 0, 1) := by decide +kernel
theorem d3_1 : decode prog_43_method_3_code 1 = .ok (.dup, 1) := by decide +kernel
theorem d3_12 : decode prog_43_method_3_code 12 = .ok (.aload_n 0, 1) := by decide +kernel
theorem d3_13 : decode prog_43_method_3_code 13 = .ok (.getfield 7, 3) := by decide +kernel
theorem d3_16 : decode prog_43_method_3_code 16 = .ok (.lstore_n 1, 1) := by decide +kernel
theorem d3_17 : decode prog_43_method_3_code 17 = .ok (.lload_n 1, 1) := by decide +kernel
theorem d3_18 : decode prog_43_method_3_code 18 = .ok (.lload_n 1, 1) := by decide +kernel
theorem d3_19 : decode prog_43_method_3_code 19 = .ok (.bipush 30, 2) := by decide +kernel
theorem d3_2 : decode prog_43_method_3_code 2 = .ok (.getfield 7, 3) := by decide +kernel
theorem d3_21 : decode prog_43_method_3_code 21 = .ok (.lushr, 1) := by decide +kernel
theorem d3_22 : decode prog_43_method_3_code 22 = .ok (.lxor, 1) := by decide +kernel
theorem d3_23 : decode prog_43_method_3_code 23 = .ok (.ldc2_w 18, 3) := by decide +kernel
theorem d3_26 : decode prog_43_method_3_code 26 = .ok (.lmul, 1) := by decide +kernel
theorem d3_27 : decode prog_43_method_3_code 27 = .ok (.lstore_n 1, 1) := by decide +kernel
theorem d3_28 : decode prog_43_method_3_code 28 = .ok (.lload_n 1, 1) := by decide +kernel
theorem d3_29 : decode prog_43_method_3_code 29 = .ok (.lload_n 1, 1) := by decide +kernel
theorem d3_30 : decode prog_43_method_3_code 30 = .ok (.bipush 27, 2) := by decide +kernel
theorem d3_32 : decode prog_43_method_3_code 32 = .ok (.lushr, 1) := by decide +kernel
theorem d3_33 : decode prog_43_method_3_code 33 = .ok (.lxor, 1) := by decide +kernel
theorem d3_34 : decode prog_43_method_3_code 34 = .ok (.ldc2_w 20, 3) := by decide +kernel
theorem d3_37 : decode prog_43_method_3_code 37 = .ok (.lmul, 1) := by decide +kernel
theorem d3_38 : decode prog_43_method_3_code 38 = .ok (.lstore_n 1, 1) := by decide +kernel
theorem d3_39 : decode prog_43_method_3_code 39 = .ok (.lload_n 1, 1) := by decide +kernel
theorem d3_40 : decode prog_43_method_3_code 40 = .ok (.lload_n 1, 1) := by decide +kernel
theorem d3_41 : decode prog_43_method_3_code 41 = .ok (.bipush 31, 2) := by decide +kernel
theorem d3_43 : decode prog_43_method_3_code 43 = .ok (.lushr, 1) := by decide +kernel
theorem d3_44 : decode prog_43_method_3_code 44 = .ok (.lxor, 1) := by decide +kernel
theorem d3_45 : decode prog_43_method_3_code 45 = .ok (.lreturn, 1) := by decide +kernel
theorem d3_5 : decode prog_43_method_3_code 5 = .ok (.ldc2_w 16, 3) := by decide +kernel
theorem d3_8 : decode prog_43_method_3_code 8 = .ok (.ladd, 1) := by decide +kernel
theorem d3_9 : decode prog_43_method_3_code 9 = .ok (.putfield 7, 3) := by decide +kernel
theorem d4_0 : decode method_2_code 0 = .ok (.lload_n 0, 1) := by decide +kernel
theorem d4_1 : decode method_2_code 1 = .ok (.lstore_n 2, 1) := by decide +kernel
theorem d4_11 : decode method_2_code 11 = .ok (.lushr, 1) := by decide +kernel
theorem d4_12 : decode method_2_code 12 = .ok (.lxor, 1) := by decide +kernel
theorem d4_13 : decode method_2_code 13 = .ok (.ldc2_w 9, 3) := by decide +kernel
theorem d4_16 : decode method_2_code 16 = .ok (.lmul, 1) := by decide +kernel
theorem d4_17 : decode method_2_code 17 = .ok (.lstore_n 2, 1) := by decide +kernel
theorem d4_18 : decode method_2_code 18 = .ok (.lload_n 2, 1) := by decide +kernel
theorem d4_19 : decode method_2_code 19 = .ok (.lload_n 2, 1) := by decide +kernel
theorem d4_2 : decode method_2_code 2 = .ok (.lload_n 2, 1) := by decide +kernel
theorem d4_20 : decode method_2_code 20 = .ok (.bipush 27, 2) := by decide +kernel
theorem d4_22 : decode method_2_code 22 = .ok (.lushr, 1) := by decide +kernel
theorem d4_23 : decode method_2_code 23 = .ok (.lxor, 1) := by decide +kernel
theorem d4_24 : decode method_2_code 24 = .ok (.lload_n 2, 1) := by decide +kernel
theorem d4_25 : decode method_2_code 25 = .ok (.bipush 54, 2) := by decide +kernel
theorem d4_27 : decode method_2_code 27 = .ok (.lushr, 1) := by decide +kernel
theorem d4_28 : decode method_2_code 28 = .ok (.lxor, 1) := by decide +kernel
theorem d4_29 : decode method_2_code 29 = .ok (.ldc2_w 11, 3) := by decide +kernel
theorem d4_3 : decode method_2_code 3 = .ok (.lload_n 2, 1) := by decide +kernel
theorem d4_32 : decode method_2_code 32 = .ok (.lmul, 1) := by decide +kernel
theorem d4_33 : decode method_2_code 33 = .ok (.lstore_n 2, 1) := by decide +kernel
theorem d4_34 : decode method_2_code 34 = .ok (.lload_n 2, 1) := by decide +kernel
theorem d4_35 : decode method_2_code 35 = .ok (.lload_n 2, 1) := by decide +kernel
theorem d4_36 : decode method_2_code 36 = .ok (.bipush 30, 2) := by decide +kernel
theorem d4_38 : decode method_2_code 38 = .ok (.lushr, 1) := by decide +kernel
theorem d4_39 : decode method_2_code 39 = .ok (.lxor, 1) := by decide +kernel
theorem d4_4 : decode method_2_code 4 = .ok (.bipush 31, 2) := by decide +kernel
theorem d4_40 : decode method_2_code 40 = .ok (.lload_n 2, 1) := by decide +kernel
theorem d4_41 : decode method_2_code 41 = .ok (.bipush 60, 2) := by decide +kernel
theorem d4_43 : decode method_2_code 43 = .ok (.lushr, 1) := by decide +kernel
theorem d4_44 : decode method_2_code 44 = .ok (.lxor, 1) := by decide +kernel
theorem d4_45 : decode method_2_code 45 = .ok (.lstore_n 2, 1) := by decide +kernel
theorem d4_46 : decode method_2_code 46 = .ok (.lload_n 2, 1) := by decide +kernel
theorem d4_47 : decode method_2_code 47 = .ok (.lreturn, 1) := by decide +kernel
theorem d4_6 : decode method_2_code 6 = .ok (.lushr, 1) := by decide +kernel
theorem d4_7 : decode method_2_code 7 = .ok (.lxor, 1) := by decide +kernel
theorem d4_8 : decode method_2_code 8 = .ok (.lload_n 2, 1) := by decide +kernel
theorem d4_9 : decode method_2_code 9 = .ok (.bipush 62, 2) := by decide +kernel
theorem pd_lrJ : parseMethodDescriptor "()J" = some ⟨[], some .long⟩ := by decide +kernel
theorem pd_lJrJ : parseMethodDescriptor "(J)J" = some ⟨[.long], some .long⟩ := by decide +kernel
theorem pd_lJrV : parseMethodDescriptor "(J)V" = some ⟨[.long], none⟩ := by decide +kernel
theorem pn_0 : plainFor x = true := plainFor_of_name (show plainName "com/example/roundelay/roundelay/random/SeededRandomNextPinLaw" = true by first | (simp [plainName, overriddenIn]; done) | decide +kernel)
theorem pn_1 : plainFor (⟨"com/example/roundelay/roundelay/random/SeededRandom", "<init>", "(J)V"⟩ : MethodName) = true := plainFor_of_name (show plainName "com/example/roundelay/roundelay/random/SeededRandom" = true by first | (simp [plainName, overriddenIn]; done) | decide +kernel)
theorem pn_3 : plainFor (⟨"com/example/roundelay/roundelay/random/SeededRandom", "next", "()J"⟩ : MethodName) = true := plainFor_of_name (show plainName "com/example/roundelay/roundelay/random/SeededRandom" = true by first | (simp [plainName, overriddenIn]; done) | decide +kernel)
theorem pn_4 : plainFor (⟨"com/example/roundelay/roundelay/random/SeededRandomNextPinLaw", "unmix", "(J)J"⟩ : MethodName) = true := plainFor_of_name (show plainName "com/example/roundelay/roundelay/random/SeededRandomNextPinLaw" = true by first | (simp [plainName, overriddenIn]; done) | decide +kernel)
theorem ef_1 (m : MethodId) (y0 : Addr) (y1 : Int64) : entryFrame m #[(.ref y0), (.long y1)] 3 = mkF m 0 #[.val (.ref y0), .val (.long y1), .second] [] := by first | (simp [entryFrame, mkF, argsToLocals, Value.category]; done) | rfl
def Qc1 (Z : State) (n0 : Nat) (h0 : Heap) (r0 : Addr) (q1 : Int64) (v : Option Value) (h : Heap) (L : List Loc) : Prop := v = none ∧ Fr n0 L ∧ Keep h0 h [r0] ∧ Exa Z h r0 "com/example/roundelay/roundelay/random/SeededRandom" ∧ Fld Z h r0 "com/example/roundelay/roundelay/random/SeededRandom" "state" "J" (.long q1)
set_option maxRecDepth 65536 in
set_option maxHeartbeats 40000000 in
theorem rm1 (l : Launch) (Z : State) (a0 : Array Value) (hw : ∀ d ∈ tables_1, d.before a0 Z = true) (r0 : Addr) (q1 : Int64) (h0 : Heap) (n0 : Nat) (Z0 : n0 ≤ h0.size) (ga : n0 ≤ r0) (E0 : Exa Z h0 r0 "com/example/roundelay/roundelay/random/SeededRandom") (F_state : Fld Z h0 r0 "com/example/roundelay/roundelay/random/SeededRandom" "state" "J" (.long (0 : Int64))) : MetP l (⟨"com/example/roundelay/roundelay/random/SeededRandom", "<init>", "(J)V"⟩ : MethodName) prog_43_method_1_code 3 none [] ({ frames := 1, cells := 0, slots := 0, locals := 12 } : Room) Z #[(.ref r0), (.long q1)] h0 (Qc1 Z n0 h0 r0 q1) := by
  refine met_go pn_1 ?_
  intro p e s m below meth c s₁ hx hby hml hown hnm hret hlk hZ e0 X0
  have N0 := Fr.nil n0
  have K0 : Keep h0 h0 [r0] := Keep.refl _ _
  rw [ef_1 m r0 q1]
  refine o_aloadN 1 X0 hx rfl (hb hby d1_0) rfl rfl ?_
  refine o_initO 4 X0 hx rfl hZ hown (wd_6 hw) (wd_7 hw) (wd_8 hw) e0 (by rw [hml]; rfl) (hb hby d1_1) (by decide) 0 (Nat.le_of_eq rfl) (by decide) fun T1 X1 e1 => ?_
  refine o_aloadN 5 X1 hx rfl (hb hby d1_4) rfl rfl ?_
  refine o_lloadN 6 X1 hx rfl (hb hby d1_5) rfl ?_
  refine o_putF 9 X1 hx rfl hZ .long hown (wd_9 hw) Via.refl e1 F_state E0 (Or.inl (wd_10 hw)) (wd_1 hw) (by decide) rfl rfl N0 ga (hb hby d1_6) fun T2 h2 L2 X2 N2 e2 W2 => ?_
  have F3 : Fld Z h2 r0 "com/example/roundelay/roundelay/random/SeededRandom" "state" "J" (.long q1) := F_state.same W2
  have F4 : Exa Z h2 r0 "com/example/roundelay/roundelay/random/SeededRandom" := E0.wr W2
  have sz5 : n0 ≤ h2.size := Nat.le_trans Z0 (Keep.of_wr W2).1
  have K6 : Keep h0 h2 [r0] := K0.wr W2 (Or.inl (by simp))
  refine o_retV X2 hx hret hlk (hb hby d1_9) (by decide) (by decide) ?_
  rw [e2]
  exact ⟨rfl, N2, K6, F4, F3⟩
theorem ef_3 (m : MethodId) (y0 : Addr) : entryFrame m #[(.ref y0)] 3 = mkF m 0 #[.val (.ref y0), .unset, .unset] [] := by first | (simp [entryFrame, mkF, argsToLocals, Value.category]; done) | rfl
def f3_16 (v_state : Int64) : Int64 := (v_state + (-7046029254386353131 : Int64))
def f3_27 (v_state : Int64) : Int64 := (((f3_16 v_state) ^^^ (((f3_16 v_state).toUInt64 >>> ((30 : Int32) &&& 0x3f).toInt64.toUInt64).toInt64)) * (-4658895280553007687 : Int64))
def f3_38 (v_state : Int64) : Int64 := (((f3_27 v_state) ^^^ (((f3_27 v_state).toUInt64 >>> ((27 : Int32) &&& 0x3f).toInt64.toUInt64).toInt64)) * (-7723592293110705685 : Int64))
def fn3 (v_state : Int64) : Int64 := ((f3_38 v_state) ^^^ (((f3_38 v_state).toUInt64 >>> ((31 : Int32) &&& 0x3f).toInt64.toUInt64).toInt64))
def Qm3 (Z : State) (n0 : Nat) (h0 : Heap) (r0 : Addr) (v_state : Int64) (v : Option Value) (h : Heap) (L : List Loc) : Prop := v = some (.long (fn3 v_state)) ∧ Fr n0 L ∧ Keep h0 h [r0] ∧ Exa Z h r0 "com/example/roundelay/roundelay/random/SeededRandom" ∧ Fld Z h r0 "com/example/roundelay/roundelay/random/SeededRandom" "state" "J" (.long (v_state + (-7046029254386353131 : Int64)))
set_option maxRecDepth 65536 in
set_option maxHeartbeats 40000000 in
theorem rm3 (l : Launch) (Z : State) (a0 : Array Value) (hw : ∀ d ∈ tables_1, d.before a0 Z = true) (r0 : Addr) (v_state : Int64) (h0 : Heap) (n0 : Nat) (Z0 : n0 ≤ h0.size) (ga : n0 ≤ r0) (E0 : Exa Z h0 r0 "com/example/roundelay/roundelay/random/SeededRandom") (F_state : Fld Z h0 r0 "com/example/roundelay/roundelay/random/SeededRandom" "state" "J" (.long v_state)) : MetP l (⟨"com/example/roundelay/roundelay/random/SeededRandom", "next", "()J"⟩ : MethodName) prog_43_method_3_code 3 (some .long) [] ({ frames := 0, cells := 0, slots := 0, locals := 0 } : Room) Z #[(.ref r0)] h0 (Qm3 Z n0 h0 r0 v_state) := by
  refine met_go pn_3 ?_
  intro p e s m below meth c s₁ hx hby hml hown hnm hret hlk hZ e0 X0
  have N0 := Fr.nil n0
  have K0 : Keep h0 h0 [r0] := Keep.refl _ _
  rw [ef_3 m r0]
  refine o_aloadN 1 X0 hx rfl (hb hby d3_0) rfl rfl ?_
  refine o_dup 2 X0 hx rfl (hb hby d3_1) rfl ?_
  refine o_getF 5 X0 hx rfl hZ hown (wd_9 hw) Via.refl e0 F_state (hb hby d3_2) fun T1 X1 e1 => ?_
  refine o_ldc2Long 8 X1 hx rfl hZ hown (wd_16 hw) (hb hby d3_5) ?_
  refine o_ladd 9 X1 hx rfl (hb hby d3_8) ?_
  refine o_putF 12 X1 hx rfl hZ .long hown (wd_9 hw) Via.refl e1 F_state E0 (Or.inl (wd_10 hw)) (wd_1 hw) (by decide) rfl rfl N0 ga (hb hby d3_9) fun T2 h2 L2 X2 N2 e2 W2 => ?_
  have F3 : Fld Z h2 r0 "com/example/roundelay/roundelay/random/SeededRandom" "state" "J" (.long (v_state + (-7046029254386353131 : Int64))) := F_state.same W2
  have F4 : Exa Z h2 r0 "com/example/roundelay/roundelay/random/SeededRandom" := E0.wr W2
  have sz5 : n0 ≤ h2.size := Nat.le_trans Z0 (Keep.of_wr W2).1
  have K6 : Keep h0 h2 [r0] := K0.wr W2 (Or.inl (by simp))
  refine o_aloadN 13 X2 hx rfl (hb hby d3_12) rfl rfl ?_
  refine o_getF 16 X2 hx rfl hZ hown (wd_9 hw) Via.refl e2 F3 (hb hby d3_13) fun T7 X7 e7 => ?_
  refine o_lstoreN 17 X7 hx rfl (hb hby d3_16) #[.val (.ref r0), .val (.long (f3_16 v_state)), .second] rfl ?_
  refine o_lloadN 18 X7 hx rfl (hb hby d3_17) rfl ?_
  refine o_lloadN 19 X7 hx rfl (hb hby d3_18) rfl ?_
  refine o_bipush 21 X7 hx rfl (hb hby d3_19) (30 : Int32) rfl ?_
  refine o_lushr 22 X7 hx rfl (hb hby d3_21) ?_
  refine o_lxor 23 X7 hx rfl (hb hby d3_22) ?_
  refine o_ldc2Long 26 X7 hx rfl hZ hown (wd_17 hw) (hb hby d3_23) ?_
  refine o_lmul 27 X7 hx rfl (hb hby d3_26) ?_
  refine o_lstoreN 28 X7 hx rfl (hb hby d3_27) #[.val (.ref r0), .val (.long (f3_27 v_state)), .second] rfl ?_
  refine o_lloadN 29 X7 hx rfl (hb hby d3_28) rfl ?_
  refine o_lloadN 30 X7 hx rfl (hb hby d3_29) rfl ?_
  refine o_bipush 32 X7 hx rfl (hb hby d3_30) (27 : Int32) rfl ?_
  refine o_lushr 33 X7 hx rfl (hb hby d3_32) ?_
  refine o_lxor 34 X7 hx rfl (hb hby d3_33) ?_
  refine o_ldc2Long 37 X7 hx rfl hZ hown (wd_18 hw) (hb hby d3_34) ?_
  refine o_lmul 38 X7 hx rfl (hb hby d3_37) ?_
  refine o_lstoreN 39 X7 hx rfl (hb hby d3_38) #[.val (.ref r0), .val (.long (f3_38 v_state)), .second] rfl ?_
  refine o_lloadN 40 X7 hx rfl (hb hby d3_39) rfl ?_
  refine o_lloadN 41 X7 hx rfl (hb hby d3_40) rfl ?_
  refine o_bipush 43 X7 hx rfl (hb hby d3_41) (31 : Int32) rfl ?_
  refine o_lushr 44 X7 hx rfl (hb hby d3_43) ?_
  refine o_lxor 45 X7 hx rfl (hb hby d3_44) ?_
  refine o_retJ X7 hx hret hlk (hb hby d3_45) (by decide) (by decide) ?_
  rw [e7]
  exact ⟨show some (Value.long ((f3_38 v_state) ^^^ (((f3_38 v_state).toUInt64 >>> ((31 : Int32) &&& 0x3f).toInt64.toUInt64).toInt64))) = some (Value.long (fn3 v_state)) from by rw [show (fn3 v_state) = ((f3_38 v_state) ^^^ (((f3_38 v_state).toUInt64 >>> ((31 : Int32) &&& 0x3f).toInt64.toUInt64).toInt64)) from by rfl], N2, K6, F4, F3⟩
theorem ef_4 (m : MethodId) (y0 : Int64) : entryFrame m #[(.long y0)] 4 = mkF m 0 #[.val (.long y0), .second, .unset, .unset] [] := by first | (simp [entryFrame, mkF, argsToLocals, Value.category]; done) | rfl
def f4_17 (q0 : Int64) : Int64 := (((q0 ^^^ ((q0.toUInt64 >>> ((31 : Int32) &&& 0x3f).toInt64.toUInt64).toInt64)) ^^^ ((q0.toUInt64 >>> ((62 : Int32) &&& 0x3f).toInt64.toUInt64).toInt64)) * (3573116690164977347 : Int64))
def f4_33 (q0 : Int64) : Int64 := ((((f4_17 q0) ^^^ (((f4_17 q0).toUInt64 >>> ((27 : Int32) &&& 0x3f).toInt64.toUInt64).toInt64)) ^^^ (((f4_17 q0).toUInt64 >>> ((54 : Int32) &&& 0x3f).toInt64.toUInt64).toInt64)) * (-7575587736534282103 : Int64))
def f4_45 (q0 : Int64) : Int64 := (((f4_33 q0) ^^^ (((f4_33 q0).toUInt64 >>> ((30 : Int32) &&& 0x3f).toInt64.toUInt64).toInt64)) ^^^ (((f4_33 q0).toUInt64 >>> ((60 : Int32) &&& 0x3f).toInt64.toUInt64).toInt64))
def fn4 (q0 : Int64) : Int64 := (f4_45 q0)
set_option maxRecDepth 65536 in
set_option maxHeartbeats 40000000 in
theorem rm4 (l : Launch) (Z : State) (a0 : Array Value) (hw : ∀ d ∈ tables_1, d.before a0 Z = true) (q0 : Int64) (h0 : Heap) : MetP l (⟨"com/example/roundelay/roundelay/random/SeededRandomNextPinLaw", "unmix", "(J)J"⟩ : MethodName) method_2_code 4 (some .long) [] ({ frames := 0, cells := 0, slots := 0, locals := 0 } : Room) Z #[(.long q0)] h0 (Pure (.long (fn4 q0)) h0) := by
  refine met_go pn_4 ?_
  intro p e s m below meth c s₁ hx hby hml hown hnm hret hlk hZ e0 X0
  rw [ef_4 m q0]
  refine o_lloadN 1 X0 hx rfl (hb hby d4_0) rfl ?_
  refine o_lstoreN 2 X0 hx rfl (hb hby d4_1) #[.val (.long q0), .second, .val (.long q0), .second] rfl ?_
  refine o_lloadN 3 X0 hx rfl (hb hby d4_2) rfl ?_
  refine o_lloadN 4 X0 hx rfl (hb hby d4_3) rfl ?_
  refine o_bipush 6 X0 hx rfl (hb hby d4_4) (31 : Int32) rfl ?_
  refine o_lushr 7 X0 hx rfl (hb hby d4_6) ?_
  refine o_lxor 8 X0 hx rfl (hb hby d4_7) ?_
  refine o_lloadN 9 X0 hx rfl (hb hby d4_8) rfl ?_
  refine o_bipush 11 X0 hx rfl (hb hby d4_9) (62 : Int32) rfl ?_
  refine o_lushr 12 X0 hx rfl (hb hby d4_11) ?_
  refine o_lxor 13 X0 hx rfl (hb hby d4_12) ?_
  refine o_ldc2Long 16 X0 hx rfl hZ hown (wd_23 hw) (hb hby d4_13) ?_
  refine o_lmul 17 X0 hx rfl (hb hby d4_16) ?_
  refine o_lstoreN 18 X0 hx rfl (hb hby d4_17) #[.val (.long q0), .second, .val (.long (f4_17 q0)), .second] rfl ?_
  refine o_lloadN 19 X0 hx rfl (hb hby d4_18) rfl ?_
  refine o_lloadN 20 X0 hx rfl (hb hby d4_19) rfl ?_
  refine o_bipush 22 X0 hx rfl (hb hby d4_20) (27 : Int32) rfl ?_
  refine o_lushr 23 X0 hx rfl (hb hby d4_22) ?_
  refine o_lxor 24 X0 hx rfl (hb hby d4_23) ?_
  refine o_lloadN 25 X0 hx rfl (hb hby d4_24) rfl ?_
  refine o_bipush 27 X0 hx rfl (hb hby d4_25) (54 : Int32) rfl ?_
  refine o_lushr 28 X0 hx rfl (hb hby d4_27) ?_
  refine o_lxor 29 X0 hx rfl (hb hby d4_28) ?_
  refine o_ldc2Long 32 X0 hx rfl hZ hown (wd_24 hw) (hb hby d4_29) ?_
  refine o_lmul 33 X0 hx rfl (hb hby d4_32) ?_
  refine o_lstoreN 34 X0 hx rfl (hb hby d4_33) #[.val (.long q0), .second, .val (.long (f4_33 q0)), .second] rfl ?_
  refine o_lloadN 35 X0 hx rfl (hb hby d4_34) rfl ?_
  refine o_lloadN 36 X0 hx rfl (hb hby d4_35) rfl ?_
  refine o_bipush 38 X0 hx rfl (hb hby d4_36) (30 : Int32) rfl ?_
  refine o_lushr 39 X0 hx rfl (hb hby d4_38) ?_
  refine o_lxor 40 X0 hx rfl (hb hby d4_39) ?_
  refine o_lloadN 41 X0 hx rfl (hb hby d4_40) rfl ?_
  refine o_bipush 43 X0 hx rfl (hb hby d4_41) (60 : Int32) rfl ?_
  refine o_lushr 44 X0 hx rfl (hb hby d4_43) ?_
  refine o_lxor 45 X0 hx rfl (hb hby d4_44) ?_
  refine o_lstoreN 46 X0 hx rfl (hb hby d4_45) #[.val (.long q0), .second, .val (.long (f4_45 q0)), .second] rfl ?_
  refine o_lloadN 47 X0 hx rfl (hb hby d4_46) rfl ?_
  refine o_retJ X0 hx hret hlk (hb hby d4_47) (by decide) (by decide) ?_
  exact ⟨show some (Value.long (f4_45 q0)) = some (Value.long (fn4 q0)) from by rw [show (fn4 q0) = (f4_45 q0) from by rfl], rfl, e0⟩
theorem ef_0 (m : MethodId) (y0 : Int64) : entryFrame m #[(.long y0)] maxLocals = mkF m 0 #[.val (.long y0), .second, .unset, .unset, .unset, .unset, .unset] [] := by first | (simp [entryFrame, mkF, argsToLocals, Value.category, maxLocals]; done) | rfl
def f0_state9 (q0 : Int64) : Int64 := ((q0 + (-7046029254386353131 : Int64)) + (-7046029254386353131 : Int64))
def f0_56_s0 (q0 : Int64) : Int32 := (if (fn4 (fn3 q0)) = (q0 + (-7046029254386353131 : Int64)) then (if (fn4 (fn3 (q0 + (-7046029254386353131 : Int64)))) = ((q0 + (-7046029254386353131 : Int64)) + (-7046029254386353131 : Int64)) then (1 : Int32) else (0 : Int32)) else (0 : Int32))
def fn0 (q0 : Int64) : Int32 := (nar .boolean (f0_56_s0 q0))
theorem own_bv (x : BitVec 64) (n : Nat) (h : 64 ≤ 3 * n) : ((x ^^^ (x >>> n)) ^^^ ((x ^^^ (x >>> n)) >>> n)) ^^^ ((x ^^^ (x >>> n)) >>> (2 * n)) = x := by
  have e1 : (x ^^^ (x >>> n)) >>> n = (x >>> n) ^^^ (x >>> (2 * n)) := by
    rw [BitVec.ushiftRight_xor_distrib, ← BitVec.shiftRight_add, Nat.two_mul]
  have e2 : (x ^^^ (x >>> n)) >>> (2 * n) = (x >>> (2 * n)) := by
    rw [BitVec.ushiftRight_xor_distrib, ← BitVec.shiftRight_add]
    have : x >>> (n + 2 * n) = 0#64 := BitVec.ushiftRight_eq_zero (by omega)
    rw [this, BitVec.xor_zero]
  rw [e1, e2]
  apply BitVec.eq_of_getLsbD_eq
  intro i hi
  simp only [BitVec.getLsbD_xor]
  cases x.getLsbD i <;> cases (x >>> n).getLsbD i <;> cases (x >>> (2 * n)).getLsbD i <;> rfl
theorem own_i30 (x : Int64) : (((x ^^^ ((x.toUInt64 >>> ((30 : Int32) &&& 0x3f).toInt64.toUInt64).toInt64)) ^^^ (((x ^^^ ((x.toUInt64 >>> ((30 : Int32) &&& 0x3f).toInt64.toUInt64).toInt64)).toUInt64 >>> ((30 : Int32) &&& 0x3f).toInt64.toUInt64).toInt64)) ^^^ (((x ^^^ ((x.toUInt64 >>> ((30 : Int32) &&& 0x3f).toInt64.toUInt64).toInt64)).toUInt64 >>> ((60 : Int32) &&& 0x3f).toInt64.toUInt64).toInt64)) = x :=
  Int64.toBitVec_inj.mp (own_bv x.toBitVec 30 (by decide))
theorem own_i27 (x : Int64) : (((x ^^^ ((x.toUInt64 >>> ((27 : Int32) &&& 0x3f).toInt64.toUInt64).toInt64)) ^^^ (((x ^^^ ((x.toUInt64 >>> ((27 : Int32) &&& 0x3f).toInt64.toUInt64).toInt64)).toUInt64 >>> ((27 : Int32) &&& 0x3f).toInt64.toUInt64).toInt64)) ^^^ (((x ^^^ ((x.toUInt64 >>> ((27 : Int32) &&& 0x3f).toInt64.toUInt64).toInt64)).toUInt64 >>> ((54 : Int32) &&& 0x3f).toInt64.toUInt64).toInt64)) = x :=
  Int64.toBitVec_inj.mp (own_bv x.toBitVec 27 (by decide))
theorem own_i31 (x : Int64) : (((x ^^^ ((x.toUInt64 >>> ((31 : Int32) &&& 0x3f).toInt64.toUInt64).toInt64)) ^^^ (((x ^^^ ((x.toUInt64 >>> ((31 : Int32) &&& 0x3f).toInt64.toUInt64).toInt64)).toUInt64 >>> ((31 : Int32) &&& 0x3f).toInt64.toUInt64).toInt64)) ^^^ (((x ^^^ ((x.toUInt64 >>> ((31 : Int32) &&& 0x3f).toInt64.toUInt64).toInt64)).toUInt64 >>> ((62 : Int32) &&& 0x3f).toInt64.toUInt64).toInt64)) = x :=
  Int64.toBitVec_inj.mp (own_bv x.toBitVec 31 (by decide))
theorem own_un (s : Int64) : fn4 (fn3 s) = s + (-7046029254386353131 : Int64) := by
  have h1 : f4_17 (fn3 s) = f3_38 s * (3573116690164977347 : Int64) := by unfold f4_17 fn3; rw [own_i31]
  have h2 : f3_38 s * (3573116690164977347 : Int64) = ((f3_27 s) ^^^ (((f3_27 s).toUInt64 >>> ((27 : Int32) &&& 0x3f).toInt64.toUInt64).toInt64)) := by
    unfold f3_38; rw [Int64.mul_assoc, show (-7723592293110705685 : Int64) * (3573116690164977347 : Int64) = 1 from by decide, Int64.mul_one]
  have h3 : f4_33 (fn3 s) = f3_27 s * (-7575587736534282103 : Int64) := by unfold f4_33; rw [h1, h2, own_i27]
  have h4 : f3_27 s * (-7575587736534282103 : Int64) = ((f3_16 s) ^^^ (((f3_16 s).toUInt64 >>> ((30 : Int32) &&& 0x3f).toInt64.toUInt64).toInt64)) := by
    unfold f3_27; rw [Int64.mul_assoc, show (-4658895280553007687 : Int64) * (-7575587736534282103 : Int64) = 1 from by decide, Int64.mul_one]
  unfold fn4 f4_45; rw [h3, h4, own_i30]; rfl
theorem own_law (q0 : Int64) : fn0 q0 = 1 := by
  unfold fn0 f0_56_s0
  rw [if_pos (own_un q0), if_pos (own_un _)]; rfl
set_option maxRecDepth 65536 in
set_option maxHeartbeats 40000000 in
theorem rm0 (l : Launch) (Z : State) (a0 : Array Value) (hw : ∀ d ∈ tables_1, d.before a0 Z = true) (ws : List Jvm.Cond) (q0 : Int64) (h0 : Heap) (n0 : Nat) (Z0 : n0 ≤ h0.size) : MetP l x code maxLocals ret ws room_1 Z #[(.long q0)] h0 (fun v h L => v = some (.int (1 : Int32)) ∧ Fr n0 L) := by
  refine met_go pn_0 ?_
  intro p e s m below meth c s₁ hx hby hml hown hnm hret hlk hZ e0 X0
  have N0 := Fr.nil n0
  rw [ef_0 m q0]
  refine o_new 3 X0 hx rfl hZ hown (wd_0 hw) (wd_1 hw) (wd_2 hw) e0 (hb hby at_0) (by decide) (by decide) fun T1 h1 a1 g1 X1 e1 E1 A1 D1 => ?_
  have ge2 : n0 ≤ a1 := Nat.le_trans Z0 (Nat.le_of_eq g1.symm)
  have sz3 : n0 ≤ h1.size := Nat.le_trans Z0 E1.1
  have F4 : Fld Z h1 a1 "com/example/roundelay/roundelay/random/SeededRandom" "state" "J" (.long (0 : Int64)) := D1 (Or.inl (wd_10 hw)) (ty := .long) (by decide)
  refine o_dup 4 X1 hx rfl (hb hby at_3) rfl ?_
  refine o_lloadN 5 X1 hx rfl (hb hby at_4) rfl ?_
  refine o_callIw 8 X1 hx rfl hZ rfl hown (wd_3 hw) (wd_4 hw) (wd_2 hw) (wd_5 hw) (by decide) e1 N0 (rm1 l Z a0 hw a1 q0 h1 n0 sz3 ge2 A1 F4) pd_lJrV a1 [(.long q0)] [(.ref a1)] rfl rfl (by rw [hml]; rfl) rfl (hb hby at_5) 1 (Nat.le_of_eq rfl) (by decide) (by decide) (by decide) (by decide) fun v5 T5 L5 LL5 X5 Q5 NF5 => ?_
  obtain ⟨rfl, M5, K5, E5, F5_state⟩ := Q5
  have NN5 := NF5 M5
  have sz6 : n0 ≤ T5.heap.size := Nat.le_trans sz3 K5.1
  show Go p.tables e below (EndE s room_1 (fun v h L => v = some (.int (1 : Int32)) ∧ Fr n0 L)) (T5.setTop (mkF m 8 #[.val (.long q0), .second, .unset, .unset, .unset, .unset, .unset] [(.ref a1)]))
  refine o_astoreN 9 X5 hx rfl (hb hby at_8) rfl #[.val (.long q0), .second, .val (.ref a1), .unset, .unset, .unset, .unset] rfl ?_
  refine o_aloadN 10 X5 hx rfl (hb hby at_9) rfl rfl ?_
  refine o_callVw 13 X5 hx rfl hZ hown (wd_11 hw) (wd_12 hw) (wd_14 hw) (wd_13 hw) (wd_2 hw) (wd_15 hw) (by decide) rfl NN5 (rm3 l Z a0 hw a1 q0 T5.heap n0 sz6 ge2 E5 F5_state) pd_lrJ [] [] rfl E5 rfl (by rw [hml]; rfl) rfl (hb hby at_10) 0 (Nat.le_of_eq rfl) (by decide) (by decide) (by decide) (by decide) fun v7 T7 L7 LL7 X7 Q7 NF7 => ?_
  obtain ⟨rfl, M7, K7, E7, F7_state⟩ := Q7
  have NN7 := NF7 M7
  have sz8 : n0 ≤ T7.heap.size := Nat.le_trans sz6 K7.1
  show Go p.tables e below (EndE s room_1 (fun v h L => v = some (.int (1 : Int32)) ∧ Fr n0 L)) (T7.setTop (mkF m 13 #[.val (.long q0), .second, .val (.ref a1), .unset, .unset, .unset, .unset] [(.long (fn3 q0))]))
  refine o_lstoreN 14 X7 hx rfl (hb hby at_13) #[.val (.long q0), .second, .val (.ref a1), .val (.long (fn3 q0)), .second, .unset, .unset] rfl ?_
  refine o_aloadN 15 X7 hx rfl (hb hby at_14) rfl rfl ?_
  refine o_callVw 18 X7 hx rfl hZ hown (wd_11 hw) (wd_12 hw) (wd_14 hw) (wd_13 hw) (wd_2 hw) (wd_15 hw) (by decide) rfl NN7 (rm3 l Z a0 hw a1 (q0 + (-7046029254386353131 : Int64)) T7.heap n0 sz8 ge2 E7 F7_state) pd_lrJ [] [] rfl E7 rfl (by rw [hml]; rfl) rfl (hb hby at_15) 0 (Nat.le_of_eq rfl) (by decide) (by decide) (by decide) (by decide) fun v9 T9 L9 LL9 X9 Q9 NF9 => ?_
  obtain ⟨rfl, M9, K9, E9, F9_state⟩ := Q9
  have F9_state' : Fld Z T9.heap a1 "com/example/roundelay/roundelay/random/SeededRandom" "state" "J" (.long (f0_state9 q0)) := F9_state
  have NN9 := NF9 M9
  have sz10 : n0 ≤ T9.heap.size := Nat.le_trans sz8 K9.1
  show Go p.tables e below (EndE s room_1 (fun v h L => v = some (.int (1 : Int32)) ∧ Fr n0 L)) (T9.setTop (mkF m 18 #[.val (.long q0), .second, .val (.ref a1), .val (.long (fn3 q0)), .second, .unset, .unset] [(.long (fn3 (q0 + (-7046029254386353131 : Int64))))]))
  refine o_lstore 20 X9 hx rfl (hb hby at_18) #[.val (.long q0), .second, .val (.ref a1), .val (.long (fn3 q0)), .second, .val (.long (fn3 (q0 + (-7046029254386353131 : Int64)))), .second] rfl ?_
  refine o_lloadN 21 X9 hx rfl (hb hby at_20) rfl ?_
  refine o_callP (rv := (.long (fn4 (fn3 q0)))) 24 X9 hx rfl hZ hown (wd_19 hw) (wd_20 hw) (wd_21 hw) (wd_22 hw) (by decide) rfl (rm4 l Z a0 hw (fn3 q0) T9.heap) pd_lJrJ [(.long (fn3 q0))] [] rfl rfl (by rw [hml]; rfl) rfl (hb hby at_21) 0 (Nat.le_of_eq rfl) (by decide) (by decide) (by decide) (by decide) rfl rfl fun T11 X11 e11 => ?_
  refine o_lloadN 25 X11 hx rfl (hb hby at_24) rfl ?_
  refine o_ldc2Long 28 X11 hx rfl hZ hown (wd_25 hw) (hb hby at_25) ?_
  refine o_ladd 29 X11 hx rfl (hb hby at_28) ?_
  refine o_lcmp 30 X11 hx rfl (hb hby at_29) ?_
  suffices j56_12 : ∀ (T' : State), Stand p l e room_1 s m #[(.long q0)] below meth c T' LL9 1 1 → T'.heap = T9.heap → Go p.tables e below (EndE s room_1 (fun v h L => v = some (.int (1 : Int32)) ∧ Fr n0 L)) (T'.setTop (mkF m 56 #[.val (.long q0), .second, .val (.ref a1), .val (.long (fn3 q0)), .second, .val (.long (fn3 (q0 + (-7046029254386353131 : Int64)))), .second] [(.int (f0_56_s0 q0))])) by
    by_cases hc30_13 : (fn4 (fn3 q0)) = (q0 + (-7046029254386353131 : Int64))
    · refine o_ifNo 33 X11 hx rfl (hb hby at_30) (teq (l_teq hc30_13)).2 ?_
      refine o_lload 35 X11 hx rfl (hb hby at_33) rfl ?_
      refine o_callP (rv := (.long (fn4 (fn3 (q0 + (-7046029254386353131 : Int64)))))) 38 X11 hx rfl hZ hown (wd_19 hw) (wd_20 hw) (wd_21 hw) (wd_22 hw) (by decide) e11 (rm4 l Z a0 hw (fn3 (q0 + (-7046029254386353131 : Int64))) T9.heap) pd_lJrJ [(.long (fn3 (q0 + (-7046029254386353131 : Int64))))] [] rfl rfl (by rw [hml]; rfl) rfl (hb hby at_35) 0 (Nat.le_of_eq rfl) (by decide) (by decide) (by decide) (by decide) rfl rfl fun T14 X14 e14 => ?_
      refine o_lloadN 39 X14 hx rfl (hb hby at_38) rfl ?_
      refine o_ldc2Long 42 X14 hx rfl hZ hown (wd_25 hw) (hb hby at_39) ?_
      refine o_ladd 43 X14 hx rfl (hb hby at_42) ?_
      refine o_ldc2Long 46 X14 hx rfl hZ hown (wd_25 hw) (hb hby at_43) ?_
      refine o_ladd 47 X14 hx rfl (hb hby at_46) ?_
      refine o_lcmp 48 X14 hx rfl (hb hby at_47) ?_
      by_cases hc48_15 : (fn4 (fn3 (q0 + (-7046029254386353131 : Int64)))) = ((q0 + (-7046029254386353131 : Int64)) + (-7046029254386353131 : Int64))
      · refine o_ifNo 51 X14 hx rfl (hb hby at_48) (teq (l_teq hc48_15)).2 ?_
        refine o_iconst 52 X14 hx rfl (hb hby at_51) (1 : Int32) rfl ?_
        refine o_goto 56 X14 hx (hb hby at_52) (by decide) (by decide) ?_
        rw [show (f0_56_s0 q0) = (1 : Int32) from by unfold f0_56_s0; simp only [if_pos hc30_13, if_pos hc48_15]] at j56_12
        exact j56_12 T14 X14 e14
      · refine o_ifYes 55 X14 hx (hb hby at_48) (feq (l_feq hc48_15)).2 (by decide) (by decide) ?_
        refine o_iconst 56 X14 hx rfl (hb hby at_55) (0 : Int32) rfl ?_
        rw [show (f0_56_s0 q0) = (0 : Int32) from by unfold f0_56_s0; simp only [if_pos hc30_13, if_neg hc48_15]] at j56_12
        exact j56_12 T14 X14 e14
    · refine o_ifYes 55 X11 hx (hb hby at_30) (feq (l_feq hc30_13)).2 (by decide) (by decide) ?_
      refine o_iconst 56 X11 hx rfl (hb hby at_55) (0 : Int32) rfl ?_
      rw [show (f0_56_s0 q0) = (0 : Int32) from by unfold f0_56_s0; simp only [if_neg hc30_13]] at j56_12
      exact j56_12 T11 X11 e11
  intro T16 X16 e16
  refine o_retN X16 hx .boolean (by simp) hret hlk (hb hby at_56) (by decide) (by decide) ?_
  exact ⟨show some (Value.int (nar .boolean (f0_56_s0 q0))) = some (Value.int (1 : Int32)) from by rw [← own_law q0, show (fn0 q0) = (nar .boolean (f0_56_s0 q0)) from by rfl], NN9⟩
set_option maxRecDepth 65536 in
set_option maxHeartbeats 40000000 in
theorem comes_1 {Post : Tables → Env → Array Value → State → Outcome → State → Prop} (hpost : ∀ tb e args s v u, (limb_1_1.after args s (.returned v) u = true ∧ limb_1_2.after args s (.returned v) u = true ∧ True) → FrameEnd s (.returned v) u (Jvm.fieldLocs frame_1_writes args s ++ Jvm.arrayLocs frame_1_arrays args s ++ Jvm.staticLocs frame_1_statics s) 16 128 → Post tb e args s (.returned v) u) :
    ArmFor flags0 classFile x code maxLocals ret World_1 tables_1 room_1 Calls_1 rest_1 Pre_1 Post := by
  intro l hfl _ _ p e ha hc hk s m args below hf hA hF happ hP
  obtain ⟨hcalls, hrest, hpre⟩ := hP
  obtain ⟨-, -, -, hnamed, -, -, -, hat⟩ := (Spec.applies_iff hf).mp happ
  obtain ⟨hg, hn⟩ := and_e (Cond.before_iff.mp (show (Jvm.Cond.and given_1 narrow_1).before args s = true from hpre))
  obtain ⟨gc, g0⟩ := and_e hg
  obtain ⟨w0, rfl⟩ : ∃ w0 : Value, args = #[w0] := by
    have hs : args.size = 1 := by simpa [Cond.value, given_1] using gc
    obtain ⟨L⟩ := args
    match L, hs with
    | [w0], _ => exact ⟨w0, rfl⟩
  have hw := fun d (hd : d ∈ tables_1) => atoms_spec (ws := Jvm.Cond.code x code maxLocals ret :: tables_1) hat d (List.mem_cons_of_mem _ hd)
  obtain ⟨i0, ei0⟩ := isL_v g0
  obtain rfl : w0 = (.long i0) := Option.some.inj ei0
  obtain ⟨n, o, h1, h2, h3, _, L, rfl, ⟨rfl, N⟩, hq⟩ := rm0 l s _ hw tables_1 i0 s.heap s.heap.size (Nat.le_refl _) p e ha hc hk s m _ below hf ((Spec.applies_iff_loose hf).mp happ).1 ⟨rfl, State.Warmed39.refl s, rfl⟩ trivial
  refine ⟨n, _, h1, h2, h3, hpost _ _ _ _ _ _ ⟨Cond.after_iff.mpr rfl, Cond.after_iff.mpr (eq_i res_at (Term.int_eval (1)) rfl), trivial⟩ ⟨hq.1, hq.2.1, (hq.2.2.sift fun y hy => Or.inr (N y hy)).mono (by decide) (by decide)⟩⟩
theorem main_1_1 : Claimed_1_1 := comes_1 fun _ _ _ _ _ _ h hF => ⟨h.1, hF⟩
theorem main_1_2 : Claimed_1_2 := comes_1 fun _ _ _ _ _ _ h hF => ⟨h.2.1, hF⟩
end Jvm.Pilot.@@N@@
namespace Jvm.Pilot.@@N@@
open Jvm Jvm.ClassFile Sem Op Lib Jvm.Free Jvm.Stand Jvm.Pilot.@@N@@.Jvm.D
/-! MADE BY PROGRAM (witnessworld.py) out of the Statement's table words and the real class files: 9 classes; the members and pool entries that the words name. The judged class is class 1, her method 2. -/
namespace start1
open Jvm.ClassFile
def u (s : String) : CpInfo := .utf8 (stringToUtf16 s)
/-- a pool by its gaps: so many unusable entries, then the entry; so many at the end -/
def gap : Nat → List CpInfo → List CpInfo
  | 0, r => r
  | n + 1, r => .unusable :: gap n r
def poolList (es : List (Nat × CpInfo)) (last : Nat) : List CpInfo := es.foldr (fun e r => gap e.1 (e.2 :: r)) (gap last [])
def pool (es : List (Nat × CpInfo)) (last : Nat) : Array CpInfo := ⟨poolList es last⟩
def fileOf (pool : Array CpInfo) (this : Nat) (attrs : Array Attribute := #[]) (ms : Array MethodInfo := #[]) (fl : Nat := 33) (sup : Nat := 0) (ifs : Array Nat := #[]) (fds : Array FieldInfo := #[]) : ClassFile where
  minorVersion := 0
  majorVersion := 65
  constantPool := pool
  accessFlags := fl
  thisClass := this
  superClass := sup
  interfaces := ifs
  fields := fds
  methods := ms
  attributes := attrs
def plain (name : String) (sup : Option ClassId) : Class where
  name := name
  kind := .ordinary
  loader := none
  accessFlags := 33
  super := sup
  interfaces := #[]
  cf := none
  fields := #[]
  methods := #[]
  instanceTypes := #[]
  staticTypes := #[]
  resolved := #[]
  callSites := []
  init := .initialized
  statics := none
  mirror := none

def pool0 : Array CpInfo := pool [(5, u "<init>"), (0, u "()V"), (1, .class_ 10), (1, u "java/lang/Object")] 113

def k0c0 : Code := { maxStack := 0, maxLocals := 1, code := object_method_1_code, exceptionTable := #[], attributes := #[] }
def k0m0 : Method := { name := "<init>", desc := "()V", sig := { parameters := [], returnType := none }, accessFlags := 1, code := some k0c0 }
/-- java/lang/Object -/
def k0 : Class := { plain "java/lang/Object" none with
  accessFlags := 33
  interfaces := #[]
  cf := some (fileOf pool0 8 #[] #[{ accessFlags := 1, nameIndex := 5, descriptorIndex := 6, attributes := #[] }] 33 0 #[] #[])
  fields := #[]
  methods := #[k0m0]
  instanceTypes := #[]
  staticTypes := #[]
  resolved := Array.replicate 124 none
  statics := none }

def pool1 : Array CpInfo := pool [(2, .class_ 4), (1, u "java/lang/Object"), (0, u "<init>"), (0, u "()V"), (0, .class_ 8), (0, u "com/example/roundelay/roundelay/random/SeededRandomNextPinLaw"), (0, .long 3573116690164977347), (1, .long 10871156337175269513), (1, .class_ 14), (0, u "com/example/roundelay/roundelay/random/SeededRandom"), (0, .methodref 13 16), (0, .nameAndType 5 17), (0, u "(J)V"), (0, .methodref 13 19), (0, .nameAndType 20 21), (0, u "next"), (0, u "()J"), (0, .methodref 7 23), (0, .nameAndType 24 25), (0, u "unmix"), (0, u "(J)J"), (0, .long 11400714819323198485), (1, u "GAMMA"), (0, u "J"), (1, u "INVERSE_FIRST"), (0, u "INVERSE_SECOND"), (2, u "law"), (0, u "(J)Z")] 3

def k1m0 : Method := { name := "<init>", desc := "()V", sig := { parameters := [], returnType := none }, accessFlags := 1, code := none }
def k1c1 : Code := { maxStack := 5, maxLocals := 4, code := method_2_code, exceptionTable := #[], attributes := #[] }
def k1m1 : Method := { name := "unmix", desc := "(J)J", sig := { parameters := [.long], returnType := some .long }, accessFlags := 10, code := some k1c1 }
def k1c2 : Code := { maxStack := 6, maxLocals := 7, code := code, exceptionTable := #[], attributes := #[] }
def k1m2 : Method := { name := "law", desc := "(J)Z", sig := { parameters := [.long], returnType := some .boolean }, accessFlags := 9, code := some k1c2 }
/-- com/example/roundelay/roundelay/random/SeededRandomNextPinLaw -/
def k1 : Class := { plain "com/example/roundelay/roundelay/random/SeededRandomNextPinLaw" (some 0) with
  accessFlags := 49
  interfaces := #[]
  cf := some (fileOf pool1 7 #[] #[{ accessFlags := 1, nameIndex := 5, descriptorIndex := 6, attributes := #[] }, { accessFlags := 10, nameIndex := 24, descriptorIndex := 25, attributes := #[] }, { accessFlags := 9, nameIndex := 35, descriptorIndex := 36, attributes := #[] }] 49 2 #[] #[{ accessFlags := 26, nameIndex := 28, descriptorIndex := 29, attributes := #[] }, { accessFlags := 26, nameIndex := 31, descriptorIndex := 29, attributes := #[] }, { accessFlags := 26, nameIndex := 32, descriptorIndex := 29, attributes := #[] }])
  fields := #[{ name := "GAMMA", type := .long, accessFlags := 26, slot := 0, constantValue := 0 }, { name := "INVERSE_FIRST", type := .long, accessFlags := 26, slot := 1, constantValue := 0 }, { name := "INVERSE_SECOND", type := .long, accessFlags := 26, slot := 2, constantValue := 0 }]
  methods := #[k1m0, k1m1, k1m2]
  instanceTypes := #[]
  staticTypes := #[.long, .long, .long]
  resolved := Array.replicate 40 none
  statics := none }

def pool2 : Array CpInfo := pool [(1, .methodref 2 3), (0, .class_ 4), (0, .nameAndType 5 6), (0, u "java/lang/Object"), (0, u "<init>"), (0, u "()V"), (0, .fieldref 8 9), (0, .class_ 10), (0, .nameAndType 11 12), (0, u "com/example/roundelay/roundelay/random/SeededRandom"), (0, u "state"), (0, u "J"), (2, u "(J)V"), (0, .long 11400714819323198485), (1, .long 13787848793156543929), (1, .long 10723151780598845931), (12, u "next"), (0, u "()J"), (16, u "GAMMA"), (1, u "FIRST_MULTIPLIER"), (0, u "SECOND_MULTIPLIER")] 30

def k2c0 : Code := { maxStack := 3, maxLocals := 3, code := prog_43_method_1_code, exceptionTable := #[], attributes := #[] }
def k2m0 : Method := { name := "<init>", desc := "(J)V", sig := { parameters := [.long], returnType := none }, accessFlags := 1, code := some k2c0 }
def k2c1 : Code := { maxStack := 5, maxLocals := 3, code := prog_43_method_3_code, exceptionTable := #[], attributes := #[] }
def k2m1 : Method := { name := "next", desc := "()J", sig := { parameters := [], returnType := some .long }, accessFlags := 1, code := some k2c1 }
/-- com/example/roundelay/roundelay/random/SeededRandom -/
def k2 : Class := { plain "com/example/roundelay/roundelay/random/SeededRandom" (some 0) with
  accessFlags := 49
  interfaces := #[]
  cf := some (fileOf pool2 8 #[] #[{ accessFlags := 1, nameIndex := 5, descriptorIndex := 15, attributes := #[] }, { accessFlags := 1, nameIndex := 33, descriptorIndex := 34, attributes := #[] }] 49 2 #[] #[{ accessFlags := 26, nameIndex := 51, descriptorIndex := 12, attributes := #[] }, { accessFlags := 26, nameIndex := 53, descriptorIndex := 12, attributes := #[] }, { accessFlags := 26, nameIndex := 54, descriptorIndex := 12, attributes := #[] }, { accessFlags := 2, nameIndex := 11, descriptorIndex := 12, attributes := #[] }])
  fields := #[{ name := "GAMMA", type := .long, accessFlags := 26, slot := 0, constantValue := 0 }, { name := "FIRST_MULTIPLIER", type := .long, accessFlags := 26, slot := 1, constantValue := 0 }, { name := "SECOND_MULTIPLIER", type := .long, accessFlags := 26, slot := 2, constantValue := 0 }, { name := "state", type := .long, accessFlags := 2, slot := 0, constantValue := 0 }]
  methods := #[k2m0, k2m1]
  instanceTypes := #[.long]
  staticTypes := #[.long, .long, .long]
  resolved := Array.replicate 85 none
  statics := none }

def pool3 : Array CpInfo := pool [(1, u "java/lang/Cloneable"), (0, .class_ 1), (0, u "java/lang/Object"), (0, .class_ 3)] 3

/-- java/lang/Cloneable -/
def k3 : Class := { plain "java/lang/Cloneable" (some 0) with
  accessFlags := 1537
  interfaces := #[]
  cf := some (fileOf pool3 2 #[] #[] 1537 4 #[] #[])
  fields := #[]
  methods := #[]
  instanceTypes := #[]
  staticTypes := #[]
  resolved := Array.replicate 8 none
  statics := none }

def pool4 : Array CpInfo := pool [(1, u "java/io/Serializable"), (0, .class_ 1), (0, u "java/lang/Object"), (0, .class_ 3)] 3

/-- java/io/Serializable -/
def k4 : Class := { plain "java/io/Serializable" (some 0) with
  accessFlags := 1537
  interfaces := #[]
  cf := some (fileOf pool4 2 #[] #[] 1537 4 #[] #[])
  fields := #[]
  methods := #[]
  instanceTypes := #[]
  staticTypes := #[]
  resolved := Array.replicate 8 none
  statics := none }

/-- the primitive byte -/
def k5 : Class := { plain "byte" none with kind := .primitive 'B', accessFlags := 0x411 }
/-- [B -/
def k6 : Class := { plain "[B" (some 0) with kind := .array 5 .byte, interfaces := #[3, 4], accessFlags := 1041 }

/-- the primitive int -/
def k7 : Class := { plain "int" none with kind := .primitive 'I', accessFlags := 0x411 }
/-- [I -/
def k8 : Class := { plain "[I" (some 0) with kind := .array 7 .int, interfaces := #[3, 4], accessFlags := 1041 }

def heap : Heap := #[]
def classes : Array Class := #[k0, k1, k2, k3, k4, k5, k6, k7, k8]
def interned : List (Array UInt16 × Addr) := []
def slotsUsed : Nat := 0
def theMethod : MethodId := ⟨1, 2⟩
def args0 : Array Value := #[.long 5]
def aboutOver (below : List Frame) : State where
  vm := { classes := classes, interned := interned.toArray }
  heap := heap
  slotsUsed := slotsUsed
  threads := #[{ frames := .invoking theMethod args0 :: below }]
def below0 : List Frame := [.native { method := ⟨0, 0⟩, args := #[] }]
def about1 : State := aboutOver below0
def p0 : Program := .bare "" "" ""
def e0 : Env := launch0.env 0 0 0
theorem w_frames : about1.frames = Frame.invoking theMethod args0 :: below0 := rfl
set_option maxRecDepth 65536 in
theorem w_args : argsFit about1.vm theMethod args0 = true := by decide +kernel
set_option maxRecDepth 65536 in
theorem w_heap : heapFits about1 = true := by decide +kernel
set_option maxRecDepth 65536 in
theorem w_runnable : about1.curStatus? = some .runnable := by decide +kernel
set_option maxRecDepth 65536 in
theorem w_alone : about1.alone = true := by decide +kernel
set_option maxRecDepth 65536 in
theorem w_named : about1.methodNamed? x = some theMethod := by decide +kernel
set_option maxRecDepth 65536 in
theorem w_hears : about1.hears theMethod below0 = true := by decide +kernel
set_option maxRecDepth 65536 in
theorem w_ripe : about1.ripe theMethod args0 below0 = true := by decide +kernel
theorem w_running : about1.status = .running := rfl
set_option maxRecDepth 65536 in
theorem w_room : about1.hasRoom e0.platform room_1 = true :=
  launch0.hasRoom_least _ room_1 (by decide +kernel) (by decide +kernel) (by decide +kernel) (by decide +kernel) (by decide +kernel) (by decide +kernel)
theorem allAtoms_all (ts : List Jvm.Cond) (a : Array Jvm.Value) (st : Jvm.State) : (allAtoms ts).before a st = ts.all (fun c => c.before a st) := by
  induction ts with
  | nil => rfl
  | cons c t ih =>
    show (Jvm.Cond.and c (allAtoms t)).before a st = _
    rw [Jvm.Cond.before_and, ih, List.all_cons]
def words1 : List Jvm.Cond := Jvm.Cond.code x code maxLocals ret :: tables_1
/-- a 'code' word, met by the world's own term for the bytes: nothing is compared byte by byte -/
theorem code_word {y : MethodName} {bytes : ByteArray} {mx : Nat} {rt : Option FieldType} {a : Array Value} {s : State} {m : MethodId} {meth : Method} {c : Code} (h1 : s.methodNamed? y = some m) (h2 : s.vm.method? m = some meth) (h3 : meth.code = some c) (h4 : c.code = bytes)
    (h5 : (c.maxLocals == mx && c.exceptionTable.isEmpty && decide (c.maxStack ≤ mostOperands) && decide (meth.sig.returnType = rt) && !meth.locks && decide (parseMethodDescriptor y.desc = some meth.sig)) = true) : (Jvm.Cond.code y bytes mx rt).before a s = true := by
  simp only [Bool.and_eq_true, beq_iff_eq, Bool.not_eq_true', decide_eq_true_eq] at h5
  obtain ⟨⟨⟨⟨⟨g1, g2⟩, g3⟩, g4⟩, g5⟩, g6⟩ := h5
  simp [Cond.before, Cond.holds, Cond.value, h1, h2, h3, h4, g1, g2, g3, g4, g5, g6]
def isCode : Jvm.Cond → Bool
  | .code _ _ _ _ => true
  | _ => false
theorem all_split {L : List Jvm.Cond} {P : Jvm.Cond → Bool} (h1 : L.all (fun c => isCode c || P c) = true) (h2 : ∀ c ∈ L.filter isCode, P c = true) : L.all P = true := by
  refine List.all_eq_true.mpr fun c hc => ?_
  have h := List.all_eq_true.mp h1 c hc
  rcases Bool.eq_false_or_eq_true (isCode c) with hi | hi
  · exact h2 c (List.mem_filter.mpr ⟨hc, hi⟩)
  · simpa [hi] using h
set_option maxRecDepth 65536 in
theorem w_c0 : (Jvm.Cond.code x code maxLocals ret).before args0 about1 = true := code_word (m := ⟨1, 2⟩) (meth := k1m2) (c := k1c2) (by decide +kernel) rfl rfl rfl (by decide +kernel)
set_option maxRecDepth 65536 in
theorem w_c1 : (Jvm.Cond.code ({ cls := "com/example/roundelay/roundelay/random/SeededRandom", name := "<init>", desc := "(J)V" } : Jvm.MethodName) prog_43_method_1_code (3 : Nat) (Option.none : Option Jvm.ClassFile.FieldType)).before args0 about1 = true := code_word (m := ⟨2, 0⟩) (meth := k2m0) (c := k2c0) (by decide +kernel) rfl rfl rfl (by decide +kernel)
set_option maxRecDepth 65536 in
theorem w_c2 : (Jvm.Cond.code ({ cls := "java/lang/Object", name := "<init>", desc := "()V" } : Jvm.MethodName) object_method_1_code (1 : Nat) (Option.none : Option Jvm.ClassFile.FieldType)).before args0 about1 = true := code_word (m := ⟨0, 0⟩) (meth := k0m0) (c := k0c0) (by decide +kernel) rfl rfl rfl (by decide +kernel)
set_option maxRecDepth 65536 in
theorem w_c3 : (Jvm.Cond.code ({ cls := "com/example/roundelay/roundelay/random/SeededRandom", name := "next", desc := "()J" } : Jvm.MethodName) prog_43_method_3_code (3 : Nat) (Option.some Jvm.ClassFile.FieldType.long)).before args0 about1 = true := code_word (m := ⟨2, 1⟩) (meth := k2m1) (c := k2c1) (by decide +kernel) rfl rfl rfl (by decide +kernel)
set_option maxRecDepth 65536 in
theorem w_c4 : (Jvm.Cond.code ({ cls := "com/example/roundelay/roundelay/random/SeededRandomNextPinLaw", name := "unmix", desc := "(J)J" } : Jvm.MethodName) method_2_code (4 : Nat) (Option.some Jvm.ClassFile.FieldType.long)).before args0 about1 = true := code_word (m := ⟨1, 1⟩) (meth := k1m1) (c := k1c1) (by decide +kernel) rfl rfl rfl (by decide +kernel)
def codes1 : List Jvm.Cond := [Jvm.Cond.code x code maxLocals ret, Jvm.Cond.code ({ cls := "com/example/roundelay/roundelay/random/SeededRandom", name := "<init>", desc := "(J)V" } : Jvm.MethodName) prog_43_method_1_code (3 : Nat) (Option.none : Option Jvm.ClassFile.FieldType), Jvm.Cond.code ({ cls := "java/lang/Object", name := "<init>", desc := "()V" } : Jvm.MethodName) object_method_1_code (1 : Nat) (Option.none : Option Jvm.ClassFile.FieldType), Jvm.Cond.code ({ cls := "com/example/roundelay/roundelay/random/SeededRandom", name := "next", desc := "()J" } : Jvm.MethodName) prog_43_method_3_code (3 : Nat) (Option.some Jvm.ClassFile.FieldType.long), Jvm.Cond.code ({ cls := "com/example/roundelay/roundelay/random/SeededRandomNextPinLaw", name := "unmix", desc := "(J)J" } : Jvm.MethodName) method_2_code (4 : Nat) (Option.some Jvm.ClassFile.FieldType.long)]
set_option maxRecDepth 65536 in
theorem codes_eq : words1.filter isCode = codes1 := rfl
theorem w_codes : ∀ c ∈ words1.filter isCode, c.before args0 about1 = true := by
  rw [codes_eq]
  intro c hc
  simp only [codes1, List.mem_cons, List.not_mem_nil, or_false] at hc
  rcases hc with rfl | rfl | rfl | rfl | rfl
  · exact w_c0
  · exact w_c1
  · exact w_c2
  · exact w_c3
  · exact w_c4
set_option maxRecDepth 65536 in
theorem w_t1 : (words1.take 24).all (fun c => isCode c || c.before args0 about1) = true := by decide +kernel
set_option maxRecDepth 65536 in
theorem w_t2 : (words1.drop 24).all (fun c => isCode c || c.before args0 about1) = true := by decide +kernel
theorem w_tables : (allAtoms (Jvm.Cond.code x code maxLocals ret :: tables_1)).before args0 about1 = true := by
  rw [allAtoms_all]
  show words1.all (fun c => c.before args0 about1) = true
  refine all_split ?_ w_codes
  rw [← List.take_append_drop 24 words1, List.all_append, w_t1, w_t2]
  rfl
set_option maxRecDepth 65536 in
theorem w_case : (Jvm.Cond.and given_1 narrow_1).before args0 about1 = true := by decide +kernel
theorem w_applies : (headSpec (Jvm.Cond.code x code maxLocals ret :: tables_1) room_1).applies x e0.platform about1 = true :=
  (Spec.applies_iff w_frames).mpr ⟨w_running, w_runnable, w_alone, w_named, w_hears, w_ripe, w_room, w_tables⟩
theorem atStart : AtStart classFile x code maxLocals ret World_1 tables_1 room_1 Calls_1 rest_1 Pre_1 launch0 p0 e0 about1 theMethod args0 below0 :=
  ⟨lists_1, trivial, launch0.admits_env _ _ _, launch0.least_env, fairChoices_fair.cas, fairChoices_fair.clock, w_frames, w_args, w_heap, w_applies, trivial, trivial, w_case⟩
end start1
theorem witness_1 : WitnessClaimed_1 := ⟨start1.p0, start1.e0, start1.about1, start1.theMethod, start1.args0, start1.below0, start1.atStart⟩
end Jvm.Pilot.@@N@@
