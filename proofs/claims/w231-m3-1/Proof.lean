import JvmDerived
import JvmDerived.Pilot.@@N@@Statement
import JvmDerived.Pilot.@@N@@Code
set_option linter.unusedVariables false
set_option linter.unusedSimpArgs false
namespace Jvm.Own
open Jvm Jvm.ClassFile Sem Op Lib Jvm.Free Jvm.Stand Jvm.LawKit Jvm.RoadKit Bundle
section Base
variable {p : Program} {l : Launch} {e : Env} {R : Room} {s : State} {m : MethodId} {args : Array Value} {below : List Frame} {meth : Method} {c : Code} {T : State} {locs : List Loc} {cells slots : Nat} {Z : State} {a0 : Array Value} {h : Heap}
/-- from t the run ends, and its end is as Qf says -/
def Go (p : Program) (e : Env) (below : List Frame) (Qf : Outcome → State → Prop) (t : State) : Prop :=
  ∃ s₂ o, Steps p.tables e below t s₂ ∧ s₂.status = .running ∧ Ended s₂ below o ∧ Qf o s₂
theorem Go.step {Qf : Outcome → State → Prop} {t t' : State} (k : ∀ u, Steps p.tables e below t' u → Steps p.tables e below t u) (h : Go p e below Qf t') : Go p e below Qf t := by
  obtain ⟨s₂, o, h1, h2⟩ := h
  exact ⟨s₂, o, k _ h1, h2⟩
theorem own_join {Qf : Outcome → State → Prop} {t t' : State} (h : Go p e below Qf t → Go p e below Qf t') (k : Go p e below Qf t) : Go p e below Qf t' := h k
theorem own_joinA {α : Type} {P : α → Prop} {Qf : Outcome → State → Prop} {t : α → State} {t' : State} (h : (∀ v, P v → Go p e below Qf (t v)) → Go p e below Qf t') (k : ∀ v, P v → Go p e below Qf (t v)) : Go p e below Qf t' := h k
/-- the end of a narrow walk -/
def QN (s : State) (rm : Room) (Q : Option Value → Heap → List Loc → Prop) (o : Outcome) (U' : State) : Prop := ∃ v L, o = .returned v ∧ Q v U'.heap L ∧ FrameEnd s o U' L rm.cells rm.slots
abbrev CN (l : Launch) (Z : State) (y : MethodName) (ws : List Jvm.Cond) (rm : Room) (as : Array Value) (h0 : Heap) (Q : Option Value → Heap → List Loc → Prop) : Prop :=
  MetFree l y (head1 ws rm) (fun a U => a = as ∧ Z.Warmed39 U.vm ∧ U.heap = h0) (fun _ _ _ _ _ => True) (fun _ U o U' => ∃ v L, o = .returned v ∧ Q v U'.heap L ∧ FrameEnd U o U' L rm.cells rm.slots)
theorem CN.of {y : MethodName} {bytes : ByteArray} {maxL : Nat} {ret : Option FieldType} {ws : List Jvm.Cond} {rm : Room} {as : Array Value} {h0 : Heap} {Q : Option Value → Heap → List Loc → Prop} {L0 : Array Slot}
    (hp : plainFor y = true) (ef : ∀ m, entryFrame m as maxL = mkF m 0 L0 [])
    (body : ∀ (p : Program) (e : Env) (s : State) (m : MethodId) (below : List Frame) (meth : Method) (c : Code) (s₁ : State), p.tables.exec = Jvm.exec → c.code = bytes → c.maxLocals = maxL → meth.sig.returnType = ret → meth.locks = false → Z.Warmed39 s.vm → s.vm.findClass y.cls = some m.cls → meth.name = y.name → Stand p l e rm s m as below meth c s₁ [] 0 0 → s₁.heap = h0 → Go p e below (QN s rm Q) (s₁.setTop (mkF m 0 L0 []))) :
    CN l Z y (Jvm.Cond.code y bytes maxL ret :: ws) rm as h0 Q := by
  refine MetFree.of_bodySF hp hisR ?_
  intro p e s m args below meth c s₁ Bd hml0 hP hK
  obtain ⟨rfl, hZ, hh⟩ := hP
  have q := body p e s m below meth c s₁ Bd.exec Bd.bytes hml0 Bd.returns Bd.notSynchronized hZ (findClass_of_methodNamed Bd.named) (name_of_methodNamed Bd.named Bd.method).1 (Stand.of_body Bd) (by rw [← hh, Bd.state]; rfl)
  rw [← ef m] at q
  exact q
theorem Go.ret {Q : Option Value → Heap → List Loc → Prop} {rm : Room} {t : State} (X : Stand p l e R s m args below meth c T locs cells slots) (hlk : meth.locks = false) (v : Option Value) (hv : meth.sig.returnType = none → v = none) (hc : cells ≤ rm.cells) (hs : slots ≤ rm.slots) (q : Q v T.heap locs)
    (st : ∀ fs, (∀ (f : JFrame) (acts : List Action), f.method = m → f.locked = none → f.entered = [] → (doReturn e (T.setTop f) acts v).1 = T.setFrames fs) → Steps p.tables e below t (T.setFrames fs)) : Go p e below (QN s rm Q) t := by
  obtain ⟨fs, hr, hrun, hended, hW, hsame⟩ := X.leave (v := v) hv hlk
  exact ⟨_, _, st fs hr, hrun, hended, v, locs, rfl, q, ⟨v, rfl⟩, hW, hsame.mono hc hs⟩
/-- a value comes back -/
theorem Go.retV {Q : Option Value → Heap → List Loc → Prop} {rm : Room} (X : Stand p l e R s m args below meth c T locs cells slots) (hx : p.tables.exec = Jvm.exec) (hlk : meth.locks = false) {pc : Nat} {Ls : Array Slot} {w : Value} {t : FieldType} {i : Instr} {rest : List Value} (hret : meth.sig.returnType = some t) (hn : narrow t w = w)
    (hi : (i = .ireturn ∧ (t = .int ∨ t = .boolean ∨ t = .byte ∨ t = .char ∨ t = .short) ∧ ∃ z, w = .int z) ∨ (i = .lreturn ∧ t = .long ∧ ∃ z, w = .long z) ∨ (i = .dreturn ∧ t = .double ∧ ∃ z, w = .double z) ∨ (i = .freturn ∧ t = .float ∧ ∃ z, w = .float z) ∨ (i = .areturn ∧ t.isReference = true ∧ w.isRef = true))
    (hd : decode c.code pc = .ok (i, 1)) (hc : cells ≤ rm.cells) (hs : slots ≤ rm.slots) (q : Q (some w) T.heap locs) : Go p e below (QN s rm Q) (T.setTop (mkF m pc Ls (w :: rest))) :=
  Go.ret X hlk (some w) (fun h => by rw [hret] at h; cases h) hc hs q fun fs hr => retOut X hx hret hn hi hd hr
/-- nothing comes back -/
theorem Go.ret0 {Q : Option Value → Heap → List Loc → Prop} {rm : Room} (X : Stand p l e R s m args below meth c T locs cells slots) (hx : p.tables.exec = Jvm.exec) (hlk : meth.locks = false) {pc : Nat} {Ls : Array Slot} (hret : meth.sig.returnType = none)
    (hd : decode c.code pc = .ok (.return_, 1)) (hc : cells ≤ rm.cells) (hs : slots ≤ rm.slots) (q : Q none T.heap locs) : Go p e below (QN s rm Q) (T.setTop (mkF m pc Ls [])) :=
  Go.ret X hlk none (fun _ => rfl) hc hs q fun fs hr => X.returnOut hx hret hd hr
/-- what pays a call -/
abbrev Pay (l : Launch) (R : Room) (p : Program) (e : Env) (below : List Frame) (s : State) (args : Array Value) (y : MethodName) (W : Nat) (as : Array Value) (h : Heap) (kc ks : Nat) (QQ : Option Value → Heap → List Loc → Prop) : Prop :=
  Back l R p e below s args y 3 W (fun P a => a = as ∧ P.U.heap = h ∧ P.cells + kc ≤ R.cells ∧ P.slots + ks ≤ R.slots) (fun P _ v B => ∃ L, QQ v B.U.heap L ∧ B.locs = P.locs ++ L ∧ B.cells = P.cells + kc ∧ B.slots = P.slots + ks)
theorem goS (X : Stand p l e R s m args below meth c T locs cells slots) (hx : p.tables.exec = Jvm.exec) (hZ : Z.Warmed39 s.vm) {own : String} {index : Nat} {y : MethodName} {bytes : ByteArray} {maxL : Nat} {ret : Option FieldType} (hown : s.vm.findClass own = some m.cls)
    (w1 : (Jvm.Cond.methodLink own index y).before a0 Z = true) (w2 : (Jvm.Cond.static y).before a0 Z = true) (w3 : (Jvm.Cond.initialized y.cls).before a0 Z = true) (w4 : (Jvm.Cond.code y bytes maxL ret).before a0 Z = true) (hy : y.cls ≠ "java/lang/invoke/MethodHandle" ∧ y.cls ≠ "java/lang/invoke/VarHandle")
    {W kc ks : Nat} {as : Array Value} {QQ : Option Value → Heap → List Loc → Prop} (K : Pay l R p e below s args y W as h kc ks QQ) (eT : T.heap = h) {g : JFrame} (hg : g.method = m) (hsize : g.locals.size = c.maxLocals) {argsL rest : List Value} (has : argsL.toArray = as)
    (hlen : ∀ sig, parseMethodDescriptor y.desc = some sig → argsL.length = sig.parameters.length) (hstack : g.stack = argsL.reverse ++ rest) (hW : 2 * g.monitorRoom + (rest.map fun v => v.category).sum ≤ W) (hd : decode c.code g.pc = .ok (.invokestatic index, 3)) (hc : cells + kc ≤ R.cells) (hs : slots + ks ≤ R.slots) :
    ∃ v T' L, Stand p l e R s m args below meth c T' (locs ++ L) (cells + kc) (slots + ks) ∧ QQ v T'.heap L ∧ ∀ u, Steps p.tables e below (T'.setTop { g with pc := g.pc + 3, stack := v.toList ++ rest }) u → Steps p.tables e below (T.setTop g) u := by
  obtain ⟨v, _, ⟨T', L', k', n'⟩, -, X', ⟨L, hQ, l1, y1, z1⟩, st⟩ := Jvm.LawKit.callS X hx hown (mvT hZ w1) (mvT hZ w2) (mvT hZ w3) (mvT hZ w4) hy K hg hsize hlen hstack hW hd (fun _ _ => ⟨has, eT, hc, hs⟩)
  try dsimp only [Pt.U, Pt.locs, Pt.cells, Pt.slots] at X' l1 y1 z1 st hQ
  subst l1 y1 z1
  exact ⟨v, T', L, X', hQ, st⟩
theorem goC (X : Stand p l e R s m args below meth c T locs cells slots) (hx : p.tables.exec = Jvm.exec) (hZ : Z.Warmed39 s.vm) {own : String} {index : Nat} {y : MethodName} {bytes : ByteArray} {maxL : Nat} (hown : s.vm.findClass own = some m.cls)
    (hy1 : y.name = "<init>") (w1 : (Jvm.Cond.methodLink own index y).before a0 Z = true) (w2 : (Jvm.Cond.instanceMethod y).before a0 Z = true) (w4 : (Jvm.Cond.code y bytes maxL none).before a0 Z = true) (hy : y.cls ≠ "java/lang/invoke/MethodHandle" ∧ y.cls ≠ "java/lang/invoke/VarHandle")
    {W kc ks : Nat} {as : Array Value} {QQ : Option Value → Heap → List Loc → Prop} (K : Pay l R p e below s args y W as h kc ks QQ) (eT : T.heap = h) {g : JFrame} (hg : g.method = m) (hsize : g.locals.size = c.maxLocals) {a : Addr} {argsL rest : List Value} (has : (.ref a :: argsL).toArray = as)
    (hlen : ∀ sig, parseMethodDescriptor y.desc = some sig → argsL.length = sig.parameters.length) (hstack : g.stack = argsL.reverse ++ .ref a :: rest) (hW : 2 * g.monitorRoom + (rest.map fun v => v.category).sum ≤ W) (hd : decode c.code g.pc = .ok (.invokespecial index, 3)) (hc : cells + kc ≤ R.cells) (hs : slots + ks ≤ R.slots) :
    ∃ v T' L, Stand p l e R s m args below meth c T' (locs ++ L) (cells + kc) (slots + ks) ∧ QQ v T'.heap L ∧ ∀ u, Steps p.tables e below (T'.setTop { g with pc := g.pc + 3, stack := v.toList ++ rest }) u → Steps p.tables e below (T.setTop g) u := by
  obtain ⟨v, _, ⟨T', L', k', n'⟩, -, X', ⟨L, hQ, l1, y1, z1⟩, st⟩ := X.specialBack hx hy1 hown (mvT hZ w1) (mvT hZ w2) (mvT hZ w4) hy K hg hsize (Steps.refl _) hlen hstack hW hd (fun _ _ => ⟨has, eT, hc, hs⟩)
  try dsimp only [Pt.U, Pt.locs, Pt.cells, Pt.slots] at X' l1 y1 z1 st hQ
  subst l1 y1 z1
  exact ⟨v, T', L, X', hQ, fun u k => st.trans k⟩
theorem goV (X : Stand p l e R s m args below meth c T locs cells slots) (hx : p.tables.exec = Jvm.exec) (hZ : Z.Warmed39 s.vm) {own C : String} {index : Nat} {y z : MethodName} (hown : s.vm.findClass own = some m.cls)
    (w1 : (Jvm.Cond.methodLink own index y).before a0 Z = true) (w2 : (Jvm.Cond.declares y).before a0 Z = true) (hnf : NotFace s y) (w3 : (Jvm.Cond.selects C y z).before a0 Z = true) (w4 : (Jvm.Cond.instanceMethod z).before a0 Z = true) (hy : y.cls ≠ "java/lang/invoke/MethodHandle" ∧ y.cls ≠ "java/lang/invoke/VarHandle")
    {W kc ks : Nat} {as : Array Value} {QQ : Option Value → Heap → List Loc → Prop} (K : Pay l R p e below s args z W as h kc ks QQ) (eT : T.heap = h) {a : Addr} (E : Exa Z h a C) {g : JFrame} (hg : g.method = m) (hsize : g.locals.size = c.maxLocals) {argsL rest : List Value} (has : (.ref a :: argsL).toArray = as)
    (hlen : ∀ sig, parseMethodDescriptor y.desc = some sig → argsL.length = sig.parameters.length) (hstack : g.stack = argsL.reverse ++ .ref a :: rest) (hW : 2 * g.monitorRoom + (rest.map fun v => v.category).sum ≤ W) (hd : decode c.code g.pc = .ok (.invokevirtual index, 3)) (hc : cells + kc ≤ R.cells) (hs : slots + ks ≤ R.slots) :
    ∃ v T' L, Stand p l e R s m args below meth c T' (locs ++ L) (cells + kc) (slots + ks) ∧ QQ v T'.heap L ∧ ∀ u, Steps p.tables e below (T'.setTop { g with pc := g.pc + 3, stack := v.toList ++ rest }) u → Steps p.tables e below (T.setTop g) u := by
  obtain ⟨cB, kB, q1, q2, q3⟩ := isOf hZ eT E
  obtain ⟨v, _, ⟨T', L', k', n'⟩, -, X', ⟨L, hQ, l1, y1, z1⟩, st⟩ := X.virtualBack hx hown (mvT hZ w1) (mvT hZ w2) hnf (mvT hZ w3) (mvT hZ w4) hy K q1 q3 hg hsize (Steps.refl _) hlen hstack hW hd (fun _ _ => ⟨has, eT, hc, hs⟩)
  try dsimp only [Pt.U, Pt.locs, Pt.cells, Pt.slots] at X' l1 y1 z1 st hQ
  subst l1 y1 z1
  exact ⟨v, T', L, X', hQ, fun u k => st.trans k⟩
/-- .. whose named class does not declare it -/
theorem goU (X : Stand p l e R s m args below meth c T locs cells slots) (hx : p.tables.exec = Jvm.exec) (hZ : Z.Warmed39 s.vm) {own C owner : String} {index : Nat} {y z : MethodName} (hown : s.vm.findClass own = some m.cls)
    (w1 : (Jvm.Cond.methodLink own index y).before a0 Z = true) (w5 : (Jvm.Cond.sameMethod y.cls owner y.name y.desc).before a0 Z = true) (w2 : (Jvm.Cond.declares ⟨owner, y.name, y.desc⟩).before a0 Z = true) (w3 : (Jvm.Cond.selects C y z).before a0 Z = true) (w4 : (Jvm.Cond.instanceMethod z).before a0 Z = true) (hy : owner ≠ "java/lang/invoke/MethodHandle" ∧ owner ≠ "java/lang/invoke/VarHandle")
    {W kc ks : Nat} {as : Array Value} {QQ : Option Value → Heap → List Loc → Prop} (K : Pay l R p e below s args z W as h kc ks QQ) (eT : T.heap = h) {a : Addr} (E : Exa Z h a C) {g : JFrame} (hg : g.method = m) (hsize : g.locals.size = c.maxLocals) {argsL rest : List Value} (has : (.ref a :: argsL).toArray = as)
    (hlen : ∀ sig, parseMethodDescriptor y.desc = some sig → argsL.length = sig.parameters.length) (hstack : g.stack = argsL.reverse ++ .ref a :: rest) (hW : 2 * g.monitorRoom + (rest.map fun v => v.category).sum ≤ W) (hd : decode c.code g.pc = .ok (.invokevirtual index, 3)) (hc : cells + kc ≤ R.cells) (hs : slots + ks ≤ R.slots) :
    ∃ v T' L, Stand p l e R s m args below meth c T' (locs ++ L) (cells + kc) (slots + ks) ∧ QQ v T'.heap L ∧ ∀ u, Steps p.tables e below (T'.setTop { g with pc := g.pc + 3, stack := v.toList ++ rest }) u → Steps p.tables e below (T.setTop g) u := by
  obtain ⟨cB, kB, q1, q2, q3⟩ := isOf hZ eT E
  obtain ⟨v, _, ⟨T', L', k', n'⟩, -, X', ⟨L, hQ, l1, y1, z1⟩, st⟩ := X.virtualBackUp hx hown (mvT hZ w1) (mvT hZ w5) (mvT hZ w2) hy (mvT hZ w3) (mvT hZ w4) K q1 q3 hg hsize (Steps.refl _) hlen hstack hW hd (fun _ _ => ⟨has, eT, hc, hs⟩)
  try dsimp only [Pt.U, Pt.locs, Pt.cells, Pt.slots] at X' l1 y1 z1 st hQ
  subst l1 y1 z1
  exact ⟨v, T', L, X', hQ, fun u k => st.trans k⟩
/-- a private method by invokevirtual -/
theorem goP (X : Stand p l e R s m args below meth c T locs cells slots) (hx : p.tables.exec = Jvm.exec) (hZ : Z.Warmed39 s.vm) {own C : String} {index : Nat} {y : MethodName} {bytes : ByteArray} {maxL : Nat} {ret : Option FieldType} (hown : s.vm.findClass own = some m.cls)
    (w1 : (Jvm.Cond.methodLink own index y).before a0 Z = true) (w2 : (Jvm.Cond.instanceMethod y).before a0 Z = true) (w3 : (Jvm.Cond.selects y.cls y y).before a0 Z = true) (w5 : (Jvm.Cond.privateMethod y).before a0 Z = true) (w4 : (Jvm.Cond.code y bytes maxL ret).before a0 Z = true) (hy : y.cls ≠ "java/lang/invoke/MethodHandle" ∧ y.cls ≠ "java/lang/invoke/VarHandle")
    {W kc ks : Nat} {as : Array Value} {QQ : Option Value → Heap → List Loc → Prop} (K : Pay l R p e below s args y W as h kc ks QQ) (eT : T.heap = h) {a : Addr} (E : Exa Z h a C) {g : JFrame} (hg : g.method = m) (hsize : g.locals.size = c.maxLocals) {argsL rest : List Value} (has : (.ref a :: argsL).toArray = as)
    (hlen : ∀ sig, parseMethodDescriptor y.desc = some sig → argsL.length = sig.parameters.length) (hstack : g.stack = argsL.reverse ++ .ref a :: rest) (hW : 2 * g.monitorRoom + (rest.map fun v => v.category).sum ≤ W) (hd : decode c.code g.pc = .ok (.invokevirtual index, 3)) (hc : cells + kc ≤ R.cells) (hs : slots + ks ≤ R.slots) :
    ∃ v T' L, Stand p l e R s m args below meth c T' (locs ++ L) (cells + kc) (slots + ks) ∧ QQ v T'.heap L ∧ ∀ u, Steps p.tables e below (T'.setTop { g with pc := g.pc + 3, stack := v.toList ++ rest }) u → Steps p.tables e below (T.setTop g) u := by
  obtain ⟨cq, q1, q2⟩ := E.cell
  obtain ⟨v, _, ⟨T', L', k', n'⟩, -, X', ⟨L, hQ, l1, y1, z1⟩, st⟩ := X.privateBack hx hown (mvT hZ w1) (mvT hZ w2) (mvT hZ w3) (Cond.privateMethod_at (mvP hZ w5 (args := #[]))) (mvT hZ w4) hy K hg hsize (Steps.refl _) (by rw [eT]; exact q1) q2 hlen hstack hW hd (fun _ _ => ⟨has, eT, hc, hs⟩)
  try dsimp only [Pt.U, Pt.locs, Pt.cells, Pt.slots] at X' l1 y1 z1 st hQ
  subst l1 y1 z1
  exact ⟨v, T', L, X', hQ, fun u k => st.trans k⟩
theorem lremM {g : JFrame} {target : State} (X : Stand p l e R s m args below meth c T locs cells slots) (hx : p.tables.exec = Jvm.exec) (hg : g.method = m) {x y : Int64} {rest : List Value} (hd : decode c.code g.pc = .ok (.lrem, 1)) (hs : g.stack = .long y :: .long x :: rest) (hy : y ≠ 0)
    (hr : Steps p.tables e below (T.setTop { g with pc := g.pc + 1, stack := .long (x % y) :: rest }) target) : Steps p.tables e below (T.setTop g) target :=
  XS.lrem X.here hx hg hd hs hy (by rw [lrem_mod]; exact hr)
theorem own_narrow_ref {t : FieldType} {v : Value} (h : v.isRef = true) : narrow t v = v := by cases v <;> first | (simp [Value.isRef] at h; done) | (cases t <;> rfl)
theorem own_fits_ref {C : String} {v : Value} (h : v.isRef = true) : fits (.object C) v = true := by cases v <;> simp_all [Value.isRef, fits]
/-- what the case's words say of a static -/
theorem sta_obj {C n d K : String} (hi : (Jvm.Cond.initializedFor C n d).before args s = true ∨ ((Jvm.Cond.initialized C).before args s = true ∧ (Jvm.Cond.laysStatic C n d).before args s = true)) (hx : (Jvm.Cond.exactly (.static C n d) K).value args s none s [] = some true) :
    ∃ a, Sta s s.heap C n d (.ref a) ∧ Exa s s.heap a K ∧ (Term.static C n d).eval args s none [] s = some (.ref a) := by
  obtain ⟨a, e⟩ := exa_v hx
  exact ⟨a, Sta.start e hi, Exa.start e hx, e⟩
theorem fld_l {t : Term} {a : Addr} {C f d : String} {v : Int64} (ev : t.eval args s none [] s = some (.ref a)) (h : (Jvm.Cond.eq (.field t C f d) (.long v)).value args s none s [] = some true) : Fld s s.heap a C f d (.long v) :=
  Fld.start (by rw [← fld_at ev]; exact eqv_l (long_at v) h)
theorem fld_i {t : Term} {a : Addr} {C f d : String} {v : Int32} (ev : t.eval args s none [] s = some (.ref a)) (h : (Jvm.Cond.eq (.field t C f d) (.int v)).value args s none s [] = some true) : Fld s s.heap a C f d (.int v) :=
  Fld.start (by rw [← fld_at ev]; exact eqv_i (Term.int_eval v) h)
theorem b01_ne {P : Prop} [Decidable P] (q : P) : ¬ (if P then (1 : Int32) else 0) = 0 := by rw [if_pos q]; decide
theorem b01_eq {P : Prop} [Decidable P] (q : ¬ P) : (if P then (1 : Int32) else 0) = 0 := if_neg q
theorem b01_nar {P : Prop} [Decidable P] : narrow .boolean (.int (if P then (1 : Int32) else 0)) = .int (if P then (1 : Int32) else 0) := by split <;> rfl
end Base
end Jvm.Own
namespace Jvm.Own
open Jvm Jvm.ClassFile Sem Op Lib Jvm.Free Jvm.Stand Jvm.LawKit Jvm.RoadKit Bundle
section Wide
variable {p : Program} {l : Launch} {e : Env} {R : Room} {s : State} {m : MethodId} {args : Array Value} {below : List Frame} {meth : Method} {c : Code} {T : State} {locs : List Loc} {cells slots : Nat} {Z : State} {a0 : Array Value} {h h0 : Heap} {EL : List (String × Nat)} {vm0 : Vm} {k0 : Nat}
/-- the end of a walk that may intern -/
def QW (Z : State) (EL : List (String × Nat)) (s : State) (rm : Room) (Q : Option Value → Heap → List Loc → Prop) (o : Outcome) (U' : State) : Prop := ∃ v L, o = .returned v ∧ Q v U'.heap L ∧ CHr Z EL s.vm s.heap U'.vm U'.heap ∧ ReturnedEndW s o U' L rm.cells rm.slots
abbrev CW (l : Launch) (Z : State) (EL : List (String × Nat)) (y : MethodName) (ws : List Jvm.Cond) (rm : Room) (as : Array Value) (h0 : Heap) (Q : Option Value → Heap → List Loc → Prop) : Prop :=
  MetFree l y (head1 ws rm) (fun a U => a = as ∧ Z.Warmed39 U.vm ∧ U.heap = h0 ∧ CHv Z EL U.vm h0) (fun _ _ _ _ _ => True) (fun _ U o U' => ∃ v L, o = .returned v ∧ Q v U'.heap L ∧ CHr Z EL U.vm U.heap U'.vm U'.heap ∧ ReturnedEndW U o U' L rm.cells rm.slots)
theorem CW.of {y : MethodName} {bytes : ByteArray} {maxL : Nat} {ret : Option FieldType} {ws : List Jvm.Cond} {rm : Room} {as : Array Value} {Q : Option Value → Heap → List Loc → Prop} {L0 : Array Slot}
    (hp : plainFor y = true) (ef : ∀ m, entryFrame m as maxL = mkF m 0 L0 [])
    (body : ∀ (p : Program) (e : Env) (s : State) (m : MethodId) (below : List Frame) (meth : Method) (c : Code) (s₁ : State), p.tables.exec = Jvm.exec → c.code = bytes → c.maxLocals = maxL → meth.sig.returnType = ret → meth.locks = false → Z.Warmed39 s.vm → s.vm.findClass y.cls = some m.cls → meth.name = y.name → Stand p l e rm (s.setVm s.vm) m as below meth c s₁ [] 0 0 → s₁.heap = h0 → s.Since s.vm h0.size → h0.size ≤ h0.size → CHv Z EL s.vm h0 → s.heap = h0 → Go p e below (QW Z EL s rm Q) (s₁.setTop (mkF m 0 L0 []))) :
    CW l Z EL y (Jvm.Cond.code y bytes maxL ret :: ws) rm as h0 Q := by
  refine MetFree.of_bodySF hp hisR ?_
  intro p e s m args below meth c s₁ Bd hml0 hP hK
  obtain ⟨rfl, hZ, hh, hC⟩ := hP
  have q := body p e s m below meth c s₁ Bd.exec Bd.bytes hml0 Bd.returns Bd.notSynchronized hZ (findClass_of_methodNamed Bd.named) (name_of_methodNamed Bd.named Bd.method).1 (Stand.of_body Bd) (by rw [← hh, Bd.state]; rfl) (State.WarmedH.since (State.WarmedH.refl s) _) (Nat.le_refl _) hC hh
  rw [← ef m] at q
  exact q
theorem Go.retW {Q : Option Value → Heap → List Loc → Prop} {rm : Room} {t : State} (X : Stand p l e R (s.setVm vm0) m args below meth c T locs cells slots) (eT : T.heap = h) (hS : s.Since vm0 k0) (hk : k0 ≤ h.size) (hZ : Z.Warmed39 vm0) (hEL : EW Z a0 EL) (hh0 : s.heap = h0) (HC : CHr Z EL s.vm h0 vm0 h) (hlk : meth.locks = false) (v : Option Value) (hv : meth.sig.returnType = none → v = none) (hc : cells ≤ rm.cells) (hs : slots ≤ rm.slots) (q : Q v T.heap locs)
    (st : ∀ fs, (∀ (f : JFrame) (acts : List Action), f.method = m → f.locked = none → f.entered = [] → (doReturn e (T.setTop f) acts v).1 = T.setFrames fs) → Steps p.tables e below t (T.setFrames fs)) : Go p e below (QW Z EL s rm Q) t := by
  subst eT hh0
  obtain ⟨fs, hr, hrun, hended, hR⟩ := X.leaveW hS hk (v := v) hv hlk
  have q2 : CHr Z EL vm0 T.heap T.vm T.heap := CHv.at X hZ hEL HC.1
  exact ⟨_, _, st fs hr, hrun, hended, v, locs, rfl, q, HC.trans q2, hR.1, hR.2.1, hR.2.2.1, hR.2.2.2.mono hc hs⟩
theorem Go.retVW {Q : Option Value → Heap → List Loc → Prop} {rm : Room} (X : Stand p l e R (s.setVm vm0) m args below meth c T locs cells slots) (eT : T.heap = h) (hS : s.Since vm0 k0) (hk : k0 ≤ h.size) (hZ : Z.Warmed39 vm0) (hEL : EW Z a0 EL) (hh0 : s.heap = h0) (HC : CHr Z EL s.vm h0 vm0 h) (hx : p.tables.exec = Jvm.exec) (hlk : meth.locks = false) {pc : Nat} {Ls : Array Slot} {w : Value} {t : FieldType} {i : Instr} {rest : List Value} (hret : meth.sig.returnType = some t) (hn : narrow t w = w)
    (hi : (i = .ireturn ∧ (t = .int ∨ t = .boolean ∨ t = .byte ∨ t = .char ∨ t = .short) ∧ ∃ z, w = .int z) ∨ (i = .lreturn ∧ t = .long ∧ ∃ z, w = .long z) ∨ (i = .dreturn ∧ t = .double ∧ ∃ z, w = .double z) ∨ (i = .freturn ∧ t = .float ∧ ∃ z, w = .float z) ∨ (i = .areturn ∧ t.isReference = true ∧ w.isRef = true))
    (hd : decode c.code pc = .ok (i, 1)) (hc : cells ≤ rm.cells) (hs : slots ≤ rm.slots) (q : Q (some w) T.heap locs) : Go p e below (QW Z EL s rm Q) (T.setTop (mkF m pc Ls (w :: rest))) :=
  Go.retW X eT hS hk hZ hEL hh0 HC hlk (some w) (fun h => by rw [hret] at h; cases h) hc hs q fun fs hr => retOut X hx hret hn hi hd hr
theorem Go.ret0W {Q : Option Value → Heap → List Loc → Prop} {rm : Room} (X : Stand p l e R (s.setVm vm0) m args below meth c T locs cells slots) (eT : T.heap = h) (hS : s.Since vm0 k0) (hk : k0 ≤ h.size) (hZ : Z.Warmed39 vm0) (hEL : EW Z a0 EL) (hh0 : s.heap = h0) (HC : CHr Z EL s.vm h0 vm0 h) (hx : p.tables.exec = Jvm.exec) (hlk : meth.locks = false) {pc : Nat} {Ls : Array Slot} (hret : meth.sig.returnType = none)
    (hd : decode c.code pc = .ok (.return_, 1)) (hc : cells ≤ rm.cells) (hs : slots ≤ rm.slots) (q : Q none T.heap locs) : Go p e below (QW Z EL s rm Q) (T.setTop (mkF m pc Ls [])) :=
  Go.retW X eT hS hk hZ hEL hh0 HC hlk none (fun _ => rfl) hc hs q fun fs hr => X.returnOut hx hret hd hr
/-- a String whose value isn't set yet is no booked one -/
theorem own_safe_null {x : Addr} {k : Nat} {vm : Vm} (hal : Z.vm.Alike vm) (E : Exa Z h x "java/lang/String") (F : Fld Z h x "java/lang/String" "value" "[B" .null) (wi : (Jvm.Cond.instantiable "java/lang/String" k).before a0 Z = true) : Safe Z EL vm h x := fun B => by
  obtain ⟨p, -, u, a, -, q, -, G, rfl | rfl⟩ := B
  · obtain ⟨cell, cf, k1, i, f, e1, e2, e3, e4, e5, e6, e7⟩ := F
    cases (show h[q.sa]? = some q.sC from G.ha).symm.trans e1
    obtain ⟨cS, ⟨⟨s1, s2, s3, ⟨cv, kv, iv, s4, s4'⟩, ⟨cc, kc, ic, s5, s5'⟩, s6, s7, s8, s9, r⟩, hfS, hcS⟩, r2⟩ := G
    obtain ⟨kv', z4⟩ := ff_back (U := Wst Z vm h) hal s4
    have e8 := e2.symm.trans z4
    simp only [Option.some.injEq, Prod.mk.injEq] at e8
    rw [e8.2.2.2, s8] at e7
    cases e7
  · obtain ⟨cell, k1, e1, e2, e3, -, -⟩ := E
    cases (show h[q.sd]? = some q.SA from G.hd).symm.trans e1
    obtain ⟨cS, -, -, f, -⟩ := G
    have f : vm.findClass "[B" = some q.SA.cls := f
    rw [hal.findClass] at f
    obtain ⟨k2, q1, q2⟩ := Vm.findClass_spec f
    obtain ⟨k3, q3, q4⟩ := Vm.findClass_spec e2
    cases q1.symm.trans q3
    exact absurd (q2.symm.trans q4) (by decide)
abbrev PayW (l : Launch) (R : Room) (p : Program) (e : Env) (below : List Frame) (Z : State) (EL : List (String × Nat)) (s : State) (vm0 : Vm) (args : Array Value) (y : MethodName) (W : Nat) (as : Array Value) (h : Heap) (kc ks : Nat) (QQ : Option Value → Heap → List Loc → Prop) : Prop :=
  BackS l R p e below (s.setVm vm0) args y 3 W (fun P a => a = as ∧ P.U.heap = h ∧ P.cells + kc ≤ R.cells ∧ P.slots + ks ≤ R.slots) (fun P _ v B => ∃ L, QQ v B.U.heap L ∧ B.locs = P.locs ++ L ∧ B.cells = P.cells + kc ∧ B.slots = P.slots + ks ∧ CHr Z EL vm0 h B.U.vm B.U.heap)
/-- what stands behind a call that may intern -/
abbrev AftW (p : Program) (l : Launch) (e : Env) (R : Room) (s : State) (m : MethodId) (args : Array Value) (below : List Frame) (meth : Method) (c : Code) (T : State) (locs : List Loc) (cells slots : Nat) (Z : State) (EL : List (String × Nat)) (vm0 : Vm) (h : Heap) (own : String) (kc ks : Nat) (QQ : Option Value → Heap → List Loc → Prop) (g : JFrame) (rest : List Value) : Prop :=
  ∃ v T' L, Stand p l e R (s.setVm T'.vm) m args below meth c T' (locs ++ L) (cells + kc) (slots + ks) ∧ QQ v T'.heap L ∧ s.Since T'.vm T'.heap.size ∧ Z.Warmed39 T'.vm ∧ T'.vm.findClass own = some m.cls ∧ CHr Z EL vm0 h T'.vm T'.heap ∧ ∀ u, Steps p.tables e below (T'.setTop { g with pc := g.pc + 3, stack := v.toList ++ rest }) u → Steps p.tables e below (T.setTop g) u
theorem goSW (X : Stand p l e R (s.setVm vm0) m args below meth c T locs cells slots) (hx : p.tables.exec = Jvm.exec) (hZ : Z.Warmed39 vm0) {own : String} {index : Nat} {y : MethodName} {bytes : ByteArray} {maxL : Nat} {ret : Option FieldType} (hown : vm0.findClass own = some m.cls) (hS : s.Since vm0 k0) (hk : k0 ≤ h.size)
    (w1 : (Jvm.Cond.methodLink own index y).before a0 Z = true) (w2 : (Jvm.Cond.static y).before a0 Z = true) (w3 : (Jvm.Cond.initialized y.cls).before a0 Z = true) (w4 : (Jvm.Cond.code y bytes maxL ret).before a0 Z = true) (hy : y.cls ≠ "java/lang/invoke/MethodHandle" ∧ y.cls ≠ "java/lang/invoke/VarHandle")
    {W kc ks : Nat} {as : Array Value} {QQ : Option Value → Heap → List Loc → Prop} (K : PayW l R p e below Z EL s vm0 args y W as h kc ks QQ) (eT : T.heap = h) {g : JFrame} (hg : g.method = m) (hsize : g.locals.size = c.maxLocals) {argsL rest : List Value} (has : argsL.toArray = as)
    (hlen : ∀ sig, parseMethodDescriptor y.desc = some sig → argsL.length = sig.parameters.length) (hstack : g.stack = argsL.reverse ++ rest) (hW : 2 * g.monitorRoom + (rest.map fun v => v.category).sum ≤ W) (hd : decode c.code g.pc = .ok (.invokestatic index, 3)) (hc : cells + kc ≤ R.cells) (hs : slots + ks ≤ R.slots) :
    AftW p l e R s m args below meth c T locs cells slots Z EL vm0 h own kc ks QQ g rest := by
  subst eT
  obtain ⟨v, _, ⟨T', L', k', n'⟩, -, X', h2, gl, ⟨L, hQ, l1, y1, z1, hC⟩, st⟩ := callSS X hx hown (mvT (s := s.setVm vm0) hZ w1) (mvT (s := s.setVm vm0) hZ w2) (mvT (s := s.setVm vm0) hZ w3) (mvT (s := s.setVm vm0) hZ w4) hy K hg hsize hlen hstack hW hd (fun _ _ => ⟨has, rfl, hc, hs⟩)
  try dsimp only [Pt.U, Pt.locs, Pt.cells, Pt.slots] at X' l1 y1 z1 st hQ h2 gl hC
  subst l1 y1 z1
  obtain ⟨a1, a2, a3, a4⟩ := rebS hS hk X' h2 gl hZ hown
  exact ⟨v, T', L, a1, hQ, a2, a3, a4, hC, fun u k => st.trans k⟩
theorem goCW (X : Stand p l e R (s.setVm vm0) m args below meth c T locs cells slots) (hx : p.tables.exec = Jvm.exec) (hZ : Z.Warmed39 vm0) {own : String} {index : Nat} {y : MethodName} {bytes : ByteArray} {maxL : Nat} (hown : vm0.findClass own = some m.cls) (hS : s.Since vm0 k0) (hk : k0 ≤ h.size)
    (hy1 : y.name = "<init>") (w1 : (Jvm.Cond.methodLink own index y).before a0 Z = true) (w2 : (Jvm.Cond.instanceMethod y).before a0 Z = true) (w4 : (Jvm.Cond.code y bytes maxL none).before a0 Z = true) (hy : y.cls ≠ "java/lang/invoke/MethodHandle" ∧ y.cls ≠ "java/lang/invoke/VarHandle")
    {W kc ks : Nat} {as : Array Value} {QQ : Option Value → Heap → List Loc → Prop} (K : PayW l R p e below Z EL s vm0 args y W as h kc ks QQ) (eT : T.heap = h) {g : JFrame} (hg : g.method = m) (hsize : g.locals.size = c.maxLocals) {a : Addr} {argsL rest : List Value} (has : (.ref a :: argsL).toArray = as)
    (hlen : ∀ sig, parseMethodDescriptor y.desc = some sig → argsL.length = sig.parameters.length) (hstack : g.stack = argsL.reverse ++ .ref a :: rest) (hW : 2 * g.monitorRoom + (rest.map fun v => v.category).sum ≤ W) (hd : decode c.code g.pc = .ok (.invokespecial index, 3)) (hc : cells + kc ≤ R.cells) (hs : slots + ks ≤ R.slots) :
    AftW p l e R s m args below meth c T locs cells slots Z EL vm0 h own kc ks QQ g rest := by
  subst eT
  obtain ⟨v, _, ⟨T', L', k', n'⟩, -, X', h2, gl, ⟨L, hQ, l1, y1, z1, hC⟩, st⟩ := X.specialBackS hx hy1 hown (mvT (s := s.setVm vm0) hZ w1) (mvT (s := s.setVm vm0) hZ w2) (mvT (s := s.setVm vm0) hZ w4) hy K hg hsize (Steps.refl _) hlen hstack hW hd (fun _ _ => ⟨has, rfl, hc, hs⟩)
  try dsimp only [Pt.U, Pt.locs, Pt.cells, Pt.slots] at X' l1 y1 z1 st hQ h2 gl hC
  subst l1 y1 z1
  obtain ⟨a1, a2, a3, a4⟩ := rebS hS hk X' h2 gl hZ hown
  exact ⟨v, T', L, a1, hQ, a2, a3, a4, hC, fun u k => st.trans k⟩
theorem goVW (X : Stand p l e R (s.setVm vm0) m args below meth c T locs cells slots) (hx : p.tables.exec = Jvm.exec) (hZ : Z.Warmed39 vm0) {own C : String} {index : Nat} {y z : MethodName} (hown : vm0.findClass own = some m.cls) (hS : s.Since vm0 k0) (hk : k0 ≤ h.size)
    (w1 : (Jvm.Cond.methodLink own index y).before a0 Z = true) (w2 : (Jvm.Cond.declares y).before a0 Z = true) (hnf : NotFace (s.setVm vm0) y) (w3 : (Jvm.Cond.selects C y z).before a0 Z = true) (w4 : (Jvm.Cond.instanceMethod z).before a0 Z = true) (hy : y.cls ≠ "java/lang/invoke/MethodHandle" ∧ y.cls ≠ "java/lang/invoke/VarHandle")
    {W kc ks : Nat} {as : Array Value} {QQ : Option Value → Heap → List Loc → Prop} (K : PayW l R p e below Z EL s vm0 args z W as h kc ks QQ) (eT : T.heap = h) {a : Addr} (E : Exa Z h a C) {g : JFrame} (hg : g.method = m) (hsize : g.locals.size = c.maxLocals) {argsL rest : List Value} (has : (.ref a :: argsL).toArray = as)
    (hlen : ∀ sig, parseMethodDescriptor y.desc = some sig → argsL.length = sig.parameters.length) (hstack : g.stack = argsL.reverse ++ .ref a :: rest) (hW : 2 * g.monitorRoom + (rest.map fun v => v.category).sum ≤ W) (hd : decode c.code g.pc = .ok (.invokevirtual index, 3)) (hc : cells + kc ≤ R.cells) (hs : slots + ks ≤ R.slots) :
    AftW p l e R s m args below meth c T locs cells slots Z EL vm0 h own kc ks QQ g rest := by
  subst eT
  obtain ⟨cB, kB, q1, q2, q3⟩ := isOf (s := s.setVm vm0) hZ rfl E
  obtain ⟨v, _, ⟨T', L', k', n'⟩, -, X', h2, gl, ⟨L, hQ, l1, y1, z1, hC⟩, st⟩ := X.virtualBackS hx hown (mvT (s := s.setVm vm0) hZ w1) (mvT (s := s.setVm vm0) hZ w2) hnf (mvT (s := s.setVm vm0) hZ w3) (mvT (s := s.setVm vm0) hZ w4) hy K q1 q3 hg hsize (Steps.refl _) hlen hstack hW hd (fun _ _ => ⟨has, rfl, hc, hs⟩)
  try dsimp only [Pt.U, Pt.locs, Pt.cells, Pt.slots] at X' l1 y1 z1 st hQ h2 gl hC
  subst l1 y1 z1
  obtain ⟨a1, a2, a3, a4⟩ := rebS hS hk X' h2 gl hZ hown
  exact ⟨v, T', L, a1, hQ, a2, a3, a4, hC, fun u k => st.trans k⟩
end Wide
end Jvm.Own
namespace Jvm.Own
open Jvm Jvm.ClassFile Sem Op Lib Jvm.Free Jvm.Stand Jvm.LawKit Jvm.RoadKit Bundle
section Strs
variable {Z : State} {h h' : Heap} {x : Addr} {cs : List Int32} {B B' : Nat} {a : Addr} {sl : Nat} {v : Value} {ws : List Addr}
/-- at x stands a String of the chars cs (each 0 to 255), it and its array below B -/
def Str (Z : State) (B : Nat) (h : Heap) (x : Addr) (cs : List Int32) : Prop := ∃ (t : Addr) (kb : ClassId), x < B ∧ t < B ∧ Exa Z h x "java/lang/String" ∧ Fld Z h x "java/lang/String" "value" "[B" (.ref t) ∧ Fld Z h x "java/lang/String" "coder" "B" (.int 0) ∧ Arv Z h t kb .byte (Int32.ofNat cs.length) ((cs.map fun c => c.toInt8.toInt32).map Value.int) (.int 0) ∧ (∀ c ∈ cs, ¬ c < 0 ∧ ¬ (255 : Int32) < c) ∧ cs.length ≤ 4000
theorem Str.ext (F : Str Z B h x cs) (E : Ext h h') : Str Z B h' x cs := by
  obtain ⟨t, kb, h1, h2, a, b, c, d, r⟩ := F; exact ⟨t, kb, h1, h2, a.ext E, b.ext E, c.ext E, d.ext E, r⟩
theorem Str.wr (F : Str Z B h x cs) (W : Wr h h' a sl v) (q : B ≤ a) : Str Z B h' x cs := by
  obtain ⟨t, kb, h1, h2, a, b, c, d, r⟩ := F
  exact ⟨t, kb, h1, h2, a.wr W, b.other W (Or.inl (Nat.ne_of_lt (Nat.lt_of_lt_of_le h1 q))), c.other W (Or.inl (Nat.ne_of_lt (Nat.lt_of_lt_of_le h1 q))), d.other W (Nat.ne_of_lt (Nat.lt_of_lt_of_le h2 q)), r⟩
theorem Str.keep (F : Str Z B h x cs) (K : Keep h h' ws) (q : ∀ w ∈ ws, B ≤ w) : Str Z B h' x cs := by
  obtain ⟨t, kb, h1, h2, a, b, c, d, r⟩ := F
  have n1 : x ∉ ws := fun z => absurd h1 (Nat.not_lt.mpr (q _ z))
  have n2 : t ∉ ws := fun z => absurd h2 (Nat.not_lt.mpr (q _ z))
  exact ⟨t, kb, h1, h2, a.keep K, b.keep K n1, c.keep K n1, d.keep K n2, r⟩
theorem Str.mono (F : Str Z B h x cs) (q : B ≤ B') : Str Z B' h x cs := by
  obtain ⟨t, kb, h1, h2, r⟩ := F; exact ⟨t, kb, Nat.lt_of_lt_of_le h1 q, Nat.lt_of_lt_of_le h2 q, r⟩
theorem Str.lt (F : Str Z B h x cs) : x < B := by obtain ⟨t, kb, h1, r⟩ := F; exact h1
theorem Str.exa (F : Str Z B h x cs) : Exa Z h x "java/lang/String" := by obtain ⟨t, kb, h1, h2, a, r⟩ := F; exact a
theorem Str.lat (F : Str Z B h x cs) : ∀ c ∈ cs, ¬ c < 0 ∧ ¬ (255 : Int32) < c := by obtain ⟨t, kb, h1, h2, a, b, c, d, r, -⟩ := F; exact r
theorem Str.le4 (F : Str Z B h x cs) : cs.length ≤ 4000 := by obtain ⟨t, kb, h1, h2, a, b, c, d, r, q⟩ := F; exact q
theorem up255 {cs : List Int32} (hp : ∀ c ∈ cs, ¬ c < 0 ∧ ¬ (255 : Int32) < c) : ∀ c ∈ cs, ¬ c < 0 ∧ ¬ (65535 : Int32) < c := fun c hc => ⟨(hp c hc).1, fun q => (hp c hc).2 (by
  rw [Int32.lt_iff_toInt_lt] at q ⊢
  have e1 : (65535 : Int32).toInt = 65535 := by decide
  have e2 : (255 : Int32).toInt = 255 := by decide
  omega)⟩
end Strs
end Jvm.Own
/- laws to paste: Road.backV, Road.lenW, Road.empW, Road.codOf (cut by pick.py; bodies as the Statement names them) -/
namespace Jvm.Pilot.@@N@@
namespace StrChars
open Jvm Sem ClassFile Op Lib Jvm.Stand Jvm.Free.XT Jvm.Free.ALB Jvm.Free.JM Jvm.Free
open Jvm.Lib.Cold (StaticIs)
/-- a char array whose places are chars -/
def Ch (a : Addr) (A : Cell) (U : State) : Prop := Arr .char a A U ∧ Typed .char A
theorem Ch.mv {a : Addr} {A : Cell} {U U' : State} (h : Ch a A U) (hal : U.vm.Alike U'.vm) (hh : U'.heap = U.heap) : Ch a A U' := ⟨h.1.mv hal hh, h.2⟩
theorem Ch.keep {a : Addr} {A : Cell} {U U' : State} (h : Ch a A U) (hal : U.vm.Alike U'.vm) (hk : U'.heap[a]? = some A) : Ch a A U' := ⟨h.1.keep hal hk, h.2⟩
/-- what place i of a char[]'s cell holds -/
def cv (A : Cell) (i : Nat) : Int32 := match A.slots[i]? with | some (.int x) => x | _ => 0
theorem Ch.get {a : Addr} {A : Cell} {U : State} (h : Ch a A U) {i : Nat} (hi : i < A.slots.size) : A.slots[i]? = some (.int (cv A i)) := by
  have e := Array.getElem?_eq_getElem hi
  have f := h.2 i _ e
  unfold cv; rw [e]
  generalize A.slots[i] = v at f
  cases v <;> simp [fits] at f ⊢
/-- the byte that i2b leaves of a char -/
def lo8 (x : Int32) : Int32 := x.toInt8.toInt32
theorem fits_lo8 (y : Int32) : fits .byte (.int (lo8 y)) = true := by
  have h1 := y.toInt8.le_toInt
  have h2 := y.toInt8.toInt_lt
  simp only [lo8, fits, Bool.and_eq_true, decide_eq_true_eq, Int32.le_iff_toInt_le, Int8.toInt_toInt32, show (-128 : Int32).toInt = -128 from by decide, show (127 : Int32).toInt = 127 from by decide]
  omega
/-- A' is A but that each place j of lo .. hi - 1 holds f j -/
def Laid (A A' : Cell) (lo hi : Nat) (f : Nat → Value) : Prop := A'.cls = A.cls ∧ A'.vm = A.vm ∧ A'.slots.size = A.slots.size ∧ ∀ i, A'.slots[i]? = if lo ≤ i ∧ i < hi then some (f i) else A.slots[i]?
theorem Laid.zero (A : Cell) (lo : Nat) (f : Nat → Value) : Laid A A lo (lo + 0) f := ⟨rfl, rfl, rfl, fun i => by rw [if_neg (by omega)]⟩
theorem Laid.step {A Ak : Cell} {lo k : Nat} {f : Nat → Value} {v : Value} (h : Laid A Ak lo k f) (hlo : lo ≤ k) (hk : k < Ak.slots.size) (hv : v = f k) : Laid A (Ak.setSlot k v) lo (k + 1) f := by
  refine ⟨h.1, h.2.1, by simpa [Cell.setSlot] using h.2.2.1, fun i => ?_⟩
  by_cases e : k = i
  · subst e; rw [Cell.slots_setSlot_self v hk, if_pos (by omega), hv]
  · rw [Cell.slots_setSlot_ne v e, h.2.2.2 i]
    by_cases q : lo ≤ i ∧ i < k
    · rw [if_pos q, if_pos (by omega)]
    · rw [if_neg q, if_neg (by omega)]
def U16 : String := "java/lang/StringUTF16"
namespace Cmp5
def yN : MethodName := ⟨"java/lang/StringUTF16", "compress", "([CI[BII)I"⟩
abbrev yB : ByteArray := jdk_52_method_21_code
theorem d0 : decode yB 0 = .ok (.iconst 0, 1) := by decide +kernel
theorem d1 : decode yB 1 = .ok (.istore 5, 2) := by decide +kernel
theorem d3 : decode yB 3 = .ok (.iload 5, 2) := by decide +kernel
theorem d5 : decode yB 5 = .ok (.iload 4, 2) := by decide +kernel
theorem d7 : decode yB 7 = .ok (.if_icmp (.ge) 37, 3) := by decide +kernel
theorem d10 : decode yB 10 = .ok (.aload_n 0, 1) := by decide +kernel
theorem d11 : decode yB 11 = .ok (.iload_n 1, 1) := by decide +kernel
theorem d12 : decode yB 12 = .ok (.caload, 1) := by decide +kernel
theorem d13 : decode yB 13 = .ok (.istore 6, 2) := by decide +kernel
theorem d15 : decode yB 15 = .ok (.iload 6, 2) := by decide +kernel
theorem d17 : decode yB 17 = .ok (.sipush 255, 3) := by decide +kernel
theorem d20 : decode yB 20 = .ok (.if_icmp (.le) 6, 3) := by decide +kernel
theorem d26 : decode yB 26 = .ok (.aload_n 2, 1) := by decide +kernel
theorem d27 : decode yB 27 = .ok (.iload_n 3, 1) := by decide +kernel
theorem d28 : decode yB 28 = .ok (.iload 6, 2) := by decide +kernel
theorem d30 : decode yB 30 = .ok (.i2b, 1) := by decide +kernel
theorem d31 : decode yB 31 = .ok (.bastore, 1) := by decide +kernel
theorem d32 : decode yB 32 = .ok (.iinc 1 1, 3) := by decide +kernel
theorem d35 : decode yB 35 = .ok (.iinc 3 1, 3) := by decide +kernel
theorem d38 : decode yB 38 = .ok (.iinc 5 1, 3) := by decide +kernel
theorem d41 : decode yB 41 = .ok (.goto (-38), 3) := by decide +kernel
theorem d44 : decode yB 44 = .ok (.iload 4, 2) := by decide +kernel
theorem d46 : decode yB 46 = .ok (.ireturn, 1) := by decide +kernel
def site : List Cond := []
def tab : Cond := tabOf yN yB 7 (some .int) site
def P (b : Addr) (A : Cell) (d : Addr) (B : Cell) (o q len : Nat) (args : Array Value) (s : State) : Prop := args = #[.ref b, .int (Int32.ofNat o), .ref d, .int (Int32.ofNat q), .int (Int32.ofNat len)] ∧ Ch b A s ∧ Arr .byte d B s ∧ b ≠ d ∧ o + len ≤ A.slots.size ∧ q + len ≤ B.slots.size ∧ ∀ i, i < len → ¬ 255 < cv A (o + i)
def E (b : Addr) (A : Cell) (d : Addr) (B : Cell) (o q len : Nat) (r : Option Value) (s u : State) : Prop := r = some (.int (Int32.ofNat len)) ∧ ∃ B', Put d B' s u ∧ Laid B B' q (q + len) (fun j => Value.int (lo8 (cv A (o + (j - q)))))
/-- no char of the range above 255: len; the places written hold each char's low byte -/
theorem law (l : Launch) (b : Addr) (A : Cell) (d : Addr) (B : Cell) (o q len : Nat) : Law l yN 5 5 0 0 yB 7 (some .int) site (P b A d B o q len) (E b A d B o q len) (copyLocs d q len) 0 0 := by
  refine Law.of_walk (plainFor_of_name (by decide +kernel)) (by decide +kernel) (by decide +kernel) (by decide) (fun _ _ h => by rw [h.1]; rfl) (fun _ U U' hal hh h => ⟨h.1, h.2.1.mv hal hh, h.2.2.1.mv hal hh, h.2.2.2⟩) (fun r U U' V V' h1 hal h2 h => ⟨h.1, h.2.elim fun B' q => ⟨B', q.1.mv h1 h2, q.2⟩⟩) ?_
  intro p e s m args below meth c s₁ X0 hexec hbytes hml hret hlk hnm hown hh0 W hP
  obtain ⟨rfl, hA, hB, hne, l1, l2, hp⟩ := hP
  have c1 : Steps p.tables e below (s₁.setTop (entryFrame m #[.ref b, .int (Int32.ofNat o), .ref d, .int (Int32.ofNat q), .int (Int32.ofNat len)] 7)) (s₁.setTop (mkF m 0 #[.val (.ref b), .val (.int (Int32.ofNat o)), .val (.ref d), .val (.int (Int32.ofNat q)), .val (.int (Int32.ofNat len)), .unset, .unset] [])) := entry rfl
  have hA0 := hA.1.mv X0.warmed.alike hh0
  have hB0 := hB.mv X0.warmed.alike hh0
  have a31 := hA.1.2.2.2
  have c2 : Steps p.tables e below (s₁.setTop (entryFrame m #[.ref b, .int (Int32.ofNat o), .ref d, .int (Int32.ofNat q), .int (Int32.ofNat len)] 7)) (s₁.setTop (mkF m 3 #[.val (.ref b), .val (.int (Int32.ofNat o)), .val (.ref d), .val (.int (Int32.ofNat q)), .val (.int (Int32.ofNat len)), .val (.int 0), .unset] [])) := c1.trans (by
    refine iconstV X0.here hexec rfl 0 (hb hbytes d0) (by decide) ?_
    refine XS.istore X0.here hexec rfl (hb hbytes d1) rfl rfl ?_
    exact Steps.refl _)
  have loop : ∀ (r i : Nat), i + r = len → ∀ (z : Slot), (z = .unset ∨ ∃ w, z = .val w ∧ w.category = 1) → ∀ (Tl : State) (Bk : Cell), Stand p l e { frames := 0, locals := 0, cells := 0, slots := 0 } s m #[.ref b, .int (Int32.ofNat o), .ref d, .int (Int32.ofNat q), .int (Int32.ofNat len)] below meth c Tl ([] ++ copyLocs d q i) 0 0 → Put d Bk s₁ Tl → Laid B Bk q (q + i) (fun j => Value.int (lo8 (cv A (o + (j - q))))) →
      Steps p.tables e below (s₁.setTop (entryFrame m #[.ref b, .int (Int32.ofNat o), .ref d, .int (Int32.ofNat q), .int (Int32.ofNat len)] 7)) (Tl.setTop (mkF m 3 #[.val (.ref b), .val (.int (Int32.ofNat (o + i))), .val (.ref d), .val (.int (Int32.ofNat (q + i))), .val (.int (Int32.ofNat len)), .val (.int (Int32.ofNat i)), z] [])) → ∃ (T' : State) (B' : Cell) (z' : Slot), Stand p l e { frames := 0, locals := 0, cells := 0, slots := 0 } s m #[.ref b, .int (Int32.ofNat o), .ref d, .int (Int32.ofNat q), .int (Int32.ofNat len)] below meth c T' ([] ++ copyLocs d q len) 0 0 ∧ Put d B' s₁ T' ∧ Laid B B' q (q + len) (fun j => Value.int (lo8 (cv A (o + (j - q))))) ∧
      Steps p.tables e below (s₁.setTop (entryFrame m #[.ref b, .int (Int32.ofNat o), .ref d, .int (Int32.ofNat q), .int (Int32.ofNat len)] 7)) (T'.setTop (mkF m 3 #[.val (.ref b), .val (.int (Int32.ofNat (o + len))), .val (.ref d), .val (.int (Int32.ofNat (q + len))), .val (.int (Int32.ofNat len)), .val (.int (Int32.ofNat len)), z'] [])) := by
    intro r
    induction r with
    | zero =>
      intro i hi z hz Tl Bk Xl pl fl cl
      have hil : i = len := by omega
      rw [hil] at Xl fl cl
      exact ⟨Tl, Bk, z, Xl, pl, fl, cl⟩
    | succ r ih =>
      intro i hi z hz Tl Bk Xl pl fl cl
      have all := X0.warmed.alike.symm.trans Xl.warmed.alike
      have hAl := hA0.keep all (pl.other hne hA0.1)
      have hBk := hB0.like all pl.1 fl.1 fl.2.1 fl.2.2.1
      have hlt : q + i < Bk.slots.size := by rw [fl.2.2.1]; omega
      have c3 : Steps p.tables e below (s₁.setTop (entryFrame m #[.ref b, .int (Int32.ofNat o), .ref d, .int (Int32.ofNat q), .int (Int32.ofNat len)] 7)) (Tl.setTop (mkF m 12 #[.val (.ref b), .val (.int (Int32.ofNat (o + i))), .val (.ref d), .val (.int (Int32.ofNat (q + i))), .val (.int (Int32.ofNat len)), .val (.int (Int32.ofNat i)), z] [.int (Int32.ofNat (o + i)), .ref b])) := cl.trans (by
        refine XS.iload Xl.here hexec rfl (hb hbytes d3) rfl ?_
        refine XS.iload Xl.here hexec rfl (hb hbytes d5) rfl ?_
        refine XS.icmpNo Xl.here hexec rfl (hb hbytes d7) rfl (ii_ge_f (lt32 (by omega) (by omega))) ?_
        refine XS.aloadN Xl.here hexec rfl (hb hbytes d10) rfl rfl ?_
        refine XS.iloadN Xl.here hexec rfl (hb hbytes d11) rfl ?_
        exact Steps.refl _)
      have c4 : Steps p.tables e below (s₁.setTop (entryFrame m #[.ref b, .int (Int32.ofNat o), .ref d, .int (Int32.ofNat q), .int (Int32.ofNat len)] 7)) (Tl.setTop (mkF m 13 #[.val (.ref b), .val (.int (Int32.ofNat (o + i))), .val (.ref d), .val (.int (Int32.ofNat (q + i))), .val (.int (Int32.ofNat len)), .val (.int (Int32.ofNat i)), z] [.int (cv A (o + i))])) := c3.trans (by
        refine Xl.aget hexec hAl rfl (hA.get (i := o + i) (by omega)) rfl rfl (hb hbytes d12) ?_
        exact Steps.refl _)
      have c5 : Steps p.tables e below (s₁.setTop (entryFrame m #[.ref b, .int (Int32.ofNat o), .ref d, .int (Int32.ofNat q), .int (Int32.ofNat len)] 7)) (Tl.setTop (mkF m 15 #[.val (.ref b), .val (.int (Int32.ofNat (o + i))), .val (.ref d), .val (.int (Int32.ofNat (q + i))), .val (.int (Int32.ofNat len)), .val (.int (Int32.ofNat i)), .val (.int (cv A (o + i)))] [])) := c4.trans (by
        refine XS.istoreS Xl.here hexec rfl (hb hbytes d13) rfl rfl hz ?_
        exact Steps.refl _)
      have c6 : Steps p.tables e below (s₁.setTop (entryFrame m #[.ref b, .int (Int32.ofNat o), .ref d, .int (Int32.ofNat q), .int (Int32.ofNat len)] 7)) (Tl.setTop (mkF m 31 #[.val (.ref b), .val (.int (Int32.ofNat (o + i))), .val (.ref d), .val (.int (Int32.ofNat (q + i))), .val (.int (Int32.ofNat len)), .val (.int (Int32.ofNat i)), .val (.int (cv A (o + i)))] [.int (lo8 (cv A (o + i))), .int (Int32.ofNat (q + i)), .ref d])) := c5.trans (by
        refine XS.iload Xl.here hexec rfl (hb hbytes d15) rfl ?_
        refine sipushV Xl.here hexec rfl 255 (hb hbytes d17) (by decide) ?_
        refine XS.icmpYes Xl.here hexec rfl (pc0 := 20) rfl (hb hbytes d20) rfl (ii_le_t (hp i (by omega))) (by decide) rfl ?_
        refine XS.aloadN Xl.here hexec rfl (hb hbytes d26) rfl rfl ?_
        refine XS.iloadN Xl.here hexec rfl (hb hbytes d27) rfl ?_
        refine XS.iload Xl.here hexec rfl (hb hbytes d28) rfl ?_
        refine i2b Xl.here hexec rfl (hb hbytes d30) rfl ?_
        exact Steps.refl _)
      obtain ⟨T7, X7, p7, st7⟩ := Xl.aput hexec hBk rfl hlt rfl (fits_lo8 (cv A (o + i))) (g := (mkF m 31 #[.val (.ref b), .val (.int (Int32.ofNat (o + i))), .val (.ref d), .val (.int (Int32.ofNat (q + i))), .val (.int (Int32.ofNat len)), .val (.int (Int32.ofNat i)), .val (.int (cv A (o + i)))] [.int (lo8 (cv A (o + i))), .int (Int32.ofNat (q + i)), .ref d])) rfl (rest := []) rfl (hb hbytes d31)
      have c8 : Steps p.tables e below (s₁.setTop (entryFrame m #[.ref b, .int (Int32.ofNat o), .ref d, .int (Int32.ofNat q), .int (Int32.ofNat len)] 7)) (T7.setTop (mkF m 32 #[.val (.ref b), .val (.int (Int32.ofNat (o + i))), .val (.ref d), .val (.int (Int32.ofNat (q + i))), .val (.int (Int32.ofNat len)), .val (.int (Int32.ofNat i)), .val (.int (cv A (o + i)))] [])) := c6.trans (st7 _ (Steps.refl _))
      have c9 : Steps p.tables e below (s₁.setTop (entryFrame m #[.ref b, .int (Int32.ofNat o), .ref d, .int (Int32.ofNat q), .int (Int32.ofNat len)] 7)) (T7.setTop (mkF m 3 #[.val (.ref b), .val (.int (Int32.ofNat (o + i) + 1)), .val (.ref d), .val (.int (Int32.ofNat (q + i) + 1)), .val (.int (Int32.ofNat len)), .val (.int (Int32.ofNat i + 1)), .val (.int (cv A (o + i)))] [])) := c8.trans (by
        refine iincV X7.here hexec rfl 1 (hb hbytes d32) (by decide) rfl rfl ?_
        refine iincV X7.here hexec rfl 1 (hb hbytes d35) (by decide) rfl rfl ?_
        refine iincV X7.here hexec rfl 1 (hb hbytes d38) (by decide) rfl rfl ?_
        refine XS.goto X7.here hexec rfl (pc0 := 41) rfl (hb hbytes d41) (by decide) rfl ?_
        exact Steps.refl _)
      have c10 : Steps p.tables e below (s₁.setTop (entryFrame m #[.ref b, .int (Int32.ofNat o), .ref d, .int (Int32.ofNat q), .int (Int32.ofNat len)] 7)) (T7.setTop (mkF m 3 #[.val (.ref b), .val (.int (Int32.ofNat (o + (i + 1)))), .val (.ref d), .val (.int (Int32.ofNat (q + (i + 1)))), .val (.int (Int32.ofNat len)), .val (.int (Int32.ofNat (i + 1))), .val (.int (cv A (o + i)))] [])) := by
        have := c9
        rw [succ32, succ32, succ32] at this
        exact this
      exact ih (i + 1) (by omega) _ (Or.inr ⟨_, rfl, rfl⟩) T7 _ (by rw [copyLocs_step, ← List.append_assoc]; exact X7) (pl.trans p7) (fl.step (by omega) hlt (by simp)) c10
  obtain ⟨T9, B9, z9, X9, p9, f9, g9⟩ := loop len 0 (by omega) .unset (Or.inl rfl) s₁ B (by simpa [copyLocs] using X0) ⟨hB0.1, fun _ _ => rfl, rfl⟩ (Laid.zero _ _ _) c2
  have c11 : Steps p.tables e below (s₁.setTop (entryFrame m #[.ref b, .int (Int32.ofNat o), .ref d, .int (Int32.ofNat q), .int (Int32.ofNat len)] 7)) (T9.setTop (mkF m 46 #[.val (.ref b), .val (.int (Int32.ofNat (o + len))), .val (.ref d), .val (.int (Int32.ofNat (q + len))), .val (.int (Int32.ofNat len)), .val (.int (Int32.ofNat len)), z9] [.int (Int32.ofNat len)])) := g9.trans (by
    refine XS.iload X9.here hexec rfl (hb hbytes d3) rfl ?_
    refine XS.iload X9.here hexec rfl (hb hbytes d5) rfl ?_
    refine XS.icmpYes X9.here hexec rfl (pc0 := 7) rfl (hb hbytes d7) rfl (ii_ge_t (nlt32 (by omega) (Nat.le_refl _))) (by decide) rfl ?_
    refine XS.iload X9.here hexec rfl (hb hbytes d44) rfl ?_
    exact Steps.refl _)
  exact ⟨T9, some (.int (Int32.ofNat len)), _, _, _, X9, by simp, rfl, rfl, (fun h => by cases h), ⟨rfl, B9, p9.from hh0, f9⟩, fun fs hl => c11.trans (X9.ireturnOut hexec hret rfl (Or.inl rfl) (hb hbytes d46) hl)⟩
end Cmp5
namespace Cmp3
def yN : MethodName := ⟨"java/lang/StringUTF16", "compress", "([CII)[B"⟩
abbrev yB : ByteArray := jdk_52_method_16_code
theorem d0 : decode yB 0 = .ok (.iload_n 2, 1) := by decide +kernel
theorem d1 : decode yB 1 = .ok (.newarray .byte, 2) := by decide +kernel
theorem d3 : decode yB 3 = .ok (.astore_n 3, 1) := by decide +kernel
theorem d4 : decode yB 4 = .ok (.aload_n 0, 1) := by decide +kernel
theorem d5 : decode yB 5 = .ok (.iload_n 1, 1) := by decide +kernel
theorem d6 : decode yB 6 = .ok (.aload_n 3, 1) := by decide +kernel
theorem d7 : decode yB 7 = .ok (.iconst 0, 1) := by decide +kernel
theorem d8 : decode yB 8 = .ok (.iload_n 2, 1) := by decide +kernel
theorem d9 : decode yB 9 = .ok (.invokestatic 115, 3) := by decide +kernel
theorem d12 : decode yB 12 = .ok (.istore 4, 2) := by decide +kernel
theorem d14 : decode yB 14 = .ok (.iload 4, 2) := by decide +kernel
theorem d16 : decode yB 16 = .ok (.iload_n 2, 1) := by decide +kernel
theorem d17 : decode yB 17 = .ok (.if_icmp (.eq) 40, 3) := by decide +kernel
theorem d57 : decode yB 57 = .ok (.aload_n 3, 1) := by decide +kernel
theorem d58 : decode yB 58 = .ok (.areturn, 1) := by decide +kernel
def site : List Cond := [.arrayClass .byte, Cmp5.tab] ++ staticW U16 115 Cmp5.yN
def tab : Cond := tabOf yN yB 6 (some (.array .byte)) site
def P (b : Addr) (A : Cell) (o len : Nat) (args : Array Value) (s : State) : Prop := args = #[.ref b, .int (Int32.ofNat o), .int (Int32.ofNat len)] ∧ Ch b A s ∧ o + len ≤ A.slots.size ∧ len ≤ 536870912 ∧ ∀ i, i < len → ¬ 255 < cv A (o + i)
def E (b : Addr) (A : Cell) (o len : Nat) (r : Option Value) (s u : State) : Prop := NewArr .byte "[B" len (fun j => .int (lo8 (cv A (o + j)))) r s u ∧ u.heap.size = s.heap.size + 1
/-- no char of the range above 255: a new byte[] of their low bytes -/
theorem law (l : Launch) (b : Addr) (A : Cell) (o len : Nat) : Law l yN 3 3 1 18 yB 6 (some (.array .byte)) site (P b A o len) (E b A o len) [] 1 len := by
  refine Law.of_walk (plainFor_of_name (by decide +kernel)) (by decide +kernel) (by decide +kernel) (by decide) (fun _ _ h => by rw [h.1]; rfl) (fun _ U U' hal hh h => ⟨h.1, h.2.1.mv hal hh, h.2.2⟩) (fun r U U' V V' h1 hal h2 h => ⟨NewArr.mv r U U' V V' h1 hal h2 h.1, by rw [h1, h2]; exact h.2⟩) ?_
  intro p e s m args below meth c s₁ X0 hexec hbytes hml hret hlk hnm hown hh0 W hP
  obtain ⟨rfl, hA, l1, l2, hp⟩ := hP
  have a31 := hA.1.2.2.2
  have c1 : Steps p.tables e below (s₁.setTop (entryFrame m #[.ref b, .int (Int32.ofNat o), .int (Int32.ofNat len)] 6)) (s₁.setTop (mkF m 0 #[.val (.ref b), .val (.int (Int32.ofNat o)), .val (.int (Int32.ofNat len)), .unset, .unset, .unset] [])) := entry rfl
  have c2 : Steps p.tables e below (s₁.setTop (entryFrame m #[.ref b, .int (Int32.ofNat o), .int (Int32.ofNat len)] 6)) (s₁.setTop (mkF m 1 #[.val (.ref b), .val (.int (Int32.ofNat o)), .val (.int (Int32.ofNat len)), .unset, .unset, .unset] [.int (Int32.ofNat len)])) := c1.trans (by
    refine XS.iloadN X0.here hexec rfl (hb hbytes d0) rfl ?_
    exact Steps.refl _)
  obtain ⟨T3, B3, X3, ba3, bs3, bv3, bh3, bf3, st3⟩ := X0.anew hexec (atype := .byte) (wk W (.arrayClass .byte)) rfl (by show len * 1 ≤ _; omega) (by omega) (g := (mkF m 1 #[.val (.ref b), .val (.int (Int32.ofNat o)), .val (.int (Int32.ofNat len)), .unset, .unset, .unset] [.int (Int32.ofNat len)])) rfl (hb hbytes d1) (rest := []) rfl (Nat.le_refl _) (by show 0 + len ≤ len; omega)
  rw [hh0] at ba3 st3
  have kp3 : XT.Kept s T3 := (XT.Kept.of_eq hh0).push bh3
  have hA3 := hA.keep X3.warmed.alike (kp3 _ _ hA.1.1)
  have hne : b ≠ s.heap.size := hA.1.ne
  have c4 : Steps p.tables e below (s₁.setTop (entryFrame m #[.ref b, .int (Int32.ofNat o), .int (Int32.ofNat len)] 6)) (T3.setTop (mkF m 3 #[.val (.ref b), .val (.int (Int32.ofNat o)), .val (.int (Int32.ofNat len)), .unset, .unset, .unset] [.ref s.heap.size])) := c2.trans (st3 _ (Steps.refl _))
  have c5 : Steps p.tables e below (s₁.setTop (entryFrame m #[.ref b, .int (Int32.ofNat o), .int (Int32.ofNat len)] 6)) (T3.setTop (mkF m 9 #[.val (.ref b), .val (.int (Int32.ofNat o)), .val (.int (Int32.ofNat len)), .val (.ref s.heap.size), .unset, .unset] [.int (Int32.ofNat len), .int 0, .ref s.heap.size, .int (Int32.ofNat o), .ref b])) := c4.trans (by
    refine XS.astoreN X3.here hexec rfl (hb hbytes d3) rfl rfl rfl ?_
    refine XS.aloadN X3.here hexec rfl (hb hbytes d4) rfl rfl ?_
    refine XS.iloadN X3.here hexec rfl (hb hbytes d5) rfl ?_
    refine XS.aloadN X3.here hexec rfl (hb hbytes d6) rfl rfl ?_
    refine iconstV X3.here hexec rfl 0 (hb hbytes d7) (by decide) ?_
    refine XS.iloadN X3.here hexec rfl (hb hbytes d8) rfl ?_
    exact Steps.refl _)
  obtain ⟨v6, T6, X6, E6, g6⟩ := X3.callS hexec (Cmp5.law l b A s.heap.size B3 o 0 len) hown (wks W (staticW U16 115 Cmp5.yN)) (wk W Cmp5.tab) (W := 0) (Nat.le_of_ble_eq_true rfl) (Nat.le_of_ble_eq_true rfl) (Nat.le_refl _) (by show 0 + len + 0 ≤ len; omega) (g := (mkF m 9 #[.val (.ref b), .val (.int (Int32.ofNat o)), .val (.int (Int32.ofNat len)), .val (.ref s.heap.size), .unset, .unset] [.int (Int32.ofNat len), .int (Int32.ofNat 0), .ref s.heap.size, .int (Int32.ofNat o), .ref b])) rfl (by rw [hml]; rfl) c5 (argsL := [.ref b, .int (Int32.ofNat o), .ref s.heap.size, .int (Int32.ofNat 0), .int (Int32.ofNat len)]) (rest := []) rfl rfl (by show 2 * 0 + 0 ≤ _; decide) (hb hbytes d9) (⟨rfl, hA3, ba3, hne, l1, by rw [bs3]; simp, hp⟩)
  obtain ⟨rfl, B6, p6, f6⟩ := E6
  have c7 : Steps p.tables e below (s₁.setTop (entryFrame m #[.ref b, .int (Int32.ofNat o), .int (Int32.ofNat len)] 6)) (T6.setTop (mkF m 12 #[.val (.ref b), .val (.int (Int32.ofNat o)), .val (.int (Int32.ofNat len)), .val (.ref s.heap.size), .unset, .unset] [.int (Int32.ofNat len)])) := g6
  have c8 : Steps p.tables e below (s₁.setTop (entryFrame m #[.ref b, .int (Int32.ofNat o), .int (Int32.ofNat len)] 6)) (T6.setTop (mkF m 58 #[.val (.ref b), .val (.int (Int32.ofNat o)), .val (.int (Int32.ofNat len)), .val (.ref s.heap.size), .val (.int (Int32.ofNat len)), .unset] [.ref s.heap.size])) := c7.trans (by
    refine XS.istore X6.here hexec rfl (hb hbytes d12) rfl rfl ?_
    refine XS.iload X6.here hexec rfl (hb hbytes d14) rfl ?_
    refine XS.iloadN X6.here hexec rfl (hb hbytes d16) rfl ?_
    refine XS.icmpYes X6.here hexec rfl (pc0 := 17) rfl (hb hbytes d17) rfl (ii_eq_t rfl) (by decide) rfl ?_
    refine XS.aloadN X6.here hexec rfl (hb hbytes d57) rfl rfl ?_
    exact Steps.refl _)
  have X8 := X6.wide (L' := []) (cells' := 1) (slots' := len) (fun x hx hlt => by
    simp only [List.nil_append, copyLocs, List.mem_map, List.mem_range] at hx
    obtain ⟨i, -, rfl⟩ := hx
    exact absurd hlt (Nat.lt_irrefl _)) (Nat.le_refl _) (by omega)
  exact ⟨T6, some (.ref s.heap.size), _, _, _, X8, rfl, rfl, rfl, (fun h => by cases h), ⟨⟨rfl, B6, ba3.like (X3.warmed.alike.symm.trans X6.warmed.alike) p6.1 f6.1 f6.2.1 f6.2.2.1, f6.2.1.trans bv3, by rw [X6.warmed.alike.findClass, f6.1]; exact bf3, by rw [f6.2.2.1, bs3]; simp, fun j hj => by rw [f6.2.2.2 j, if_pos (by omega)]; rfl, kp3.put p6 (Nat.le_refl _)⟩, by rw [p6.2.2, bh3, hh0]; simp⟩, fun fs hl => c8.trans (X8.areturnOut hexec rfl hret rfl (hb hbytes d58) hl)⟩
end Cmp3
namespace CodL
def yN : MethodName := ⟨"java/lang/StringUTF16", "coderFromArrayLen", "([BI)B"⟩
abbrev yB : ByteArray := jdk_52_method_15_code
theorem d0 : decode yB 0 = .ok (.iload_n 1, 1) := by decide +kernel
theorem d1 : decode yB 1 = .ok (.aload_n 0, 1) := by decide +kernel
theorem d2 : decode yB 2 = .ok (.arraylength, 1) := by decide +kernel
theorem d3 : decode yB 3 = .ok (.isub, 1) := by decide +kernel
theorem d4 : decode yB 4 = .ok (.bipush 31, 2) := by decide +kernel
theorem d6 : decode yB 6 = .ok (.iushr, 1) := by decide +kernel
theorem d7 : decode yB 7 = .ok (.i2b, 1) := by decide +kernel
theorem d8 : decode yB 8 = .ok (.ireturn, 1) := by decide +kernel
def site : List Cond := []
def tab : Cond := tabOf yN yB 2 (some .byte) site
def P (d : Addr) (B : Cell) (args : Array Value) (s : State) : Prop := args = #[.ref d, .int (Int32.ofNat B.slots.size)] ∧ Arr .byte d B s
def E (r : Option Value) (s u : State) : Prop := XT.PureE (some (.int 0)) r s u
/-- an array as long as the number of chars: LATIN1 -/
theorem law (l : Launch) (d : Addr) (B : Cell) : Law l yN 2 2 0 0 yB 2 (some .byte) site (P d B) E [] 0 0 := by
  refine Law.of_walk (plainFor_of_name (by decide +kernel)) (by decide +kernel) (by decide +kernel) (by decide) (fun _ _ h => by rw [h.1]; rfl) (fun _ U U' hal hh h => ⟨h.1, h.2.mv hal hh⟩) (fun r U U' V V' h1 hal h2 h => XT.PureE.mv r U U' V V' h1 hal h2 h) ?_
  intro p e s m args below meth c s₁ X0 hexec hbytes hml hret hlk hnm hown hh0 W hP
  obtain ⟨rfl, hB⟩ := hP
  have hB0 := hB.mv X0.warmed.alike hh0
  have c1 : Steps p.tables e below (s₁.setTop (entryFrame m #[.ref d, .int (Int32.ofNat B.slots.size)] 2)) (s₁.setTop (mkF m 0 #[.val (.ref d), .val (.int (Int32.ofNat B.slots.size))] [])) := entry rfl
  have c2 : Steps p.tables e below (s₁.setTop (entryFrame m #[.ref d, .int (Int32.ofNat B.slots.size)] 2)) (s₁.setTop (mkF m 2 #[.val (.ref d), .val (.int (Int32.ofNat B.slots.size))] [.ref d, .int (Int32.ofNat B.slots.size)])) := c1.trans (by
    refine XS.iloadN X0.here hexec rfl (hb hbytes d0) rfl ?_
    refine XS.aloadN X0.here hexec rfl (hb hbytes d1) rfl rfl ?_
    exact Steps.refl _)
  have c3 : Steps p.tables e below (s₁.setTop (entryFrame m #[.ref d, .int (Int32.ofNat B.slots.size)] 2)) (s₁.setTop (mkF m 8 #[.val (.ref d), .val (.int (Int32.ofNat B.slots.size))] [.int (lo8 (ushr (Int32.ofNat B.slots.size - Int32.ofNat B.slots.size) 31))])) := c2.trans (by
    refine X0.alen hexec hB0 rfl rfl (hb hbytes d2) ?_
    refine XS.isub X0.here hexec rfl (hb hbytes d3) rfl ?_
    refine bipushV X0.here hexec rfl 31 (hb hbytes d4) (by decide) ?_
    refine iushr X0.here hexec rfl (hb hbytes d6) rfl ?_
    refine i2b X0.here hexec rfl (hb hbytes d7) rfl ?_
    exact Steps.refl _)
  have e0 : lo8 (ushr (Int32.ofNat B.slots.size - Int32.ofNat B.slots.size) 31) = 0 := by rw [Int32.sub_self]; decide
  rw [e0] at c3
  exact ⟨s₁, some (.int 0), _, _, _, X0, rfl, rfl, rfl, (fun h => by cases h), ⟨rfl, hh0⟩, fun fs hl => c3.trans (X0.ireturnOut hexec hret rfl (Or.inr (Or.inr (Or.inl rfl))) (hb hbytes d8) hl)⟩
end CodL
/-- the String at a is Latin-1 over a new byte[] (the heap's one new cell): the low bytes of the len chars of A from o on; every cell but a is kept -/
def Got (a : Addr) (D : Cell) (fV fC : Field) (A : Cell) (o len : Nat) (r : Option Value) (s u : State) : Prop := r = none ∧ ∃ D' V : Cell, Blank "java/lang/String" a D' u ∧ Same D D' [fV.slot, fC.slot] ∧ D'.slots[fV.slot]? = some (.ref s.heap.size) ∧ D'.slots[fC.slot]? = some (.int 0) ∧ Arr .byte s.heap.size V u ∧ V.vm = .none ∧ u.vm.findClass "[B" = some V.cls ∧ V.slots.size = len ∧ (∀ j, j < len → V.slots[j]? = some (.int (lo8 (cv A (o + j))))) ∧ (∀ (y : Addr) (c : Cell), y ≠ a → s.heap[y]? = some c → u.heap[y]? = some c) ∧ u.heap.size = s.heap.size + 1
theorem Got.mv {a : Addr} {D A : Cell} {fV fC : Field} {o len : Nat} : ∀ r (U U' V V' : State), U'.heap = U.heap → V.vm.Alike V'.vm → V'.heap = V.heap → Got a D fV fC A o len r U V → Got a D fV fC A o len r U' V' :=
  fun r U U' V V' h1 hal h2 ⟨e0, D', X, a1, a2, a3, a4, a5, a6, a7, a8, a9, a10, a11⟩ => ⟨e0, D', X, a1.mv hal h2, a2, by rw [h1]; exact a3, a4, by rw [h1]; exact a5.mv hal h2, a6, by rw [hal.findClass]; exact a7, a8, a9, by rw [h1, h2]; exact a10, by rw [h1, h2]; exact a11⟩
namespace New4
def yN : MethodName := ⟨"java/lang/String", "<init>", "([CIILjava/lang/Void;)V"⟩
abbrev yB : ByteArray := jdk_42_method_149_code
theorem d0 : decode yB 0 = .ok (.aload_n 0, 1) := by decide +kernel
theorem d1 : decode yB 1 = .ok (.invokespecial 1, 3) := by decide +kernel
theorem d4 : decode yB 4 = .ok (.iload_n 3, 1) := by decide +kernel
theorem d5 : decode yB 5 = .ok (.ifCond (.ne) 22, 3) := by decide +kernel
theorem d27 : decode yB 27 = .ok (.getstatic 38, 3) := by decide +kernel
theorem d30 : decode yB 30 = .ok (.ifCond (.eq) 28, 3) := by decide +kernel
theorem d33 : decode yB 33 = .ok (.aload_n 1, 1) := by decide +kernel
theorem d34 : decode yB 34 = .ok (.iload_n 2, 1) := by decide +kernel
theorem d35 : decode yB 35 = .ok (.iload_n 3, 1) := by decide +kernel
theorem d36 : decode yB 36 = .ok (.invokestatic 177, 3) := by decide +kernel
theorem d39 : decode yB 39 = .ok (.astore 5, 2) := by decide +kernel
theorem d41 : decode yB 41 = .ok (.aload_n 0, 1) := by decide +kernel
theorem d42 : decode yB 42 = .ok (.aload 5, 2) := by decide +kernel
theorem d44 : decode yB 44 = .ok (.iload_n 3, 1) := by decide +kernel
theorem d45 : decode yB 45 = .ok (.invokestatic 47, 3) := by decide +kernel
theorem d48 : decode yB 48 = .ok (.putfield 15, 3) := by decide +kernel
theorem d51 : decode yB 51 = .ok (.aload_n 0, 1) := by decide +kernel
theorem d52 : decode yB 52 = .ok (.aload 5, 2) := by decide +kernel
theorem d54 : decode yB 54 = .ok (.putfield 9, 3) := by decide +kernel
theorem d57 : decode yB 57 = .ok (.return_, 1) := by decide +kernel
def site : List Cond := [.fieldLink "java/lang/String" 38 "java/lang/String" "COMPACT_STRINGS" "Z", Cmp3.tab, CodL.tab, .laysFinal "java/lang/String" "java/lang/String" "value" "[B", .fieldLink "java/lang/String" 9 "java/lang/String" "value" "[B", .laysFinal "java/lang/String" "java/lang/String" "coder" "B", .fieldLink "java/lang/String" 15 "java/lang/String" "coder" "B"] ++ objW "java/lang/String" 1 ++ staticW "java/lang/String" 177 Cmp3.yN ++ staticW "java/lang/String" 47 CodL.yN
def tab : Cond := tabOf yN yB 6 none site
def P (a : Addr) (D : Cell) (fV fC : Field) (b : Addr) (A : Cell) (z : Int32) (o len : Nat) (args : Array Value) (s : State) : Prop := args = #[.ref a, .ref b, .int (Int32.ofNat o), .int (Int32.ofNat len), .null] ∧ Blank "java/lang/String" a D s ∧ Found "java/lang/String" "value" "[B" fV s ∧ Found "java/lang/String" "coder" "B" fC s ∧ Ch b A s ∧ StaticIs s "java/lang/String" "COMPACT_STRINGS" "Z" (.int z) ∧ ¬ z = 0 ∧ 0 < len ∧ o + len ≤ A.slots.size ∧ len ≤ 536870912 ∧ ∀ i, i < len → ¬ 255 < cv A (o + i)
def E (a : Addr) (D : Cell) (fV fC : Field) (A : Cell) (o len : Nat) (r : Option Value) (s u : State) : Prop := Got a D fV fC A o len r s u
/-- len > 0, no char of the range above 255: a Latin-1 String of their low bytes -/
theorem law (l : Launch) (a : Addr) (D : Cell) (fV fC : Field) (b : Addr) (A : Cell) (z : Int32) (o len : Nat) : Law l yN 5 4 2 35 yB 6 none site (P a D fV fC b A z o len) (E a D fV fC A o len) [⟨a, fC.slot⟩, ⟨a, fV.slot⟩] 1 len := by
  refine Law.of_walk (plainFor_of_name (by decide +kernel)) (by decide +kernel) (by decide +kernel) (by decide) (fun _ _ h => by rw [h.1]; rfl) (fun _ U U' hal hh h => ⟨h.1, h.2.1.mv hal hh, h.2.2.1.al hal, h.2.2.2.1.al hal, h.2.2.2.2.1.mv hal hh, h.2.2.2.2.2.1.there hal hh, h.2.2.2.2.2.2⟩) (fun r U U' V V' h1 hal h2 h => Got.mv r U U' V V' h1 hal h2 h) ?_
  intro p e s m args below meth c s₁ X0 hexec hbytes hml hret hlk hnm hown hh0 W hP
  obtain ⟨rfl, hB, f1, f2, hA, s1, hz, l0, l1, l2, hp⟩ := hP
  have a31 := hA.1.2.2.2
  have c1 : Steps p.tables e below (s₁.setTop (entryFrame m #[.ref a, .ref b, .int (Int32.ofNat o), .int (Int32.ofNat len), .null] 6)) (s₁.setTop (mkF m 0 #[.val (.ref a), .val (.ref b), .val (.int (Int32.ofNat o)), .val (.int (Int32.ofNat len)), .val .null, .unset] [])) := entry rfl
  have c2 : Steps p.tables e below (s₁.setTop (entryFrame m #[.ref a, .ref b, .int (Int32.ofNat o), .int (Int32.ofNat len), .null] 6)) (s₁.setTop (mkF m 1 #[.val (.ref a), .val (.ref b), .val (.int (Int32.ofNat o)), .val (.int (Int32.ofNat len)), .val .null, .unset] [.ref a])) := c1.trans (by
    refine XS.aloadN X0.here hexec rfl (hb hbytes d0) rfl rfl ?_
    exact Steps.refl _)
  obtain ⟨T3, X3, q3, st3⟩ := X0.oinit hexec hown (wks W (objW "java/lang/String" 1)) (g := (mkF m 1 #[.val (.ref a), .val (.ref b), .val (.int (Int32.ofNat o)), .val (.int (Int32.ofNat len)), .val .null, .unset] [.ref a])) rfl (by rw [hml]; rfl) (rest := []) rfl (hb hbytes d1) (W := 0) (by show 2 * 0 + 0 ≤ _; decide) (Nat.le_of_ble_eq_true rfl) (Nat.le_of_ble_eq_true rfl)
  have hh3 := q3.trans hh0
  have c4 : Steps p.tables e below (s₁.setTop (entryFrame m #[.ref a, .ref b, .int (Int32.ofNat o), .int (Int32.ofNat len), .null] 6)) (T3.setTop (mkF m 27 #[.val (.ref a), .val (.ref b), .val (.int (Int32.ofNat o)), .val (.int (Int32.ofNat len)), .val .null, .unset] [])) := (c2.trans (st3 _ (Steps.refl _))).trans (by
    refine XS.iloadN X3.here hexec rfl (hb hbytes d4) rfl ?_
    refine XS.ifYes X3.here hexec rfl (pc0 := 5) rfl (hb hbytes d5) rfl (i0_ne_t (nz32 (by omega) l0)) (by decide) rfl ?_
    exact Steps.refl _)
  obtain ⟨T5, X5, q5, st5⟩ := X3.sget hexec hown (wk W (.fieldLink "java/lang/String" 38 "java/lang/String" "COMPACT_STRINGS" "Z")) s1 (fun _ _ h => by rw [hh3]; exact h) (g := (mkF m 27 #[.val (.ref a), .val (.ref b), .val (.int (Int32.ofNat o)), .val (.int (Int32.ofNat len)), .val .null, .unset] [])) rfl (hb hbytes d27)
  have hh5 := q5.trans hh3
  have c6 : Steps p.tables e below (s₁.setTop (entryFrame m #[.ref a, .ref b, .int (Int32.ofNat o), .int (Int32.ofNat len), .null] 6)) (T5.setTop (mkF m 30 #[.val (.ref a), .val (.ref b), .val (.int (Int32.ofNat o)), .val (.int (Int32.ofNat len)), .val .null, .unset] [.int z])) := c4.trans (st5 _ (Steps.refl _))
  have c7 : Steps p.tables e below (s₁.setTop (entryFrame m #[.ref a, .ref b, .int (Int32.ofNat o), .int (Int32.ofNat len), .null] 6)) (T5.setTop (mkF m 36 #[.val (.ref a), .val (.ref b), .val (.int (Int32.ofNat o)), .val (.int (Int32.ofNat len)), .val .null, .unset] [.int (Int32.ofNat len), .int (Int32.ofNat o), .ref b])) := c6.trans (by
    refine XS.ifNo X5.here hexec rfl (hb hbytes d30) rfl (i0_eq_f hz) ?_
    refine XS.aloadN X5.here hexec rfl (hb hbytes d33) rfl rfl ?_
    refine XS.iloadN X5.here hexec rfl (hb hbytes d34) rfl ?_
    refine XS.iloadN X5.here hexec rfl (hb hbytes d35) rfl ?_
    exact Steps.refl _)
  obtain ⟨v8, T8, X8, E8, g8⟩ := X5.callS hexec (Cmp3.law l b A o len) hown (wks W (staticW "java/lang/String" 177 Cmp3.yN)) (wk W Cmp3.tab) (W := 0) (Nat.le_of_ble_eq_true rfl) (Nat.le_of_ble_eq_true rfl) (Nat.le_refl _) (by show 0 + len ≤ len; omega) (g := (mkF m 36 #[.val (.ref a), .val (.ref b), .val (.int (Int32.ofNat o)), .val (.int (Int32.ofNat len)), .val .null, .unset] [.int (Int32.ofNat len), .int (Int32.ofNat o), .ref b])) rfl (by rw [hml]; rfl) c7 (argsL := [.ref b, .int (Int32.ofNat o), .int (Int32.ofNat len)]) (rest := []) rfl rfl (by show 2 * 0 + 0 ≤ _; decide) (hb hbytes d36) (⟨rfl, hA.mv X5.warmed.alike hh5, l1, l2, hp⟩)
  obtain ⟨e8, z8⟩ := E8
  obtain ⟨rfl, N, n1, n2, n3, n4, n5, n6⟩ := NewArr.mv _ T5 s _ _ hh5.symm (Vm.Alike.refl _) rfl e8
  rw [hh5] at z8
  have hB1 := hB.keep X8.warmed.alike (n6 _ _ hB.1)
  have hne : s.heap.size ≠ a := (Nat.ne_of_lt (Array.getElem?_eq_some_iff.mp hB.1).1).symm
  have c9 : Steps p.tables e below (s₁.setTop (entryFrame m #[.ref a, .ref b, .int (Int32.ofNat o), .int (Int32.ofNat len), .null] 6)) (T8.setTop (mkF m 39 #[.val (.ref a), .val (.ref b), .val (.int (Int32.ofNat o)), .val (.int (Int32.ofNat len)), .val .null, .unset] [.ref s.heap.size])) := g8
  have c10 : Steps p.tables e below (s₁.setTop (entryFrame m #[.ref a, .ref b, .int (Int32.ofNat o), .int (Int32.ofNat len), .null] 6)) (T8.setTop (mkF m 45 #[.val (.ref a), .val (.ref b), .val (.int (Int32.ofNat o)), .val (.int (Int32.ofNat len)), .val .null, .val (.ref s.heap.size)] [.int (Int32.ofNat N.slots.size), .ref s.heap.size, .ref a])) := by
    have hc : Steps p.tables e below (s₁.setTop (entryFrame m #[.ref a, .ref b, .int (Int32.ofNat o), .int (Int32.ofNat len), .null] 6)) (T8.setTop (mkF m 45 #[.val (.ref a), .val (.ref b), .val (.int (Int32.ofNat o)), .val (.int (Int32.ofNat len)), .val .null, .val (.ref s.heap.size)] [.int (Int32.ofNat len), .ref s.heap.size, .ref a])) := c9.trans (by
      refine XS.astore X8.here hexec rfl (hb hbytes d39) rfl rfl rfl ?_
      refine XS.aloadN X8.here hexec rfl (hb hbytes d41) rfl rfl ?_
      refine XS.aload X8.here hexec rfl (hb hbytes d42) rfl rfl ?_
      refine XS.iloadN X8.here hexec rfl (hb hbytes d44) rfl ?_
      exact Steps.refl _)
    rw [n4]; exact hc
  obtain ⟨v11, T11, X11, E11, g11⟩ := X8.callS hexec (CodL.law l s.heap.size N) hown (wks W (staticW "java/lang/String" 47 CodL.yN)) (wk W CodL.tab) (W := 1) (Nat.le_of_ble_eq_true rfl) (Nat.le_of_ble_eq_true rfl) (Nat.le_refl _) (by show 0 + len + 0 ≤ len; omega) (g := (mkF m 45 #[.val (.ref a), .val (.ref b), .val (.int (Int32.ofNat o)), .val (.int (Int32.ofNat len)), .val .null, .val (.ref s.heap.size)] [.int (Int32.ofNat N.slots.size), .ref s.heap.size, .ref a])) rfl (by rw [hml]; rfl) c10 (argsL := [.ref s.heap.size, .int (Int32.ofNat N.slots.size)]) (rest := [.ref a]) rfl rfl (by show 2 * 0 + (1 + 0) ≤ _; decide) (hb hbytes d45) (⟨rfl, n1⟩)
  obtain ⟨rfl, q11⟩ := E11
  have hB11 := hB1.mv (X8.warmed.alike.symm.trans X11.warmed.alike) q11
  have c12 : Steps p.tables e below (s₁.setTop (entryFrame m #[.ref a, .ref b, .int (Int32.ofNat o), .int (Int32.ofNat len), .null] 6)) (T11.setTop (mkF m 48 #[.val (.ref a), .val (.ref b), .val (.int (Int32.ofNat o)), .val (.int (Int32.ofNat len)), .val .null, .val (.ref s.heap.size)] [.int 0, .ref a])) := g11
  obtain ⟨T13, X13, p13, bl13, sl13, st13⟩ := X11.finit hexec hown (wk W (.fieldLink "java/lang/String" 15 "java/lang/String" "coder" "B")) (Or.inr ⟨_, (wk W (.laysFinal "java/lang/String" "java/lang/String" "coder" "B"))⟩) (Or.inl ⟨rfl, hnm⟩) f2 (Or.inl rfl) hB11 (t := .byte) (by decide +kernel) rfl (g := (mkF m 48 #[.val (.ref a), .val (.ref b), .val (.int (Int32.ofNat o)), .val (.int (Int32.ofNat len)), .val .null, .val (.ref s.heap.size)] [.int 0, .ref a])) rfl (rest := []) rfl (hb hbytes d48)
  have c14 : Steps p.tables e below (s₁.setTop (entryFrame m #[.ref a, .ref b, .int (Int32.ofNat o), .int (Int32.ofNat len), .null] 6)) (T13.setTop (mkF m 54 #[.val (.ref a), .val (.ref b), .val (.int (Int32.ofNat o)), .val (.int (Int32.ofNat len)), .val .null, .val (.ref s.heap.size)] [.ref s.heap.size, .ref a])) := (c12.trans (st13 _ (Steps.refl _))).trans (by
    refine XS.aloadN X13.here hexec rfl (hb hbytes d51) rfl rfl ?_
    refine XS.aload X13.here hexec rfl (hb hbytes d52) rfl rfl ?_
    exact Steps.refl _)
  obtain ⟨T15, X15, p15, bl15, sl15, st15⟩ := X13.finit hexec hown (wk W (.fieldLink "java/lang/String" 9 "java/lang/String" "value" "[B")) (Or.inr ⟨_, (wk W (.laysFinal "java/lang/String" "java/lang/String" "value" "[B"))⟩) (Or.inl ⟨rfl, hnm⟩) f1 (Or.inl rfl) bl13 (t := (.array .byte)) (by decide +kernel) rfl (g := (mkF m 54 #[.val (.ref a), .val (.ref b), .val (.int (Int32.ofNat o)), .val (.int (Int32.ofNat len)), .val .null, .val (.ref s.heap.size)] [.ref s.heap.size, .ref a])) rfl (rest := []) rfl (hb hbytes d54)
  have c16 : Steps p.tables e below (s₁.setTop (entryFrame m #[.ref a, .ref b, .int (Int32.ofNat o), .int (Int32.ofNat len), .null] 6)) (T15.setTop (mkF m 57 #[.val (.ref a), .val (.ref b), .val (.int (Int32.ofNat o)), .val (.int (Int32.ofNat len)), .val .null, .val (.ref s.heap.size)] [])) := c14.trans (st15 _ (Steps.refl _))
  have ap := apart (Or.inr ⟨_, (wk W (.laysFinal "java/lang/String" "java/lang/String" "value" "[B"))⟩) (Or.inr ⟨_, (wk W (.laysFinal "java/lang/String" "java/lang/String" "coder" "B"))⟩) f1 f2 (t₁ := .array .byte) (t₂ := .byte) (by decide +kernel) (by decide +kernel) (by decide)
  have al := X8.warmed.alike.symm.trans X15.warmed.alike
  have n7 : T11.heap[s.heap.size]? = some N := by rw [q11]; exact n1.1
  exact ⟨T15, none, _, _, _, X15, by simp, rfl, by omega, (fun _ => rfl), ⟨rfl, _, N, bl15, ((Same.refl D _).set _ (by simp)).set _ (by simp), sl15, (Cell.slots_setSlot_ne _ ap).trans sl13, n1.keep al (p15.other hne (p13.other hne n7)), n2, by rw [al.findClass]; exact n3, n4, n5, fun y c h1 h2 => p15.other h1 (p13.other h1 (by rw [q11]; exact n6 y c h2)), by rw [p15.2.2, p13.2.2, q11]; exact z8⟩, fun fs hl => c16.trans (X15.returnOut hexec hret (hb hbytes d57) hl)⟩
end New4
namespace New1
def yN : MethodName := ⟨"java/lang/String", "<init>", "([C)V"⟩
abbrev yB : ByteArray := jdk_42_method_3_code
theorem d0 : decode yB 0 = .ok (.aload_n 0, 1) := by decide +kernel
theorem d1 : decode yB 1 = .ok (.aload_n 1, 1) := by decide +kernel
theorem d2 : decode yB 2 = .ok (.iconst 0, 1) := by decide +kernel
theorem d3 : decode yB 3 = .ok (.aload_n 1, 1) := by decide +kernel
theorem d4 : decode yB 4 = .ok (.arraylength, 1) := by decide +kernel
theorem d5 : decode yB 5 = .ok (.aconst_null, 1) := by decide +kernel
theorem d6 : decode yB 6 = .ok (.invokespecial 27, 3) := by decide +kernel
theorem d9 : decode yB 9 = .ok (.return_, 1) := by decide +kernel
def site : List Cond := [New4.tab] ++ initW "java/lang/String" 27 New4.yN
def tab : Cond := tabOf yN yB 2 none site
def P (a : Addr) (D : Cell) (fV fC : Field) (b : Addr) (A : Cell) (z : Int32) (args : Array Value) (s : State) : Prop := args = #[.ref a, .ref b] ∧ Blank "java/lang/String" a D s ∧ Found "java/lang/String" "value" "[B" fV s ∧ Found "java/lang/String" "coder" "B" fC s ∧ Ch b A s ∧ StaticIs s "java/lang/String" "COMPACT_STRINGS" "Z" (.int z) ∧ ¬ z = 0 ∧ 0 < A.slots.size ∧ A.slots.size ≤ 536870912 ∧ ∀ i, i < A.slots.size → ¬ 255 < cv A i
def E (a : Addr) (D : Cell) (fV fC : Field) (A : Cell) (r : Option Value) (s u : State) : Prop := Got a D fV fC A 0 A.slots.size r s u
/-- new String(chars), not empty, no char above 255: a Latin-1 String of their low bytes -/
theorem law (l : Launch) (a : Addr) (D : Cell) (fV fC : Field) (b : Addr) (A : Cell) (z : Int32) : Law l yN 2 1 3 52 yB 2 none site (P a D fV fC b A z) (E a D fV fC A) [⟨a, fC.slot⟩, ⟨a, fV.slot⟩] 1 A.slots.size := by
  refine Law.of_walk (plainFor_of_name (by decide +kernel)) (by decide +kernel) (by decide +kernel) (by decide) (fun _ _ h => by rw [h.1]; rfl) (fun _ U U' hal hh h => ⟨h.1, h.2.1.mv hal hh, h.2.2.1.al hal, h.2.2.2.1.al hal, h.2.2.2.2.1.mv hal hh, h.2.2.2.2.2.1.there hal hh, h.2.2.2.2.2.2⟩) (fun r U U' V V' h1 hal h2 h => Got.mv r U U' V V' h1 hal h2 h) ?_
  intro p e s m args below meth c s₁ X0 hexec hbytes hml hret hlk hnm hown hh0 W hP
  obtain ⟨rfl, hB, f1, f2, hA, s1, hz, l0, l2, hp⟩ := hP
  have c1 : Steps p.tables e below (s₁.setTop (entryFrame m #[.ref a, .ref b] 2)) (s₁.setTop (mkF m 0 #[.val (.ref a), .val (.ref b)] [])) := entry rfl
  have c2 : Steps p.tables e below (s₁.setTop (entryFrame m #[.ref a, .ref b] 2)) (s₁.setTop (mkF m 6 #[.val (.ref a), .val (.ref b)] [.null, .int (Int32.ofNat A.slots.size), .int 0, .ref b, .ref a])) := c1.trans (by
    refine XS.aloadN X0.here hexec rfl (hb hbytes d0) rfl rfl ?_
    refine XS.aloadN X0.here hexec rfl (hb hbytes d1) rfl rfl ?_
    refine iconstV X0.here hexec rfl 0 (hb hbytes d2) (by decide) ?_
    refine XS.aloadN X0.here hexec rfl (hb hbytes d3) rfl rfl ?_
    refine X0.alen hexec (hA.1.mv X0.warmed.alike hh0) rfl rfl (hb hbytes d4) ?_
    refine XS.aconstNull X0.here hexec rfl (hb hbytes d5) ?_
    exact Steps.refl _)
  obtain ⟨v3, T3, X3, E3, g3⟩ := X0.callN hexec (New4.law l a D fV fC b A z 0 A.slots.size) rfl hown (wks W (initW "java/lang/String" 27 New4.yN)) (W New4.tab (by simp only [site, List.mem_cons, List.mem_append, true_or, or_true])) (W := 0) (Nat.le_of_ble_eq_true rfl) (Nat.le_of_ble_eq_true rfl) (Nat.le_refl _) (by show 0 + A.slots.size ≤ A.slots.size; omega) (g := (mkF m 6 #[.val (.ref a), .val (.ref b)] [.null, .int (Int32.ofNat A.slots.size), .int (Int32.ofNat 0), .ref b, .ref a])) rfl (by rw [hml]; rfl) c2 (argsL := [.ref b, .int (Int32.ofNat 0), .int (Int32.ofNat A.slots.size), .null]) (rest := []) rfl rfl (by show 2 * 0 + 0 ≤ _; decide) (hb hbytes d6) (⟨rfl, hB.mv X0.warmed.alike hh0, f1.al X0.warmed.alike, f2.al X0.warmed.alike, hA.mv X0.warmed.alike hh0, s1.there X0.warmed.alike hh0, hz, l0, by omega, l2, fun i hi => by rw [Nat.zero_add]; exact hp i hi⟩)
  have e0 := Got.mv _ s₁ s _ _ hh0.symm (Vm.Alike.refl _) rfl E3
  obtain rfl := e0.1
  have c4 : Steps p.tables e below (s₁.setTop (entryFrame m #[.ref a, .ref b] 2)) (T3.setTop (mkF m 9 #[.val (.ref a), .val (.ref b)] [])) := g3
  exact ⟨T3, none, _, _, _, X3, by simp, rfl, by omega, (fun _ => rfl), e0, fun fs hl => c4.trans (X3.returnOut hexec hret (hb hbytes d9) hl)⟩
theorem pays {l : Launch} {R : Room} {p : Program} {e : Env} {below : List Frame} {s : State} {sargs : Array Value} {len W : Nat} (a : Addr) (D : Cell) (fV fC : Field) (b : Addr) (A : Cell) (z : Int32) (htab : tab.before sargs s = true) (hfr : 4 ≤ R.frames) (hlo : W + 65 ≤ R.locals) :
    Back l R p e below s sargs yN len W (fun A₁ a₁ => A₁.cells + 1 ≤ R.cells ∧ A₁.slots + A.slots.size ≤ R.slots ∧ P a D fV fC b A z a₁ A₁.U) (fun A₁ _ v₁ B₁ => E a D fV fC A v₁ A₁.U B₁.U ∧ B₁.locs = A₁.locs ++ [⟨a, fC.slot⟩, ⟨a, fV.slot⟩] ∧ B₁.cells = A₁.cells + 1 ∧ B₁.slots = A₁.slots + A.slots.size) :=
  (law l a D fV fC b A z).pays htab hfr (by omega)
end New1
end StrChars
namespace StrChars.Road
open Jvm Sem ClassFile Op Lib Jvm.Stand Jvm.Free Jvm.Free.XT
open Jvm.Lib.Cold (StaticIs)
abbrev ST : String := "java/lang/String"
/-- every table word that New1's law asks, flat -/
abbrev words : List Jvm.Cond := [.code New1.yN New1.yB 2 none, .initialized ST, .methodLink ST 27 New4.yN, .instanceMethod New4.yN,
  .code New4.yN New4.yB 6 none, .fieldLink ST 38 ST "COMPACT_STRINGS" "Z", .laysFinal ST ST "value" "[B", .fieldLink ST 9 ST "value" "[B", .laysFinal ST ST "coder" "B", .fieldLink ST 15 ST "coder" "B",
  .methodLink ST 1 Lib.objectInit, .instanceMethod Lib.objectInit, .code Lib.objectInit ⟨#[0xb1]⟩ 1 none, .methodLink ST 177 Cmp3.yN, .static Cmp3.yN, .methodLink ST 47 CodL.yN, .static CodL.yN,
  .code Cmp3.yN Cmp3.yB 6 (some (.array .byte)), .initialized U16, .arrayClass .byte, .methodLink U16 115 Cmp5.yN, .static Cmp5.yN, .code Cmp5.yN Cmp5.yB 7 (some .int), .code CodL.yN CodL.yB 2 (some .byte)]
theorem tab_of {a : Array Value} {s : State} (h : ∀ w ∈ words, w.before a s = true) : New1.tab.before a s = true := by
  have h5 : Cmp5.tab.before a s = true := unparts (wk h (.code Cmp5.yN Cmp5.yB 7 (some .int))) (wks h (.initialized Cmp5.yN.cls :: Cmp5.site))
  have hc : CodL.tab.before a s = true := unparts (wk h (.code CodL.yN CodL.yB 2 (some .byte))) (wks h (.initialized CodL.yN.cls :: CodL.site))
  have q5 : ∀ w ∈ Cmp5.tab :: words, w.before a s = true := fun w hw => (List.mem_cons.mp hw).elim (fun e => e ▸ h5) (h w)
  have h3 : Cmp3.tab.before a s = true := unparts (wk q5 (.code Cmp3.yN Cmp3.yB 6 (some (.array .byte)))) (wks q5 (.initialized Cmp3.yN.cls :: Cmp3.site))
  have q3 : ∀ w ∈ Cmp3.tab :: CodL.tab :: words, w.before a s = true := fun w hw => (List.mem_cons.mp hw).elim (fun e => e ▸ h3) fun hw => (List.mem_cons.mp hw).elim (fun e => e ▸ hc) (h w)
  have h4 : New4.tab.before a s = true := unparts (wk q3 (.code New4.yN New4.yB 6 none)) (wks q3 (.initialized New4.yN.cls :: New4.site))
  have q4 : ∀ w ∈ New4.tab :: words, w.before a s = true := fun w hw => (List.mem_cons.mp hw).elim (fun e => e ▸ h4) (h w)
  exact unparts (wk q4 (.code New1.yN New1.yB 2 none)) (wks q4 (.initialized New1.yN.cls :: New1.site))
/-- the words ride from the start Z to the walk's own state -/
theorem moved {Z s : State} {a0 args : Array Value} (hZ : Z.Warmed39 s.vm) (hw : ∀ d ∈ words, d.before a0 Z = true) : ∀ d ∈ words, d.before args s = true := fun d hd => by
  have q := hw d hd
  have t : ∀ d ∈ words, d = .arrayClass .byte ∨ (d.onTables && d.keepsFace) = true := by decide +kernel
  rcases t d hd with rfl | t
  · exact RoadKit.mvA hZ q
  · exact RoadKit.mv hZ q t
/-- WHAT COMES BACK, over the tables of the start Z: h the heap at the call, h' behind it -/
def Q (Z : State) (x : Addr) (A : Cell) (h : Heap) (v : Option Value) (h' : Heap) (L : List Loc) : Prop := v = none ∧ (∀ y ∈ L, y.base = x) ∧ RoadKit.Keep h h' [x] ∧ h'.size = h.size + 1 ∧ RoadKit.Exa Z h' x ST ∧ RoadKit.Fld Z h' x ST "value" "[B" (.ref h.size) ∧ RoadKit.Fld Z h' x ST "coder" "B" (.int 0) ∧
  (∃ V : Cell, RoadKit.Arr Z h' h.size V .byte ∧ V.vm = .none ∧ Z.vm.findClass "[B" = some V.cls ∧ V.slots.size = A.slots.size ∧ ∀ j, j < A.slots.size → V.slots[j]? = some (.int (lo8 (cv A j)))) ∧
  ∀ (O n d : String) (w : Value), RoadKit.Fld Z h x O n d w → RoadKit.slotOf Z O n d ≠ RoadKit.slotOf Z ST "value" "[B" → RoadKit.slotOf Z O n d ≠ RoadKit.slotOf Z ST "coder" "B" → RoadKit.Fld Z h' x O n d w
/-- **new String(chars) AT A CALL, IN THE ROAD'S FORM**: for specialBack behind newO: x the fresh String, b the char[] with the cell A -/
theorem back {p : Program} {l : Launch} {e : Env} {R : Room} {s : State} {args : Array Value} {below : List Frame} {len W : Nat} {Z : State} {a0 : Array Value} {h : Heap} (hZ : Z.Warmed39 s.vm) (hw : ∀ d ∈ words, d.before a0 Z = true) {kI : Nat} (wi : (Jvm.Cond.instantiable ST kI).before a0 Z = true)
    {x b : Addr} {A : Cell} {z : Int32} {v0 c0 : Value} (E : RoadKit.Exa Z h x ST) (V : RoadKit.Fld Z h x ST "value" "[B" v0) (C : RoadKit.Fld Z h x ST "coder" "B" c0) (K : RoadKit.Arr Z h b A .char) (hty : Typed .char A) (S : RoadKit.Sta Z h ST "COMPACT_STRINGS" "Z" (.int z)) (hz : ¬ z = 0)
    (l0 : 0 < A.slots.size) (l2 : A.slots.size ≤ 536870912) (hp : ∀ i, i < A.slots.size → ¬ 255 < cv A i) (hfr : 4 ≤ R.frames) (hlo : W + 65 ≤ R.locals) :
    Back l R p e below s args New1.yN len W (fun P a => a = #[.ref x, .ref b] ∧ P.U.heap = h ∧ P.cells + 1 ≤ R.cells ∧ P.slots + A.slots.size ≤ R.slots)
      (fun P _ v B => ∃ L, Q Z x A h v B.U.heap L ∧ B.locs = P.locs ++ L ∧ B.cells = P.cells + 1 ∧ B.slots = P.slots + A.slots.size) := by
  intro m meth c P g ig mk a X hg hsize hdg hW hn hp'
  obtain ⟨rfl, rfl, r1, r2⟩ := hp'
  have al : Z.vm.Alike P.U.vm := hZ.alike.trans X.warmed.alike
  obtain ⟨D, cfV, kV, iV, fV, hD, gV, stV, knV, obV, asV, slV⟩ := id V
  obtain ⟨D', cfC, kC, iC, fC, hD', gC, stC, -, -, asC, slC⟩ := id C
  cases hD.symm.trans hD'
  obtain ⟨D2, kD, e1, e2, e3, e4, e5⟩ := id E
  cases hD.symm.trans e1
  obtain ⟨c2, k2, i1, i2, i3, -⟩ := Cond.instantiable_spec wi
  cases e2.symm.trans i1
  cases e3.symm.trans i2
  obtain ⟨kU, u1, u2⟩ := al.2.2 _ _ e3
  have hB : Blank ST x D P.U := ⟨hD, ⟨knV, fun q hq => by rw [hq] at obV; cases obV⟩, by rw [al.findClass]; exact e2, kU, u1, by rw [u2]; exact i3, by rw [u2]; exact e5 i3⟩
  have F1 : Found ST "value" "[B" fV P.U := ⟨SBG.found_only al ⟨cfV, kV, iV, gV⟩, stV⟩
  have F2 : Found ST "coder" "B" fC P.U := ⟨SBG.found_only al ⟨cfC, kC, iC, gC⟩, stC⟩
  have hA : Ch b A P.U := ⟨⟨K.1, State.isArrayOf_alike al K.2.1, K.2.2, by omega⟩, hty⟩
  have hS : StaticIs P.U ST "COMPACT_STRINGS" "Z" (.int z) := by
    obtain ⟨cfS, iS, kS, fS, st, cS, t1, t2, t3, t4, t5, t6, t7⟩ := S
    exact StaticIs.there (s := { Z with heap := P.U.heap }) ⟨cfS, iS, kS, fS, st, cS, t1, t2, t3, t4, t5, (fun q => by rw [q] at t6; cases t6), t7⟩ al rfl
  obtain ⟨v, B, X', ⟨⟨hv, E', V', q1, q2, q3, q4, q5, q6, q7, q8, q9, q10, q11⟩, hl, hc, hs⟩, st⟩ := New1.pays x D fV fC b A z (tab_of (moved hZ hw)) hfr hlo m meth c P g ig mk _ X hg hsize hdg hW hn ⟨r1, r2, rfl, hB, F1, F2, hA, hS, hz, l0, l2, hp⟩
  have al' : Z.vm.Alike B.U.vm := hZ.alike.trans X'.warmed.alike
  have hsz : E'.slots.size = D.slots.size := by
    obtain ⟨-, -, -, kB, w1, w2, w3⟩ := q1
    obtain ⟨kB', y1, y2⟩ := al'.2.2 _ _ e3
    rw [q2.2.1] at w1
    cases w1.symm.trans y1
    rw [w3, e5 i3, y2]
  refine ⟨v, B, X', ⟨_, ⟨hv, ?_, ⟨by omega, fun y cy hy hn' => q10 y cy (by simpa using hn') hy, fun y cy hy => ?_⟩, q11, ⟨E', _, q1.1, by rw [q2.2.1]; exact e2, by rw [q2.2.1]; exact e3, by rw [q2.1]; exact obV, fun _ => by rw [hsz]; exact e5 i3⟩,
    ⟨E', cfV, kV, iV, fV, q1.1, gV, stV, by rw [q2.1]; exact knV, by rw [q2.1]; exact obV, by rw [q2.2.1]; exact asV, q3⟩, ⟨E', cfC, kC, iC, fC, q1.1, gC, stC, by rw [q2.1]; exact knV, by rw [q2.1]; exact obV, by rw [q2.2.1]; exact asC, q4⟩,
    ⟨V', ⟨q5.1, State.isArrayOf_alike al'.symm q5.2.1, q5.2.2.1⟩, q6, by rw [← al'.findClass]; exact q7, q8, fun j hj => by have := q9 j hj; rwa [Nat.zero_add] at this⟩, fun O n d w F n1 n2 => ?_⟩, hl, hc, hs⟩, st⟩
  · intro y hy
    simp only [List.mem_cons, List.not_mem_nil, or_false] at hy
    rcases hy with rfl | rfl <;> rfl
  · by_cases q : y = x
    · subst q
      cases hD.symm.trans hy
      exact ⟨E', q1.1, q2.2.1, q2.1, hsz⟩
    · exact ⟨cy, q10 y cy q hy, rfl, rfl, rfl⟩
  · obtain ⟨D3, cf, k, i, f, g1, g2, g3, g4, g5, g6, g7⟩ := F
    cases hD.symm.trans g1
    simp only [RoadKit.slotOf, g2, gV, gC, Option.map_some, Option.getD_some] at n1 n2
    exact ⟨E', cf, k, i, f, q1.1, g2, g3, by rw [q2.1]; exact g4, by rw [q2.1]; exact g5, by rw [q2.2.1]; exact g6, by rw [q2.2.2 f.slot (by simp [n1, n2])]; exact g7⟩
end StrChars.Road
namespace StrChars.Road
open Jvm Sem ClassFile Op Lib Jvm.Stand Jvm.Free Jvm.Free.XT
/-- WHAT COMES BACK, the byte[] as a list of values -/
def QA (Z : State) (x : Addr) (zn : Int32) (cs : List Int32) (h : Heap) (v : Option Value) (h' : Heap) (L : List Loc) : Prop := v = none ∧ (∀ y ∈ L, y.base = x) ∧ RoadKit.Keep h h' [x] ∧ h'.size = h.size + 1 ∧ RoadKit.Exa Z h' x ST ∧ RoadKit.Fld Z h' x ST "value" "[B" (.ref h.size) ∧ RoadKit.Fld Z h' x ST "coder" "B" (.int 0) ∧
  (∃ kb, Z.vm.findClass "[B" = some kb ∧ RoadKit.Arv Z h' h.size kb .byte zn (cs.map fun c => .int (lo8 c)) (.int 0)) ∧
  ∀ (O n d : String) (w : Value), RoadKit.Fld Z h x O n d w → RoadKit.slotOf Z O n d ≠ RoadKit.slotOf Z ST "value" "[B" → RoadKit.slotOf Z O n d ≠ RoadKit.slotOf Z ST "coder" "B" → RoadKit.Fld Z h' x O n d w
/-- **new String(chars) AT A CALL, THE ARRAYS AS LISTS**: the char[] at b holds cs, not empty, no char above 255 -/
theorem backArv {p : Program} {l : Launch} {e : Env} {R : Room} {s : State} {args : Array Value} {below : List Frame} {len W : Nat} {Z : State} {a0 : Array Value} {h : Heap} (hZ : Z.Warmed39 s.vm) (hw : ∀ d ∈ words, d.before a0 Z = true) {kI : Nat} (wi : (Jvm.Cond.instantiable ST kI).before a0 Z = true)
    {x b : Addr} {k : ClassId} {zn z : Int32} {cs : List Int32} {dv v0 c0 : Value} (E : RoadKit.Exa Z h x ST) (V : RoadKit.Fld Z h x ST "value" "[B" v0) (C : RoadKit.Fld Z h x ST "coder" "B" c0) (K : RoadKit.Arv Z h b k .char zn (cs.map Value.int) dv) (S : RoadKit.Sta Z h ST "COMPACT_STRINGS" "Z" (.int z)) (hz : ¬ z = 0)
    (hlen : zn.toNatClampNeg = cs.length) (h0 : 0 < cs.length) (hbig : cs.length ≤ 536870912) (hall : ∀ c ∈ cs, ¬ 255 < c) (hfr : 4 ≤ R.frames) (hlo : W + 65 ≤ R.locals) :
    Back l R p e below s args New1.yN len W (fun P a => a = #[.ref x, .ref b] ∧ P.U.heap = h ∧ P.cells + 1 ≤ R.cells ∧ P.slots + cs.length ≤ R.slots)
      (fun P _ v B => ∃ L, QA Z x zn cs h v B.U.heap L ∧ B.locs = P.locs ++ L ∧ B.cells = P.cells + 1 ∧ B.slots = P.slots + cs.length) := by
  obtain ⟨A, K1, K2, K3, K4, K5, K6⟩ := K
  have e : A.slots.size = cs.length := K3.trans hlen
  have hat : ∀ (i : Nat) (hi : i < cs.length), A.slots[i]? = some (.int cs[i]) := fun i hi => by rw [K5 i (by omega)]; simp [List.getD_eq_getElem?_getD, hi]
  have hcv : ∀ (i : Nat) (hi : i < cs.length), cv A i = cs[i] := fun i hi => by unfold cv; rw [hat i hi]
  have hty : Typed .char A := fun i v hv => by
    have hi : i < A.slots.size := (Array.getElem?_eq_some_iff.mp hv).1
    have q := K5 i hi
    rw [hv] at q
    rw [Option.some.inj q]
    exact K6 i hi
  refine Back.mono (back hZ hw wi E V C K1 hty S hz (by omega) (by omega) (fun i hi => by rw [hcv i (by omega)]; exact hall _ (List.getElem_mem _)) hfr hlo) (fun P a hp => ⟨hp.1, hp.2.1, hp.2.2.1, by rw [e]; exact hp.2.2.2⟩) (fun P a v B hp hq => ?_)
  obtain ⟨L, ⟨q1, q2, q3, q4, q5, q6, q7, ⟨V', v1, v2, v3, v4, v5⟩, q9⟩, hl, hc, hs⟩ := hq
  refine ⟨L, ⟨q1, q2, q3, q4, q5, q6, q7, ⟨V'.cls, v3, V', v1, rfl, by rw [v4, e, hlen], K4, fun i hi => ?_, fun i hi => ?_⟩, q9⟩, hl, hc, by rw [hs, e]⟩
  · have hi' : i < cs.length := by omega
    rw [v5 i (by omega), hcv i hi']; simp [List.getD_eq_getElem?_getD, hi']
  · have hi' : i < cs.length := by omega
    simp only [List.getD_eq_getElem?_getD, List.getElem?_map, List.getElem?_eq_getElem hi', Option.map_some, Option.getD_some]
    exact fits_lo8 _
end StrChars.Road
namespace StrChars.Road
open Jvm Sem ClassFile Op Lib Jvm.Stand Jvm.Free Jvm.Free.XT
/-- WHAT COMES BACK, in the writer's own shape -/
def QV (Z : State) (x : Addr) (N : Int32) (bs : List Int32) (h : Heap) (n0 : Nat) (v : Option Value) (h' : Heap) (L : List Loc) : Prop := v = none ∧ RoadKit.Fr n0 L ∧ RoadKit.Keep h h' [x] ∧ RoadKit.Exa Z h' x ST ∧ RoadKit.Fld Z h' x ST "coder" "B" (.int 0) ∧
  ∃ (t : Addr) (kb : ClassId), n0 ≤ t ∧ h.size ≤ t ∧ ¬ t = x ∧ RoadKit.Fld Z h' x ST "value" "[B" (.ref t) ∧ RoadKit.Arv Z h' t kb .byte N (bs.map Value.int) (.int 0)
/-- **new String(chars) AT A CALL, FOR THE WRITER**: a char[] of n known ints, each 0 to 255 -/
theorem backV {p : Program} {l : Launch} {e : Env} {R : Room} {s : State} {args : Array Value} {below : List Frame} {len W : Nat} {Z : State} {a0 : Array Value} {h : Heap} (hZ : Z.Warmed39 s.vm) (hw : ∀ d ∈ words, d.before a0 Z = true) {kI : Nat} (wi : (Jvm.Cond.instantiable ST kI).before a0 Z = true)
    {x b : Addr} {kC : ClassId} {cs bs : List Int32} {d v0 c0 : Value} {z N : Int32} {n n0 : Nat} (hx0 : n0 ≤ x) (hh0 : n0 ≤ h.size) (E : RoadKit.Exa Z h x ST) (V : RoadKit.Fld Z h x ST "value" "[B" v0) (C : RoadKit.Fld Z h x ST "coder" "B" c0) (K : RoadKit.Arv Z h b kC .char N (cs.map Value.int) d) (S : RoadKit.Sta Z h ST "COMPACT_STRINGS" "Z" (.int z)) (hz : ¬ z = 0)
    (hn : cs.length = n) (hN : N = Int32.ofNat n) (l0 : 0 < n) (l2 : n ≤ 4000) (hp : ∀ c ∈ cs, ¬ c < 0 ∧ ¬ (255 : Int32) < c) (hb : bs = cs.map (fun c => c.toInt8.toInt32)) (hfr : 4 ≤ R.frames) (hlo : W + 65 ≤ R.locals) :
    Back l R p e below s args (⟨"java/lang/String", "<init>", "([C)V"⟩ : MethodName) len W (fun P a => a = #[.ref x, .ref b] ∧ P.U.heap = h ∧ P.cells + 1 ≤ R.cells ∧ P.slots + n ≤ R.slots)
      (fun P _ v B => ∃ L, QV Z x N bs h n0 v B.U.heap L ∧ B.locs = P.locs ++ L ∧ B.cells = P.cells + 1 ∧ B.slots = P.slots + n) := by
  subst hn hN hb
  refine Back.mono (backArv hZ hw wi E V C K S hz (n32 (by omega)) l0 (by omega) (fun c hc => (hp c hc).2) hfr hlo) (fun P a hp => hp) (fun P a v B hp hq => ?_)
  obtain ⟨L, ⟨q1, q2, q3, q4, q5, q6, q7, ⟨kb, v1, v2⟩, q9⟩, hl, hc, hs⟩ := hq
  exact ⟨L, ⟨q1, fun y hy => by rw [q2 y hy]; exact hx0, q3, q5, q7, h.size, kb, hh0, Nat.le_refl _, Nat.ne_of_gt E.lt, q6, by rw [List.map_map]; exact v2⟩, hl, hc, hs⟩
end StrChars.Road
namespace StrChars
open Jvm Sem ClassFile Op Lib Jvm.Stand Jvm.Free.XT Jvm.Free.ALB Jvm.Free.JM Jvm.Free
open Jvm.Lib.Cold (StaticIs)
def hi8 (x : Int32) : Int32 := lo8 (x >>> ((8 : Int32) &&& 31))
theorem shr0 (c : Int32) : c >>> ((0 : Int32) &&& 31) = c := by
  have e : ((0 : Int32) &&& 31) = 0 := by decide
  rw [e]
  apply Int32.toBitVec_inj.mp
  rw [Int32.toBitVec_shiftRight]
  have e1 : ((0 : Int32).toBitVec.smod 32) = 0#32 := by decide
  rw [e1, BitVec.sshiftRight_eq']
  exact BitVec.sshiftRight_zero
end StrChars
namespace StrChars
open Jvm Sem ClassFile Op Lib Jvm.Stand Jvm.Free.XT Jvm.Free.ALB Jvm.Free.JM Jvm.Free
open Jvm.Lib.Cold (StaticIs)
theorem shr1 {n : Nat} (h : 2 * n < 2 ^ 31) : Int32.ofNat (2 * n) >>> ((1 : Int32) &&& 31) = Int32.ofNat n := by
  have e : ((1 : Int32) &&& 31) = 1 := by decide
  rw [e]
  apply Int32.toBitVec_inj.mp
  rw [Int32.toBitVec_shiftRight]
  have e1 : ((1 : Int32).toBitVec.smod 32) = 1#32 := by decide
  have hm : (BitVec.ofNat 32 (2 * n)).toNat = 2 * n := by rw [BitVec.toNat_ofNat, Nat.mod_eq_of_lt (by omega)]
  rw [e1, BitVec.sshiftRight_eq']
  apply BitVec.eq_of_toNat_eq
  show ((BitVec.ofNat 32 (2 * n)).sshiftRight 1).toNat = (BitVec.ofNat 32 n).toNat
  rw [BitVec.toNat_sshiftRight_of_msb_false (by rw [BitVec.msb_eq_false_iff_two_mul_lt, hm]; omega), hm, BitVec.toNat_ofNat, Nat.shiftRight_eq_div_pow]
  omega
/-- the array's cell V codes the n chars f 0 .. f (n - 1) by the coder cd, as the JDK does: coder 1 just where some char is above 255 -/
def Cod (cd : Int32) (n : Nat) (f : Nat → Int32) (V : Cell) : Prop := (cd = 0 ∧ V.slots.size = n ∧ ∀ j, j < n → V.slots[j]? = some (.int (lo8 (f j))) ∧ ¬ 255 < f j) ∨ (cd = 1 ∧ V.slots.size = 2 * n ∧ (∀ j, j < n → V.slots[2 * j]? = some (.int (lo8 (f j))) ∧ V.slots[2 * j + 1]? = some (.int (hi8 (f j)))) ∧ ∃ j, j < n ∧ 255 < f j)
theorem Cod.cd {cd : Int32} {n : Nat} {f : Nat → Int32} {V : Cell} (h : Cod cd n f V) : cd = 0 ∨ cd = 1 := h.imp (fun q => q.1) fun q => q.1
theorem Cod.len {cd : Int32} {n : Nat} {f : Nat → Int32} {V : Cell} (h : Cod cd n f V) (hs : V.slots.size < 2 ^ 31) : Int32.ofNat V.slots.size >>> (cd &&& 31) = Int32.ofNat n := by
  rcases h with ⟨rfl, h, -⟩ | ⟨rfl, h, -⟩
  · rw [shr0, h]
  · rw [h, shr1 (by omega)]
/-- **x is a String of the n chars f 0 .. f (n - 1)**, Latin-1 or UTF-16; its array at t has the cell V -/
def Txt (x t : Addr) (V : Cell) (cd : Int32) (n : Nat) (f : Nat → Int32) (U : State) : Prop := Exact "java/lang/String" x U ∧ Has x "java/lang/String" "value" "[B" (.ref t) U ∧ Has x "java/lang/String" "coder" "B" (.int cd) U ∧ XT.Arr .byte t V U ∧ Cod cd n f V ∧ ∀ j, j < n → ¬ f j < 0 ∧ ¬ 65535 < f j
theorem Txt.mv {x t : Addr} {V : Cell} {cd : Int32} {n : Nat} {f : Nat → Int32} {U U' : State} (h : Txt x t V cd n f U) (hal : U.vm.Alike U'.vm) (hh : U'.heap = U.heap) : Txt x t V cd n f U' := ⟨h.1.mv hal hh, h.2.1.mv hal hh, h.2.2.1.mv hal hh, h.2.2.2.1.mv hal hh, h.2.2.2.2⟩
namespace Cdr
def yN : MethodName := ⟨"java/lang/String", "coder", "()B"⟩
abbrev yB : ByteArray := jdk_42_method_152_code
theorem d0 : decode yB 0 = .ok (.getstatic 38, 3) := by decide +kernel
theorem d3 : decode yB 3 = .ok (.ifCond (.eq) 10, 3) := by decide +kernel
theorem d6 : decode yB 6 = .ok (.aload_n 0, 1) := by decide +kernel
theorem d7 : decode yB 7 = .ok (.getfield 15, 3) := by decide +kernel
theorem d10 : decode yB 10 = .ok (.goto 4, 3) := by decide +kernel
theorem d14 : decode yB 14 = .ok (.ireturn, 1) := by decide +kernel
def site : List Cond := [.fieldLink "java/lang/String" 38 "java/lang/String" "COMPACT_STRINGS" "Z", .fieldLink "java/lang/String" 15 "java/lang/String" "coder" "B"]
def tab : Cond := tabOf yN yB 1 (some .byte) site
def P (x : Addr) (cd z : Int32) (args : Array Value) (s : State) : Prop := args = #[.ref x] ∧ Has x "java/lang/String" "coder" "B" (.int cd) s ∧ (cd = 0 ∨ cd = 1) ∧ StaticIs s "java/lang/String" "COMPACT_STRINGS" "Z" (.int z) ∧ ¬ z = 0
def E (cd : Int32) (r : Option Value) (s u : State) : Prop := XT.PureE (some (.int cd)) r s u
theorem law (l : Launch) (x : Addr) (cd z : Int32) : Law l yN 1 0 0 0 yB 1 (some .byte) site (P x cd z) (E cd) [] 0 0 := by
  refine Law.of_walk (plainFor_of_name (by decide +kernel)) (by decide +kernel) (by decide +kernel) (by decide) (fun _ _ h => by rw [h.1]; rfl) (fun _ U U' hal hh h => ⟨h.1, h.2.1.mv hal hh, h.2.2.1, h.2.2.2.1.there hal hh, h.2.2.2.2⟩) (fun r U U' V V' h1 hal h2 h => XT.PureE.mv r U U' V V' h1 hal h2 h) ?_
  intro p e s m args below meth c s₁ X0 hexec hbytes hml hret hlk hnm hown hh0 W hP
  obtain ⟨rfl, hx, hc, s1, hz⟩ := hP
  have c1 : Steps p.tables e below (s₁.setTop (entryFrame m #[.ref x] 1)) (s₁.setTop (mkF m 0 #[.val (.ref x)] [])) := entry rfl
  obtain ⟨T2, X2, q2, st2⟩ := X0.sget hexec hown (wk W (.fieldLink "java/lang/String" 38 "java/lang/String" "COMPACT_STRINGS" "Z")) s1 (fun _ _ h => by rw [hh0]; exact h) (g := (mkF m 0 #[.val (.ref x)] [])) rfl (hb hbytes d0)
  have hh2 := q2.trans hh0
  have c3 : Steps p.tables e below (s₁.setTop (entryFrame m #[.ref x] 1)) (T2.setTop (mkF m 7 #[.val (.ref x)] [.ref x])) := (c1.trans (st2 _ (Steps.refl _))).trans (by
    refine XS.ifNo X2.here hexec rfl (hb hbytes d3) rfl (i0_eq_f hz) ?_
    refine XS.aloadN X2.here hexec rfl (hb hbytes d6) rfl rfl ?_
    exact Steps.refl _)
  obtain ⟨T4, X4, q4, st4⟩ := X2.hget hexec hown (wk W (.fieldLink "java/lang/String" 15 "java/lang/String" "coder" "B")) (hx.mv X2.warmed.alike hh2) (g := (mkF m 7 #[.val (.ref x)] [.ref x])) rfl (rest := []) rfl (hb hbytes d7)
  have c5 : Steps p.tables e below (s₁.setTop (entryFrame m #[.ref x] 1)) (T4.setTop (mkF m 14 #[.val (.ref x)] [.int cd])) := (c3.trans (st4 _ (Steps.refl _))).trans (by
    refine XS.goto X4.here hexec rfl (pc0 := 10) rfl (hb hbytes d10) (by decide) rfl ?_
    exact Steps.refl _)
  exact ⟨T4, some (.int cd), _, _, _, X4, rfl, rfl, rfl, (fun h => by cases h), ⟨rfl, q4.trans hh2⟩, fun fs hl => c5.trans (X4.ireturnOut hexec hret (by rcases hc with rfl | rfl <;> rfl) (Or.inr (Or.inr (Or.inl rfl))) (hb hbytes d14) hl)⟩
end Cdr
namespace Len
def yN : MethodName := ⟨"java/lang/String", "length", "()I"⟩
abbrev yB : ByteArray := jdk_42_method_54_code
theorem d0 : decode yB 0 = .ok (.aload_n 0, 1) := by decide +kernel
theorem d1 : decode yB 1 = .ok (.getfield 9, 3) := by decide +kernel
theorem d4 : decode yB 4 = .ok (.arraylength, 1) := by decide +kernel
theorem d5 : decode yB 5 = .ok (.aload_n 0, 1) := by decide +kernel
theorem d6 : decode yB 6 = .ok (.invokevirtual 335, 3) := by decide +kernel
theorem d9 : decode yB 9 = .ok (.ishr, 1) := by decide +kernel
theorem d10 : decode yB 10 = .ok (.ireturn, 1) := by decide +kernel
def site : List Cond := [.fieldLink "java/lang/String" 9 "java/lang/String" "value" "[B", Cdr.tab] ++ virtW "java/lang/String" 335 "java/lang/String" Cdr.yN Cdr.yN
def tab : Cond := tabOf yN yB 1 (some .int) site
def P (x t : Addr) (V : Cell) (cd : Int32) (n : Nat) (f : Nat → Int32) (z : Int32) (args : Array Value) (s : State) : Prop := args = #[.ref x] ∧ Txt x t V cd n f s ∧ StaticIs s "java/lang/String" "COMPACT_STRINGS" "Z" (.int z) ∧ ¬ z = 0
def E (n : Nat) (r : Option Value) (s u : State) : Prop := XT.PureE (some (.int (Int32.ofNat n))) r s u
/-- length() of a String of n chars, in either coding -/
theorem law (l : Launch) (x t : Addr) (V : Cell) (cd : Int32) (n : Nat) (f : Nat → Int32) (z : Int32) : Law l yN 1 0 1 13 yB 1 (some .int) site (P x t V cd n f z) (E n) [] 0 0 := by
  refine Law.of_walk (plainFor_of_name (by decide +kernel)) (by decide +kernel) (by decide +kernel) (by decide) (fun _ _ h => by rw [h.1]; rfl) (fun _ U U' hal hh h => ⟨h.1, h.2.1.mv hal hh, h.2.2.1.there hal hh, h.2.2.2⟩) (fun r U U' V V' h1 hal h2 h => XT.PureE.mv r U U' V V' h1 hal h2 h) ?_
  intro p e s m args below meth c s₁ X0 hexec hbytes hml hret hlk hnm hown hh0 W hP
  obtain ⟨rfl, hx, s1, hz⟩ := hP
  have v31 := hx.2.2.2.1.2.2.2
  have c1 : Steps p.tables e below (s₁.setTop (entryFrame m #[.ref x] 1)) (s₁.setTop (mkF m 1 #[.val (.ref x)] [.ref x])) := Steps.trans (entry rfl) (by
    show Steps p.tables e below (s₁.setTop (mkF m 0 #[.val (.ref x)] [])) _
    refine XS.aloadN X0.here hexec rfl (hb hbytes d0) rfl rfl ?_
    exact Steps.refl _)
  obtain ⟨T2, X2, q2, st2⟩ := X0.hget hexec hown (wk W (.fieldLink "java/lang/String" 9 "java/lang/String" "value" "[B")) (hx.mv X0.warmed.alike hh0).2.1 (g := (mkF m 1 #[.val (.ref x)] [.ref x])) rfl (rest := []) rfl (hb hbytes d1)
  have hh2 := q2.trans hh0
  have hx2 := hx.mv X2.warmed.alike hh2
  have c3 : Steps p.tables e below (s₁.setTop (entryFrame m #[.ref x] 1)) (T2.setTop (mkF m 6 #[.val (.ref x)] [.ref x, .int (Int32.ofNat V.slots.size)])) := (c1.trans (st2 _ (Steps.refl _))).trans (by
    refine X2.alen hexec hx2.2.2.2.1 rfl rfl (hb hbytes d4) ?_
    refine XS.aloadN X2.here hexec rfl (hb hbytes d5) rfl rfl ?_
    exact Steps.refl _)
  obtain ⟨v4, T4, X4, E4, g4⟩ := X2.callV hexec (Cdr.law l x cd z) hown (wks W (virtW "java/lang/String" 335 "java/lang/String" Cdr.yN Cdr.yN)) rfl (by decide) (wk W Cdr.tab) (W := 1) (Nat.le_of_ble_eq_true rfl) (Nat.le_of_ble_eq_true rfl) (Nat.le_refl _) (Nat.le_refl _) (hx2.1.fc X2.warmed.alike) hx2.1.is (g := (mkF m 6 #[.val (.ref x)] [.ref x, .int (Int32.ofNat V.slots.size)])) rfl (by rw [hml]; rfl) c3 (argsL := []) (rest := [.int (Int32.ofNat V.slots.size)]) rfl rfl (by show 2 * 0 + (1 + 0) ≤ _; decide) (hb hbytes d6) (⟨rfl, hx2.2.2.1, hx.2.2.2.2.1.cd, s1.there X2.warmed.alike hh2, hz⟩)
  obtain ⟨rfl, q4⟩ := E4
  have c5 : Steps p.tables e below (s₁.setTop (entryFrame m #[.ref x] 1)) (T4.setTop (mkF m 10 #[.val (.ref x)] [.int (Int32.ofNat V.slots.size >>> (cd &&& 31))])) := Steps.trans g4 (by
    refine ishr X4.here hexec rfl (hb hbytes d9) rfl ?_
    exact Steps.refl _)
  rw [hx.2.2.2.2.1.len v31] at c5
  exact ⟨T4, some (.int (Int32.ofNat n)), _, _, _, X4, rfl, rfl, rfl, (fun h => by cases h), ⟨rfl, q4.trans hh2⟩, fun fs hl => c5.trans (X4.ireturnOut hexec hret rfl (Or.inl rfl) (hb hbytes d10) hl)⟩
theorem pays {l : Launch} {R : Room} {p : Program} {e : Env} {below : List Frame} {s : State} {sargs : Array Value} {len W : Nat} (x t : Addr) (V : Cell) (cd : Int32) (n : Nat) (f : Nat → Int32) (z : Int32) (htab : tab.before sargs s = true) (hfr : 2 ≤ R.frames) (hlo : W + 25 ≤ R.locals) :
    Back l R p e below s sargs yN len W (fun A₁ a₁ => A₁.cells + 0 ≤ R.cells ∧ A₁.slots + 0 ≤ R.slots ∧ P x t V cd n f z a₁ A₁.U) (fun A₁ _ v₁ B₁ => E n v₁ A₁.U B₁.U ∧ B₁.locs = A₁.locs ++ [] ∧ B₁.cells = A₁.cells + 0 ∧ B₁.slots = A₁.slots + 0) :=
  (law l x t V cd n f z).pays htab hfr (by omega)
end Len
end StrChars
namespace StrChars.Road
open Jvm Sem ClassFile Op Lib Jvm.Stand Jvm.Free Jvm.Free.XT
open Jvm.Lib.Cold (StaticIs)
theorem consq {a : Array Value} {s : State} {c : Jvm.Cond} {L : List Jvm.Cond} (h0 : c.before a s = true) (h : ∀ w ∈ L, w.before a s = true) : ∀ w ∈ c :: L, w.before a s = true := fun w hw => (List.mem_cons.mp hw).elim (fun e => e ▸ h0) (h w)
/-- the words of String.length(), either coding -/
abbrev wordsLen : List Jvm.Cond := [.code Len.yN Len.yB 1 (some .int), .initialized ST, .fieldLink ST 9 ST "value" "[B", .fieldLink ST 38 ST "COMPACT_STRINGS" "Z", .fieldLink ST 15 ST "coder" "B", .code Cdr.yN Cdr.yB 1 (some .byte), .methodLink ST 335 Cdr.yN, .declares Cdr.yN, .selects ST Cdr.yN Cdr.yN, .instanceMethod Cdr.yN]
theorem tabLen_of {a : Array Value} {s : State} (h : ∀ w ∈ wordsLen, w.before a s = true) : Len.tab.before a s = true := by
  have hc : Cdr.tab.before a s = true := unparts (wk h (.code Cdr.yN Cdr.yB 1 (some .byte))) (wks h (.initialized Cdr.yN.cls :: Cdr.site))
  have q := consq hc h
  exact unparts (wk q (.code Len.yN Len.yB 1 (some .int))) (wks q (.initialized Len.yN.cls :: Len.site))
theorem movedLen {Z s : State} {a0 args : Array Value} (hZ : Z.Warmed39 s.vm) (hw : ∀ d ∈ wordsLen, d.before a0 Z = true) : ∀ d ∈ wordsLen, d.before args s = true := fun d hd => by
  have q := hw d hd
  have t : ∀ d ∈ wordsLen, d = .arrayClass .byte ∨ (d.onTables && d.keepsFace) = true := by decide +kernel
  rcases t d hd with rfl | t
  · exact RoadKit.mvA hZ q
  · exact RoadKit.mv hZ q t
/-- the bytes of the chars cs, low before high -/
def wideBytes : List Int32 → List Value
  | [] => []
  | c :: cs => .int (lo8 c) :: .int (hi8 c) :: wideBytes cs
theorem wide_lo (d : Value) : ∀ (cs : List Int32) (j : Nat), j < cs.length → (wideBytes cs).getD (2 * j) d = .int (lo8 (cs.getD j 0))
  | [], j, h => absurd h (Nat.not_lt_zero j)
  | c :: cs, 0, _ => rfl
  | c :: cs, j + 1, h => by
    have q := wide_lo d cs j (by simpa using h)
    rw [show 2 * (j + 1) = 2 * j + 1 + 1 from by omega]
    simpa [wideBytes] using q
theorem wide_hi (d : Value) : ∀ (cs : List Int32) (j : Nat), j < cs.length → (wideBytes cs).getD (2 * j + 1) d = .int (hi8 (cs.getD j 0))
  | [], j, h => absurd h (Nat.not_lt_zero j)
  | c :: cs, 0, _ => rfl
  | c :: cs, j + 1, h => by
    have q := wide_hi d cs j (by simpa using h)
    rw [show 2 * (j + 1) + 1 = 2 * j + 1 + 1 + 1 from by omega]
    simpa [wideBytes] using q
theorem low_at (d : Value) (cs : List Int32) (j : Nat) (h : j < cs.length) : (cs.map fun c => Value.int (lo8 c)).getD j d = .int (lo8 (cs.getD j 0)) := by
  simp [List.getD_eq_getElem?_getD, h]
/-- an array of N2 bytes vs codes the chars cs by the coder cd -/
def CodA (cs : List Int32) (cd N2 : Int32) (vs : List Value) : Prop := (cd = 0 ∧ N2 = Int32.ofNat cs.length ∧ vs = (cs.map fun c => Value.int (lo8 c)) ∧ ∀ c ∈ cs, ¬ 255 < c) ∨ (cd = 1 ∧ N2 = Int32.ofNat (2 * cs.length) ∧ vs = wideBytes cs ∧ ∃ c ∈ cs, 255 < c)
theorem CodA.cod {cs : List Int32} {cd N2 : Int32} {vs : List Value} {V : Cell} (h : CodA cs cd N2 vs) (hn : 2 * cs.length < 2 ^ 31) (hs : V.slots.size = N2.toNatClampNeg) (hv : RoadKit.Has V vs (.int 0)) : Cod cd cs.length (fun j => cs.getD j 0) V := by
  rcases h with ⟨rfl, rfl, rfl, h⟩ | ⟨rfl, rfl, rfl, c, hc, hw⟩
  · rw [n32 (by omega)] at hs
    exact Or.inl ⟨rfl, hs, fun j hj => ⟨by rw [hv j (by omega), low_at _ _ _ hj], by
      have e : cs.getD j 0 = cs[j] := by simp [List.getD_eq_getElem?_getD, hj]
      show ¬ 255 < cs.getD j 0
      rw [e]; exact h _ (List.getElem_mem _)⟩⟩
  · rw [n32 (by omega)] at hs
    obtain ⟨j, hj, rfl⟩ := List.getElem_of_mem hc
    exact Or.inr ⟨rfl, hs, fun j hj => ⟨by rw [hv _ (by omega), wide_lo _ _ _ hj], by rw [hv _ (by omega), wide_hi _ _ _ hj]⟩, j, hj, by
      have e : cs.getD j 0 = cs[j] := by simp [List.getD_eq_getElem?_getD, hj]
      show 255 < cs.getD j 0
      rw [e]; exact hw⟩
/-- an object of exactly java/lang/String, its two fields found: as the laws ask it -/
theorem strObj {Z U : State} {a0 : Array Value} {kI : Nat} (wi : (Jvm.Cond.instantiable ST kI).before a0 Z = true) (al : Z.vm.Alike U.vm) {x : Addr} {v0 c0 : Value} (E : RoadKit.Exa Z U.heap x ST) (V : RoadKit.Fld Z U.heap x ST "value" "[B" v0) (C : RoadKit.Fld Z U.heap x ST "coder" "B" c0) :
    ∃ (D : Cell) (fV fC : Field), Blank ST x D U ∧ Found ST "value" "[B" fV U ∧ Found ST "coder" "B" fC U ∧ D.slots[fV.slot]? = some v0 ∧ D.slots[fC.slot]? = some c0 ∧ RoadKit.slotOf Z ST "value" "[B" = fV.slot ∧ RoadKit.slotOf Z ST "coder" "B" = fC.slot := by
  obtain ⟨D, cfV, kV, iV, fV, hD, gV, stV, knV, obV, asV, slV⟩ := V
  obtain ⟨D', cfC, kC, iC, fC, hD', gC, stC, -, -, asC, slC⟩ := C
  cases hD.symm.trans hD'
  obtain ⟨D2, kD, e1, e2, e3, e4, e5⟩ := E
  cases hD.symm.trans e1
  obtain ⟨c2, k2, i1, i2, i3, -⟩ := Cond.instantiable_spec wi
  cases e2.symm.trans i1
  cases e3.symm.trans i2
  obtain ⟨kU, u1, u2⟩ := al.2.2 _ _ e3
  exact ⟨D, fV, fC, ⟨hD, ⟨knV, fun q hq => by rw [hq] at obV; cases obV⟩, by rw [al.findClass]; exact e2, kU, u1, by rw [u2]; exact i3, by rw [u2]; exact e5 i3⟩, ⟨SBG.found_only al ⟨cfV, kV, iV, gV⟩, stV⟩, ⟨SBG.found_only al ⟨cfC, kC, iC, gC⟩, stC⟩, slV, slC, by simp [RoadKit.slotOf, gV], by simp [RoadKit.slotOf, gC]⟩
theorem sta_is {Z U : State} (al : Z.vm.Alike U.vm) {C n d : String} {v : Value} (S : RoadKit.Sta Z U.heap C n d v) : StaticIs U C n d v := by
  obtain ⟨cfS, iS, kS, fS, st, cS, t1, t2, t3, t4, t5, t6, t7⟩ := S
  exact StaticIs.there (s := { Z with heap := U.heap }) ⟨cfS, iS, kS, fS, st, cS, t1, t2, t3, t4, t5, (fun q => by rw [q] at t6; cases t6), t7⟩ al rfl
/-- **length() OF SUCH A STRING** -/
theorem lenW {p : Program} {l : Launch} {e : Env} {R : Room} {s : State} {args : Array Value} {below : List Frame} {len W : Nat} {Z : State} {a0 : Array Value} {h : Heap} (hZ : Z.Warmed39 s.vm) (hw : ∀ d ∈ wordsLen, d.before a0 Z = true) {kI : Nat} (wi : (Jvm.Cond.instantiable ST kI).before a0 Z = true)
    {x t : Addr} {kb : ClassId} {cs : List Int32} {cd N2 z : Int32} {vs : List Value} (E : RoadKit.Exa Z h x ST) (V : RoadKit.Fld Z h x ST "value" "[B" (.ref t)) (C : RoadKit.Fld Z h x ST "coder" "B" (.int cd)) (K : RoadKit.Arv Z h t kb .byte N2 vs (.int 0)) (hc : CodA cs cd N2 vs) (hb : ∀ c ∈ cs, ¬ c < 0 ∧ ¬ (65535 : Int32) < c)
    (S : RoadKit.Sta Z h ST "COMPACT_STRINGS" "Z" (.int z)) (hz : ¬ z = 0) (l2 : cs.length ≤ 4000) (hfr : 2 ≤ R.frames) (hlo : W + 25 ≤ R.locals) :
    Back l R p e below s args (⟨"java/lang/String", "length", "()I"⟩ : MethodName) len W (fun P a => a = #[.ref x] ∧ P.U.heap = h ∧ P.cells + 0 ≤ R.cells ∧ P.slots + 0 ≤ R.slots)
      (fun P _ v B => ∃ L, (v = some (.int (Int32.ofNat cs.length)) ∧ L = [] ∧ B.U.heap = h) ∧ B.locs = P.locs ++ L ∧ B.cells = P.cells + 0 ∧ B.slots = P.slots + 0) := by
  obtain ⟨A, K1, K2, K3, K4, K5, K6⟩ := K
  have hcod := hc.cod (by omega) K3 K5
  intro m meth c P g ig mk a X hg hsize hdg hW hn hp'
  obtain ⟨rfl, rfl, r1, r2⟩ := hp'
  have al : Z.vm.Alike P.U.vm := hZ.alike.trans X.warmed.alike
  obtain ⟨D, fV, fC, hB, F1, F2, g1, g2, -, -⟩ := strObj wi al E V C
  have hx : Txt x t A cd cs.length (fun j => cs.getD j 0) P.U := ⟨⟨_, hB.2.2.1, D, hB.1, rfl, by cases q : D.vm <;> first | rfl | exact absurd q (hB.2.1.2 _)⟩, Has.of hB F1 g1, Has.of hB F2 g2, ⟨K1.1, State.isArrayOf_alike al K1.2.1, K1.2.2, by rcases hcod with ⟨-, q, -⟩ | ⟨-, q, -⟩ <;> omega⟩, hcod, fun j hj => by
    have e : cs.getD j 0 = cs[j] := by simp [List.getD_eq_getElem?_getD, hj]
    show ¬ cs.getD j 0 < 0 ∧ ¬ 65535 < cs.getD j 0
    rw [e]; exact hb _ (List.getElem_mem _)⟩
  obtain ⟨v, B, X', ⟨⟨hv, hh⟩, hl, hk, hs⟩, st⟩ := Len.pays x t A cd cs.length (fun j => cs.getD j 0) z (tabLen_of (movedLen hZ hw)) hfr hlo m meth c P g ig mk _ X hg hsize hdg hW hn ⟨r1, r2, rfl, hx, sta_is al S, hz⟩
  exact ⟨v, B, X', ⟨[], ⟨hv, rfl, hh⟩, hl, hk, hs⟩, st⟩
end StrChars.Road
namespace StrChars
open Jvm Sem ClassFile Op Lib Jvm.Stand Jvm.Free.XT Jvm.Free.ALB Jvm.Free.JM Jvm.Free
open Jvm.Lib.Cold (StaticIs)
namespace Emp
def yN : MethodName := ⟨"java/lang/String", "isEmpty", "()Z"⟩
abbrev yB : ByteArray := jdk_42_method_55_code
theorem d0 : decode yB 0 = .ok (.aload_n 0, 1) := by decide +kernel
theorem d1 : decode yB 1 = .ok (.getfield 9, 3) := by decide +kernel
theorem d4 : decode yB 4 = .ok (.arraylength, 1) := by decide +kernel
theorem d5 : decode yB 5 = .ok (.ifCond (.ne) 7, 3) := by decide +kernel
theorem d8 : decode yB 8 = .ok (.iconst 1, 1) := by decide +kernel
theorem d9 : decode yB 9 = .ok (.goto 4, 3) := by decide +kernel
theorem d12 : decode yB 12 = .ok (.iconst 0, 1) := by decide +kernel
theorem d13 : decode yB 13 = .ok (.ireturn, 1) := by decide +kernel
def site : List Cond := [.fieldLink "java/lang/String" 9 "java/lang/String" "value" "[B"]
def tab : Cond := tabOf yN yB 1 (some .boolean) site
def P (x t : Addr) (V : Cell) (cd : Int32) (n : Nat) (f : Nat → Int32) (args : Array Value) (s : State) : Prop := args = #[.ref x] ∧ Txt x t V cd n f s
def E (n : Nat) (r : Option Value) (s u : State) : Prop := XT.PureE (some (.int (if n = 0 then 1 else 0))) r s u
/-- isEmpty() of a String of n chars -/
theorem law (l : Launch) (x t : Addr) (V : Cell) (cd : Int32) (n : Nat) (f : Nat → Int32) : Law l yN 1 0 0 0 yB 1 (some .boolean) site (P x t V cd n f) (E n) [] 0 0 := by
  refine Law.of_walk (plainFor_of_name (by decide +kernel)) (by decide +kernel) (by decide +kernel) (by decide) (fun _ _ h => by rw [h.1]; rfl) (fun _ U U' hal hh h => ⟨h.1, h.2.mv hal hh⟩) (fun r U U' V V' h1 hal h2 h => XT.PureE.mv r U U' V V' h1 hal h2 h) ?_
  intro p e s m args below meth c s₁ X0 hexec hbytes hml hret hlk hnm hown hh0 W hP
  obtain ⟨rfl, hx⟩ := hP
  have v31 := hx.2.2.2.1.2.2.2
  have c1 : Steps p.tables e below (s₁.setTop (entryFrame m #[.ref x] 1)) (s₁.setTop (mkF m 1 #[.val (.ref x)] [.ref x])) := Steps.trans (entry rfl) (by
    show Steps p.tables e below (s₁.setTop (mkF m 0 #[.val (.ref x)] [])) _
    refine XS.aloadN X0.here hexec rfl (hb hbytes d0) rfl rfl ?_
    exact Steps.refl _)
  obtain ⟨T2, X2, q2, st2⟩ := X0.hget hexec hown (wk W (.fieldLink "java/lang/String" 9 "java/lang/String" "value" "[B")) (hx.mv X0.warmed.alike hh0).2.1 (g := (mkF m 1 #[.val (.ref x)] [.ref x])) rfl (rest := []) rfl (hb hbytes d1)
  have hh2 := q2.trans hh0
  have hx2 := hx.mv X2.warmed.alike hh2
  have c3 : Steps p.tables e below (s₁.setTop (entryFrame m #[.ref x] 1)) (T2.setTop (mkF m 5 #[.val (.ref x)] [.int (Int32.ofNat V.slots.size)])) := (c1.trans (st2 _ (Steps.refl _))).trans (by
    refine X2.alen hexec hx2.2.2.2.1 rfl rfl (hb hbytes d4) ?_
    exact Steps.refl _)
  have hz : V.slots.size = 0 ↔ n = 0 := by
    rcases hx.2.2.2.2.1 with ⟨-, q, -⟩ | ⟨-, q, -⟩ <;> omega
  by_cases h0 : n = 0
  · have c4 : Steps p.tables e below (s₁.setTop (entryFrame m #[.ref x] 1)) (T2.setTop (mkF m 13 #[.val (.ref x)] [.int 1])) := c3.trans (by
      refine XS.ifNo X2.here hexec rfl (hb hbytes d5) rfl (i0_ne_f (by rw [hz.mpr h0]; rfl)) ?_
      refine iconstV X2.here hexec rfl 1 (hb hbytes d8) (by decide) ?_
      refine XS.goto X2.here hexec rfl (pc0 := 9) rfl (hb hbytes d9) (by decide) rfl ?_
      exact Steps.refl _)
    exact ⟨T2, some (.int 1), _, _, _, X2, rfl, rfl, rfl, (fun h => by cases h), ⟨by rw [if_pos h0], hh2⟩, fun fs hl => c4.trans (X2.ireturnOut hexec hret rfl (Or.inr (Or.inl rfl)) (hb hbytes d13) hl)⟩
  · have c4 : Steps p.tables e below (s₁.setTop (entryFrame m #[.ref x] 1)) (T2.setTop (mkF m 13 #[.val (.ref x)] [.int 0])) := c3.trans (by
      refine XS.ifYes X2.here hexec rfl (pc0 := 5) rfl (hb hbytes d5) rfl (i0_ne_t (nz32 v31 (by omega))) (by decide) rfl ?_
      refine iconstV X2.here hexec rfl 0 (hb hbytes d12) (by decide) ?_
      exact Steps.refl _)
    exact ⟨T2, some (.int 0), _, _, _, X2, rfl, rfl, rfl, (fun h => by cases h), ⟨by rw [if_neg h0], hh2⟩, fun fs hl => c4.trans (X2.ireturnOut hexec hret rfl (Or.inr (Or.inl rfl)) (hb hbytes d13) hl)⟩
theorem pays {l : Launch} {R : Room} {p : Program} {e : Env} {below : List Frame} {s : State} {sargs : Array Value} {len W : Nat} (x t : Addr) (V : Cell) (cd : Int32) (n : Nat) (f : Nat → Int32) (htab : tab.before sargs s = true) (hfr : 1 ≤ R.frames) (hlo : W + 12 ≤ R.locals) :
    Back l R p e below s sargs yN len W (fun A₁ a₁ => A₁.cells + 0 ≤ R.cells ∧ A₁.slots + 0 ≤ R.slots ∧ P x t V cd n f a₁ A₁.U) (fun A₁ _ v₁ B₁ => E n v₁ A₁.U B₁.U ∧ B₁.locs = A₁.locs ++ [] ∧ B₁.cells = A₁.cells + 0 ∧ B₁.slots = A₁.slots + 0) :=
  (law l x t V cd n f).pays htab hfr (by omega)
end Emp
end StrChars
namespace StrChars.Road
open Jvm Sem ClassFile Op Lib Jvm.Stand Jvm.Free Jvm.Free.XT
open Jvm.Lib.Cold (StaticIs)
/-- the words of String.isEmpty() -/
abbrev wordsEmp : List Jvm.Cond := [.code Emp.yN Emp.yB 1 (some .boolean), .initialized ST, .fieldLink ST 9 ST "value" "[B"]
theorem tabEmp_of {a : Array Value} {s : State} (h : ∀ w ∈ wordsEmp, w.before a s = true) : Emp.tab.before a s = true := unparts (wk h (.code Emp.yN Emp.yB 1 (some .boolean))) (wks h (.initialized Emp.yN.cls :: Emp.site))
theorem movedEmp {Z s : State} {a0 args : Array Value} (hZ : Z.Warmed39 s.vm) (hw : ∀ d ∈ wordsEmp, d.before a0 Z = true) : ∀ d ∈ wordsEmp, d.before args s = true := fun d hd => by
  have t : ∀ d ∈ wordsEmp, (d.onTables && d.keepsFace) = true := by decide +kernel
  exact RoadKit.mv hZ (hw d hd) (t d hd)
/-- the road's facts of a String, as the laws ask it -/
theorem txt_of {Z U : State} {a0 : Array Value} {kI : Nat} (wi : (Jvm.Cond.instantiable ST kI).before a0 Z = true) (al : Z.vm.Alike U.vm) {x t : Addr} {kb : ClassId} {cs : List Int32} {cd N2 : Int32} {vs : List Value} (E : RoadKit.Exa Z U.heap x ST) (V : RoadKit.Fld Z U.heap x ST "value" "[B" (.ref t)) (C : RoadKit.Fld Z U.heap x ST "coder" "B" (.int cd)) (K : RoadKit.Arv Z U.heap t kb .byte N2 vs (.int 0)) (hc : CodA cs cd N2 vs) (hb : ∀ c ∈ cs, ¬ c < 0 ∧ ¬ (65535 : Int32) < c) (l2 : cs.length ≤ 4000) :
    ∃ A, Txt x t A cd cs.length (fun j => cs.getD j 0) U := by
  obtain ⟨A, K1, K2, K3, K4, K5, K6⟩ := K
  have hcod := hc.cod (by omega) K3 K5
  obtain ⟨D, fV, fC, hB, F1, F2, g1, g2, -, -⟩ := strObj wi al E V C
  exact ⟨A, ⟨_, hB.2.2.1, D, hB.1, rfl, by cases q : D.vm <;> first | rfl | exact absurd q (hB.2.1.2 _)⟩, Has.of hB F1 g1, Has.of hB F2 g2, ⟨K1.1, State.isArrayOf_alike al K1.2.1, K1.2.2, by rcases hcod with ⟨-, q, -⟩ | ⟨-, q, -⟩ <;> omega⟩, hcod, fun j hj => by
    have e : cs.getD j 0 = cs[j] := by simp [List.getD_eq_getElem?_getD, hj]
    show ¬ cs.getD j 0 < 0 ∧ ¬ 65535 < cs.getD j 0
    rw [e]; exact hb _ (List.getElem_mem _)⟩
/-- **isEmpty() OF SUCH A STRING** -/
theorem empW {p : Program} {l : Launch} {e : Env} {R : Room} {s : State} {args : Array Value} {below : List Frame} {len W : Nat} {Z : State} {a0 : Array Value} {h : Heap} (hZ : Z.Warmed39 s.vm) (hw : ∀ d ∈ wordsEmp, d.before a0 Z = true) {kI : Nat} (wi : (Jvm.Cond.instantiable ST kI).before a0 Z = true)
    {x t : Addr} {kb : ClassId} {cs : List Int32} {cd N2 : Int32} {vs : List Value} (E : RoadKit.Exa Z h x ST) (V : RoadKit.Fld Z h x ST "value" "[B" (.ref t)) (C : RoadKit.Fld Z h x ST "coder" "B" (.int cd)) (K : RoadKit.Arv Z h t kb .byte N2 vs (.int 0)) (hc : CodA cs cd N2 vs) (hb : ∀ c ∈ cs, ¬ c < 0 ∧ ¬ (65535 : Int32) < c) (l2 : cs.length ≤ 4000) (hfr : 1 ≤ R.frames) (hlo : W + 12 ≤ R.locals) :
    Back l R p e below s args (⟨"java/lang/String", "isEmpty", "()Z"⟩ : MethodName) len W (fun P a => a = #[.ref x] ∧ P.U.heap = h ∧ P.cells + 0 ≤ R.cells ∧ P.slots + 0 ≤ R.slots)
      (fun P _ v B => ∃ L, (v = some (.int (if cs.length = 0 then 1 else 0)) ∧ L = [] ∧ B.U.heap = h) ∧ B.locs = P.locs ++ L ∧ B.cells = P.cells + 0 ∧ B.slots = P.slots + 0) := by
  intro m meth c P g ig mk a X hg hsize hdg hW hn hp'
  obtain ⟨rfl, rfl, r1, r2⟩ := hp'
  have al : Z.vm.Alike P.U.vm := hZ.alike.trans X.warmed.alike
  obtain ⟨A, hx⟩ := txt_of wi al E V C K hc hb l2
  obtain ⟨v, B, X', ⟨⟨hv, hh⟩, hl, hk, hs⟩, st⟩ := Emp.pays x t A cd cs.length (fun j => cs.getD j 0) (tabEmp_of (movedEmp hZ hw)) hfr hlo m meth c P g ig mk _ X hg hsize hdg hW hn ⟨r1, r2, rfl, hx⟩
  exact ⟨v, B, X', ⟨[], ⟨hv, rfl, hh⟩, hl, hk, hs⟩, st⟩
end StrChars.Road
namespace StrChars.Road
open Jvm Sem ClassFile Op Lib Jvm.Stand Jvm.Free Jvm.Free.XT
open Jvm.Lib.Cold (StaticIs)
/-- what backV says of its String, as the contracts of this text ask it: cs's low bytes, coder 0 -/
theorem codOf {cs : List Int32} {n : Nat} (hn : cs.length = n) (hb : ∀ c ∈ cs, ¬ 255 < c) : CodA cs 0 (Int32.ofNat n) ((cs.map lo8).map Value.int) := Or.inl ⟨rfl, by rw [hn], by simp [List.map_map, Function.comp_def], hb⟩
end StrChars.Road
end Jvm.Pilot.@@N@@
namespace Jvm.Pilot.@@N@@
open Jvm Jvm.ClassFile Sem Op Lib Jvm.Free Jvm.Stand Jvm.LawKit Jvm.RoadKit Bundle Jvm.Own Jvm.Pilot.@@N@@.Jvm.D
theorem wd_0 {a0 : Array Value} {Z : State} (hw : ∀ d ∈ tables_1, d.before a0 Z = true) : (Jvm.Cond.constant "com/example/enact/enact/CommandNamesRequireValidPinLaw" (12 : Nat) (2147483647 : Int32)).before a0 Z = true := hw _ (List.mem_of_getElem? (i := 0) rfl)
theorem wd_1 {a0 : Array Value} {Z : State} (hw : ∀ d ∈ tables_1, d.before a0 Z = true) : (Jvm.Cond.methodLink "com/example/enact/enact/CommandNamesRequireValidPinLaw" (13 : Nat) ({ cls := "com/example/enact/enact/CommandNamesRequireValidPinLaw", name := "make", desc := "(ICCCCCC)Ljava/lang/String;" } : Jvm.MethodName)).before a0 Z = true := hw _ (List.mem_of_getElem? (i := 1) rfl)
theorem wd_2 {a0 : Array Value} {Z : State} (hw : ∀ d ∈ tables_1, d.before a0 Z = true) : (Jvm.Cond.static ({ cls := "com/example/enact/enact/CommandNamesRequireValidPinLaw", name := "make", desc := "(ICCCCCC)Ljava/lang/String;" } : Jvm.MethodName)).before a0 Z = true := hw _ (List.mem_of_getElem? (i := 2) rfl)
theorem wd_3 {a0 : Array Value} {Z : State} (hw : ∀ d ∈ tables_1, d.before a0 Z = true) : (Jvm.Cond.initialized "com/example/enact/enact/CommandNamesRequireValidPinLaw").before a0 Z = true := hw _ (List.mem_of_getElem? (i := 3) rfl)
theorem wd_4 {a0 : Array Value} {Z : State} (hw : ∀ d ∈ tables_1, d.before a0 Z = true) : (Jvm.Cond.code ({ cls := "com/example/enact/enact/CommandNamesRequireValidPinLaw", name := "make", desc := "(ICCCCCC)Ljava/lang/String;" } : Jvm.MethodName) method_2_code (7 : Nat) (Option.some (Jvm.ClassFile.FieldType.object "java/lang/String"))).before a0 Z = true := hw _ (List.mem_of_getElem? (i := 4) rfl)
theorem wd_5 {a0 : Array Value} {Z : State} (hw : ∀ d ∈ tables_1, d.before a0 Z = true) : (Jvm.Cond.classLink "com/example/enact/enact/CommandNamesRequireValidPinLaw" (7 : Nat) "java/lang/String").before a0 Z = true := hw _ (List.mem_of_getElem? (i := 5) rfl)
theorem wd_6 {a0 : Array Value} {Z : State} (hw : ∀ d ∈ tables_1, d.before a0 Z = true) : (Jvm.Cond.instantiable "java/lang/String" (4 : Nat)).before a0 Z = true := hw _ (List.mem_of_getElem? (i := 6) rfl)
theorem wd_7 {a0 : Array Value} {Z : State} (hw : ∀ d ∈ tables_1, d.before a0 Z = true) : (Jvm.Cond.initialized "java/lang/String").before a0 Z = true := hw _ (List.mem_of_getElem? (i := 7) rfl)
theorem wd_8 {a0 : Array Value} {Z : State} (hw : ∀ d ∈ tables_1, d.before a0 Z = true) : (Jvm.Cond.arrayClass Jvm.ClassFile.FieldType.char).before a0 Z = true := hw _ (List.mem_of_getElem? (i := 8) rfl)
theorem wd_9 {a0 : Array Value} {Z : State} (hw : ∀ d ∈ tables_1, d.before a0 Z = true) : (Jvm.Cond.methodLink "com/example/enact/enact/CommandNamesRequireValidPinLaw" (9 : Nat) ({ cls := "java/lang/String", name := "<init>", desc := "([C)V" } : Jvm.MethodName)).before a0 Z = true := hw _ (List.mem_of_getElem? (i := 9) rfl)
theorem wd_10 {a0 : Array Value} {Z : State} (hw : ∀ d ∈ tables_1, d.before a0 Z = true) : (Jvm.Cond.instanceMethod ({ cls := "java/lang/String", name := "<init>", desc := "([C)V" } : Jvm.MethodName)).before a0 Z = true := hw _ (List.mem_of_getElem? (i := 10) rfl)
theorem wd_11 {a0 : Array Value} {Z : State} (hw : ∀ d ∈ tables_1, d.before a0 Z = true) : (Jvm.Cond.code ({ cls := "java/lang/String", name := "<init>", desc := "([C)V" } : Jvm.MethodName) jdk_42_method_3_code (2 : Nat) (Option.none : Option Jvm.ClassFile.FieldType)).before a0 Z = true := hw _ (List.mem_of_getElem? (i := 11) rfl)
theorem wd_19 {a0 : Array Value} {Z : State} (hw : ∀ d ∈ tables_1, d.before a0 Z = true) : (Jvm.Cond.fieldLink "java/lang/String" (38 : Nat) "java/lang/String" "COMPACT_STRINGS" "Z").before a0 Z = true := hw _ (List.mem_of_getElem? (i := 19) rfl)
theorem wd_24 {a0 : Array Value} {Z : State} (hw : ∀ d ∈ tables_1, d.before a0 Z = true) : (Jvm.Cond.arrayClass Jvm.ClassFile.FieldType.byte).before a0 Z = true := hw _ (List.mem_of_getElem? (i := 24) rfl)
theorem wd_31 {a0 : Array Value} {Z : State} (hw : ∀ d ∈ tables_1, d.before a0 Z = true) : (Jvm.Cond.fieldLink "java/lang/String" (15 : Nat) "java/lang/String" "coder" "B").before a0 Z = true := hw _ (List.mem_of_getElem? (i := 31) rfl)
theorem wd_32 {a0 : Array Value} {Z : State} (hw : ∀ d ∈ tables_1, d.before a0 Z = true) : (Jvm.Cond.laysFinal "java/lang/String" "java/lang/String" "coder" "B").before a0 Z = true := hw _ (List.mem_of_getElem? (i := 32) rfl)
theorem wd_33 {a0 : Array Value} {Z : State} (hw : ∀ d ∈ tables_1, d.before a0 Z = true) : (Jvm.Cond.fieldLink "java/lang/String" (9 : Nat) "java/lang/String" "value" "[B").before a0 Z = true := hw _ (List.mem_of_getElem? (i := 33) rfl)
theorem wd_34 {a0 : Array Value} {Z : State} (hw : ∀ d ∈ tables_1, d.before a0 Z = true) : (Jvm.Cond.laysFinal "java/lang/String" "java/lang/String" "value" "[B").before a0 Z = true := hw _ (List.mem_of_getElem? (i := 34) rfl)
theorem wd_35 {a0 : Array Value} {Z : State} (hw : ∀ d ∈ tables_1, d.before a0 Z = true) : (Jvm.Cond.methodLink "com/example/enact/enact/CommandNamesRequireValidPinLaw" (19 : Nat) ({ cls := "com/example/enact/enact/CommandNames", name := "requireValid", desc := "(Ljava/lang/String;)Ljava/lang/String;" } : Jvm.MethodName)).before a0 Z = true := hw _ (List.mem_of_getElem? (i := 35) rfl)
theorem wd_36 {a0 : Array Value} {Z : State} (hw : ∀ d ∈ tables_1, d.before a0 Z = true) : (Jvm.Cond.static ({ cls := "com/example/enact/enact/CommandNames", name := "requireValid", desc := "(Ljava/lang/String;)Ljava/lang/String;" } : Jvm.MethodName)).before a0 Z = true := hw _ (List.mem_of_getElem? (i := 36) rfl)
theorem wd_37 {a0 : Array Value} {Z : State} (hw : ∀ d ∈ tables_1, d.before a0 Z = true) : (Jvm.Cond.initialized "com/example/enact/enact/CommandNames").before a0 Z = true := hw _ (List.mem_of_getElem? (i := 37) rfl)
theorem wd_38 {a0 : Array Value} {Z : State} (hw : ∀ d ∈ tables_1, d.before a0 Z = true) : (Jvm.Cond.code ({ cls := "com/example/enact/enact/CommandNames", name := "requireValid", desc := "(Ljava/lang/String;)Ljava/lang/String;" } : Jvm.MethodName) prog_3_method_2_code (1 : Nat) (Option.some (Jvm.ClassFile.FieldType.object "java/lang/String"))).before a0 Z = true := hw _ (List.mem_of_getElem? (i := 38) rfl)
theorem wd_39 {a0 : Array Value} {Z : State} (hw : ∀ d ∈ tables_1, d.before a0 Z = true) : (Jvm.Cond.stringLink "com/example/enact/enact/CommandNames" (7 : Nat) "command name").before a0 Z = true := hw _ (List.mem_of_getElem? (i := 39) rfl)
theorem wd_42 {a0 : Array Value} {Z : State} (hw : ∀ d ∈ tables_1, d.before a0 Z = true) : (Jvm.Cond.methodLink "com/example/enact/enact/CommandNames" (9 : Nat) ({ cls := "java/util/Objects", name := "requireNonNull", desc := "(Ljava/lang/Object;Ljava/lang/String;)Ljava/lang/Object;" } : Jvm.MethodName)).before a0 Z = true := hw _ (List.mem_of_getElem? (i := 42) rfl)
theorem wd_43 {a0 : Array Value} {Z : State} (hw : ∀ d ∈ tables_1, d.before a0 Z = true) : (Jvm.Cond.static ({ cls := "java/util/Objects", name := "requireNonNull", desc := "(Ljava/lang/Object;Ljava/lang/String;)Ljava/lang/Object;" } : Jvm.MethodName)).before a0 Z = true := hw _ (List.mem_of_getElem? (i := 43) rfl)
theorem wd_44 {a0 : Array Value} {Z : State} (hw : ∀ d ∈ tables_1, d.before a0 Z = true) : (Jvm.Cond.initialized "java/util/Objects").before a0 Z = true := hw _ (List.mem_of_getElem? (i := 44) rfl)
theorem wd_45 {a0 : Array Value} {Z : State} (hw : ∀ d ∈ tables_1, d.before a0 Z = true) : (Jvm.Cond.code ({ cls := "java/util/Objects", name := "requireNonNull", desc := "(Ljava/lang/Object;Ljava/lang/String;)Ljava/lang/Object;" } : Jvm.MethodName) jdk_31_method_11_code (2 : Nat) (Option.some (Jvm.ClassFile.FieldType.object "java/lang/Object"))).before a0 Z = true := hw _ (List.mem_of_getElem? (i := 45) rfl)
theorem wd_46 {a0 : Array Value} {Z : State} (hw : ∀ d ∈ tables_1, d.before a0 Z = true) : (Jvm.Cond.methodLink "com/example/enact/enact/CommandNames" (15 : Nat) ({ cls := "java/lang/String", name := "isEmpty", desc := "()Z" } : Jvm.MethodName)).before a0 Z = true := hw _ (List.mem_of_getElem? (i := 46) rfl)
theorem wd_47 {a0 : Array Value} {Z : State} (hw : ∀ d ∈ tables_1, d.before a0 Z = true) : (Jvm.Cond.declares ({ cls := "java/lang/String", name := "isEmpty", desc := "()Z" } : Jvm.MethodName)).before a0 Z = true := hw _ (List.mem_of_getElem? (i := 47) rfl)
theorem wd_48 {a0 : Array Value} {Z : State} (hw : ∀ d ∈ tables_1, d.before a0 Z = true) : (Jvm.Cond.instanceMethod ({ cls := "java/lang/String", name := "isEmpty", desc := "()Z" } : Jvm.MethodName)).before a0 Z = true := hw _ (List.mem_of_getElem? (i := 48) rfl)
theorem wd_49 {a0 : Array Value} {Z : State} (hw : ∀ d ∈ tables_1, d.before a0 Z = true) : (Jvm.Cond.selects "java/lang/String" ({ cls := "java/lang/String", name := "isEmpty", desc := "()Z" } : Jvm.MethodName) ({ cls := "java/lang/String", name := "isEmpty", desc := "()Z" } : Jvm.MethodName)).before a0 Z = true := hw _ (List.mem_of_getElem? (i := 49) rfl)
theorem wd_51 {a0 : Array Value} {Z : State} (hw : ∀ d ∈ tables_1, d.before a0 Z = true) : (Jvm.Cond.stringLink "com/example/enact/enact/CommandNames" (30 : Nat) "rpc.").before a0 Z = true := hw _ (List.mem_of_getElem? (i := 51) rfl)
theorem wd_52 {a0 : Array Value} {Z : State} (hw : ∀ d ∈ tables_1, d.before a0 Z = true) : (Jvm.Cond.methodLink "com/example/enact/enact/CommandNames" (32 : Nat) ({ cls := "java/lang/String", name := "startsWith", desc := "(Ljava/lang/String;)Z" } : Jvm.MethodName)).before a0 Z = true := hw _ (List.mem_of_getElem? (i := 52) rfl)
theorem wd_53 {a0 : Array Value} {Z : State} (hw : ∀ d ∈ tables_1, d.before a0 Z = true) : (Jvm.Cond.declares ({ cls := "java/lang/String", name := "startsWith", desc := "(Ljava/lang/String;)Z" } : Jvm.MethodName)).before a0 Z = true := hw _ (List.mem_of_getElem? (i := 53) rfl)
theorem wd_54 {a0 : Array Value} {Z : State} (hw : ∀ d ∈ tables_1, d.before a0 Z = true) : (Jvm.Cond.instanceMethod ({ cls := "java/lang/String", name := "startsWith", desc := "(Ljava/lang/String;)Z" } : Jvm.MethodName)).before a0 Z = true := hw _ (List.mem_of_getElem? (i := 54) rfl)
theorem wd_55 {a0 : Array Value} {Z : State} (hw : ∀ d ∈ tables_1, d.before a0 Z = true) : (Jvm.Cond.selects "java/lang/String" ({ cls := "java/lang/String", name := "startsWith", desc := "(Ljava/lang/String;)Z" } : Jvm.MethodName) ({ cls := "java/lang/String", name := "startsWith", desc := "(Ljava/lang/String;)Z" } : Jvm.MethodName)).before a0 Z = true := hw _ (List.mem_of_getElem? (i := 55) rfl)
theorem wd_56 {a0 : Array Value} {Z : State} (hw : ∀ d ∈ tables_1, d.before a0 Z = true) : (Jvm.Cond.code ({ cls := "java/lang/String", name := "startsWith", desc := "(Ljava/lang/String;)Z" } : Jvm.MethodName) jdk_42_method_76_code (2 : Nat) (Option.some Jvm.ClassFile.FieldType.boolean)).before a0 Z = true := hw _ (List.mem_of_getElem? (i := 56) rfl)
theorem wd_57 {a0 : Array Value} {Z : State} (hw : ∀ d ∈ tables_1, d.before a0 Z = true) : (Jvm.Cond.methodLink "java/lang/String" (624 : Nat) ({ cls := "java/lang/String", name := "startsWith", desc := "(Ljava/lang/String;I)Z" } : Jvm.MethodName)).before a0 Z = true := hw _ (List.mem_of_getElem? (i := 57) rfl)
theorem wd_58 {a0 : Array Value} {Z : State} (hw : ∀ d ∈ tables_1, d.before a0 Z = true) : (Jvm.Cond.declares ({ cls := "java/lang/String", name := "startsWith", desc := "(Ljava/lang/String;I)Z" } : Jvm.MethodName)).before a0 Z = true := hw _ (List.mem_of_getElem? (i := 58) rfl)
theorem wd_59 {a0 : Array Value} {Z : State} (hw : ∀ d ∈ tables_1, d.before a0 Z = true) : (Jvm.Cond.instanceMethod ({ cls := "java/lang/String", name := "startsWith", desc := "(Ljava/lang/String;I)Z" } : Jvm.MethodName)).before a0 Z = true := hw _ (List.mem_of_getElem? (i := 59) rfl)
theorem wd_60 {a0 : Array Value} {Z : State} (hw : ∀ d ∈ tables_1, d.before a0 Z = true) : (Jvm.Cond.selects "java/lang/String" ({ cls := "java/lang/String", name := "startsWith", desc := "(Ljava/lang/String;I)Z" } : Jvm.MethodName) ({ cls := "java/lang/String", name := "startsWith", desc := "(Ljava/lang/String;I)Z" } : Jvm.MethodName)).before a0 Z = true := hw _ (List.mem_of_getElem? (i := 60) rfl)
theorem wd_61 {a0 : Array Value} {Z : State} (hw : ∀ d ∈ tables_1, d.before a0 Z = true) : (Jvm.Cond.code ({ cls := "java/lang/String", name := "startsWith", desc := "(Ljava/lang/String;I)Z" } : Jvm.MethodName) jdk_42_method_75_code (8 : Nat) (Option.some Jvm.ClassFile.FieldType.boolean)).before a0 Z = true := hw _ (List.mem_of_getElem? (i := 61) rfl)
theorem wd_62 {a0 : Array Value} {Z : State} (hw : ∀ d ∈ tables_1, d.before a0 Z = true) : (Jvm.Cond.methodLink "java/lang/String" (505 : Nat) ({ cls := "java/lang/String", name := "length", desc := "()I" } : Jvm.MethodName)).before a0 Z = true := hw _ (List.mem_of_getElem? (i := 62) rfl)
theorem wd_63 {a0 : Array Value} {Z : State} (hw : ∀ d ∈ tables_1, d.before a0 Z = true) : (Jvm.Cond.declares ({ cls := "java/lang/String", name := "length", desc := "()I" } : Jvm.MethodName)).before a0 Z = true := hw _ (List.mem_of_getElem? (i := 63) rfl)
theorem wd_64 {a0 : Array Value} {Z : State} (hw : ∀ d ∈ tables_1, d.before a0 Z = true) : (Jvm.Cond.instanceMethod ({ cls := "java/lang/String", name := "length", desc := "()I" } : Jvm.MethodName)).before a0 Z = true := hw _ (List.mem_of_getElem? (i := 64) rfl)
theorem wd_65 {a0 : Array Value} {Z : State} (hw : ∀ d ∈ tables_1, d.before a0 Z = true) : (Jvm.Cond.selects "java/lang/String" ({ cls := "java/lang/String", name := "length", desc := "()I" } : Jvm.MethodName) ({ cls := "java/lang/String", name := "length", desc := "()I" } : Jvm.MethodName)).before a0 Z = true := hw _ (List.mem_of_getElem? (i := 65) rfl)
theorem wd_67 {a0 : Array Value} {Z : State} (hw : ∀ d ∈ tables_1, d.before a0 Z = true) : (Jvm.Cond.methodLink "java/lang/String" (335 : Nat) ({ cls := "java/lang/String", name := "coder", desc := "()B" } : Jvm.MethodName)).before a0 Z = true := hw _ (List.mem_of_getElem? (i := 67) rfl)
theorem wd_68 {a0 : Array Value} {Z : State} (hw : ∀ d ∈ tables_1, d.before a0 Z = true) : (Jvm.Cond.declares ({ cls := "java/lang/String", name := "coder", desc := "()B" } : Jvm.MethodName)).before a0 Z = true := hw _ (List.mem_of_getElem? (i := 68) rfl)
theorem wd_69 {a0 : Array Value} {Z : State} (hw : ∀ d ∈ tables_1, d.before a0 Z = true) : (Jvm.Cond.instanceMethod ({ cls := "java/lang/String", name := "coder", desc := "()B" } : Jvm.MethodName)).before a0 Z = true := hw _ (List.mem_of_getElem? (i := 69) rfl)
theorem wd_70 {a0 : Array Value} {Z : State} (hw : ∀ d ∈ tables_1, d.before a0 Z = true) : (Jvm.Cond.selects "java/lang/String" ({ cls := "java/lang/String", name := "coder", desc := "()B" } : Jvm.MethodName) ({ cls := "java/lang/String", name := "coder", desc := "()B" } : Jvm.MethodName)).before a0 Z = true := hw _ (List.mem_of_getElem? (i := 70) rfl)
theorem wd_71 {a0 : Array Value} {Z : State} (hw : ∀ d ∈ tables_1, d.before a0 Z = true) : (Jvm.Cond.code ({ cls := "java/lang/String", name := "coder", desc := "()B" } : Jvm.MethodName) jdk_42_method_152_code (1 : Nat) (Option.some Jvm.ClassFile.FieldType.byte)).before a0 Z = true := hw _ (List.mem_of_getElem? (i := 71) rfl)
theorem wd_72 {a0 : Array Value} {Z : State} (hw : ∀ d ∈ tables_1, d.before a0 Z = true) : (Jvm.Cond.methodLink "java/lang/String" (607 : Nat) ({ cls := "jdk/internal/util/ArraysSupport", name := "mismatch", desc := "([BI[BII)I" } : Jvm.MethodName)).before a0 Z = true := hw _ (List.mem_of_getElem? (i := 72) rfl)
theorem wd_73 {a0 : Array Value} {Z : State} (hw : ∀ d ∈ tables_1, d.before a0 Z = true) : (Jvm.Cond.static ({ cls := "jdk/internal/util/ArraysSupport", name := "mismatch", desc := "([BI[BII)I" } : Jvm.MethodName)).before a0 Z = true := hw _ (List.mem_of_getElem? (i := 73) rfl)
theorem wd_74 {a0 : Array Value} {Z : State} (hw : ∀ d ∈ tables_1, d.before a0 Z = true) : (Jvm.Cond.initialized "jdk/internal/util/ArraysSupport").before a0 Z = true := hw _ (List.mem_of_getElem? (i := 74) rfl)
theorem wd_75 {a0 : Array Value} {Z : State} (hw : ∀ d ∈ tables_1, d.before a0 Z = true) : (Jvm.Cond.code ({ cls := "jdk/internal/util/ArraysSupport", name := "mismatch", desc := "([BI[BII)I" } : Jvm.MethodName) jdk_48_method_14_code (8 : Nat) (Option.some Jvm.ClassFile.FieldType.int)).before a0 Z = true := hw _ (List.mem_of_getElem? (i := 75) rfl)
theorem pn_0 : plainName "com/example/enact/enact/CommandNamesRequireValidPinLaw" = true := by first | (simp [plainName, overriddenIn]; done) | decide +kernel
theorem pn_1 : plainName "java/util/Objects" = true := by first | (simp [plainName, overriddenIn]; done) | decide +kernel
theorem pn_2 : plainName "java/lang/String" = true := by first | (simp [plainName, overriddenIn]; done) | decide +kernel
theorem pn_3 : plainName "jdk/internal/util/ArraysSupport" = true := by first | (simp [plainName, overriddenIn]; done) | decide +kernel
theorem pn_4 : plainName "com/example/enact/enact/CommandNames" = true := by first | (simp [plainName, overriddenIn]; done) | decide +kernel
theorem pd_0 : parseMethodDescriptor "([C)V" = some ⟨[(.array .char)], none⟩ := by decide +kernel
theorem pd_1 : parseMethodDescriptor "()I" = some ⟨[], some .int⟩ := by decide +kernel
theorem pd_2 : parseMethodDescriptor "()B" = some ⟨[], some .byte⟩ := by decide +kernel
theorem pd_3 : parseMethodDescriptor "([BI[BII)I" = some ⟨[(.array .byte), .int, (.array .byte), .int, .int], some .int⟩ := by decide +kernel
theorem pd_4 : parseMethodDescriptor "(Ljava/lang/String;I)Z" = some ⟨[(.object "java/lang/String"), .int], some .boolean⟩ := by decide +kernel
theorem pd_5 : parseMethodDescriptor "(Ljava/lang/Object;Ljava/lang/String;)Ljava/lang/Object;" = some ⟨[(.object "java/lang/Object"), (.object "java/lang/String")], some (.object "java/lang/Object")⟩ := by decide +kernel
theorem pd_6 : parseMethodDescriptor "()Z" = some ⟨[], some .boolean⟩ := by decide +kernel
theorem pd_7 : parseMethodDescriptor "(Ljava/lang/String;)Z" = some ⟨[(.object "java/lang/String")], some .boolean⟩ := by decide +kernel
theorem pd_8 : parseMethodDescriptor "(ICCCCCC)Ljava/lang/String;" = some ⟨[.int, .char, .char, .char, .char, .char, .char], some (.object "java/lang/String")⟩ := by decide +kernel
theorem pd_9 : parseMethodDescriptor "(Ljava/lang/String;)Ljava/lang/String;" = some ⟨[(.object "java/lang/String")], some (.object "java/lang/String")⟩ := by decide +kernel
theorem pf_0 : parseFieldDescriptor "B" = some .byte := by decide +kernel
theorem pf_1 : parseFieldDescriptor "[B" = some (.array .byte) := by decide +kernel
theorem d_jdk_31_method_11_code_0 : decode jdk_31_method_11_code 0 = .ok (.aload_n 0, 1) := by decide +kernel
theorem d_jdk_31_method_11_code_1 : decode jdk_31_method_11_code 1 = .ok (.ifnonnull 12, 3) := by decide +kernel
theorem d_jdk_31_method_11_code_13 : decode jdk_31_method_11_code 13 = .ok (.aload_n 0, 1) := by decide +kernel
theorem d_jdk_31_method_11_code_14 : decode jdk_31_method_11_code 14 = .ok (.areturn, 1) := by decide +kernel
theorem d_jdk_42_method_152_code_0 : decode jdk_42_method_152_code 0 = .ok (.getstatic 38, 3) := by decide +kernel
theorem d_jdk_42_method_152_code_10 : decode jdk_42_method_152_code 10 = .ok (.goto 4, 3) := by decide +kernel
theorem d_jdk_42_method_152_code_14 : decode jdk_42_method_152_code 14 = .ok (.ireturn, 1) := by decide +kernel
theorem d_jdk_42_method_152_code_3 : decode jdk_42_method_152_code 3 = .ok (.ifCond .eq 10, 3) := by decide +kernel
theorem d_jdk_42_method_152_code_6 : decode jdk_42_method_152_code 6 = .ok (.aload_n 0, 1) := by decide +kernel
theorem d_jdk_42_method_152_code_7 : decode jdk_42_method_152_code 7 = .ok (.getfield 15, 3) := by decide +kernel
theorem d_jdk_42_method_75_code_0 : decode jdk_42_method_75_code 0 = .ok (.iload_n 2, 1) := by decide +kernel
theorem d_jdk_42_method_75_code_1 : decode jdk_42_method_75_code 1 = .ok (.ifCond .lt 16, 3) := by decide +kernel
theorem d_jdk_42_method_75_code_10 : decode jdk_42_method_75_code 10 = .ok (.invokevirtual 505, 3) := by decide +kernel
theorem d_jdk_42_method_75_code_13 : decode jdk_42_method_75_code 13 = .ok (.isub, 1) := by decide +kernel
theorem d_jdk_42_method_75_code_14 : decode jdk_42_method_75_code 14 = .ok (.if_icmp .le 5, 3) := by decide +kernel
theorem d_jdk_42_method_75_code_17 : decode jdk_42_method_75_code 17 = .ok (.iconst 0, 1) := by decide +kernel
theorem d_jdk_42_method_75_code_18 : decode jdk_42_method_75_code 18 = .ok (.ireturn, 1) := by decide +kernel
theorem d_jdk_42_method_75_code_19 : decode jdk_42_method_75_code 19 = .ok (.aload_n 0, 1) := by decide +kernel
theorem d_jdk_42_method_75_code_20 : decode jdk_42_method_75_code 20 = .ok (.getfield 9, 3) := by decide +kernel
theorem d_jdk_42_method_75_code_23 : decode jdk_42_method_75_code 23 = .ok (.astore_n 3, 1) := by decide +kernel
theorem d_jdk_42_method_75_code_24 : decode jdk_42_method_75_code 24 = .ok (.aload_n 1, 1) := by decide +kernel
theorem d_jdk_42_method_75_code_25 : decode jdk_42_method_75_code 25 = .ok (.getfield 9, 3) := by decide +kernel
theorem d_jdk_42_method_75_code_28 : decode jdk_42_method_75_code 28 = .ok (.astore 4, 2) := by decide +kernel
theorem d_jdk_42_method_75_code_30 : decode jdk_42_method_75_code 30 = .ok (.iconst 0, 1) := by decide +kernel
theorem d_jdk_42_method_75_code_31 : decode jdk_42_method_75_code 31 = .ok (.istore 5, 2) := by decide +kernel
theorem d_jdk_42_method_75_code_33 : decode jdk_42_method_75_code 33 = .ok (.aload 4, 2) := by decide +kernel
theorem d_jdk_42_method_75_code_35 : decode jdk_42_method_75_code 35 = .ok (.arraylength, 1) := by decide +kernel
theorem d_jdk_42_method_75_code_36 : decode jdk_42_method_75_code 36 = .ok (.istore 6, 2) := by decide +kernel
theorem d_jdk_42_method_75_code_38 : decode jdk_42_method_75_code 38 = .ok (.aload_n 0, 1) := by decide +kernel
theorem d_jdk_42_method_75_code_39 : decode jdk_42_method_75_code 39 = .ok (.invokevirtual 335, 3) := by decide +kernel
theorem d_jdk_42_method_75_code_4 : decode jdk_42_method_75_code 4 = .ok (.iload_n 2, 1) := by decide +kernel
theorem d_jdk_42_method_75_code_42 : decode jdk_42_method_75_code 42 = .ok (.istore 7, 2) := by decide +kernel
theorem d_jdk_42_method_75_code_44 : decode jdk_42_method_75_code 44 = .ok (.iload 7, 2) := by decide +kernel
theorem d_jdk_42_method_75_code_46 : decode jdk_42_method_75_code 46 = .ok (.aload_n 1, 1) := by decide +kernel
theorem d_jdk_42_method_75_code_47 : decode jdk_42_method_75_code 47 = .ok (.invokevirtual 335, 3) := by decide +kernel
theorem d_jdk_42_method_75_code_5 : decode jdk_42_method_75_code 5 = .ok (.aload_n 0, 1) := by decide +kernel
theorem d_jdk_42_method_75_code_50 : decode jdk_42_method_75_code 50 = .ok (.if_icmp .ne 32, 3) := by decide +kernel
theorem d_jdk_42_method_75_code_53 : decode jdk_42_method_75_code 53 = .ok (.iload 7, 2) := by decide +kernel
theorem d_jdk_42_method_75_code_55 : decode jdk_42_method_75_code 55 = .ok (.iconst 1, 1) := by decide +kernel
theorem d_jdk_42_method_75_code_56 : decode jdk_42_method_75_code 56 = .ok (.if_icmp .ne 7, 3) := by decide +kernel
theorem d_jdk_42_method_75_code_6 : decode jdk_42_method_75_code 6 = .ok (.invokevirtual 505, 3) := by decide +kernel
theorem d_jdk_42_method_75_code_63 : decode jdk_42_method_75_code 63 = .ok (.aload_n 3, 1) := by decide +kernel
theorem d_jdk_42_method_75_code_64 : decode jdk_42_method_75_code 64 = .ok (.iload_n 2, 1) := by decide +kernel
theorem d_jdk_42_method_75_code_65 : decode jdk_42_method_75_code 65 = .ok (.aload 4, 2) := by decide +kernel
theorem d_jdk_42_method_75_code_67 : decode jdk_42_method_75_code 67 = .ok (.iconst 0, 1) := by decide +kernel
theorem d_jdk_42_method_75_code_68 : decode jdk_42_method_75_code 68 = .ok (.iload 6, 2) := by decide +kernel
theorem d_jdk_42_method_75_code_70 : decode jdk_42_method_75_code 70 = .ok (.invokestatic 607, 3) := by decide +kernel
theorem d_jdk_42_method_75_code_73 : decode jdk_42_method_75_code 73 = .ok (.ifCond .ge 7, 3) := by decide +kernel
theorem d_jdk_42_method_75_code_76 : decode jdk_42_method_75_code 76 = .ok (.iconst 1, 1) := by decide +kernel
theorem d_jdk_42_method_75_code_77 : decode jdk_42_method_75_code 77 = .ok (.goto 4, 3) := by decide +kernel
theorem d_jdk_42_method_75_code_80 : decode jdk_42_method_75_code 80 = .ok (.iconst 0, 1) := by decide +kernel
theorem d_jdk_42_method_75_code_81 : decode jdk_42_method_75_code 81 = .ok (.ireturn, 1) := by decide +kernel
theorem d_jdk_42_method_75_code_9 : decode jdk_42_method_75_code 9 = .ok (.aload_n 1, 1) := by decide +kernel
theorem d_jdk_42_method_76_code_0 : decode jdk_42_method_76_code 0 = .ok (.aload_n 0, 1) := by decide +kernel
theorem d_jdk_42_method_76_code_1 : decode jdk_42_method_76_code 1 = .ok (.aload_n 1, 1) := by decide +kernel
theorem d_jdk_42_method_76_code_2 : decode jdk_42_method_76_code 2 = .ok (.iconst 0, 1) := by decide +kernel
theorem d_jdk_42_method_76_code_3 : decode jdk_42_method_76_code 3 = .ok (.invokevirtual 624, 3) := by decide +kernel
theorem d_jdk_42_method_76_code_6 : decode jdk_42_method_76_code 6 = .ok (.ireturn, 1) := by decide +kernel
theorem d_jdk_48_method_14_code_0 : decode jdk_48_method_14_code 0 = .ok (.iconst 0, 1) := by decide +kernel
theorem d_jdk_48_method_14_code_1 : decode jdk_48_method_14_code 1 = .ok (.istore 5, 2) := by decide +kernel
theorem d_jdk_48_method_14_code_101 : decode jdk_48_method_14_code 101 = .ok (.iconst (-1), 1) := by decide +kernel
theorem d_jdk_48_method_14_code_102 : decode jdk_48_method_14_code 102 = .ok (.ireturn, 1) := by decide +kernel
theorem d_jdk_48_method_14_code_3 : decode jdk_48_method_14_code 3 = .ok (.iload 4, 2) := by decide +kernel
theorem d_jdk_48_method_14_code_5 : decode jdk_48_method_14_code 5 = .ok (.bipush 7, 2) := by decide +kernel
theorem d_jdk_48_method_14_code_7 : decode jdk_48_method_14_code 7 = .ok (.if_icmp .le 63, 3) := by decide +kernel
theorem d_jdk_48_method_14_code_70 : decode jdk_48_method_14_code 70 = .ok (.iload 5, 2) := by decide +kernel
theorem d_jdk_48_method_14_code_72 : decode jdk_48_method_14_code 72 = .ok (.iload 4, 2) := by decide +kernel
theorem d_jdk_48_method_14_code_74 : decode jdk_48_method_14_code 74 = .ok (.if_icmp .ge 27, 3) := by decide +kernel
theorem d_jdk_48_method_14_code_77 : decode jdk_48_method_14_code 77 = .ok (.aload_n 0, 1) := by decide +kernel
theorem d_jdk_48_method_14_code_78 : decode jdk_48_method_14_code 78 = .ok (.iload_n 1, 1) := by decide +kernel
theorem d_jdk_48_method_14_code_79 : decode jdk_48_method_14_code 79 = .ok (.iload 5, 2) := by decide +kernel
theorem d_jdk_48_method_14_code_81 : decode jdk_48_method_14_code 81 = .ok (.iadd, 1) := by decide +kernel
theorem d_jdk_48_method_14_code_82 : decode jdk_48_method_14_code 82 = .ok (.baload, 1) := by decide +kernel
theorem d_jdk_48_method_14_code_83 : decode jdk_48_method_14_code 83 = .ok (.aload_n 2, 1) := by decide +kernel
theorem d_jdk_48_method_14_code_84 : decode jdk_48_method_14_code 84 = .ok (.iload_n 3, 1) := by decide +kernel
theorem d_jdk_48_method_14_code_85 : decode jdk_48_method_14_code 85 = .ok (.iload 5, 2) := by decide +kernel
theorem d_jdk_48_method_14_code_87 : decode jdk_48_method_14_code 87 = .ok (.iadd, 1) := by decide +kernel
theorem d_jdk_48_method_14_code_88 : decode jdk_48_method_14_code 88 = .ok (.baload, 1) := by decide +kernel
theorem d_jdk_48_method_14_code_89 : decode jdk_48_method_14_code 89 = .ok (.if_icmp .eq 6, 3) := by decide +kernel
theorem d_jdk_48_method_14_code_92 : decode jdk_48_method_14_code 92 = .ok (.iload 5, 2) := by decide +kernel
theorem d_jdk_48_method_14_code_94 : decode jdk_48_method_14_code 94 = .ok (.ireturn, 1) := by decide +kernel
theorem d_jdk_48_method_14_code_95 : decode jdk_48_method_14_code 95 = .ok (.iinc 5 1, 3) := by decide +kernel
theorem d_jdk_48_method_14_code_98 : decode jdk_48_method_14_code 98 = .ok (.goto (-28), 3) := by decide +kernel
theorem d_method_2_code_0 : decode method_2_code 0 = .ok (.iload_n 0, 1) := by decide +kernel
theorem d_method_2_code_1 : decode method_2_code 1 = .ok (.iconst 1, 1) := by decide +kernel
theorem d_method_2_code_10 : decode method_2_code 10 = .ok (.newarray .char, 2) := by decide +kernel
theorem d_method_2_code_100 : decode method_2_code 100 = .ok (.castore, 1) := by decide +kernel
theorem d_method_2_code_101 : decode method_2_code 101 = .ok (.invokespecial 9, 3) := by decide +kernel
theorem d_method_2_code_104 : decode method_2_code 104 = .ok (.areturn, 1) := by decide +kernel
theorem d_method_2_code_105 : decode method_2_code 105 = .ok (.iload_n 0, 1) := by decide +kernel
theorem d_method_2_code_106 : decode method_2_code 106 = .ok (.iconst 5, 1) := by decide +kernel
theorem d_method_2_code_107 : decode method_2_code 107 = .ok (.if_icmp .ne 36, 3) := by decide +kernel
theorem d_method_2_code_110 : decode method_2_code 110 = .ok (.new 7, 3) := by decide +kernel
theorem d_method_2_code_113 : decode method_2_code 113 = .ok (.dup, 1) := by decide +kernel
theorem d_method_2_code_114 : decode method_2_code 114 = .ok (.iconst 5, 1) := by decide +kernel
theorem d_method_2_code_115 : decode method_2_code 115 = .ok (.newarray .char, 2) := by decide +kernel
theorem d_method_2_code_117 : decode method_2_code 117 = .ok (.dup, 1) := by decide +kernel
theorem d_method_2_code_118 : decode method_2_code 118 = .ok (.iconst 0, 1) := by decide +kernel
theorem d_method_2_code_119 : decode method_2_code 119 = .ok (.iload_n 1, 1) := by decide +kernel
theorem d_method_2_code_12 : decode method_2_code 12 = .ok (.dup, 1) := by decide +kernel
theorem d_method_2_code_120 : decode method_2_code 120 = .ok (.castore, 1) := by decide +kernel
theorem d_method_2_code_121 : decode method_2_code 121 = .ok (.dup, 1) := by decide +kernel
theorem d_method_2_code_122 : decode method_2_code 122 = .ok (.iconst 1, 1) := by decide +kernel
theorem d_method_2_code_123 : decode method_2_code 123 = .ok (.iload_n 2, 1) := by decide +kernel
theorem d_method_2_code_124 : decode method_2_code 124 = .ok (.castore, 1) := by decide +kernel
theorem d_method_2_code_125 : decode method_2_code 125 = .ok (.dup, 1) := by decide +kernel
theorem d_method_2_code_126 : decode method_2_code 126 = .ok (.iconst 2, 1) := by decide +kernel
theorem d_method_2_code_127 : decode method_2_code 127 = .ok (.iload_n 3, 1) := by decide +kernel
theorem d_method_2_code_128 : decode method_2_code 128 = .ok (.castore, 1) := by decide +kernel
theorem d_method_2_code_129 : decode method_2_code 129 = .ok (.dup, 1) := by decide +kernel
theorem d_method_2_code_13 : decode method_2_code 13 = .ok (.iconst 0, 1) := by decide +kernel
theorem d_method_2_code_130 : decode method_2_code 130 = .ok (.iconst 3, 1) := by decide +kernel
theorem d_method_2_code_131 : decode method_2_code 131 = .ok (.iload 4, 2) := by decide +kernel
theorem d_method_2_code_133 : decode method_2_code 133 = .ok (.castore, 1) := by decide +kernel
theorem d_method_2_code_134 : decode method_2_code 134 = .ok (.dup, 1) := by decide +kernel
theorem d_method_2_code_135 : decode method_2_code 135 = .ok (.iconst 4, 1) := by decide +kernel
theorem d_method_2_code_136 : decode method_2_code 136 = .ok (.iload 5, 2) := by decide +kernel
theorem d_method_2_code_138 : decode method_2_code 138 = .ok (.castore, 1) := by decide +kernel
theorem d_method_2_code_139 : decode method_2_code 139 = .ok (.invokespecial 9, 3) := by decide +kernel
theorem d_method_2_code_14 : decode method_2_code 14 = .ok (.iload_n 1, 1) := by decide +kernel
theorem d_method_2_code_142 : decode method_2_code 142 = .ok (.areturn, 1) := by decide +kernel
theorem d_method_2_code_143 : decode method_2_code 143 = .ok (.new 7, 3) := by decide +kernel
theorem d_method_2_code_146 : decode method_2_code 146 = .ok (.dup, 1) := by decide +kernel
theorem d_method_2_code_147 : decode method_2_code 147 = .ok (.bipush 6, 2) := by decide +kernel
theorem d_method_2_code_149 : decode method_2_code 149 = .ok (.newarray .char, 2) := by decide +kernel
theorem d_method_2_code_15 : decode method_2_code 15 = .ok (.castore, 1) := by decide +kernel
theorem d_method_2_code_151 : decode method_2_code 151 = .ok (.dup, 1) := by decide +kernel
theorem d_method_2_code_152 : decode method_2_code 152 = .ok (.iconst 0, 1) := by decide +kernel
theorem d_method_2_code_153 : decode method_2_code 153 = .ok (.iload_n 1, 1) := by decide +kernel
theorem d_method_2_code_154 : decode method_2_code 154 = .ok (.castore, 1) := by decide +kernel
theorem d_method_2_code_155 : decode method_2_code 155 = .ok (.dup, 1) := by decide +kernel
theorem d_method_2_code_156 : decode method_2_code 156 = .ok (.iconst 1, 1) := by decide +kernel
theorem d_method_2_code_157 : decode method_2_code 157 = .ok (.iload_n 2, 1) := by decide +kernel
theorem d_method_2_code_158 : decode method_2_code 158 = .ok (.castore, 1) := by decide +kernel
theorem d_method_2_code_159 : decode method_2_code 159 = .ok (.dup, 1) := by decide +kernel
theorem d_method_2_code_16 : decode method_2_code 16 = .ok (.invokespecial 9, 3) := by decide +kernel
theorem d_method_2_code_160 : decode method_2_code 160 = .ok (.iconst 2, 1) := by decide +kernel
theorem d_method_2_code_161 : decode method_2_code 161 = .ok (.iload_n 3, 1) := by decide +kernel
theorem d_method_2_code_162 : decode method_2_code 162 = .ok (.castore, 1) := by decide +kernel
theorem d_method_2_code_163 : decode method_2_code 163 = .ok (.dup, 1) := by decide +kernel
theorem d_method_2_code_164 : decode method_2_code 164 = .ok (.iconst 3, 1) := by decide +kernel
theorem d_method_2_code_165 : decode method_2_code 165 = .ok (.iload 4, 2) := by decide +kernel
theorem d_method_2_code_167 : decode method_2_code 167 = .ok (.castore, 1) := by decide +kernel
theorem d_method_2_code_168 : decode method_2_code 168 = .ok (.dup, 1) := by decide +kernel
theorem d_method_2_code_169 : decode method_2_code 169 = .ok (.iconst 4, 1) := by decide +kernel
theorem d_method_2_code_170 : decode method_2_code 170 = .ok (.iload 5, 2) := by decide +kernel
theorem d_method_2_code_172 : decode method_2_code 172 = .ok (.castore, 1) := by decide +kernel
theorem d_method_2_code_173 : decode method_2_code 173 = .ok (.dup, 1) := by decide +kernel
theorem d_method_2_code_174 : decode method_2_code 174 = .ok (.iconst 5, 1) := by decide +kernel
theorem d_method_2_code_175 : decode method_2_code 175 = .ok (.iload 6, 2) := by decide +kernel
theorem d_method_2_code_177 : decode method_2_code 177 = .ok (.castore, 1) := by decide +kernel
theorem d_method_2_code_178 : decode method_2_code 178 = .ok (.invokespecial 9, 3) := by decide +kernel
theorem d_method_2_code_181 : decode method_2_code 181 = .ok (.areturn, 1) := by decide +kernel
theorem d_method_2_code_19 : decode method_2_code 19 = .ok (.areturn, 1) := by decide +kernel
theorem d_method_2_code_2 : decode method_2_code 2 = .ok (.if_icmp .ne 18, 3) := by decide +kernel
theorem d_method_2_code_20 : decode method_2_code 20 = .ok (.iload_n 0, 1) := by decide +kernel
theorem d_method_2_code_21 : decode method_2_code 21 = .ok (.iconst 2, 1) := by decide +kernel
theorem d_method_2_code_22 : decode method_2_code 22 = .ok (.if_icmp .ne 22, 3) := by decide +kernel
theorem d_method_2_code_25 : decode method_2_code 25 = .ok (.new 7, 3) := by decide +kernel
theorem d_method_2_code_28 : decode method_2_code 28 = .ok (.dup, 1) := by decide +kernel
theorem d_method_2_code_29 : decode method_2_code 29 = .ok (.iconst 2, 1) := by decide +kernel
theorem d_method_2_code_30 : decode method_2_code 30 = .ok (.newarray .char, 2) := by decide +kernel
theorem d_method_2_code_32 : decode method_2_code 32 = .ok (.dup, 1) := by decide +kernel
theorem d_method_2_code_33 : decode method_2_code 33 = .ok (.iconst 0, 1) := by decide +kernel
theorem d_method_2_code_34 : decode method_2_code 34 = .ok (.iload_n 1, 1) := by decide +kernel
theorem d_method_2_code_35 : decode method_2_code 35 = .ok (.castore, 1) := by decide +kernel
theorem d_method_2_code_36 : decode method_2_code 36 = .ok (.dup, 1) := by decide +kernel
theorem d_method_2_code_37 : decode method_2_code 37 = .ok (.iconst 1, 1) := by decide +kernel
theorem d_method_2_code_38 : decode method_2_code 38 = .ok (.iload_n 2, 1) := by decide +kernel
theorem d_method_2_code_39 : decode method_2_code 39 = .ok (.castore, 1) := by decide +kernel
theorem d_method_2_code_40 : decode method_2_code 40 = .ok (.invokespecial 9, 3) := by decide +kernel
theorem d_method_2_code_43 : decode method_2_code 43 = .ok (.areturn, 1) := by decide +kernel
theorem d_method_2_code_44 : decode method_2_code 44 = .ok (.iload_n 0, 1) := by decide +kernel
theorem d_method_2_code_45 : decode method_2_code 45 = .ok (.iconst 3, 1) := by decide +kernel
theorem d_method_2_code_46 : decode method_2_code 46 = .ok (.if_icmp .ne 26, 3) := by decide +kernel
theorem d_method_2_code_49 : decode method_2_code 49 = .ok (.new 7, 3) := by decide +kernel
theorem d_method_2_code_5 : decode method_2_code 5 = .ok (.new 7, 3) := by decide +kernel
theorem d_method_2_code_52 : decode method_2_code 52 = .ok (.dup, 1) := by decide +kernel
theorem d_method_2_code_53 : decode method_2_code 53 = .ok (.iconst 3, 1) := by decide +kernel
theorem d_method_2_code_54 : decode method_2_code 54 = .ok (.newarray .char, 2) := by decide +kernel
theorem d_method_2_code_56 : decode method_2_code 56 = .ok (.dup, 1) := by decide +kernel
theorem d_method_2_code_57 : decode method_2_code 57 = .ok (.iconst 0, 1) := by decide +kernel
theorem d_method_2_code_58 : decode method_2_code 58 = .ok (.iload_n 1, 1) := by decide +kernel
theorem d_method_2_code_59 : decode method_2_code 59 = .ok (.castore, 1) := by decide +kernel
theorem d_method_2_code_60 : decode method_2_code 60 = .ok (.dup, 1) := by decide +kernel
theorem d_method_2_code_61 : decode method_2_code 61 = .ok (.iconst 1, 1) := by decide +kernel
theorem d_method_2_code_62 : decode method_2_code 62 = .ok (.iload_n 2, 1) := by decide +kernel
theorem d_method_2_code_63 : decode method_2_code 63 = .ok (.castore, 1) := by decide +kernel
theorem d_method_2_code_64 : decode method_2_code 64 = .ok (.dup, 1) := by decide +kernel
theorem d_method_2_code_65 : decode method_2_code 65 = .ok (.iconst 2, 1) := by decide +kernel
theorem d_method_2_code_66 : decode method_2_code 66 = .ok (.iload_n 3, 1) := by decide +kernel
theorem d_method_2_code_67 : decode method_2_code 67 = .ok (.castore, 1) := by decide +kernel
theorem d_method_2_code_68 : decode method_2_code 68 = .ok (.invokespecial 9, 3) := by decide +kernel
theorem d_method_2_code_71 : decode method_2_code 71 = .ok (.areturn, 1) := by decide +kernel
theorem d_method_2_code_72 : decode method_2_code 72 = .ok (.iload_n 0, 1) := by decide +kernel
theorem d_method_2_code_73 : decode method_2_code 73 = .ok (.iconst 4, 1) := by decide +kernel
theorem d_method_2_code_74 : decode method_2_code 74 = .ok (.if_icmp .ne 31, 3) := by decide +kernel
theorem d_method_2_code_77 : decode method_2_code 77 = .ok (.new 7, 3) := by decide +kernel
theorem d_method_2_code_8 : decode method_2_code 8 = .ok (.dup, 1) := by decide +kernel
theorem d_method_2_code_80 : decode method_2_code 80 = .ok (.dup, 1) := by decide +kernel
theorem d_method_2_code_81 : decode method_2_code 81 = .ok (.iconst 4, 1) := by decide +kernel
theorem d_method_2_code_82 : decode method_2_code 82 = .ok (.newarray .char, 2) := by decide +kernel
theorem d_method_2_code_84 : decode method_2_code 84 = .ok (.dup, 1) := by decide +kernel
theorem d_method_2_code_85 : decode method_2_code 85 = .ok (.iconst 0, 1) := by decide +kernel
theorem d_method_2_code_86 : decode method_2_code 86 = .ok (.iload_n 1, 1) := by decide +kernel
theorem d_method_2_code_87 : decode method_2_code 87 = .ok (.castore, 1) := by decide +kernel
theorem d_method_2_code_88 : decode method_2_code 88 = .ok (.dup, 1) := by decide +kernel
theorem d_method_2_code_89 : decode method_2_code 89 = .ok (.iconst 1, 1) := by decide +kernel
theorem d_method_2_code_9 : decode method_2_code 9 = .ok (.iconst 1, 1) := by decide +kernel
theorem d_method_2_code_90 : decode method_2_code 90 = .ok (.iload_n 2, 1) := by decide +kernel
theorem d_method_2_code_91 : decode method_2_code 91 = .ok (.castore, 1) := by decide +kernel
theorem d_method_2_code_92 : decode method_2_code 92 = .ok (.dup, 1) := by decide +kernel
theorem d_method_2_code_93 : decode method_2_code 93 = .ok (.iconst 2, 1) := by decide +kernel
theorem d_method_2_code_94 : decode method_2_code 94 = .ok (.iload_n 3, 1) := by decide +kernel
theorem d_method_2_code_95 : decode method_2_code 95 = .ok (.castore, 1) := by decide +kernel
theorem d_method_2_code_96 : decode method_2_code 96 = .ok (.dup, 1) := by decide +kernel
theorem d_method_2_code_97 : decode method_2_code 97 = .ok (.iconst 3, 1) := by decide +kernel
theorem d_method_2_code_98 : decode method_2_code 98 = .ok (.iload 4, 2) := by decide +kernel
theorem d_prog_3_method_2_code_0 : decode prog_3_method_2_code 0 = .ok (.aload_n 0, 1) := by decide +kernel
theorem d_prog_3_method_2_code_1 : decode prog_3_method_2_code 1 = .ok (.ldc 7, 2) := by decide +kernel
theorem d_prog_3_method_2_code_11 : decode prog_3_method_2_code 11 = .ok (.ifCond .eq 13, 3) := by decide +kernel
theorem d_prog_3_method_2_code_24 : decode prog_3_method_2_code 24 = .ok (.aload_n 0, 1) := by decide +kernel
theorem d_prog_3_method_2_code_25 : decode prog_3_method_2_code 25 = .ok (.ldc 30, 2) := by decide +kernel
theorem d_prog_3_method_2_code_27 : decode prog_3_method_2_code 27 = .ok (.invokevirtual 32, 3) := by decide +kernel
theorem d_prog_3_method_2_code_3 : decode prog_3_method_2_code 3 = .ok (.invokestatic 9, 3) := by decide +kernel
theorem d_prog_3_method_2_code_30 : decode prog_3_method_2_code 30 = .ok (.ifCond .eq 17, 3) := by decide +kernel
theorem d_prog_3_method_2_code_47 : decode prog_3_method_2_code 47 = .ok (.aload_n 0, 1) := by decide +kernel
theorem d_prog_3_method_2_code_48 : decode prog_3_method_2_code 48 = .ok (.areturn, 1) := by decide +kernel
theorem d_prog_3_method_2_code_6 : decode prog_3_method_2_code 6 = .ok (.pop, 1) := by decide +kernel
theorem d_prog_3_method_2_code_7 : decode prog_3_method_2_code 7 = .ok (.aload_n 0, 1) := by decide +kernel
theorem d_prog_3_method_2_code_8 : decode prog_3_method_2_code 8 = .ok (.invokevirtual 15, 3) := by decide +kernel
theorem lat0 : ∀ c ∈ ([] : List Int32), ¬ c < 0 ∧ ¬ (255 : Int32) < c := fun _ q => nomatch q
theorem latc {x : Int32} {cs : List Int32} (q : ¬ x < 0 ∧ ¬ (255 : Int32) < x) (r : ∀ c ∈ cs, ¬ c < 0 ∧ ¬ (255 : Int32) < c) : ∀ c ∈ x :: cs, ¬ c < 0 ∧ ¬ (255 : Int32) < c := fun c z => (List.mem_cons.mp z).elim (fun u => u ▸ q) (r c)
theorem eqv_if {cs ds : List Int32} {v : Option Value} (h : (v = some (.int 1) ∧ cs = ds) ∨ (v = some (.int 0) ∧ ¬ cs = ds)) : v = some (.int (if cs = ds then (1 : Int32) else 0)) := by
  rcases h with ⟨a, b⟩ | ⟨a, b⟩
  · rw [a, if_pos b]
  · rw [a, if_neg b]
theorem sw_words {a0 : Array Value} {Z : State} (hw : ∀ d ∈ tables_1, d.before a0 Z = true) : ∀ d ∈ StrChars.Road.words, d.before a0 Z = true := fun d hd => hw d ((by decide +kernel : ∀ d ∈ StrChars.Road.words, d ∈ tables_1) d hd)
theorem sw_wordsEmp {a0 : Array Value} {Z : State} (hw : ∀ d ∈ tables_1, d.before a0 Z = true) : ∀ d ∈ StrChars.Road.wordsEmp, d.before a0 Z = true := fun d hd => hw d ((by decide +kernel : ∀ d ∈ StrChars.Road.wordsEmp, d ∈ tables_1) d hd)
theorem sw_wordsLen {a0 : Array Value} {Z : State} (hw : ∀ d ∈ tables_1, d.before a0 Z = true) : ∀ d ∈ StrChars.Road.wordsLen, d.before a0 Z = true := fun d hd => hw d ((by decide +kernel : ∀ d ∈ StrChars.Road.wordsLen, d ∈ tables_1) d hd)
def EL : List (String × Nat) := [("com/example/enact/enact/CommandNames", 7), ("com/example/enact/enact/CommandNames", 30)]
theorem hEL_ {Z : State} {a0 : Array Value} (hw : ∀ d ∈ tables_1, d.before a0 Z = true) : EW Z a0 EL := (EW.cons (wd_39 hw) (by decide) (EW.cons (wd_51 hw) (by decide) EW.nil))
theorem hwS_ {Z : State} {a0 : Array Value} (hw : ∀ d ∈ tables_1, d.before a0 Z = true) : ∀ d ∈ Bundle.stringAtoms, d.before a0 Z = true := fun d hd => hw d ((by decide +kernel : ∀ d ∈ Bundle.stringAtoms, d ∈ tables_1) d hd)
def St (Z : State) (zc : Int32) : Prop := Sta Z Z.heap "java/lang/String" "COMPACT_STRINGS" "Z" (.int zc) ∧ ¬ zc = 0
theorem nar255 (x : Int32) : nar .char (x &&& (255 : Int32)) = x &&& (255 : Int32) := i2c_mask x
theorem lat255 (x : Int32) : ¬ (x &&& (255 : Int32)) < 0 ∧ ¬ (255 : Int32) < x &&& (255 : Int32) := by
  have h := c_mask x 255 8 (by decide) (by decide)
  have e1 : (255 : Int32).toInt = 255 := by decide
  have e2 : (0 : Int32).toInt = 0 := by decide
  rw [Int32.lt_iff_toInt_lt, Int32.lt_iff_toInt_lt, h]
  omega
theorem latI {x : Int32} (h : ¬ x < 0 ∧ ¬ (255 : Int32) < x) : 0 ≤ x.toInt ∧ x.toInt ≤ 255 := by
  have e1 : (255 : Int32).toInt = 255 := by decide
  have e2 : (0 : Int32).toInt = 0 := by decide
  rw [Int32.lt_iff_toInt_lt, Int32.lt_iff_toInt_lt] at h
  omega
theorem nar_lat {x : Int32} (h : ¬ x < 0 ∧ ¬ (255 : Int32) < x) : nar .char x = x := by
  have q := latI h
  have r := c_i2c x
  have s := rng32 x
  apply Int32.toInt_inj.mp
  show x.toUInt32.toUInt16.toUInt32.toInt32.toInt = x.toInt
  omega
theorem i8_inj {x y : Int32} (hx : ¬ x < 0 ∧ ¬ (255 : Int32) < x) (hy : ¬ y < 0 ∧ ¬ (255 : Int32) < y) (e : x.toInt8.toInt32 = y.toInt8.toInt32) : x = y := by
  have a := latI hx
  have b := latI hy
  have r := c_i2b x
  have s := c_i2b y
  rw [e] at r
  apply Int32.toInt_inj.mp
  omega
theorem bytes_getD (cs : List Int32) (i : Nat) : ((cs.map fun c => c.toInt8.toInt32).map Value.int).getD i (.int (0 : Int32)) = .int (cs.getD i 0).toInt8.toInt32 := by
  rw [List.map_map, List.getD_eq_getElem?_getD, List.getD_eq_getElem?_getD, List.getElem?_map]
  cases cs[i]? <;> rfl
theorem ofNat_toInt {k : Nat} (h : k ≤ 100000) : (Int32.ofNat k).toInt = k := Int32.toInt_ofNat_small (by omega)
theorem lt_ofNat {k i : Nat} {j : Int32} (h : k ≤ 100000) (e : j.toInt = i) (q : i < k) : ¬ j < 0 ∧ j < Int32.ofNat k := by
  rw [Int32.lt_iff_toInt_lt, Int32.lt_iff_toInt_lt, ofNat_toInt h, e]
  have e2 : (0 : Int32).toInt = 0 := by decide
  omega
theorem sub_lt0 {k n : Nat} {j : Int32} (h : k ≤ 100000) (e : j.toInt = n) (q : n ≤ 100000) : (Int32.ofNat k - j) < 0 ↔ k < n := by
  have a := c_isub (Int32.ofNat k) j
  have b := rng32 (Int32.ofNat k - j)
  rw [ofNat_toInt h, e] at a
  have e2 : (0 : Int32).toInt = 0 := by decide
  rw [Int32.lt_iff_toInt_lt, e2]
  omega

def mk6 (n c0 c1 c2 c3 c4 c5 : Int32) : List Int32 := if n = 1 then [c0] else if n = 2 then [c0, c1] else if n = 3 then [c0, c1, c2] else if n = 4 then [c0, c1, c2, c3] else if n = 5 then [c0, c1, c2, c3, c4] else [c0, c1, c2, c3, c4, c5]
--@C make
def Q_make (Z : State) (zc : Int32) (p1 : Int32) (c0 : Int32) (c1 : Int32) (c2 : Int32) (c3 : Int32) (c4 : Int32) (c5 : Int32) (h0 : Heap) (n0 : Nat) (v : Option Value) (h : Heap) (L : List Loc) : Prop := ∃ (r : Addr), v = some (.ref r) ∧ Fr n0 L ∧ Keep h0 h [] ∧ h0.size ≤ r ∧ Str Z h.size h r (mk6 p1 c0 c1 c2 c3 c4 c5)
set_option maxRecDepth 65536 in
set_option maxHeartbeats 40000000 in
theorem rm_make (l : Launch) (Z : State) (a0 : Array Value) (hw : ∀ d ∈ tables_1, d.before a0 Z = true) (zc : Int32) (p1 : Int32) (c0 : Int32) (c1 : Int32) (c2 : Int32) (c3 : Int32) (c4 : Int32) (c5 : Int32) (h0 : Heap) (n0 : Nat) (Z0 : n0 ≤ h0.size) (l_c0 : (¬ c0 < 0 ∧ ¬ (255 : Int32) < c0)) (l_c1 : (¬ c1 < 0 ∧ ¬ (255 : Int32) < c1)) (l_c2 : (¬ c2 < 0 ∧ ¬ (255 : Int32) < c2)) (l_c3 : (¬ c3 < 0 ∧ ¬ (255 : Int32) < c3)) (l_c4 : (¬ c4 < 0 ∧ ¬ (255 : Int32) < c4)) (l_c5 : (¬ c5 < 0 ∧ ¬ (255 : Int32) < c5)) (hSt : St Z zc) (hO : Old Z n0 h0) :
    CN l Z ({ cls := "com/example/enact/enact/CommandNamesRequireValidPinLaw", name := "make", desc := "(ICCCCCC)Ljava/lang/String;" } : Jvm.MethodName) [(Jvm.Cond.code ({ cls := "com/example/enact/enact/CommandNamesRequireValidPinLaw", name := "make", desc := "(ICCCCCC)Ljava/lang/String;" } : Jvm.MethodName) method_2_code (7 : Nat) (Option.some (Jvm.ClassFile.FieldType.object "java/lang/String")))] ({ frames := 4, cells := 3, slots := 16, locals := 66 } : Room) #[(.int p1), (.int c0), (.int c1), (.int c2), (.int c3), (.int c4), (.int c5)] h0 (Q_make Z zc p1 c0 c1 c2 c3 c4 c5 h0 n0) := by
  refine CN.of (L0 := #[.val (.int p1), .val (.int c0), .val (.int c1), .val (.int c2), .val (.int c3), .val (.int c4), .val (.int c5)]) (plainFor_of_name pn_0) (fun m => by first | (simp [entryFrame, mkF, argsToLocals, Value.category]; done) | rfl) ?_
  intro p e s m below meth c s₁ hx hby hml hret hlk hZ hown hnm X0 e0
  have N0 := Fr.nil n0
  have KP0 := Keep.refl h0 []
  have hSt_ := hSt
  obtain ⟨S_cs, n_cs⟩ := hSt_
  show Go p e below _ (s₁.setTop (mkF m 0 #[.val (.int p1), .val (.int c0), .val (.int c1), .val (.int c2), .val (.int c3), .val (.int c4), .val (.int c5)] []))
  refine Go.step (fun _ k => XS.iloadN X0.here hx rfl (hb hby d_method_2_code_0) rfl  k) ?_
  show Go p e below _ (s₁.setTop (mkF m 1 #[.val (.int p1), .val (.int c0), .val (.int c1), .val (.int c2), .val (.int c3), .val (.int c4), .val (.int c5)] [(.int p1)]))
  refine Go.step (fun _ k => XS.iconst X0.here hx rfl (hb hby d_method_2_code_1) k) ?_
  show Go p e below _ (s₁.setTop (mkF m 2 #[.val (.int p1), .val (.int c0), .val (.int c1), .val (.int c2), .val (.int c3), .val (.int c4), .val (.int c5)] [(.int (1 : Int32)), (.int p1)]))
  by_cases n1 : p1 = (1 : Int32)
  · skip
    refine Go.step (fun _ k => XS.icmpNo X0.here hx rfl (hb hby d_method_2_code_2) rfl (teq n1).2 k) ?_
    show Go p e below _ (s₁.setTop (mkF m 5 #[.val (.int p1), .val (.int c0), .val (.int c1), .val (.int c2), .val (.int c3), .val (.int c4), .val (.int c5)] []))
    obtain ⟨T_1, h_1, X_1, e_1, E_1, A_1, D_1, -, st_1⟩ := newO X0 hx hZ hown (wd_5 hw) (wd_6 hw) (wd_7 hw) e0 (g := (mkF m 5 #[.val (.int p1), .val (.int c0), .val (.int c1), .val (.int c2), .val (.int c3), .val (.int c4), .val (.int c5)] [])) rfl (hb hby d_method_2_code_5) (by decide) (by decide)
    obtain ⟨b1, q_1⟩ : ∃ z, z = h0.size := ⟨_, rfl⟩
    rw [← q_1] at A_1 D_1 st_1
    refine Go.step st_1 ?_
    have le_1 : h0.size ≤ h_1.size := E_1.1
    have KP_1 := KP0.ext E_1
    have O_1 := hO.ext E_1
    have ge_1 : h0.size ≤ b1 := Nat.le_of_eq q_1.symm
    have sz_b1 : h0.size ≤ b1 := Nat.le_trans (Nat.le_refl _) ge_1
    have g_b1 : n0 ≤ b1 := Nat.le_trans Z0 sz_b1
    have F_1_32 : Fld Z h_1 b1 "java/lang/String" "coder" "B" (.int (0 : Int32)) := D_1 (Or.inr (wd_32 hw)) (ty := .byte) pf_0
    have F_1_34 : Fld Z h_1 b1 "java/lang/String" "value" "[B" .null := D_1 (Or.inr (wd_34 hw)) (ty := (.array .byte)) pf_1
    show Go p e below _ (T_1.setTop (mkF m 8 #[.val (.int p1), .val (.int c0), .val (.int c1), .val (.int c2), .val (.int c3), .val (.int c4), .val (.int c5)] [(.ref b1)]))
    refine Go.step (fun _ k => XS.dup X_1.here hx rfl (hb hby d_method_2_code_8) rfl rfl k) ?_
    show Go p e below _ (T_1.setTop (mkF m 9 #[.val (.int p1), .val (.int c0), .val (.int c1), .val (.int c2), .val (.int c3), .val (.int c4), .val (.int c5)] [(.ref b1), (.ref b1)]))
    refine Go.step (fun _ k => XS.iconst X_1.here hx rfl (hb hby d_method_2_code_9) k) ?_
    show Go p e below _ (T_1.setTop (mkF m 10 #[.val (.int p1), .val (.int c0), .val (.int c1), .val (.int c2), .val (.int c3), .val (.int c4), .val (.int c5)] [(.int (1 : Int32)), (.ref b1), (.ref b1)]))
    obtain ⟨T_2, h_2, k_2, X_2, e_2, E_2, A_2, st_2⟩ := newP X_1 hx hZ (aty := .char) (wd_8 hw) e_1 (g := (mkF m 10 #[.val (.int p1), .val (.int c0), .val (.int c1), .val (.int c2), .val (.int c3), .val (.int c4), .val (.int c5)] [(.int (1 : Int32)), (.ref b1), (.ref b1)])) rfl (hb hby d_method_2_code_10) rfl (by decide) (cap := 1) (by decide) (by decide) (by decide) (by decide)
    obtain ⟨b2, q_2⟩ : ∃ z, z = h_1.size := ⟨_, rfl⟩
    rw [← q_2] at A_2 st_2
    refine Go.step st_2 ?_
    have le_2 : h_1.size ≤ h_2.size := E_2.1
    have KP_2 := KP_1.ext E_2
    have O_2 := O_1.ext E_2
    have ge_2 : h_1.size ≤ b2 := Nat.le_of_eq q_2.symm
    have sz_b2 : h0.size ≤ b2 := Nat.le_trans le_1 ge_2
    have g_b2 : n0 ≤ b2 := Nat.le_trans Z0 sz_b2
    have V_2 : Arv Z h_2 b2 k_2 .char (1 : Int32) [(.int (0 : Int32))] (.int (0 : Int32)) := (Arv.new A_2 (by decide)).pad (pad_rep [] (.int (0 : Int32)) 1)
    show Go p e below _ (T_2.setTop (mkF m 12 #[.val (.int p1), .val (.int c0), .val (.int c1), .val (.int c2), .val (.int c3), .val (.int c4), .val (.int c5)] [(.ref b2), (.ref b1), (.ref b1)]))
    refine Go.step (fun _ k => XS.dup X_2.here hx rfl (hb hby d_method_2_code_12) rfl rfl k) ?_
    show Go p e below _ (T_2.setTop (mkF m 13 #[.val (.int p1), .val (.int c0), .val (.int c1), .val (.int c2), .val (.int c3), .val (.int c4), .val (.int c5)] [(.ref b2), (.ref b2), (.ref b1), (.ref b1)]))
    refine Go.step (fun _ k => XS.iconst X_2.here hx rfl (hb hby d_method_2_code_13) k) ?_
    show Go p e below _ (T_2.setTop (mkF m 14 #[.val (.int p1), .val (.int c0), .val (.int c1), .val (.int c2), .val (.int c3), .val (.int c4), .val (.int c5)] [(.int (0 : Int32)), (.ref b2), (.ref b2), (.ref b1), (.ref b1)]))
    refine Go.step (fun _ k => XS.iloadN X_2.here hx rfl (hb hby d_method_2_code_14) rfl  k) ?_
    show Go p e below _ (T_2.setTop (mkF m 15 #[.val (.int p1), .val (.int c0), .val (.int c1), .val (.int c2), .val (.int c3), .val (.int c4), .val (.int c5)] [(.int c0), (.int (0 : Int32)), (.ref b2), (.ref b2), (.ref b1), (.ref b1)]))
    obtain ⟨cl_3, Ar_3, ck_3, Sz_3, Ng_3, Hs_3, Gs_3⟩ := V_2
    have hin_3 : ¬ ((0 : Int32) < 0 ∨ cl_3.slots.size ≤ ((0 : Int32)).toNatClampNeg) := inb_of Sz_3 ⟨by decide, by decide⟩
    obtain ⟨T_3, h_3, X_3, e_3, W_3, st_3⟩ := stC X_2 hx hZ e_2 Ar_3 (j := (0 : Int32)) hin_3 (g := (mkF m 15 #[.val (.int p1), .val (.int c0), .val (.int c1), .val (.int c2), .val (.int c3), .val (.int c4), .val (.int c5)] [(.int c0), (.int (0 : Int32)), (.ref b2), (.ref b2), (.ref b1), (.ref b1)])) rfl rfl (hb hby d_method_2_code_15)
    refine Go.step st_3 ?_
    have N_3 := Fr.snoc X_3 N0 g_b2
    have le_3 : h_2.size ≤ h_3.size := Nat.le_of_eq W_3.size.symm
    have KP_3 := KP_2.wr W_3 (Or.inr sz_b2)
    have O_3 := O_2.wr W_3 g_b2
    have V_3 : Arv Z h_3 b2 k_2 .char (1 : Int32) [(.int c0)] (.int (0 : Int32)) := by
      have q := Arv.set Ar_3 ck_3 Sz_3 Ng_3 Hs_3 Gs_3 (fits_nar_char _) W_3 0 rfl (Nat.le_of_ble_eq_true rfl)
      rw [nar_lat l_c0] at q; exact q
    show Go p e below _ (T_3.setTop (mkF m 16 #[.val (.int p1), .val (.int c0), .val (.int c1), .val (.int c2), .val (.int c3), .val (.int c4), .val (.int c5)] [(.ref b2), (.ref b1), (.ref b1)]))
    have f4 : Exa Z h_3 b1 "java/lang/String" := ((A_1.ext E_2).wr W_3)
    have f5 : Fld Z h_3 b1 "java/lang/String" "value" "[B" .null := ((F_1_34.ext E_2).other W_3 (Or.inl (Nat.ne_of_lt (Nat.lt_of_lt_of_le A_1.lt (Nat.le_trans (Nat.le_refl _) ge_2)))))
    have f6 : Fld Z h_3 b1 "java/lang/String" "coder" "B" (.int (0 : Int32)) := ((F_1_32.ext E_2).other W_3 (Or.inl (Nat.ne_of_lt (Nat.lt_of_lt_of_le A_1.lt (Nat.le_trans (Nat.le_refl _) ge_2)))))
    have hp7 : ∀ c ∈ ([c0] : List Int32), ¬ c < 0 ∧ ¬ (255 : Int32) < c := (latc l_c0 lat0)
    obtain ⟨v_8, T_8, L_8, X_8, hQ_8, st_8⟩ := goC X_3 hx hZ (y := ({ cls := "java/lang/String", name := "<init>", desc := "([C)V" } : Jvm.MethodName)) hown rfl (wd_9 hw) (wd_10 hw) (wd_11 hw) (by decide) (StrChars.Road.backV (W := 1) hZ (sw_words hw) (kI := 4) (wd_6 hw) (cs := ([c0] : List Int32)) (bs := ([c0] : List Int32).map (fun c => c.toInt8.toInt32)) (n := 1) g_b1 (Nat.le_trans Z0 KP_3.1) f4 f5 f6 V_3 (S_cs.ext O_3.2) n_cs rfl rfl (by decide) (by decide) hp7 rfl (by decide) (by decide)) e_3 (g := (mkF m 16 #[.val (.int p1), .val (.int c0), .val (.int c1), .val (.int c2), .val (.int c3), .val (.int c4), .val (.int c5)] [(.ref b2), (.ref b1), (.ref b1)])) rfl (by rw [hml]; rfl) (a := b1) (argsL := [(.ref b2)]) (rest := [(.ref b1)]) rfl (lenOf pd_0 rfl) rfl (by show 2 * 0 + _ ≤ _; exact Nat.le_of_eq rfl) (hb hby d_method_2_code_16) (by decide) (by decide)
    obtain ⟨rfl, Nq_8, K_8, Ex_8, Fc_8, t_8, kb_8, -, gt_8, -, Fv_8, Av_8⟩ := hQ_8
    have N_8 := Fr.app N_3 Nq_8
    have le_8 : h_3.size ≤ T_8.heap.size := K_8.1
    have KP_8 := KP_3.trans K_8 (allS (Or.inr sz_b1) all0)
    have O_8 := O_3.keep K_8 (allS g_b1 all0)
    have Sx_8 : Str Z (T_8.heap).size (T_8.heap) b1 ([c0] : List Int32) := ⟨t_8, kb_8, Ex_8.lt, Av_8.lt, Ex_8, Fv_8, Fc_8, Av_8, hp7, Nat.le_of_ble_eq_true rfl⟩
    refine Go.step st_8 ?_
    show Go p e below _ (T_8.setTop (mkF m 19 #[.val (.int p1), .val (.int c0), .val (.int c1), .val (.int c2), .val (.int c3), .val (.int c4), .val (.int c5)] [(.ref b1)]))
    exact Go.retV X_8 hx hlk hret rfl (Or.inr (Or.inr (Or.inr (Or.inr ⟨rfl, rfl, rfl⟩)))) (hb hby d_method_2_code_19) (by decide) (by decide) (by exact ⟨b1, rfl, N_8, KP_8, sz_b1, (by rw [mk6, if_pos n1]; exact Sx_8)⟩)
  · skip
    refine Go.step (fun _ k => XS.icmpYes X0.here hx rfl (pc0 := 2) (pc' := 20) rfl (hb hby d_method_2_code_2) rfl (feq n1).2 (by decide) (by decide) k) ?_
    show Go p e below _ (s₁.setTop (mkF m 20 #[.val (.int p1), .val (.int c0), .val (.int c1), .val (.int c2), .val (.int c3), .val (.int c4), .val (.int c5)] []))
    refine Go.step (fun _ k => XS.iloadN X0.here hx rfl (hb hby d_method_2_code_20) rfl  k) ?_
    show Go p e below _ (s₁.setTop (mkF m 21 #[.val (.int p1), .val (.int c0), .val (.int c1), .val (.int c2), .val (.int c3), .val (.int c4), .val (.int c5)] [(.int p1)]))
    refine Go.step (fun _ k => XS.iconst X0.here hx rfl (hb hby d_method_2_code_21) k) ?_
    show Go p e below _ (s₁.setTop (mkF m 22 #[.val (.int p1), .val (.int c0), .val (.int c1), .val (.int c2), .val (.int c3), .val (.int c4), .val (.int c5)] [(.int (2 : Int32)), (.int p1)]))
    by_cases n2 : p1 = (2 : Int32)
    · skip
      refine Go.step (fun _ k => XS.icmpNo X0.here hx rfl (hb hby d_method_2_code_22) rfl (teq n2).2 k) ?_
      show Go p e below _ (s₁.setTop (mkF m 25 #[.val (.int p1), .val (.int c0), .val (.int c1), .val (.int c2), .val (.int c3), .val (.int c4), .val (.int c5)] []))
      obtain ⟨T_9, h_9, X_9, e_9, E_9, A_9, D_9, -, st_9⟩ := newO X0 hx hZ hown (wd_5 hw) (wd_6 hw) (wd_7 hw) e0 (g := (mkF m 25 #[.val (.int p1), .val (.int c0), .val (.int c1), .val (.int c2), .val (.int c3), .val (.int c4), .val (.int c5)] [])) rfl (hb hby d_method_2_code_25) (by decide) (by decide)
      obtain ⟨b9, q_9⟩ : ∃ z, z = h0.size := ⟨_, rfl⟩
      rw [← q_9] at A_9 D_9 st_9
      refine Go.step st_9 ?_
      have le_9 : h0.size ≤ h_9.size := E_9.1
      have KP_9 := KP0.ext E_9
      have O_9 := hO.ext E_9
      have ge_9 : h0.size ≤ b9 := Nat.le_of_eq q_9.symm
      have sz_b9 : h0.size ≤ b9 := Nat.le_trans (Nat.le_refl _) ge_9
      have g_b9 : n0 ≤ b9 := Nat.le_trans Z0 sz_b9
      have F_9_32 : Fld Z h_9 b9 "java/lang/String" "coder" "B" (.int (0 : Int32)) := D_9 (Or.inr (wd_32 hw)) (ty := .byte) pf_0
      have F_9_34 : Fld Z h_9 b9 "java/lang/String" "value" "[B" .null := D_9 (Or.inr (wd_34 hw)) (ty := (.array .byte)) pf_1
      show Go p e below _ (T_9.setTop (mkF m 28 #[.val (.int p1), .val (.int c0), .val (.int c1), .val (.int c2), .val (.int c3), .val (.int c4), .val (.int c5)] [(.ref b9)]))
      refine Go.step (fun _ k => XS.dup X_9.here hx rfl (hb hby d_method_2_code_28) rfl rfl k) ?_
      show Go p e below _ (T_9.setTop (mkF m 29 #[.val (.int p1), .val (.int c0), .val (.int c1), .val (.int c2), .val (.int c3), .val (.int c4), .val (.int c5)] [(.ref b9), (.ref b9)]))
      refine Go.step (fun _ k => XS.iconst X_9.here hx rfl (hb hby d_method_2_code_29) k) ?_
      show Go p e below _ (T_9.setTop (mkF m 30 #[.val (.int p1), .val (.int c0), .val (.int c1), .val (.int c2), .val (.int c3), .val (.int c4), .val (.int c5)] [(.int (2 : Int32)), (.ref b9), (.ref b9)]))
      obtain ⟨T_10, h_10, k_10, X_10, e_10, E_10, A_10, st_10⟩ := newP X_9 hx hZ (aty := .char) (wd_8 hw) e_9 (g := (mkF m 30 #[.val (.int p1), .val (.int c0), .val (.int c1), .val (.int c2), .val (.int c3), .val (.int c4), .val (.int c5)] [(.int (2 : Int32)), (.ref b9), (.ref b9)])) rfl (hb hby d_method_2_code_30) rfl (by decide) (cap := 2) (by decide) (by decide) (by decide) (by decide)
      obtain ⟨b10, q_10⟩ : ∃ z, z = h_9.size := ⟨_, rfl⟩
      rw [← q_10] at A_10 st_10
      refine Go.step st_10 ?_
      have le_10 : h_9.size ≤ h_10.size := E_10.1
      have KP_10 := KP_9.ext E_10
      have O_10 := O_9.ext E_10
      have ge_10 : h_9.size ≤ b10 := Nat.le_of_eq q_10.symm
      have sz_b10 : h0.size ≤ b10 := Nat.le_trans le_9 ge_10
      have g_b10 : n0 ≤ b10 := Nat.le_trans Z0 sz_b10
      have V_10 : Arv Z h_10 b10 k_10 .char (2 : Int32) [(.int (0 : Int32)), (.int (0 : Int32))] (.int (0 : Int32)) := (Arv.new A_10 (by decide)).pad (pad_rep [] (.int (0 : Int32)) 2)
      show Go p e below _ (T_10.setTop (mkF m 32 #[.val (.int p1), .val (.int c0), .val (.int c1), .val (.int c2), .val (.int c3), .val (.int c4), .val (.int c5)] [(.ref b10), (.ref b9), (.ref b9)]))
      refine Go.step (fun _ k => XS.dup X_10.here hx rfl (hb hby d_method_2_code_32) rfl rfl k) ?_
      show Go p e below _ (T_10.setTop (mkF m 33 #[.val (.int p1), .val (.int c0), .val (.int c1), .val (.int c2), .val (.int c3), .val (.int c4), .val (.int c5)] [(.ref b10), (.ref b10), (.ref b9), (.ref b9)]))
      refine Go.step (fun _ k => XS.iconst X_10.here hx rfl (hb hby d_method_2_code_33) k) ?_
      show Go p e below _ (T_10.setTop (mkF m 34 #[.val (.int p1), .val (.int c0), .val (.int c1), .val (.int c2), .val (.int c3), .val (.int c4), .val (.int c5)] [(.int (0 : Int32)), (.ref b10), (.ref b10), (.ref b9), (.ref b9)]))
      refine Go.step (fun _ k => XS.iloadN X_10.here hx rfl (hb hby d_method_2_code_34) rfl  k) ?_
      show Go p e below _ (T_10.setTop (mkF m 35 #[.val (.int p1), .val (.int c0), .val (.int c1), .val (.int c2), .val (.int c3), .val (.int c4), .val (.int c5)] [(.int c0), (.int (0 : Int32)), (.ref b10), (.ref b10), (.ref b9), (.ref b9)]))
      obtain ⟨cl_11, Ar_11, ck_11, Sz_11, Ng_11, Hs_11, Gs_11⟩ := V_10
      have hin_11 : ¬ ((0 : Int32) < 0 ∨ cl_11.slots.size ≤ ((0 : Int32)).toNatClampNeg) := inb_of Sz_11 ⟨by decide, by decide⟩
      obtain ⟨T_11, h_11, X_11, e_11, W_11, st_11⟩ := stC X_10 hx hZ e_10 Ar_11 (j := (0 : Int32)) hin_11 (g := (mkF m 35 #[.val (.int p1), .val (.int c0), .val (.int c1), .val (.int c2), .val (.int c3), .val (.int c4), .val (.int c5)] [(.int c0), (.int (0 : Int32)), (.ref b10), (.ref b10), (.ref b9), (.ref b9)])) rfl rfl (hb hby d_method_2_code_35)
      refine Go.step st_11 ?_
      have N_11 := Fr.snoc X_11 N0 g_b10
      have le_11 : h_10.size ≤ h_11.size := Nat.le_of_eq W_11.size.symm
      have KP_11 := KP_10.wr W_11 (Or.inr sz_b10)
      have O_11 := O_10.wr W_11 g_b10
      have V_11 : Arv Z h_11 b10 k_10 .char (2 : Int32) [(.int c0), (.int (0 : Int32))] (.int (0 : Int32)) := by
        have q := Arv.set Ar_11 ck_11 Sz_11 Ng_11 Hs_11 Gs_11 (fits_nar_char _) W_11 0 rfl (Nat.le_of_ble_eq_true rfl)
        rw [nar_lat l_c0] at q; exact q
      show Go p e below _ (T_11.setTop (mkF m 36 #[.val (.int p1), .val (.int c0), .val (.int c1), .val (.int c2), .val (.int c3), .val (.int c4), .val (.int c5)] [(.ref b10), (.ref b9), (.ref b9)]))
      refine Go.step (fun _ k => XS.dup X_11.here hx rfl (hb hby d_method_2_code_36) rfl rfl k) ?_
      show Go p e below _ (T_11.setTop (mkF m 37 #[.val (.int p1), .val (.int c0), .val (.int c1), .val (.int c2), .val (.int c3), .val (.int c4), .val (.int c5)] [(.ref b10), (.ref b10), (.ref b9), (.ref b9)]))
      refine Go.step (fun _ k => XS.iconst X_11.here hx rfl (hb hby d_method_2_code_37) k) ?_
      show Go p e below _ (T_11.setTop (mkF m 38 #[.val (.int p1), .val (.int c0), .val (.int c1), .val (.int c2), .val (.int c3), .val (.int c4), .val (.int c5)] [(.int (1 : Int32)), (.ref b10), (.ref b10), (.ref b9), (.ref b9)]))
      refine Go.step (fun _ k => XS.iloadN X_11.here hx rfl (hb hby d_method_2_code_38) rfl  k) ?_
      show Go p e below _ (T_11.setTop (mkF m 39 #[.val (.int p1), .val (.int c0), .val (.int c1), .val (.int c2), .val (.int c3), .val (.int c4), .val (.int c5)] [(.int c1), (.int (1 : Int32)), (.ref b10), (.ref b10), (.ref b9), (.ref b9)]))
      obtain ⟨cl_12, Ar_12, ck_12, Sz_12, Ng_12, Hs_12, Gs_12⟩ := V_11
      have hin_12 : ¬ ((1 : Int32) < 0 ∨ cl_12.slots.size ≤ ((1 : Int32)).toNatClampNeg) := inb_of Sz_12 ⟨by decide, by decide⟩
      obtain ⟨T_12, h_12, X_12, e_12, W_12, st_12⟩ := stC X_11 hx hZ e_11 Ar_12 (j := (1 : Int32)) hin_12 (g := (mkF m 39 #[.val (.int p1), .val (.int c0), .val (.int c1), .val (.int c2), .val (.int c3), .val (.int c4), .val (.int c5)] [(.int c1), (.int (1 : Int32)), (.ref b10), (.ref b10), (.ref b9), (.ref b9)])) rfl rfl (hb hby d_method_2_code_39)
      refine Go.step st_12 ?_
      have N_12 := Fr.snoc X_12 N_11 g_b10
      have le_12 : h_11.size ≤ h_12.size := Nat.le_of_eq W_12.size.symm
      have KP_12 := KP_11.wr W_12 (Or.inr sz_b10)
      have O_12 := O_11.wr W_12 g_b10
      have V_12 : Arv Z h_12 b10 k_10 .char (2 : Int32) [(.int c0), (.int c1)] (.int (0 : Int32)) := by
        have q := Arv.set Ar_12 ck_12 Sz_12 Ng_12 Hs_12 Gs_12 (fits_nar_char _) W_12 1 rfl (Nat.le_of_ble_eq_true rfl)
        rw [nar_lat l_c1] at q; exact q
      show Go p e below _ (T_12.setTop (mkF m 40 #[.val (.int p1), .val (.int c0), .val (.int c1), .val (.int c2), .val (.int c3), .val (.int c4), .val (.int c5)] [(.ref b10), (.ref b9), (.ref b9)]))
      have f13 : Exa Z h_12 b9 "java/lang/String" := (((A_9.ext E_10).wr W_11).wr W_12)
      have f14 : Fld Z h_12 b9 "java/lang/String" "value" "[B" .null := (((F_9_34.ext E_10).other W_11 (Or.inl (Nat.ne_of_lt (Nat.lt_of_lt_of_le A_9.lt (Nat.le_trans (Nat.le_refl _) ge_10))))).other W_12 (Or.inl (Nat.ne_of_lt (Nat.lt_of_lt_of_le A_9.lt (Nat.le_trans (Nat.le_refl _) ge_10)))))
      have f15 : Fld Z h_12 b9 "java/lang/String" "coder" "B" (.int (0 : Int32)) := (((F_9_32.ext E_10).other W_11 (Or.inl (Nat.ne_of_lt (Nat.lt_of_lt_of_le A_9.lt (Nat.le_trans (Nat.le_refl _) ge_10))))).other W_12 (Or.inl (Nat.ne_of_lt (Nat.lt_of_lt_of_le A_9.lt (Nat.le_trans (Nat.le_refl _) ge_10)))))
      have hp16 : ∀ c ∈ ([c0, c1] : List Int32), ¬ c < 0 ∧ ¬ (255 : Int32) < c := (latc l_c0 (latc l_c1 lat0))
      obtain ⟨v_17, T_17, L_17, X_17, hQ_17, st_17⟩ := goC X_12 hx hZ (y := ({ cls := "java/lang/String", name := "<init>", desc := "([C)V" } : Jvm.MethodName)) hown rfl (wd_9 hw) (wd_10 hw) (wd_11 hw) (by decide) (StrChars.Road.backV (W := 1) hZ (sw_words hw) (kI := 4) (wd_6 hw) (cs := ([c0, c1] : List Int32)) (bs := ([c0, c1] : List Int32).map (fun c => c.toInt8.toInt32)) (n := 2) g_b9 (Nat.le_trans Z0 KP_12.1) f13 f14 f15 V_12 (S_cs.ext O_12.2) n_cs rfl rfl (by decide) (by decide) hp16 rfl (by decide) (by decide)) e_12 (g := (mkF m 40 #[.val (.int p1), .val (.int c0), .val (.int c1), .val (.int c2), .val (.int c3), .val (.int c4), .val (.int c5)] [(.ref b10), (.ref b9), (.ref b9)])) rfl (by rw [hml]; rfl) (a := b9) (argsL := [(.ref b10)]) (rest := [(.ref b9)]) rfl (lenOf pd_0 rfl) rfl (by show 2 * 0 + _ ≤ _; exact Nat.le_of_eq rfl) (hb hby d_method_2_code_40) (by decide) (by decide)
      obtain ⟨rfl, Nq_17, K_17, Ex_17, Fc_17, t_17, kb_17, -, gt_17, -, Fv_17, Av_17⟩ := hQ_17
      have N_17 := Fr.app N_12 Nq_17
      have le_17 : h_12.size ≤ T_17.heap.size := K_17.1
      have KP_17 := KP_12.trans K_17 (allS (Or.inr sz_b9) all0)
      have O_17 := O_12.keep K_17 (allS g_b9 all0)
      have Sx_17 : Str Z (T_17.heap).size (T_17.heap) b9 ([c0, c1] : List Int32) := ⟨t_17, kb_17, Ex_17.lt, Av_17.lt, Ex_17, Fv_17, Fc_17, Av_17, hp16, Nat.le_of_ble_eq_true rfl⟩
      refine Go.step st_17 ?_
      show Go p e below _ (T_17.setTop (mkF m 43 #[.val (.int p1), .val (.int c0), .val (.int c1), .val (.int c2), .val (.int c3), .val (.int c4), .val (.int c5)] [(.ref b9)]))
      exact Go.retV X_17 hx hlk hret rfl (Or.inr (Or.inr (Or.inr (Or.inr ⟨rfl, rfl, rfl⟩)))) (hb hby d_method_2_code_43) (by decide) (by decide) (by exact ⟨b9, rfl, N_17, KP_17, sz_b9, (by rw [mk6, if_neg n1, if_pos n2]; exact Sx_17)⟩)
    · skip
      refine Go.step (fun _ k => XS.icmpYes X0.here hx rfl (pc0 := 22) (pc' := 44) rfl (hb hby d_method_2_code_22) rfl (feq n2).2 (by decide) (by decide) k) ?_
      show Go p e below _ (s₁.setTop (mkF m 44 #[.val (.int p1), .val (.int c0), .val (.int c1), .val (.int c2), .val (.int c3), .val (.int c4), .val (.int c5)] []))
      refine Go.step (fun _ k => XS.iloadN X0.here hx rfl (hb hby d_method_2_code_44) rfl  k) ?_
      show Go p e below _ (s₁.setTop (mkF m 45 #[.val (.int p1), .val (.int c0), .val (.int c1), .val (.int c2), .val (.int c3), .val (.int c4), .val (.int c5)] [(.int p1)]))
      refine Go.step (fun _ k => XS.iconst X0.here hx rfl (hb hby d_method_2_code_45) k) ?_
      show Go p e below _ (s₁.setTop (mkF m 46 #[.val (.int p1), .val (.int c0), .val (.int c1), .val (.int c2), .val (.int c3), .val (.int c4), .val (.int c5)] [(.int (3 : Int32)), (.int p1)]))
      by_cases n3 : p1 = (3 : Int32)
      · skip
        refine Go.step (fun _ k => XS.icmpNo X0.here hx rfl (hb hby d_method_2_code_46) rfl (teq n3).2 k) ?_
        show Go p e below _ (s₁.setTop (mkF m 49 #[.val (.int p1), .val (.int c0), .val (.int c1), .val (.int c2), .val (.int c3), .val (.int c4), .val (.int c5)] []))
        obtain ⟨T_18, h_18, X_18, e_18, E_18, A_18, D_18, -, st_18⟩ := newO X0 hx hZ hown (wd_5 hw) (wd_6 hw) (wd_7 hw) e0 (g := (mkF m 49 #[.val (.int p1), .val (.int c0), .val (.int c1), .val (.int c2), .val (.int c3), .val (.int c4), .val (.int c5)] [])) rfl (hb hby d_method_2_code_49) (by decide) (by decide)
        obtain ⟨b18, q_18⟩ : ∃ z, z = h0.size := ⟨_, rfl⟩
        rw [← q_18] at A_18 D_18 st_18
        refine Go.step st_18 ?_
        have le_18 : h0.size ≤ h_18.size := E_18.1
        have KP_18 := KP0.ext E_18
        have O_18 := hO.ext E_18
        have ge_18 : h0.size ≤ b18 := Nat.le_of_eq q_18.symm
        have sz_b18 : h0.size ≤ b18 := Nat.le_trans (Nat.le_refl _) ge_18
        have g_b18 : n0 ≤ b18 := Nat.le_trans Z0 sz_b18
        have F_18_32 : Fld Z h_18 b18 "java/lang/String" "coder" "B" (.int (0 : Int32)) := D_18 (Or.inr (wd_32 hw)) (ty := .byte) pf_0
        have F_18_34 : Fld Z h_18 b18 "java/lang/String" "value" "[B" .null := D_18 (Or.inr (wd_34 hw)) (ty := (.array .byte)) pf_1
        show Go p e below _ (T_18.setTop (mkF m 52 #[.val (.int p1), .val (.int c0), .val (.int c1), .val (.int c2), .val (.int c3), .val (.int c4), .val (.int c5)] [(.ref b18)]))
        refine Go.step (fun _ k => XS.dup X_18.here hx rfl (hb hby d_method_2_code_52) rfl rfl k) ?_
        show Go p e below _ (T_18.setTop (mkF m 53 #[.val (.int p1), .val (.int c0), .val (.int c1), .val (.int c2), .val (.int c3), .val (.int c4), .val (.int c5)] [(.ref b18), (.ref b18)]))
        refine Go.step (fun _ k => XS.iconst X_18.here hx rfl (hb hby d_method_2_code_53) k) ?_
        show Go p e below _ (T_18.setTop (mkF m 54 #[.val (.int p1), .val (.int c0), .val (.int c1), .val (.int c2), .val (.int c3), .val (.int c4), .val (.int c5)] [(.int (3 : Int32)), (.ref b18), (.ref b18)]))
        obtain ⟨T_19, h_19, k_19, X_19, e_19, E_19, A_19, st_19⟩ := newP X_18 hx hZ (aty := .char) (wd_8 hw) e_18 (g := (mkF m 54 #[.val (.int p1), .val (.int c0), .val (.int c1), .val (.int c2), .val (.int c3), .val (.int c4), .val (.int c5)] [(.int (3 : Int32)), (.ref b18), (.ref b18)])) rfl (hb hby d_method_2_code_54) rfl (by decide) (cap := 3) (by decide) (by decide) (by decide) (by decide)
        obtain ⟨b19, q_19⟩ : ∃ z, z = h_18.size := ⟨_, rfl⟩
        rw [← q_19] at A_19 st_19
        refine Go.step st_19 ?_
        have le_19 : h_18.size ≤ h_19.size := E_19.1
        have KP_19 := KP_18.ext E_19
        have O_19 := O_18.ext E_19
        have ge_19 : h_18.size ≤ b19 := Nat.le_of_eq q_19.symm
        have sz_b19 : h0.size ≤ b19 := Nat.le_trans le_18 ge_19
        have g_b19 : n0 ≤ b19 := Nat.le_trans Z0 sz_b19
        have V_19 : Arv Z h_19 b19 k_19 .char (3 : Int32) [(.int (0 : Int32)), (.int (0 : Int32)), (.int (0 : Int32))] (.int (0 : Int32)) := (Arv.new A_19 (by decide)).pad (pad_rep [] (.int (0 : Int32)) 3)
        show Go p e below _ (T_19.setTop (mkF m 56 #[.val (.int p1), .val (.int c0), .val (.int c1), .val (.int c2), .val (.int c3), .val (.int c4), .val (.int c5)] [(.ref b19), (.ref b18), (.ref b18)]))
        refine Go.step (fun _ k => XS.dup X_19.here hx rfl (hb hby d_method_2_code_56) rfl rfl k) ?_
        show Go p e below _ (T_19.setTop (mkF m 57 #[.val (.int p1), .val (.int c0), .val (.int c1), .val (.int c2), .val (.int c3), .val (.int c4), .val (.int c5)] [(.ref b19), (.ref b19), (.ref b18), (.ref b18)]))
        refine Go.step (fun _ k => XS.iconst X_19.here hx rfl (hb hby d_method_2_code_57) k) ?_
        show Go p e below _ (T_19.setTop (mkF m 58 #[.val (.int p1), .val (.int c0), .val (.int c1), .val (.int c2), .val (.int c3), .val (.int c4), .val (.int c5)] [(.int (0 : Int32)), (.ref b19), (.ref b19), (.ref b18), (.ref b18)]))
        refine Go.step (fun _ k => XS.iloadN X_19.here hx rfl (hb hby d_method_2_code_58) rfl  k) ?_
        show Go p e below _ (T_19.setTop (mkF m 59 #[.val (.int p1), .val (.int c0), .val (.int c1), .val (.int c2), .val (.int c3), .val (.int c4), .val (.int c5)] [(.int c0), (.int (0 : Int32)), (.ref b19), (.ref b19), (.ref b18), (.ref b18)]))
        obtain ⟨cl_20, Ar_20, ck_20, Sz_20, Ng_20, Hs_20, Gs_20⟩ := V_19
        have hin_20 : ¬ ((0 : Int32) < 0 ∨ cl_20.slots.size ≤ ((0 : Int32)).toNatClampNeg) := inb_of Sz_20 ⟨by decide, by decide⟩
        obtain ⟨T_20, h_20, X_20, e_20, W_20, st_20⟩ := stC X_19 hx hZ e_19 Ar_20 (j := (0 : Int32)) hin_20 (g := (mkF m 59 #[.val (.int p1), .val (.int c0), .val (.int c1), .val (.int c2), .val (.int c3), .val (.int c4), .val (.int c5)] [(.int c0), (.int (0 : Int32)), (.ref b19), (.ref b19), (.ref b18), (.ref b18)])) rfl rfl (hb hby d_method_2_code_59)
        refine Go.step st_20 ?_
        have N_20 := Fr.snoc X_20 N0 g_b19
        have le_20 : h_19.size ≤ h_20.size := Nat.le_of_eq W_20.size.symm
        have KP_20 := KP_19.wr W_20 (Or.inr sz_b19)
        have O_20 := O_19.wr W_20 g_b19
        have V_20 : Arv Z h_20 b19 k_19 .char (3 : Int32) [(.int c0), (.int (0 : Int32)), (.int (0 : Int32))] (.int (0 : Int32)) := by
          have q := Arv.set Ar_20 ck_20 Sz_20 Ng_20 Hs_20 Gs_20 (fits_nar_char _) W_20 0 rfl (Nat.le_of_ble_eq_true rfl)
          rw [nar_lat l_c0] at q; exact q
        show Go p e below _ (T_20.setTop (mkF m 60 #[.val (.int p1), .val (.int c0), .val (.int c1), .val (.int c2), .val (.int c3), .val (.int c4), .val (.int c5)] [(.ref b19), (.ref b18), (.ref b18)]))
        refine Go.step (fun _ k => XS.dup X_20.here hx rfl (hb hby d_method_2_code_60) rfl rfl k) ?_
        show Go p e below _ (T_20.setTop (mkF m 61 #[.val (.int p1), .val (.int c0), .val (.int c1), .val (.int c2), .val (.int c3), .val (.int c4), .val (.int c5)] [(.ref b19), (.ref b19), (.ref b18), (.ref b18)]))
        refine Go.step (fun _ k => XS.iconst X_20.here hx rfl (hb hby d_method_2_code_61) k) ?_
        show Go p e below _ (T_20.setTop (mkF m 62 #[.val (.int p1), .val (.int c0), .val (.int c1), .val (.int c2), .val (.int c3), .val (.int c4), .val (.int c5)] [(.int (1 : Int32)), (.ref b19), (.ref b19), (.ref b18), (.ref b18)]))
        refine Go.step (fun _ k => XS.iloadN X_20.here hx rfl (hb hby d_method_2_code_62) rfl  k) ?_
        show Go p e below _ (T_20.setTop (mkF m 63 #[.val (.int p1), .val (.int c0), .val (.int c1), .val (.int c2), .val (.int c3), .val (.int c4), .val (.int c5)] [(.int c1), (.int (1 : Int32)), (.ref b19), (.ref b19), (.ref b18), (.ref b18)]))
        obtain ⟨cl_21, Ar_21, ck_21, Sz_21, Ng_21, Hs_21, Gs_21⟩ := V_20
        have hin_21 : ¬ ((1 : Int32) < 0 ∨ cl_21.slots.size ≤ ((1 : Int32)).toNatClampNeg) := inb_of Sz_21 ⟨by decide, by decide⟩
        obtain ⟨T_21, h_21, X_21, e_21, W_21, st_21⟩ := stC X_20 hx hZ e_20 Ar_21 (j := (1 : Int32)) hin_21 (g := (mkF m 63 #[.val (.int p1), .val (.int c0), .val (.int c1), .val (.int c2), .val (.int c3), .val (.int c4), .val (.int c5)] [(.int c1), (.int (1 : Int32)), (.ref b19), (.ref b19), (.ref b18), (.ref b18)])) rfl rfl (hb hby d_method_2_code_63)
        refine Go.step st_21 ?_
        have N_21 := Fr.snoc X_21 N_20 g_b19
        have le_21 : h_20.size ≤ h_21.size := Nat.le_of_eq W_21.size.symm
        have KP_21 := KP_20.wr W_21 (Or.inr sz_b19)
        have O_21 := O_20.wr W_21 g_b19
        have V_21 : Arv Z h_21 b19 k_19 .char (3 : Int32) [(.int c0), (.int c1), (.int (0 : Int32))] (.int (0 : Int32)) := by
          have q := Arv.set Ar_21 ck_21 Sz_21 Ng_21 Hs_21 Gs_21 (fits_nar_char _) W_21 1 rfl (Nat.le_of_ble_eq_true rfl)
          rw [nar_lat l_c1] at q; exact q
        show Go p e below _ (T_21.setTop (mkF m 64 #[.val (.int p1), .val (.int c0), .val (.int c1), .val (.int c2), .val (.int c3), .val (.int c4), .val (.int c5)] [(.ref b19), (.ref b18), (.ref b18)]))
        refine Go.step (fun _ k => XS.dup X_21.here hx rfl (hb hby d_method_2_code_64) rfl rfl k) ?_
        show Go p e below _ (T_21.setTop (mkF m 65 #[.val (.int p1), .val (.int c0), .val (.int c1), .val (.int c2), .val (.int c3), .val (.int c4), .val (.int c5)] [(.ref b19), (.ref b19), (.ref b18), (.ref b18)]))
        refine Go.step (fun _ k => XS.iconst X_21.here hx rfl (hb hby d_method_2_code_65) k) ?_
        show Go p e below _ (T_21.setTop (mkF m 66 #[.val (.int p1), .val (.int c0), .val (.int c1), .val (.int c2), .val (.int c3), .val (.int c4), .val (.int c5)] [(.int (2 : Int32)), (.ref b19), (.ref b19), (.ref b18), (.ref b18)]))
        refine Go.step (fun _ k => XS.iloadN X_21.here hx rfl (hb hby d_method_2_code_66) rfl  k) ?_
        show Go p e below _ (T_21.setTop (mkF m 67 #[.val (.int p1), .val (.int c0), .val (.int c1), .val (.int c2), .val (.int c3), .val (.int c4), .val (.int c5)] [(.int c2), (.int (2 : Int32)), (.ref b19), (.ref b19), (.ref b18), (.ref b18)]))
        obtain ⟨cl_22, Ar_22, ck_22, Sz_22, Ng_22, Hs_22, Gs_22⟩ := V_21
        have hin_22 : ¬ ((2 : Int32) < 0 ∨ cl_22.slots.size ≤ ((2 : Int32)).toNatClampNeg) := inb_of Sz_22 ⟨by decide, by decide⟩
        obtain ⟨T_22, h_22, X_22, e_22, W_22, st_22⟩ := stC X_21 hx hZ e_21 Ar_22 (j := (2 : Int32)) hin_22 (g := (mkF m 67 #[.val (.int p1), .val (.int c0), .val (.int c1), .val (.int c2), .val (.int c3), .val (.int c4), .val (.int c5)] [(.int c2), (.int (2 : Int32)), (.ref b19), (.ref b19), (.ref b18), (.ref b18)])) rfl rfl (hb hby d_method_2_code_67)
        refine Go.step st_22 ?_
        have N_22 := Fr.snoc X_22 N_21 g_b19
        have le_22 : h_21.size ≤ h_22.size := Nat.le_of_eq W_22.size.symm
        have KP_22 := KP_21.wr W_22 (Or.inr sz_b19)
        have O_22 := O_21.wr W_22 g_b19
        have V_22 : Arv Z h_22 b19 k_19 .char (3 : Int32) [(.int c0), (.int c1), (.int c2)] (.int (0 : Int32)) := by
          have q := Arv.set Ar_22 ck_22 Sz_22 Ng_22 Hs_22 Gs_22 (fits_nar_char _) W_22 2 rfl (Nat.le_of_ble_eq_true rfl)
          rw [nar_lat l_c2] at q; exact q
        show Go p e below _ (T_22.setTop (mkF m 68 #[.val (.int p1), .val (.int c0), .val (.int c1), .val (.int c2), .val (.int c3), .val (.int c4), .val (.int c5)] [(.ref b19), (.ref b18), (.ref b18)]))
        have f23 : Exa Z h_22 b18 "java/lang/String" := ((((A_18.ext E_19).wr W_20).wr W_21).wr W_22)
        have f24 : Fld Z h_22 b18 "java/lang/String" "value" "[B" .null := ((((F_18_34.ext E_19).other W_20 (Or.inl (Nat.ne_of_lt (Nat.lt_of_lt_of_le A_18.lt (Nat.le_trans (Nat.le_refl _) ge_19))))).other W_21 (Or.inl (Nat.ne_of_lt (Nat.lt_of_lt_of_le A_18.lt (Nat.le_trans (Nat.le_refl _) ge_19))))).other W_22 (Or.inl (Nat.ne_of_lt (Nat.lt_of_lt_of_le A_18.lt (Nat.le_trans (Nat.le_refl _) ge_19)))))
        have f25 : Fld Z h_22 b18 "java/lang/String" "coder" "B" (.int (0 : Int32)) := ((((F_18_32.ext E_19).other W_20 (Or.inl (Nat.ne_of_lt (Nat.lt_of_lt_of_le A_18.lt (Nat.le_trans (Nat.le_refl _) ge_19))))).other W_21 (Or.inl (Nat.ne_of_lt (Nat.lt_of_lt_of_le A_18.lt (Nat.le_trans (Nat.le_refl _) ge_19))))).other W_22 (Or.inl (Nat.ne_of_lt (Nat.lt_of_lt_of_le A_18.lt (Nat.le_trans (Nat.le_refl _) ge_19)))))
        have hp26 : ∀ c ∈ ([c0, c1, c2] : List Int32), ¬ c < 0 ∧ ¬ (255 : Int32) < c := (latc l_c0 (latc l_c1 (latc l_c2 lat0)))
        obtain ⟨v_27, T_27, L_27, X_27, hQ_27, st_27⟩ := goC X_22 hx hZ (y := ({ cls := "java/lang/String", name := "<init>", desc := "([C)V" } : Jvm.MethodName)) hown rfl (wd_9 hw) (wd_10 hw) (wd_11 hw) (by decide) (StrChars.Road.backV (W := 1) hZ (sw_words hw) (kI := 4) (wd_6 hw) (cs := ([c0, c1, c2] : List Int32)) (bs := ([c0, c1, c2] : List Int32).map (fun c => c.toInt8.toInt32)) (n := 3) g_b18 (Nat.le_trans Z0 KP_22.1) f23 f24 f25 V_22 (S_cs.ext O_22.2) n_cs rfl rfl (by decide) (by decide) hp26 rfl (by decide) (by decide)) e_22 (g := (mkF m 68 #[.val (.int p1), .val (.int c0), .val (.int c1), .val (.int c2), .val (.int c3), .val (.int c4), .val (.int c5)] [(.ref b19), (.ref b18), (.ref b18)])) rfl (by rw [hml]; rfl) (a := b18) (argsL := [(.ref b19)]) (rest := [(.ref b18)]) rfl (lenOf pd_0 rfl) rfl (by show 2 * 0 + _ ≤ _; exact Nat.le_of_eq rfl) (hb hby d_method_2_code_68) (by decide) (by decide)
        obtain ⟨rfl, Nq_27, K_27, Ex_27, Fc_27, t_27, kb_27, -, gt_27, -, Fv_27, Av_27⟩ := hQ_27
        have N_27 := Fr.app N_22 Nq_27
        have le_27 : h_22.size ≤ T_27.heap.size := K_27.1
        have KP_27 := KP_22.trans K_27 (allS (Or.inr sz_b18) all0)
        have O_27 := O_22.keep K_27 (allS g_b18 all0)
        have Sx_27 : Str Z (T_27.heap).size (T_27.heap) b18 ([c0, c1, c2] : List Int32) := ⟨t_27, kb_27, Ex_27.lt, Av_27.lt, Ex_27, Fv_27, Fc_27, Av_27, hp26, Nat.le_of_ble_eq_true rfl⟩
        refine Go.step st_27 ?_
        show Go p e below _ (T_27.setTop (mkF m 71 #[.val (.int p1), .val (.int c0), .val (.int c1), .val (.int c2), .val (.int c3), .val (.int c4), .val (.int c5)] [(.ref b18)]))
        exact Go.retV X_27 hx hlk hret rfl (Or.inr (Or.inr (Or.inr (Or.inr ⟨rfl, rfl, rfl⟩)))) (hb hby d_method_2_code_71) (by decide) (by decide) (by exact ⟨b18, rfl, N_27, KP_27, sz_b18, (by rw [mk6, if_neg n1, if_neg n2, if_pos n3]; exact Sx_27)⟩)
      · skip
        refine Go.step (fun _ k => XS.icmpYes X0.here hx rfl (pc0 := 46) (pc' := 72) rfl (hb hby d_method_2_code_46) rfl (feq n3).2 (by decide) (by decide) k) ?_
        show Go p e below _ (s₁.setTop (mkF m 72 #[.val (.int p1), .val (.int c0), .val (.int c1), .val (.int c2), .val (.int c3), .val (.int c4), .val (.int c5)] []))
        refine Go.step (fun _ k => XS.iloadN X0.here hx rfl (hb hby d_method_2_code_72) rfl  k) ?_
        show Go p e below _ (s₁.setTop (mkF m 73 #[.val (.int p1), .val (.int c0), .val (.int c1), .val (.int c2), .val (.int c3), .val (.int c4), .val (.int c5)] [(.int p1)]))
        refine Go.step (fun _ k => XS.iconst X0.here hx rfl (hb hby d_method_2_code_73) k) ?_
        show Go p e below _ (s₁.setTop (mkF m 74 #[.val (.int p1), .val (.int c0), .val (.int c1), .val (.int c2), .val (.int c3), .val (.int c4), .val (.int c5)] [(.int (4 : Int32)), (.int p1)]))
        by_cases n4 : p1 = (4 : Int32)
        · skip
          refine Go.step (fun _ k => XS.icmpNo X0.here hx rfl (hb hby d_method_2_code_74) rfl (teq n4).2 k) ?_
          show Go p e below _ (s₁.setTop (mkF m 77 #[.val (.int p1), .val (.int c0), .val (.int c1), .val (.int c2), .val (.int c3), .val (.int c4), .val (.int c5)] []))
          obtain ⟨T_28, h_28, X_28, e_28, E_28, A_28, D_28, -, st_28⟩ := newO X0 hx hZ hown (wd_5 hw) (wd_6 hw) (wd_7 hw) e0 (g := (mkF m 77 #[.val (.int p1), .val (.int c0), .val (.int c1), .val (.int c2), .val (.int c3), .val (.int c4), .val (.int c5)] [])) rfl (hb hby d_method_2_code_77) (by decide) (by decide)
          obtain ⟨b28, q_28⟩ : ∃ z, z = h0.size := ⟨_, rfl⟩
          rw [← q_28] at A_28 D_28 st_28
          refine Go.step st_28 ?_
          have le_28 : h0.size ≤ h_28.size := E_28.1
          have KP_28 := KP0.ext E_28
          have O_28 := hO.ext E_28
          have ge_28 : h0.size ≤ b28 := Nat.le_of_eq q_28.symm
          have sz_b28 : h0.size ≤ b28 := Nat.le_trans (Nat.le_refl _) ge_28
          have g_b28 : n0 ≤ b28 := Nat.le_trans Z0 sz_b28
          have F_28_32 : Fld Z h_28 b28 "java/lang/String" "coder" "B" (.int (0 : Int32)) := D_28 (Or.inr (wd_32 hw)) (ty := .byte) pf_0
          have F_28_34 : Fld Z h_28 b28 "java/lang/String" "value" "[B" .null := D_28 (Or.inr (wd_34 hw)) (ty := (.array .byte)) pf_1
          show Go p e below _ (T_28.setTop (mkF m 80 #[.val (.int p1), .val (.int c0), .val (.int c1), .val (.int c2), .val (.int c3), .val (.int c4), .val (.int c5)] [(.ref b28)]))
          refine Go.step (fun _ k => XS.dup X_28.here hx rfl (hb hby d_method_2_code_80) rfl rfl k) ?_
          show Go p e below _ (T_28.setTop (mkF m 81 #[.val (.int p1), .val (.int c0), .val (.int c1), .val (.int c2), .val (.int c3), .val (.int c4), .val (.int c5)] [(.ref b28), (.ref b28)]))
          refine Go.step (fun _ k => XS.iconst X_28.here hx rfl (hb hby d_method_2_code_81) k) ?_
          show Go p e below _ (T_28.setTop (mkF m 82 #[.val (.int p1), .val (.int c0), .val (.int c1), .val (.int c2), .val (.int c3), .val (.int c4), .val (.int c5)] [(.int (4 : Int32)), (.ref b28), (.ref b28)]))
          obtain ⟨T_29, h_29, k_29, X_29, e_29, E_29, A_29, st_29⟩ := newP X_28 hx hZ (aty := .char) (wd_8 hw) e_28 (g := (mkF m 82 #[.val (.int p1), .val (.int c0), .val (.int c1), .val (.int c2), .val (.int c3), .val (.int c4), .val (.int c5)] [(.int (4 : Int32)), (.ref b28), (.ref b28)])) rfl (hb hby d_method_2_code_82) rfl (by decide) (cap := 4) (by decide) (by decide) (by decide) (by decide)
          obtain ⟨b29, q_29⟩ : ∃ z, z = h_28.size := ⟨_, rfl⟩
          rw [← q_29] at A_29 st_29
          refine Go.step st_29 ?_
          have le_29 : h_28.size ≤ h_29.size := E_29.1
          have KP_29 := KP_28.ext E_29
          have O_29 := O_28.ext E_29
          have ge_29 : h_28.size ≤ b29 := Nat.le_of_eq q_29.symm
          have sz_b29 : h0.size ≤ b29 := Nat.le_trans le_28 ge_29
          have g_b29 : n0 ≤ b29 := Nat.le_trans Z0 sz_b29
          have V_29 : Arv Z h_29 b29 k_29 .char (4 : Int32) [(.int (0 : Int32)), (.int (0 : Int32)), (.int (0 : Int32)), (.int (0 : Int32))] (.int (0 : Int32)) := (Arv.new A_29 (by decide)).pad (pad_rep [] (.int (0 : Int32)) 4)
          show Go p e below _ (T_29.setTop (mkF m 84 #[.val (.int p1), .val (.int c0), .val (.int c1), .val (.int c2), .val (.int c3), .val (.int c4), .val (.int c5)] [(.ref b29), (.ref b28), (.ref b28)]))
          refine Go.step (fun _ k => XS.dup X_29.here hx rfl (hb hby d_method_2_code_84) rfl rfl k) ?_
          show Go p e below _ (T_29.setTop (mkF m 85 #[.val (.int p1), .val (.int c0), .val (.int c1), .val (.int c2), .val (.int c3), .val (.int c4), .val (.int c5)] [(.ref b29), (.ref b29), (.ref b28), (.ref b28)]))
          refine Go.step (fun _ k => XS.iconst X_29.here hx rfl (hb hby d_method_2_code_85) k) ?_
          show Go p e below _ (T_29.setTop (mkF m 86 #[.val (.int p1), .val (.int c0), .val (.int c1), .val (.int c2), .val (.int c3), .val (.int c4), .val (.int c5)] [(.int (0 : Int32)), (.ref b29), (.ref b29), (.ref b28), (.ref b28)]))
          refine Go.step (fun _ k => XS.iloadN X_29.here hx rfl (hb hby d_method_2_code_86) rfl  k) ?_
          show Go p e below _ (T_29.setTop (mkF m 87 #[.val (.int p1), .val (.int c0), .val (.int c1), .val (.int c2), .val (.int c3), .val (.int c4), .val (.int c5)] [(.int c0), (.int (0 : Int32)), (.ref b29), (.ref b29), (.ref b28), (.ref b28)]))
          obtain ⟨cl_30, Ar_30, ck_30, Sz_30, Ng_30, Hs_30, Gs_30⟩ := V_29
          have hin_30 : ¬ ((0 : Int32) < 0 ∨ cl_30.slots.size ≤ ((0 : Int32)).toNatClampNeg) := inb_of Sz_30 ⟨by decide, by decide⟩
          obtain ⟨T_30, h_30, X_30, e_30, W_30, st_30⟩ := stC X_29 hx hZ e_29 Ar_30 (j := (0 : Int32)) hin_30 (g := (mkF m 87 #[.val (.int p1), .val (.int c0), .val (.int c1), .val (.int c2), .val (.int c3), .val (.int c4), .val (.int c5)] [(.int c0), (.int (0 : Int32)), (.ref b29), (.ref b29), (.ref b28), (.ref b28)])) rfl rfl (hb hby d_method_2_code_87)
          refine Go.step st_30 ?_
          have N_30 := Fr.snoc X_30 N0 g_b29
          have le_30 : h_29.size ≤ h_30.size := Nat.le_of_eq W_30.size.symm
          have KP_30 := KP_29.wr W_30 (Or.inr sz_b29)
          have O_30 := O_29.wr W_30 g_b29
          have V_30 : Arv Z h_30 b29 k_29 .char (4 : Int32) [(.int c0), (.int (0 : Int32)), (.int (0 : Int32)), (.int (0 : Int32))] (.int (0 : Int32)) := by
            have q := Arv.set Ar_30 ck_30 Sz_30 Ng_30 Hs_30 Gs_30 (fits_nar_char _) W_30 0 rfl (Nat.le_of_ble_eq_true rfl)
            rw [nar_lat l_c0] at q; exact q
          show Go p e below _ (T_30.setTop (mkF m 88 #[.val (.int p1), .val (.int c0), .val (.int c1), .val (.int c2), .val (.int c3), .val (.int c4), .val (.int c5)] [(.ref b29), (.ref b28), (.ref b28)]))
          refine Go.step (fun _ k => XS.dup X_30.here hx rfl (hb hby d_method_2_code_88) rfl rfl k) ?_
          show Go p e below _ (T_30.setTop (mkF m 89 #[.val (.int p1), .val (.int c0), .val (.int c1), .val (.int c2), .val (.int c3), .val (.int c4), .val (.int c5)] [(.ref b29), (.ref b29), (.ref b28), (.ref b28)]))
          refine Go.step (fun _ k => XS.iconst X_30.here hx rfl (hb hby d_method_2_code_89) k) ?_
          show Go p e below _ (T_30.setTop (mkF m 90 #[.val (.int p1), .val (.int c0), .val (.int c1), .val (.int c2), .val (.int c3), .val (.int c4), .val (.int c5)] [(.int (1 : Int32)), (.ref b29), (.ref b29), (.ref b28), (.ref b28)]))
          refine Go.step (fun _ k => XS.iloadN X_30.here hx rfl (hb hby d_method_2_code_90) rfl  k) ?_
          show Go p e below _ (T_30.setTop (mkF m 91 #[.val (.int p1), .val (.int c0), .val (.int c1), .val (.int c2), .val (.int c3), .val (.int c4), .val (.int c5)] [(.int c1), (.int (1 : Int32)), (.ref b29), (.ref b29), (.ref b28), (.ref b28)]))
          obtain ⟨cl_31, Ar_31, ck_31, Sz_31, Ng_31, Hs_31, Gs_31⟩ := V_30
          have hin_31 : ¬ ((1 : Int32) < 0 ∨ cl_31.slots.size ≤ ((1 : Int32)).toNatClampNeg) := inb_of Sz_31 ⟨by decide, by decide⟩
          obtain ⟨T_31, h_31, X_31, e_31, W_31, st_31⟩ := stC X_30 hx hZ e_30 Ar_31 (j := (1 : Int32)) hin_31 (g := (mkF m 91 #[.val (.int p1), .val (.int c0), .val (.int c1), .val (.int c2), .val (.int c3), .val (.int c4), .val (.int c5)] [(.int c1), (.int (1 : Int32)), (.ref b29), (.ref b29), (.ref b28), (.ref b28)])) rfl rfl (hb hby d_method_2_code_91)
          refine Go.step st_31 ?_
          have N_31 := Fr.snoc X_31 N_30 g_b29
          have le_31 : h_30.size ≤ h_31.size := Nat.le_of_eq W_31.size.symm
          have KP_31 := KP_30.wr W_31 (Or.inr sz_b29)
          have O_31 := O_30.wr W_31 g_b29
          have V_31 : Arv Z h_31 b29 k_29 .char (4 : Int32) [(.int c0), (.int c1), (.int (0 : Int32)), (.int (0 : Int32))] (.int (0 : Int32)) := by
            have q := Arv.set Ar_31 ck_31 Sz_31 Ng_31 Hs_31 Gs_31 (fits_nar_char _) W_31 1 rfl (Nat.le_of_ble_eq_true rfl)
            rw [nar_lat l_c1] at q; exact q
          show Go p e below _ (T_31.setTop (mkF m 92 #[.val (.int p1), .val (.int c0), .val (.int c1), .val (.int c2), .val (.int c3), .val (.int c4), .val (.int c5)] [(.ref b29), (.ref b28), (.ref b28)]))
          refine Go.step (fun _ k => XS.dup X_31.here hx rfl (hb hby d_method_2_code_92) rfl rfl k) ?_
          show Go p e below _ (T_31.setTop (mkF m 93 #[.val (.int p1), .val (.int c0), .val (.int c1), .val (.int c2), .val (.int c3), .val (.int c4), .val (.int c5)] [(.ref b29), (.ref b29), (.ref b28), (.ref b28)]))
          refine Go.step (fun _ k => XS.iconst X_31.here hx rfl (hb hby d_method_2_code_93) k) ?_
          show Go p e below _ (T_31.setTop (mkF m 94 #[.val (.int p1), .val (.int c0), .val (.int c1), .val (.int c2), .val (.int c3), .val (.int c4), .val (.int c5)] [(.int (2 : Int32)), (.ref b29), (.ref b29), (.ref b28), (.ref b28)]))
          refine Go.step (fun _ k => XS.iloadN X_31.here hx rfl (hb hby d_method_2_code_94) rfl  k) ?_
          show Go p e below _ (T_31.setTop (mkF m 95 #[.val (.int p1), .val (.int c0), .val (.int c1), .val (.int c2), .val (.int c3), .val (.int c4), .val (.int c5)] [(.int c2), (.int (2 : Int32)), (.ref b29), (.ref b29), (.ref b28), (.ref b28)]))
          obtain ⟨cl_32, Ar_32, ck_32, Sz_32, Ng_32, Hs_32, Gs_32⟩ := V_31
          have hin_32 : ¬ ((2 : Int32) < 0 ∨ cl_32.slots.size ≤ ((2 : Int32)).toNatClampNeg) := inb_of Sz_32 ⟨by decide, by decide⟩
          obtain ⟨T_32, h_32, X_32, e_32, W_32, st_32⟩ := stC X_31 hx hZ e_31 Ar_32 (j := (2 : Int32)) hin_32 (g := (mkF m 95 #[.val (.int p1), .val (.int c0), .val (.int c1), .val (.int c2), .val (.int c3), .val (.int c4), .val (.int c5)] [(.int c2), (.int (2 : Int32)), (.ref b29), (.ref b29), (.ref b28), (.ref b28)])) rfl rfl (hb hby d_method_2_code_95)
          refine Go.step st_32 ?_
          have N_32 := Fr.snoc X_32 N_31 g_b29
          have le_32 : h_31.size ≤ h_32.size := Nat.le_of_eq W_32.size.symm
          have KP_32 := KP_31.wr W_32 (Or.inr sz_b29)
          have O_32 := O_31.wr W_32 g_b29
          have V_32 : Arv Z h_32 b29 k_29 .char (4 : Int32) [(.int c0), (.int c1), (.int c2), (.int (0 : Int32))] (.int (0 : Int32)) := by
            have q := Arv.set Ar_32 ck_32 Sz_32 Ng_32 Hs_32 Gs_32 (fits_nar_char _) W_32 2 rfl (Nat.le_of_ble_eq_true rfl)
            rw [nar_lat l_c2] at q; exact q
          show Go p e below _ (T_32.setTop (mkF m 96 #[.val (.int p1), .val (.int c0), .val (.int c1), .val (.int c2), .val (.int c3), .val (.int c4), .val (.int c5)] [(.ref b29), (.ref b28), (.ref b28)]))
          refine Go.step (fun _ k => XS.dup X_32.here hx rfl (hb hby d_method_2_code_96) rfl rfl k) ?_
          show Go p e below _ (T_32.setTop (mkF m 97 #[.val (.int p1), .val (.int c0), .val (.int c1), .val (.int c2), .val (.int c3), .val (.int c4), .val (.int c5)] [(.ref b29), (.ref b29), (.ref b28), (.ref b28)]))
          refine Go.step (fun _ k => XS.iconst X_32.here hx rfl (hb hby d_method_2_code_97) k) ?_
          show Go p e below _ (T_32.setTop (mkF m 98 #[.val (.int p1), .val (.int c0), .val (.int c1), .val (.int c2), .val (.int c3), .val (.int c4), .val (.int c5)] [(.int (3 : Int32)), (.ref b29), (.ref b29), (.ref b28), (.ref b28)]))
          refine Go.step (fun _ k => XS.iload X_32.here hx rfl (hb hby d_method_2_code_98) rfl  k) ?_
          show Go p e below _ (T_32.setTop (mkF m 100 #[.val (.int p1), .val (.int c0), .val (.int c1), .val (.int c2), .val (.int c3), .val (.int c4), .val (.int c5)] [(.int c3), (.int (3 : Int32)), (.ref b29), (.ref b29), (.ref b28), (.ref b28)]))
          obtain ⟨cl_33, Ar_33, ck_33, Sz_33, Ng_33, Hs_33, Gs_33⟩ := V_32
          have hin_33 : ¬ ((3 : Int32) < 0 ∨ cl_33.slots.size ≤ ((3 : Int32)).toNatClampNeg) := inb_of Sz_33 ⟨by decide, by decide⟩
          obtain ⟨T_33, h_33, X_33, e_33, W_33, st_33⟩ := stC X_32 hx hZ e_32 Ar_33 (j := (3 : Int32)) hin_33 (g := (mkF m 100 #[.val (.int p1), .val (.int c0), .val (.int c1), .val (.int c2), .val (.int c3), .val (.int c4), .val (.int c5)] [(.int c3), (.int (3 : Int32)), (.ref b29), (.ref b29), (.ref b28), (.ref b28)])) rfl rfl (hb hby d_method_2_code_100)
          refine Go.step st_33 ?_
          have N_33 := Fr.snoc X_33 N_32 g_b29
          have le_33 : h_32.size ≤ h_33.size := Nat.le_of_eq W_33.size.symm
          have KP_33 := KP_32.wr W_33 (Or.inr sz_b29)
          have O_33 := O_32.wr W_33 g_b29
          have V_33 : Arv Z h_33 b29 k_29 .char (4 : Int32) [(.int c0), (.int c1), (.int c2), (.int c3)] (.int (0 : Int32)) := by
            have q := Arv.set Ar_33 ck_33 Sz_33 Ng_33 Hs_33 Gs_33 (fits_nar_char _) W_33 3 rfl (Nat.le_of_ble_eq_true rfl)
            rw [nar_lat l_c3] at q; exact q
          show Go p e below _ (T_33.setTop (mkF m 101 #[.val (.int p1), .val (.int c0), .val (.int c1), .val (.int c2), .val (.int c3), .val (.int c4), .val (.int c5)] [(.ref b29), (.ref b28), (.ref b28)]))
          have f34 : Exa Z h_33 b28 "java/lang/String" := (((((A_28.ext E_29).wr W_30).wr W_31).wr W_32).wr W_33)
          have f35 : Fld Z h_33 b28 "java/lang/String" "value" "[B" .null := (((((F_28_34.ext E_29).other W_30 (Or.inl (Nat.ne_of_lt (Nat.lt_of_lt_of_le A_28.lt (Nat.le_trans (Nat.le_refl _) ge_29))))).other W_31 (Or.inl (Nat.ne_of_lt (Nat.lt_of_lt_of_le A_28.lt (Nat.le_trans (Nat.le_refl _) ge_29))))).other W_32 (Or.inl (Nat.ne_of_lt (Nat.lt_of_lt_of_le A_28.lt (Nat.le_trans (Nat.le_refl _) ge_29))))).other W_33 (Or.inl (Nat.ne_of_lt (Nat.lt_of_lt_of_le A_28.lt (Nat.le_trans (Nat.le_refl _) ge_29)))))
          have f36 : Fld Z h_33 b28 "java/lang/String" "coder" "B" (.int (0 : Int32)) := (((((F_28_32.ext E_29).other W_30 (Or.inl (Nat.ne_of_lt (Nat.lt_of_lt_of_le A_28.lt (Nat.le_trans (Nat.le_refl _) ge_29))))).other W_31 (Or.inl (Nat.ne_of_lt (Nat.lt_of_lt_of_le A_28.lt (Nat.le_trans (Nat.le_refl _) ge_29))))).other W_32 (Or.inl (Nat.ne_of_lt (Nat.lt_of_lt_of_le A_28.lt (Nat.le_trans (Nat.le_refl _) ge_29))))).other W_33 (Or.inl (Nat.ne_of_lt (Nat.lt_of_lt_of_le A_28.lt (Nat.le_trans (Nat.le_refl _) ge_29)))))
          have hp37 : ∀ c ∈ ([c0, c1, c2, c3] : List Int32), ¬ c < 0 ∧ ¬ (255 : Int32) < c := (latc l_c0 (latc l_c1 (latc l_c2 (latc l_c3 lat0))))
          obtain ⟨v_38, T_38, L_38, X_38, hQ_38, st_38⟩ := goC X_33 hx hZ (y := ({ cls := "java/lang/String", name := "<init>", desc := "([C)V" } : Jvm.MethodName)) hown rfl (wd_9 hw) (wd_10 hw) (wd_11 hw) (by decide) (StrChars.Road.backV (W := 1) hZ (sw_words hw) (kI := 4) (wd_6 hw) (cs := ([c0, c1, c2, c3] : List Int32)) (bs := ([c0, c1, c2, c3] : List Int32).map (fun c => c.toInt8.toInt32)) (n := 4) g_b28 (Nat.le_trans Z0 KP_33.1) f34 f35 f36 V_33 (S_cs.ext O_33.2) n_cs rfl rfl (by decide) (by decide) hp37 rfl (by decide) (by decide)) e_33 (g := (mkF m 101 #[.val (.int p1), .val (.int c0), .val (.int c1), .val (.int c2), .val (.int c3), .val (.int c4), .val (.int c5)] [(.ref b29), (.ref b28), (.ref b28)])) rfl (by rw [hml]; rfl) (a := b28) (argsL := [(.ref b29)]) (rest := [(.ref b28)]) rfl (lenOf pd_0 rfl) rfl (by show 2 * 0 + _ ≤ _; exact Nat.le_of_eq rfl) (hb hby d_method_2_code_101) (by decide) (by decide)
          obtain ⟨rfl, Nq_38, K_38, Ex_38, Fc_38, t_38, kb_38, -, gt_38, -, Fv_38, Av_38⟩ := hQ_38
          have N_38 := Fr.app N_33 Nq_38
          have le_38 : h_33.size ≤ T_38.heap.size := K_38.1
          have KP_38 := KP_33.trans K_38 (allS (Or.inr sz_b28) all0)
          have O_38 := O_33.keep K_38 (allS g_b28 all0)
          have Sx_38 : Str Z (T_38.heap).size (T_38.heap) b28 ([c0, c1, c2, c3] : List Int32) := ⟨t_38, kb_38, Ex_38.lt, Av_38.lt, Ex_38, Fv_38, Fc_38, Av_38, hp37, Nat.le_of_ble_eq_true rfl⟩
          refine Go.step st_38 ?_
          show Go p e below _ (T_38.setTop (mkF m 104 #[.val (.int p1), .val (.int c0), .val (.int c1), .val (.int c2), .val (.int c3), .val (.int c4), .val (.int c5)] [(.ref b28)]))
          exact Go.retV X_38 hx hlk hret rfl (Or.inr (Or.inr (Or.inr (Or.inr ⟨rfl, rfl, rfl⟩)))) (hb hby d_method_2_code_104) (by decide) (by decide) (by exact ⟨b28, rfl, N_38, KP_38, sz_b28, (by rw [mk6, if_neg n1, if_neg n2, if_neg n3, if_pos n4]; exact Sx_38)⟩)
        · skip
          refine Go.step (fun _ k => XS.icmpYes X0.here hx rfl (pc0 := 74) (pc' := 105) rfl (hb hby d_method_2_code_74) rfl (feq n4).2 (by decide) (by decide) k) ?_
          show Go p e below _ (s₁.setTop (mkF m 105 #[.val (.int p1), .val (.int c0), .val (.int c1), .val (.int c2), .val (.int c3), .val (.int c4), .val (.int c5)] []))
          refine Go.step (fun _ k => XS.iloadN X0.here hx rfl (hb hby d_method_2_code_105) rfl  k) ?_
          show Go p e below _ (s₁.setTop (mkF m 106 #[.val (.int p1), .val (.int c0), .val (.int c1), .val (.int c2), .val (.int c3), .val (.int c4), .val (.int c5)] [(.int p1)]))
          refine Go.step (fun _ k => XS.iconst X0.here hx rfl (hb hby d_method_2_code_106) k) ?_
          show Go p e below _ (s₁.setTop (mkF m 107 #[.val (.int p1), .val (.int c0), .val (.int c1), .val (.int c2), .val (.int c3), .val (.int c4), .val (.int c5)] [(.int (5 : Int32)), (.int p1)]))
          by_cases n5 : p1 = (5 : Int32)
          · skip
            refine Go.step (fun _ k => XS.icmpNo X0.here hx rfl (hb hby d_method_2_code_107) rfl (teq n5).2 k) ?_
            show Go p e below _ (s₁.setTop (mkF m 110 #[.val (.int p1), .val (.int c0), .val (.int c1), .val (.int c2), .val (.int c3), .val (.int c4), .val (.int c5)] []))
            obtain ⟨T_39, h_39, X_39, e_39, E_39, A_39, D_39, -, st_39⟩ := newO X0 hx hZ hown (wd_5 hw) (wd_6 hw) (wd_7 hw) e0 (g := (mkF m 110 #[.val (.int p1), .val (.int c0), .val (.int c1), .val (.int c2), .val (.int c3), .val (.int c4), .val (.int c5)] [])) rfl (hb hby d_method_2_code_110) (by decide) (by decide)
            obtain ⟨b39, q_39⟩ : ∃ z, z = h0.size := ⟨_, rfl⟩
            rw [← q_39] at A_39 D_39 st_39
            refine Go.step st_39 ?_
            have le_39 : h0.size ≤ h_39.size := E_39.1
            have KP_39 := KP0.ext E_39
            have O_39 := hO.ext E_39
            have ge_39 : h0.size ≤ b39 := Nat.le_of_eq q_39.symm
            have sz_b39 : h0.size ≤ b39 := Nat.le_trans (Nat.le_refl _) ge_39
            have g_b39 : n0 ≤ b39 := Nat.le_trans Z0 sz_b39
            have F_39_32 : Fld Z h_39 b39 "java/lang/String" "coder" "B" (.int (0 : Int32)) := D_39 (Or.inr (wd_32 hw)) (ty := .byte) pf_0
            have F_39_34 : Fld Z h_39 b39 "java/lang/String" "value" "[B" .null := D_39 (Or.inr (wd_34 hw)) (ty := (.array .byte)) pf_1
            show Go p e below _ (T_39.setTop (mkF m 113 #[.val (.int p1), .val (.int c0), .val (.int c1), .val (.int c2), .val (.int c3), .val (.int c4), .val (.int c5)] [(.ref b39)]))
            refine Go.step (fun _ k => XS.dup X_39.here hx rfl (hb hby d_method_2_code_113) rfl rfl k) ?_
            show Go p e below _ (T_39.setTop (mkF m 114 #[.val (.int p1), .val (.int c0), .val (.int c1), .val (.int c2), .val (.int c3), .val (.int c4), .val (.int c5)] [(.ref b39), (.ref b39)]))
            refine Go.step (fun _ k => XS.iconst X_39.here hx rfl (hb hby d_method_2_code_114) k) ?_
            show Go p e below _ (T_39.setTop (mkF m 115 #[.val (.int p1), .val (.int c0), .val (.int c1), .val (.int c2), .val (.int c3), .val (.int c4), .val (.int c5)] [(.int (5 : Int32)), (.ref b39), (.ref b39)]))
            obtain ⟨T_40, h_40, k_40, X_40, e_40, E_40, A_40, st_40⟩ := newP X_39 hx hZ (aty := .char) (wd_8 hw) e_39 (g := (mkF m 115 #[.val (.int p1), .val (.int c0), .val (.int c1), .val (.int c2), .val (.int c3), .val (.int c4), .val (.int c5)] [(.int (5 : Int32)), (.ref b39), (.ref b39)])) rfl (hb hby d_method_2_code_115) rfl (by decide) (cap := 5) (by decide) (by decide) (by decide) (by decide)
            obtain ⟨b40, q_40⟩ : ∃ z, z = h_39.size := ⟨_, rfl⟩
            rw [← q_40] at A_40 st_40
            refine Go.step st_40 ?_
            have le_40 : h_39.size ≤ h_40.size := E_40.1
            have KP_40 := KP_39.ext E_40
            have O_40 := O_39.ext E_40
            have ge_40 : h_39.size ≤ b40 := Nat.le_of_eq q_40.symm
            have sz_b40 : h0.size ≤ b40 := Nat.le_trans le_39 ge_40
            have g_b40 : n0 ≤ b40 := Nat.le_trans Z0 sz_b40
            have V_40 : Arv Z h_40 b40 k_40 .char (5 : Int32) [(.int (0 : Int32)), (.int (0 : Int32)), (.int (0 : Int32)), (.int (0 : Int32)), (.int (0 : Int32))] (.int (0 : Int32)) := (Arv.new A_40 (by decide)).pad (pad_rep [] (.int (0 : Int32)) 5)
            show Go p e below _ (T_40.setTop (mkF m 117 #[.val (.int p1), .val (.int c0), .val (.int c1), .val (.int c2), .val (.int c3), .val (.int c4), .val (.int c5)] [(.ref b40), (.ref b39), (.ref b39)]))
            refine Go.step (fun _ k => XS.dup X_40.here hx rfl (hb hby d_method_2_code_117) rfl rfl k) ?_
            show Go p e below _ (T_40.setTop (mkF m 118 #[.val (.int p1), .val (.int c0), .val (.int c1), .val (.int c2), .val (.int c3), .val (.int c4), .val (.int c5)] [(.ref b40), (.ref b40), (.ref b39), (.ref b39)]))
            refine Go.step (fun _ k => XS.iconst X_40.here hx rfl (hb hby d_method_2_code_118) k) ?_
            show Go p e below _ (T_40.setTop (mkF m 119 #[.val (.int p1), .val (.int c0), .val (.int c1), .val (.int c2), .val (.int c3), .val (.int c4), .val (.int c5)] [(.int (0 : Int32)), (.ref b40), (.ref b40), (.ref b39), (.ref b39)]))
            refine Go.step (fun _ k => XS.iloadN X_40.here hx rfl (hb hby d_method_2_code_119) rfl  k) ?_
            show Go p e below _ (T_40.setTop (mkF m 120 #[.val (.int p1), .val (.int c0), .val (.int c1), .val (.int c2), .val (.int c3), .val (.int c4), .val (.int c5)] [(.int c0), (.int (0 : Int32)), (.ref b40), (.ref b40), (.ref b39), (.ref b39)]))
            obtain ⟨cl_41, Ar_41, ck_41, Sz_41, Ng_41, Hs_41, Gs_41⟩ := V_40
            have hin_41 : ¬ ((0 : Int32) < 0 ∨ cl_41.slots.size ≤ ((0 : Int32)).toNatClampNeg) := inb_of Sz_41 ⟨by decide, by decide⟩
            obtain ⟨T_41, h_41, X_41, e_41, W_41, st_41⟩ := stC X_40 hx hZ e_40 Ar_41 (j := (0 : Int32)) hin_41 (g := (mkF m 120 #[.val (.int p1), .val (.int c0), .val (.int c1), .val (.int c2), .val (.int c3), .val (.int c4), .val (.int c5)] [(.int c0), (.int (0 : Int32)), (.ref b40), (.ref b40), (.ref b39), (.ref b39)])) rfl rfl (hb hby d_method_2_code_120)
            refine Go.step st_41 ?_
            have N_41 := Fr.snoc X_41 N0 g_b40
            have le_41 : h_40.size ≤ h_41.size := Nat.le_of_eq W_41.size.symm
            have KP_41 := KP_40.wr W_41 (Or.inr sz_b40)
            have O_41 := O_40.wr W_41 g_b40
            have V_41 : Arv Z h_41 b40 k_40 .char (5 : Int32) [(.int c0), (.int (0 : Int32)), (.int (0 : Int32)), (.int (0 : Int32)), (.int (0 : Int32))] (.int (0 : Int32)) := by
              have q := Arv.set Ar_41 ck_41 Sz_41 Ng_41 Hs_41 Gs_41 (fits_nar_char _) W_41 0 rfl (Nat.le_of_ble_eq_true rfl)
              rw [nar_lat l_c0] at q; exact q
            show Go p e below _ (T_41.setTop (mkF m 121 #[.val (.int p1), .val (.int c0), .val (.int c1), .val (.int c2), .val (.int c3), .val (.int c4), .val (.int c5)] [(.ref b40), (.ref b39), (.ref b39)]))
            refine Go.step (fun _ k => XS.dup X_41.here hx rfl (hb hby d_method_2_code_121) rfl rfl k) ?_
            show Go p e below _ (T_41.setTop (mkF m 122 #[.val (.int p1), .val (.int c0), .val (.int c1), .val (.int c2), .val (.int c3), .val (.int c4), .val (.int c5)] [(.ref b40), (.ref b40), (.ref b39), (.ref b39)]))
            refine Go.step (fun _ k => XS.iconst X_41.here hx rfl (hb hby d_method_2_code_122) k) ?_
            show Go p e below _ (T_41.setTop (mkF m 123 #[.val (.int p1), .val (.int c0), .val (.int c1), .val (.int c2), .val (.int c3), .val (.int c4), .val (.int c5)] [(.int (1 : Int32)), (.ref b40), (.ref b40), (.ref b39), (.ref b39)]))
            refine Go.step (fun _ k => XS.iloadN X_41.here hx rfl (hb hby d_method_2_code_123) rfl  k) ?_
            show Go p e below _ (T_41.setTop (mkF m 124 #[.val (.int p1), .val (.int c0), .val (.int c1), .val (.int c2), .val (.int c3), .val (.int c4), .val (.int c5)] [(.int c1), (.int (1 : Int32)), (.ref b40), (.ref b40), (.ref b39), (.ref b39)]))
            obtain ⟨cl_42, Ar_42, ck_42, Sz_42, Ng_42, Hs_42, Gs_42⟩ := V_41
            have hin_42 : ¬ ((1 : Int32) < 0 ∨ cl_42.slots.size ≤ ((1 : Int32)).toNatClampNeg) := inb_of Sz_42 ⟨by decide, by decide⟩
            obtain ⟨T_42, h_42, X_42, e_42, W_42, st_42⟩ := stC X_41 hx hZ e_41 Ar_42 (j := (1 : Int32)) hin_42 (g := (mkF m 124 #[.val (.int p1), .val (.int c0), .val (.int c1), .val (.int c2), .val (.int c3), .val (.int c4), .val (.int c5)] [(.int c1), (.int (1 : Int32)), (.ref b40), (.ref b40), (.ref b39), (.ref b39)])) rfl rfl (hb hby d_method_2_code_124)
            refine Go.step st_42 ?_
            have N_42 := Fr.snoc X_42 N_41 g_b40
            have le_42 : h_41.size ≤ h_42.size := Nat.le_of_eq W_42.size.symm
            have KP_42 := KP_41.wr W_42 (Or.inr sz_b40)
            have O_42 := O_41.wr W_42 g_b40
            have V_42 : Arv Z h_42 b40 k_40 .char (5 : Int32) [(.int c0), (.int c1), (.int (0 : Int32)), (.int (0 : Int32)), (.int (0 : Int32))] (.int (0 : Int32)) := by
              have q := Arv.set Ar_42 ck_42 Sz_42 Ng_42 Hs_42 Gs_42 (fits_nar_char _) W_42 1 rfl (Nat.le_of_ble_eq_true rfl)
              rw [nar_lat l_c1] at q; exact q
            show Go p e below _ (T_42.setTop (mkF m 125 #[.val (.int p1), .val (.int c0), .val (.int c1), .val (.int c2), .val (.int c3), .val (.int c4), .val (.int c5)] [(.ref b40), (.ref b39), (.ref b39)]))
            refine Go.step (fun _ k => XS.dup X_42.here hx rfl (hb hby d_method_2_code_125) rfl rfl k) ?_
            show Go p e below _ (T_42.setTop (mkF m 126 #[.val (.int p1), .val (.int c0), .val (.int c1), .val (.int c2), .val (.int c3), .val (.int c4), .val (.int c5)] [(.ref b40), (.ref b40), (.ref b39), (.ref b39)]))
            refine Go.step (fun _ k => XS.iconst X_42.here hx rfl (hb hby d_method_2_code_126) k) ?_
            show Go p e below _ (T_42.setTop (mkF m 127 #[.val (.int p1), .val (.int c0), .val (.int c1), .val (.int c2), .val (.int c3), .val (.int c4), .val (.int c5)] [(.int (2 : Int32)), (.ref b40), (.ref b40), (.ref b39), (.ref b39)]))
            refine Go.step (fun _ k => XS.iloadN X_42.here hx rfl (hb hby d_method_2_code_127) rfl  k) ?_
            show Go p e below _ (T_42.setTop (mkF m 128 #[.val (.int p1), .val (.int c0), .val (.int c1), .val (.int c2), .val (.int c3), .val (.int c4), .val (.int c5)] [(.int c2), (.int (2 : Int32)), (.ref b40), (.ref b40), (.ref b39), (.ref b39)]))
            obtain ⟨cl_43, Ar_43, ck_43, Sz_43, Ng_43, Hs_43, Gs_43⟩ := V_42
            have hin_43 : ¬ ((2 : Int32) < 0 ∨ cl_43.slots.size ≤ ((2 : Int32)).toNatClampNeg) := inb_of Sz_43 ⟨by decide, by decide⟩
            obtain ⟨T_43, h_43, X_43, e_43, W_43, st_43⟩ := stC X_42 hx hZ e_42 Ar_43 (j := (2 : Int32)) hin_43 (g := (mkF m 128 #[.val (.int p1), .val (.int c0), .val (.int c1), .val (.int c2), .val (.int c3), .val (.int c4), .val (.int c5)] [(.int c2), (.int (2 : Int32)), (.ref b40), (.ref b40), (.ref b39), (.ref b39)])) rfl rfl (hb hby d_method_2_code_128)
            refine Go.step st_43 ?_
            have N_43 := Fr.snoc X_43 N_42 g_b40
            have le_43 : h_42.size ≤ h_43.size := Nat.le_of_eq W_43.size.symm
            have KP_43 := KP_42.wr W_43 (Or.inr sz_b40)
            have O_43 := O_42.wr W_43 g_b40
            have V_43 : Arv Z h_43 b40 k_40 .char (5 : Int32) [(.int c0), (.int c1), (.int c2), (.int (0 : Int32)), (.int (0 : Int32))] (.int (0 : Int32)) := by
              have q := Arv.set Ar_43 ck_43 Sz_43 Ng_43 Hs_43 Gs_43 (fits_nar_char _) W_43 2 rfl (Nat.le_of_ble_eq_true rfl)
              rw [nar_lat l_c2] at q; exact q
            show Go p e below _ (T_43.setTop (mkF m 129 #[.val (.int p1), .val (.int c0), .val (.int c1), .val (.int c2), .val (.int c3), .val (.int c4), .val (.int c5)] [(.ref b40), (.ref b39), (.ref b39)]))
            refine Go.step (fun _ k => XS.dup X_43.here hx rfl (hb hby d_method_2_code_129) rfl rfl k) ?_
            show Go p e below _ (T_43.setTop (mkF m 130 #[.val (.int p1), .val (.int c0), .val (.int c1), .val (.int c2), .val (.int c3), .val (.int c4), .val (.int c5)] [(.ref b40), (.ref b40), (.ref b39), (.ref b39)]))
            refine Go.step (fun _ k => XS.iconst X_43.here hx rfl (hb hby d_method_2_code_130) k) ?_
            show Go p e below _ (T_43.setTop (mkF m 131 #[.val (.int p1), .val (.int c0), .val (.int c1), .val (.int c2), .val (.int c3), .val (.int c4), .val (.int c5)] [(.int (3 : Int32)), (.ref b40), (.ref b40), (.ref b39), (.ref b39)]))
            refine Go.step (fun _ k => XS.iload X_43.here hx rfl (hb hby d_method_2_code_131) rfl  k) ?_
            show Go p e below _ (T_43.setTop (mkF m 133 #[.val (.int p1), .val (.int c0), .val (.int c1), .val (.int c2), .val (.int c3), .val (.int c4), .val (.int c5)] [(.int c3), (.int (3 : Int32)), (.ref b40), (.ref b40), (.ref b39), (.ref b39)]))
            obtain ⟨cl_44, Ar_44, ck_44, Sz_44, Ng_44, Hs_44, Gs_44⟩ := V_43
            have hin_44 : ¬ ((3 : Int32) < 0 ∨ cl_44.slots.size ≤ ((3 : Int32)).toNatClampNeg) := inb_of Sz_44 ⟨by decide, by decide⟩
            obtain ⟨T_44, h_44, X_44, e_44, W_44, st_44⟩ := stC X_43 hx hZ e_43 Ar_44 (j := (3 : Int32)) hin_44 (g := (mkF m 133 #[.val (.int p1), .val (.int c0), .val (.int c1), .val (.int c2), .val (.int c3), .val (.int c4), .val (.int c5)] [(.int c3), (.int (3 : Int32)), (.ref b40), (.ref b40), (.ref b39), (.ref b39)])) rfl rfl (hb hby d_method_2_code_133)
            refine Go.step st_44 ?_
            have N_44 := Fr.snoc X_44 N_43 g_b40
            have le_44 : h_43.size ≤ h_44.size := Nat.le_of_eq W_44.size.symm
            have KP_44 := KP_43.wr W_44 (Or.inr sz_b40)
            have O_44 := O_43.wr W_44 g_b40
            have V_44 : Arv Z h_44 b40 k_40 .char (5 : Int32) [(.int c0), (.int c1), (.int c2), (.int c3), (.int (0 : Int32))] (.int (0 : Int32)) := by
              have q := Arv.set Ar_44 ck_44 Sz_44 Ng_44 Hs_44 Gs_44 (fits_nar_char _) W_44 3 rfl (Nat.le_of_ble_eq_true rfl)
              rw [nar_lat l_c3] at q; exact q
            show Go p e below _ (T_44.setTop (mkF m 134 #[.val (.int p1), .val (.int c0), .val (.int c1), .val (.int c2), .val (.int c3), .val (.int c4), .val (.int c5)] [(.ref b40), (.ref b39), (.ref b39)]))
            refine Go.step (fun _ k => XS.dup X_44.here hx rfl (hb hby d_method_2_code_134) rfl rfl k) ?_
            show Go p e below _ (T_44.setTop (mkF m 135 #[.val (.int p1), .val (.int c0), .val (.int c1), .val (.int c2), .val (.int c3), .val (.int c4), .val (.int c5)] [(.ref b40), (.ref b40), (.ref b39), (.ref b39)]))
            refine Go.step (fun _ k => XS.iconst X_44.here hx rfl (hb hby d_method_2_code_135) k) ?_
            show Go p e below _ (T_44.setTop (mkF m 136 #[.val (.int p1), .val (.int c0), .val (.int c1), .val (.int c2), .val (.int c3), .val (.int c4), .val (.int c5)] [(.int (4 : Int32)), (.ref b40), (.ref b40), (.ref b39), (.ref b39)]))
            refine Go.step (fun _ k => XS.iload X_44.here hx rfl (hb hby d_method_2_code_136) rfl  k) ?_
            show Go p e below _ (T_44.setTop (mkF m 138 #[.val (.int p1), .val (.int c0), .val (.int c1), .val (.int c2), .val (.int c3), .val (.int c4), .val (.int c5)] [(.int c4), (.int (4 : Int32)), (.ref b40), (.ref b40), (.ref b39), (.ref b39)]))
            obtain ⟨cl_45, Ar_45, ck_45, Sz_45, Ng_45, Hs_45, Gs_45⟩ := V_44
            have hin_45 : ¬ ((4 : Int32) < 0 ∨ cl_45.slots.size ≤ ((4 : Int32)).toNatClampNeg) := inb_of Sz_45 ⟨by decide, by decide⟩
            obtain ⟨T_45, h_45, X_45, e_45, W_45, st_45⟩ := stC X_44 hx hZ e_44 Ar_45 (j := (4 : Int32)) hin_45 (g := (mkF m 138 #[.val (.int p1), .val (.int c0), .val (.int c1), .val (.int c2), .val (.int c3), .val (.int c4), .val (.int c5)] [(.int c4), (.int (4 : Int32)), (.ref b40), (.ref b40), (.ref b39), (.ref b39)])) rfl rfl (hb hby d_method_2_code_138)
            refine Go.step st_45 ?_
            have N_45 := Fr.snoc X_45 N_44 g_b40
            have le_45 : h_44.size ≤ h_45.size := Nat.le_of_eq W_45.size.symm
            have KP_45 := KP_44.wr W_45 (Or.inr sz_b40)
            have O_45 := O_44.wr W_45 g_b40
            have V_45 : Arv Z h_45 b40 k_40 .char (5 : Int32) [(.int c0), (.int c1), (.int c2), (.int c3), (.int c4)] (.int (0 : Int32)) := by
              have q := Arv.set Ar_45 ck_45 Sz_45 Ng_45 Hs_45 Gs_45 (fits_nar_char _) W_45 4 rfl (Nat.le_of_ble_eq_true rfl)
              rw [nar_lat l_c4] at q; exact q
            show Go p e below _ (T_45.setTop (mkF m 139 #[.val (.int p1), .val (.int c0), .val (.int c1), .val (.int c2), .val (.int c3), .val (.int c4), .val (.int c5)] [(.ref b40), (.ref b39), (.ref b39)]))
            have f46 : Exa Z h_45 b39 "java/lang/String" := ((((((A_39.ext E_40).wr W_41).wr W_42).wr W_43).wr W_44).wr W_45)
            have f47 : Fld Z h_45 b39 "java/lang/String" "value" "[B" .null := ((((((F_39_34.ext E_40).other W_41 (Or.inl (Nat.ne_of_lt (Nat.lt_of_lt_of_le A_39.lt (Nat.le_trans (Nat.le_refl _) ge_40))))).other W_42 (Or.inl (Nat.ne_of_lt (Nat.lt_of_lt_of_le A_39.lt (Nat.le_trans (Nat.le_refl _) ge_40))))).other W_43 (Or.inl (Nat.ne_of_lt (Nat.lt_of_lt_of_le A_39.lt (Nat.le_trans (Nat.le_refl _) ge_40))))).other W_44 (Or.inl (Nat.ne_of_lt (Nat.lt_of_lt_of_le A_39.lt (Nat.le_trans (Nat.le_refl _) ge_40))))).other W_45 (Or.inl (Nat.ne_of_lt (Nat.lt_of_lt_of_le A_39.lt (Nat.le_trans (Nat.le_refl _) ge_40)))))
            have f48 : Fld Z h_45 b39 "java/lang/String" "coder" "B" (.int (0 : Int32)) := ((((((F_39_32.ext E_40).other W_41 (Or.inl (Nat.ne_of_lt (Nat.lt_of_lt_of_le A_39.lt (Nat.le_trans (Nat.le_refl _) ge_40))))).other W_42 (Or.inl (Nat.ne_of_lt (Nat.lt_of_lt_of_le A_39.lt (Nat.le_trans (Nat.le_refl _) ge_40))))).other W_43 (Or.inl (Nat.ne_of_lt (Nat.lt_of_lt_of_le A_39.lt (Nat.le_trans (Nat.le_refl _) ge_40))))).other W_44 (Or.inl (Nat.ne_of_lt (Nat.lt_of_lt_of_le A_39.lt (Nat.le_trans (Nat.le_refl _) ge_40))))).other W_45 (Or.inl (Nat.ne_of_lt (Nat.lt_of_lt_of_le A_39.lt (Nat.le_trans (Nat.le_refl _) ge_40)))))
            have hp49 : ∀ c ∈ ([c0, c1, c2, c3, c4] : List Int32), ¬ c < 0 ∧ ¬ (255 : Int32) < c := (latc l_c0 (latc l_c1 (latc l_c2 (latc l_c3 (latc l_c4 lat0)))))
            obtain ⟨v_50, T_50, L_50, X_50, hQ_50, st_50⟩ := goC X_45 hx hZ (y := ({ cls := "java/lang/String", name := "<init>", desc := "([C)V" } : Jvm.MethodName)) hown rfl (wd_9 hw) (wd_10 hw) (wd_11 hw) (by decide) (StrChars.Road.backV (W := 1) hZ (sw_words hw) (kI := 4) (wd_6 hw) (cs := ([c0, c1, c2, c3, c4] : List Int32)) (bs := ([c0, c1, c2, c3, c4] : List Int32).map (fun c => c.toInt8.toInt32)) (n := 5) g_b39 (Nat.le_trans Z0 KP_45.1) f46 f47 f48 V_45 (S_cs.ext O_45.2) n_cs rfl rfl (by decide) (by decide) hp49 rfl (by decide) (by decide)) e_45 (g := (mkF m 139 #[.val (.int p1), .val (.int c0), .val (.int c1), .val (.int c2), .val (.int c3), .val (.int c4), .val (.int c5)] [(.ref b40), (.ref b39), (.ref b39)])) rfl (by rw [hml]; rfl) (a := b39) (argsL := [(.ref b40)]) (rest := [(.ref b39)]) rfl (lenOf pd_0 rfl) rfl (by show 2 * 0 + _ ≤ _; exact Nat.le_of_eq rfl) (hb hby d_method_2_code_139) (by decide) (by decide)
            obtain ⟨rfl, Nq_50, K_50, Ex_50, Fc_50, t_50, kb_50, -, gt_50, -, Fv_50, Av_50⟩ := hQ_50
            have N_50 := Fr.app N_45 Nq_50
            have le_50 : h_45.size ≤ T_50.heap.size := K_50.1
            have KP_50 := KP_45.trans K_50 (allS (Or.inr sz_b39) all0)
            have O_50 := O_45.keep K_50 (allS g_b39 all0)
            have Sx_50 : Str Z (T_50.heap).size (T_50.heap) b39 ([c0, c1, c2, c3, c4] : List Int32) := ⟨t_50, kb_50, Ex_50.lt, Av_50.lt, Ex_50, Fv_50, Fc_50, Av_50, hp49, Nat.le_of_ble_eq_true rfl⟩
            refine Go.step st_50 ?_
            show Go p e below _ (T_50.setTop (mkF m 142 #[.val (.int p1), .val (.int c0), .val (.int c1), .val (.int c2), .val (.int c3), .val (.int c4), .val (.int c5)] [(.ref b39)]))
            exact Go.retV X_50 hx hlk hret rfl (Or.inr (Or.inr (Or.inr (Or.inr ⟨rfl, rfl, rfl⟩)))) (hb hby d_method_2_code_142) (by decide) (by decide) (by exact ⟨b39, rfl, N_50, KP_50, sz_b39, (by rw [mk6, if_neg n1, if_neg n2, if_neg n3, if_neg n4, if_pos n5]; exact Sx_50)⟩)
          · skip
            refine Go.step (fun _ k => XS.icmpYes X0.here hx rfl (pc0 := 107) (pc' := 143) rfl (hb hby d_method_2_code_107) rfl (feq n5).2 (by decide) (by decide) k) ?_
            show Go p e below _ (s₁.setTop (mkF m 143 #[.val (.int p1), .val (.int c0), .val (.int c1), .val (.int c2), .val (.int c3), .val (.int c4), .val (.int c5)] []))
            obtain ⟨T_51, h_51, X_51, e_51, E_51, A_51, D_51, -, st_51⟩ := newO X0 hx hZ hown (wd_5 hw) (wd_6 hw) (wd_7 hw) e0 (g := (mkF m 143 #[.val (.int p1), .val (.int c0), .val (.int c1), .val (.int c2), .val (.int c3), .val (.int c4), .val (.int c5)] [])) rfl (hb hby d_method_2_code_143) (by decide) (by decide)
            obtain ⟨b51, q_51⟩ : ∃ z, z = h0.size := ⟨_, rfl⟩
            rw [← q_51] at A_51 D_51 st_51
            refine Go.step st_51 ?_
            have le_51 : h0.size ≤ h_51.size := E_51.1
            have KP_51 := KP0.ext E_51
            have O_51 := hO.ext E_51
            have ge_51 : h0.size ≤ b51 := Nat.le_of_eq q_51.symm
            have sz_b51 : h0.size ≤ b51 := Nat.le_trans (Nat.le_refl _) ge_51
            have g_b51 : n0 ≤ b51 := Nat.le_trans Z0 sz_b51
            have F_51_32 : Fld Z h_51 b51 "java/lang/String" "coder" "B" (.int (0 : Int32)) := D_51 (Or.inr (wd_32 hw)) (ty := .byte) pf_0
            have F_51_34 : Fld Z h_51 b51 "java/lang/String" "value" "[B" .null := D_51 (Or.inr (wd_34 hw)) (ty := (.array .byte)) pf_1
            show Go p e below _ (T_51.setTop (mkF m 146 #[.val (.int p1), .val (.int c0), .val (.int c1), .val (.int c2), .val (.int c3), .val (.int c4), .val (.int c5)] [(.ref b51)]))
            refine Go.step (fun _ k => XS.dup X_51.here hx rfl (hb hby d_method_2_code_146) rfl rfl k) ?_
            show Go p e below _ (T_51.setTop (mkF m 147 #[.val (.int p1), .val (.int c0), .val (.int c1), .val (.int c2), .val (.int c3), .val (.int c4), .val (.int c5)] [(.ref b51), (.ref b51)]))
            refine Go.step (fun _ k => XS.bipush X_51.here hx rfl (hb hby d_method_2_code_147) k) ?_
            show Go p e below _ (T_51.setTop (mkF m 149 #[.val (.int p1), .val (.int c0), .val (.int c1), .val (.int c2), .val (.int c3), .val (.int c4), .val (.int c5)] [(.int (6 : Int32)), (.ref b51), (.ref b51)]))
            obtain ⟨T_52, h_52, k_52, X_52, e_52, E_52, A_52, st_52⟩ := newP X_51 hx hZ (aty := .char) (wd_8 hw) e_51 (g := (mkF m 149 #[.val (.int p1), .val (.int c0), .val (.int c1), .val (.int c2), .val (.int c3), .val (.int c4), .val (.int c5)] [(.int (6 : Int32)), (.ref b51), (.ref b51)])) rfl (hb hby d_method_2_code_149) rfl (by decide) (cap := 6) (by decide) (by decide) (by decide) (by decide)
            obtain ⟨b52, q_52⟩ : ∃ z, z = h_51.size := ⟨_, rfl⟩
            rw [← q_52] at A_52 st_52
            refine Go.step st_52 ?_
            have le_52 : h_51.size ≤ h_52.size := E_52.1
            have KP_52 := KP_51.ext E_52
            have O_52 := O_51.ext E_52
            have ge_52 : h_51.size ≤ b52 := Nat.le_of_eq q_52.symm
            have sz_b52 : h0.size ≤ b52 := Nat.le_trans le_51 ge_52
            have g_b52 : n0 ≤ b52 := Nat.le_trans Z0 sz_b52
            have V_52 : Arv Z h_52 b52 k_52 .char (6 : Int32) [(.int (0 : Int32)), (.int (0 : Int32)), (.int (0 : Int32)), (.int (0 : Int32)), (.int (0 : Int32)), (.int (0 : Int32))] (.int (0 : Int32)) := (Arv.new A_52 (by decide)).pad (pad_rep [] (.int (0 : Int32)) 6)
            show Go p e below _ (T_52.setTop (mkF m 151 #[.val (.int p1), .val (.int c0), .val (.int c1), .val (.int c2), .val (.int c3), .val (.int c4), .val (.int c5)] [(.ref b52), (.ref b51), (.ref b51)]))
            refine Go.step (fun _ k => XS.dup X_52.here hx rfl (hb hby d_method_2_code_151) rfl rfl k) ?_
            show Go p e below _ (T_52.setTop (mkF m 152 #[.val (.int p1), .val (.int c0), .val (.int c1), .val (.int c2), .val (.int c3), .val (.int c4), .val (.int c5)] [(.ref b52), (.ref b52), (.ref b51), (.ref b51)]))
            refine Go.step (fun _ k => XS.iconst X_52.here hx rfl (hb hby d_method_2_code_152) k) ?_
            show Go p e below _ (T_52.setTop (mkF m 153 #[.val (.int p1), .val (.int c0), .val (.int c1), .val (.int c2), .val (.int c3), .val (.int c4), .val (.int c5)] [(.int (0 : Int32)), (.ref b52), (.ref b52), (.ref b51), (.ref b51)]))
            refine Go.step (fun _ k => XS.iloadN X_52.here hx rfl (hb hby d_method_2_code_153) rfl  k) ?_
            show Go p e below _ (T_52.setTop (mkF m 154 #[.val (.int p1), .val (.int c0), .val (.int c1), .val (.int c2), .val (.int c3), .val (.int c4), .val (.int c5)] [(.int c0), (.int (0 : Int32)), (.ref b52), (.ref b52), (.ref b51), (.ref b51)]))
            obtain ⟨cl_53, Ar_53, ck_53, Sz_53, Ng_53, Hs_53, Gs_53⟩ := V_52
            have hin_53 : ¬ ((0 : Int32) < 0 ∨ cl_53.slots.size ≤ ((0 : Int32)).toNatClampNeg) := inb_of Sz_53 ⟨by decide, by decide⟩
            obtain ⟨T_53, h_53, X_53, e_53, W_53, st_53⟩ := stC X_52 hx hZ e_52 Ar_53 (j := (0 : Int32)) hin_53 (g := (mkF m 154 #[.val (.int p1), .val (.int c0), .val (.int c1), .val (.int c2), .val (.int c3), .val (.int c4), .val (.int c5)] [(.int c0), (.int (0 : Int32)), (.ref b52), (.ref b52), (.ref b51), (.ref b51)])) rfl rfl (hb hby d_method_2_code_154)
            refine Go.step st_53 ?_
            have N_53 := Fr.snoc X_53 N0 g_b52
            have le_53 : h_52.size ≤ h_53.size := Nat.le_of_eq W_53.size.symm
            have KP_53 := KP_52.wr W_53 (Or.inr sz_b52)
            have O_53 := O_52.wr W_53 g_b52
            have V_53 : Arv Z h_53 b52 k_52 .char (6 : Int32) [(.int c0), (.int (0 : Int32)), (.int (0 : Int32)), (.int (0 : Int32)), (.int (0 : Int32)), (.int (0 : Int32))] (.int (0 : Int32)) := by
              have q := Arv.set Ar_53 ck_53 Sz_53 Ng_53 Hs_53 Gs_53 (fits_nar_char _) W_53 0 rfl (Nat.le_of_ble_eq_true rfl)
              rw [nar_lat l_c0] at q; exact q
            show Go p e below _ (T_53.setTop (mkF m 155 #[.val (.int p1), .val (.int c0), .val (.int c1), .val (.int c2), .val (.int c3), .val (.int c4), .val (.int c5)] [(.ref b52), (.ref b51), (.ref b51)]))
            refine Go.step (fun _ k => XS.dup X_53.here hx rfl (hb hby d_method_2_code_155) rfl rfl k) ?_
            show Go p e below _ (T_53.setTop (mkF m 156 #[.val (.int p1), .val (.int c0), .val (.int c1), .val (.int c2), .val (.int c3), .val (.int c4), .val (.int c5)] [(.ref b52), (.ref b52), (.ref b51), (.ref b51)]))
            refine Go.step (fun _ k => XS.iconst X_53.here hx rfl (hb hby d_method_2_code_156) k) ?_
            show Go p e below _ (T_53.setTop (mkF m 157 #[.val (.int p1), .val (.int c0), .val (.int c1), .val (.int c2), .val (.int c3), .val (.int c4), .val (.int c5)] [(.int (1 : Int32)), (.ref b52), (.ref b52), (.ref b51), (.ref b51)]))
            refine Go.step (fun _ k => XS.iloadN X_53.here hx rfl (hb hby d_method_2_code_157) rfl  k) ?_
            show Go p e below _ (T_53.setTop (mkF m 158 #[.val (.int p1), .val (.int c0), .val (.int c1), .val (.int c2), .val (.int c3), .val (.int c4), .val (.int c5)] [(.int c1), (.int (1 : Int32)), (.ref b52), (.ref b52), (.ref b51), (.ref b51)]))
            obtain ⟨cl_54, Ar_54, ck_54, Sz_54, Ng_54, Hs_54, Gs_54⟩ := V_53
            have hin_54 : ¬ ((1 : Int32) < 0 ∨ cl_54.slots.size ≤ ((1 : Int32)).toNatClampNeg) := inb_of Sz_54 ⟨by decide, by decide⟩
            obtain ⟨T_54, h_54, X_54, e_54, W_54, st_54⟩ := stC X_53 hx hZ e_53 Ar_54 (j := (1 : Int32)) hin_54 (g := (mkF m 158 #[.val (.int p1), .val (.int c0), .val (.int c1), .val (.int c2), .val (.int c3), .val (.int c4), .val (.int c5)] [(.int c1), (.int (1 : Int32)), (.ref b52), (.ref b52), (.ref b51), (.ref b51)])) rfl rfl (hb hby d_method_2_code_158)
            refine Go.step st_54 ?_
            have N_54 := Fr.snoc X_54 N_53 g_b52
            have le_54 : h_53.size ≤ h_54.size := Nat.le_of_eq W_54.size.symm
            have KP_54 := KP_53.wr W_54 (Or.inr sz_b52)
            have O_54 := O_53.wr W_54 g_b52
            have V_54 : Arv Z h_54 b52 k_52 .char (6 : Int32) [(.int c0), (.int c1), (.int (0 : Int32)), (.int (0 : Int32)), (.int (0 : Int32)), (.int (0 : Int32))] (.int (0 : Int32)) := by
              have q := Arv.set Ar_54 ck_54 Sz_54 Ng_54 Hs_54 Gs_54 (fits_nar_char _) W_54 1 rfl (Nat.le_of_ble_eq_true rfl)
              rw [nar_lat l_c1] at q; exact q
            show Go p e below _ (T_54.setTop (mkF m 159 #[.val (.int p1), .val (.int c0), .val (.int c1), .val (.int c2), .val (.int c3), .val (.int c4), .val (.int c5)] [(.ref b52), (.ref b51), (.ref b51)]))
            refine Go.step (fun _ k => XS.dup X_54.here hx rfl (hb hby d_method_2_code_159) rfl rfl k) ?_
            show Go p e below _ (T_54.setTop (mkF m 160 #[.val (.int p1), .val (.int c0), .val (.int c1), .val (.int c2), .val (.int c3), .val (.int c4), .val (.int c5)] [(.ref b52), (.ref b52), (.ref b51), (.ref b51)]))
            refine Go.step (fun _ k => XS.iconst X_54.here hx rfl (hb hby d_method_2_code_160) k) ?_
            show Go p e below _ (T_54.setTop (mkF m 161 #[.val (.int p1), .val (.int c0), .val (.int c1), .val (.int c2), .val (.int c3), .val (.int c4), .val (.int c5)] [(.int (2 : Int32)), (.ref b52), (.ref b52), (.ref b51), (.ref b51)]))
            refine Go.step (fun _ k => XS.iloadN X_54.here hx rfl (hb hby d_method_2_code_161) rfl  k) ?_
            show Go p e below _ (T_54.setTop (mkF m 162 #[.val (.int p1), .val (.int c0), .val (.int c1), .val (.int c2), .val (.int c3), .val (.int c4), .val (.int c5)] [(.int c2), (.int (2 : Int32)), (.ref b52), (.ref b52), (.ref b51), (.ref b51)]))
            obtain ⟨cl_55, Ar_55, ck_55, Sz_55, Ng_55, Hs_55, Gs_55⟩ := V_54
            have hin_55 : ¬ ((2 : Int32) < 0 ∨ cl_55.slots.size ≤ ((2 : Int32)).toNatClampNeg) := inb_of Sz_55 ⟨by decide, by decide⟩
            obtain ⟨T_55, h_55, X_55, e_55, W_55, st_55⟩ := stC X_54 hx hZ e_54 Ar_55 (j := (2 : Int32)) hin_55 (g := (mkF m 162 #[.val (.int p1), .val (.int c0), .val (.int c1), .val (.int c2), .val (.int c3), .val (.int c4), .val (.int c5)] [(.int c2), (.int (2 : Int32)), (.ref b52), (.ref b52), (.ref b51), (.ref b51)])) rfl rfl (hb hby d_method_2_code_162)
            refine Go.step st_55 ?_
            have N_55 := Fr.snoc X_55 N_54 g_b52
            have le_55 : h_54.size ≤ h_55.size := Nat.le_of_eq W_55.size.symm
            have KP_55 := KP_54.wr W_55 (Or.inr sz_b52)
            have O_55 := O_54.wr W_55 g_b52
            have V_55 : Arv Z h_55 b52 k_52 .char (6 : Int32) [(.int c0), (.int c1), (.int c2), (.int (0 : Int32)), (.int (0 : Int32)), (.int (0 : Int32))] (.int (0 : Int32)) := by
              have q := Arv.set Ar_55 ck_55 Sz_55 Ng_55 Hs_55 Gs_55 (fits_nar_char _) W_55 2 rfl (Nat.le_of_ble_eq_true rfl)
              rw [nar_lat l_c2] at q; exact q
            show Go p e below _ (T_55.setTop (mkF m 163 #[.val (.int p1), .val (.int c0), .val (.int c1), .val (.int c2), .val (.int c3), .val (.int c4), .val (.int c5)] [(.ref b52), (.ref b51), (.ref b51)]))
            refine Go.step (fun _ k => XS.dup X_55.here hx rfl (hb hby d_method_2_code_163) rfl rfl k) ?_
            show Go p e below _ (T_55.setTop (mkF m 164 #[.val (.int p1), .val (.int c0), .val (.int c1), .val (.int c2), .val (.int c3), .val (.int c4), .val (.int c5)] [(.ref b52), (.ref b52), (.ref b51), (.ref b51)]))
            refine Go.step (fun _ k => XS.iconst X_55.here hx rfl (hb hby d_method_2_code_164) k) ?_
            show Go p e below _ (T_55.setTop (mkF m 165 #[.val (.int p1), .val (.int c0), .val (.int c1), .val (.int c2), .val (.int c3), .val (.int c4), .val (.int c5)] [(.int (3 : Int32)), (.ref b52), (.ref b52), (.ref b51), (.ref b51)]))
            refine Go.step (fun _ k => XS.iload X_55.here hx rfl (hb hby d_method_2_code_165) rfl  k) ?_
            show Go p e below _ (T_55.setTop (mkF m 167 #[.val (.int p1), .val (.int c0), .val (.int c1), .val (.int c2), .val (.int c3), .val (.int c4), .val (.int c5)] [(.int c3), (.int (3 : Int32)), (.ref b52), (.ref b52), (.ref b51), (.ref b51)]))
            obtain ⟨cl_56, Ar_56, ck_56, Sz_56, Ng_56, Hs_56, Gs_56⟩ := V_55
            have hin_56 : ¬ ((3 : Int32) < 0 ∨ cl_56.slots.size ≤ ((3 : Int32)).toNatClampNeg) := inb_of Sz_56 ⟨by decide, by decide⟩
            obtain ⟨T_56, h_56, X_56, e_56, W_56, st_56⟩ := stC X_55 hx hZ e_55 Ar_56 (j := (3 : Int32)) hin_56 (g := (mkF m 167 #[.val (.int p1), .val (.int c0), .val (.int c1), .val (.int c2), .val (.int c3), .val (.int c4), .val (.int c5)] [(.int c3), (.int (3 : Int32)), (.ref b52), (.ref b52), (.ref b51), (.ref b51)])) rfl rfl (hb hby d_method_2_code_167)
            refine Go.step st_56 ?_
            have N_56 := Fr.snoc X_56 N_55 g_b52
            have le_56 : h_55.size ≤ h_56.size := Nat.le_of_eq W_56.size.symm
            have KP_56 := KP_55.wr W_56 (Or.inr sz_b52)
            have O_56 := O_55.wr W_56 g_b52
            have V_56 : Arv Z h_56 b52 k_52 .char (6 : Int32) [(.int c0), (.int c1), (.int c2), (.int c3), (.int (0 : Int32)), (.int (0 : Int32))] (.int (0 : Int32)) := by
              have q := Arv.set Ar_56 ck_56 Sz_56 Ng_56 Hs_56 Gs_56 (fits_nar_char _) W_56 3 rfl (Nat.le_of_ble_eq_true rfl)
              rw [nar_lat l_c3] at q; exact q
            show Go p e below _ (T_56.setTop (mkF m 168 #[.val (.int p1), .val (.int c0), .val (.int c1), .val (.int c2), .val (.int c3), .val (.int c4), .val (.int c5)] [(.ref b52), (.ref b51), (.ref b51)]))
            refine Go.step (fun _ k => XS.dup X_56.here hx rfl (hb hby d_method_2_code_168) rfl rfl k) ?_
            show Go p e below _ (T_56.setTop (mkF m 169 #[.val (.int p1), .val (.int c0), .val (.int c1), .val (.int c2), .val (.int c3), .val (.int c4), .val (.int c5)] [(.ref b52), (.ref b52), (.ref b51), (.ref b51)]))
            refine Go.step (fun _ k => XS.iconst X_56.here hx rfl (hb hby d_method_2_code_169) k) ?_
            show Go p e below _ (T_56.setTop (mkF m 170 #[.val (.int p1), .val (.int c0), .val (.int c1), .val (.int c2), .val (.int c3), .val (.int c4), .val (.int c5)] [(.int (4 : Int32)), (.ref b52), (.ref b52), (.ref b51), (.ref b51)]))
            refine Go.step (fun _ k => XS.iload X_56.here hx rfl (hb hby d_method_2_code_170) rfl  k) ?_
            show Go p e below _ (T_56.setTop (mkF m 172 #[.val (.int p1), .val (.int c0), .val (.int c1), .val (.int c2), .val (.int c3), .val (.int c4), .val (.int c5)] [(.int c4), (.int (4 : Int32)), (.ref b52), (.ref b52), (.ref b51), (.ref b51)]))
            obtain ⟨cl_57, Ar_57, ck_57, Sz_57, Ng_57, Hs_57, Gs_57⟩ := V_56
            have hin_57 : ¬ ((4 : Int32) < 0 ∨ cl_57.slots.size ≤ ((4 : Int32)).toNatClampNeg) := inb_of Sz_57 ⟨by decide, by decide⟩
            obtain ⟨T_57, h_57, X_57, e_57, W_57, st_57⟩ := stC X_56 hx hZ e_56 Ar_57 (j := (4 : Int32)) hin_57 (g := (mkF m 172 #[.val (.int p1), .val (.int c0), .val (.int c1), .val (.int c2), .val (.int c3), .val (.int c4), .val (.int c5)] [(.int c4), (.int (4 : Int32)), (.ref b52), (.ref b52), (.ref b51), (.ref b51)])) rfl rfl (hb hby d_method_2_code_172)
            refine Go.step st_57 ?_
            have N_57 := Fr.snoc X_57 N_56 g_b52
            have le_57 : h_56.size ≤ h_57.size := Nat.le_of_eq W_57.size.symm
            have KP_57 := KP_56.wr W_57 (Or.inr sz_b52)
            have O_57 := O_56.wr W_57 g_b52
            have V_57 : Arv Z h_57 b52 k_52 .char (6 : Int32) [(.int c0), (.int c1), (.int c2), (.int c3), (.int c4), (.int (0 : Int32))] (.int (0 : Int32)) := by
              have q := Arv.set Ar_57 ck_57 Sz_57 Ng_57 Hs_57 Gs_57 (fits_nar_char _) W_57 4 rfl (Nat.le_of_ble_eq_true rfl)
              rw [nar_lat l_c4] at q; exact q
            show Go p e below _ (T_57.setTop (mkF m 173 #[.val (.int p1), .val (.int c0), .val (.int c1), .val (.int c2), .val (.int c3), .val (.int c4), .val (.int c5)] [(.ref b52), (.ref b51), (.ref b51)]))
            refine Go.step (fun _ k => XS.dup X_57.here hx rfl (hb hby d_method_2_code_173) rfl rfl k) ?_
            show Go p e below _ (T_57.setTop (mkF m 174 #[.val (.int p1), .val (.int c0), .val (.int c1), .val (.int c2), .val (.int c3), .val (.int c4), .val (.int c5)] [(.ref b52), (.ref b52), (.ref b51), (.ref b51)]))
            refine Go.step (fun _ k => XS.iconst X_57.here hx rfl (hb hby d_method_2_code_174) k) ?_
            show Go p e below _ (T_57.setTop (mkF m 175 #[.val (.int p1), .val (.int c0), .val (.int c1), .val (.int c2), .val (.int c3), .val (.int c4), .val (.int c5)] [(.int (5 : Int32)), (.ref b52), (.ref b52), (.ref b51), (.ref b51)]))
            refine Go.step (fun _ k => XS.iload X_57.here hx rfl (hb hby d_method_2_code_175) rfl  k) ?_
            show Go p e below _ (T_57.setTop (mkF m 177 #[.val (.int p1), .val (.int c0), .val (.int c1), .val (.int c2), .val (.int c3), .val (.int c4), .val (.int c5)] [(.int c5), (.int (5 : Int32)), (.ref b52), (.ref b52), (.ref b51), (.ref b51)]))
            obtain ⟨cl_58, Ar_58, ck_58, Sz_58, Ng_58, Hs_58, Gs_58⟩ := V_57
            have hin_58 : ¬ ((5 : Int32) < 0 ∨ cl_58.slots.size ≤ ((5 : Int32)).toNatClampNeg) := inb_of Sz_58 ⟨by decide, by decide⟩
            obtain ⟨T_58, h_58, X_58, e_58, W_58, st_58⟩ := stC X_57 hx hZ e_57 Ar_58 (j := (5 : Int32)) hin_58 (g := (mkF m 177 #[.val (.int p1), .val (.int c0), .val (.int c1), .val (.int c2), .val (.int c3), .val (.int c4), .val (.int c5)] [(.int c5), (.int (5 : Int32)), (.ref b52), (.ref b52), (.ref b51), (.ref b51)])) rfl rfl (hb hby d_method_2_code_177)
            refine Go.step st_58 ?_
            have N_58 := Fr.snoc X_58 N_57 g_b52
            have le_58 : h_57.size ≤ h_58.size := Nat.le_of_eq W_58.size.symm
            have KP_58 := KP_57.wr W_58 (Or.inr sz_b52)
            have O_58 := O_57.wr W_58 g_b52
            have V_58 : Arv Z h_58 b52 k_52 .char (6 : Int32) [(.int c0), (.int c1), (.int c2), (.int c3), (.int c4), (.int c5)] (.int (0 : Int32)) := by
              have q := Arv.set Ar_58 ck_58 Sz_58 Ng_58 Hs_58 Gs_58 (fits_nar_char _) W_58 5 rfl (Nat.le_of_ble_eq_true rfl)
              rw [nar_lat l_c5] at q; exact q
            show Go p e below _ (T_58.setTop (mkF m 178 #[.val (.int p1), .val (.int c0), .val (.int c1), .val (.int c2), .val (.int c3), .val (.int c4), .val (.int c5)] [(.ref b52), (.ref b51), (.ref b51)]))
            have f59 : Exa Z h_58 b51 "java/lang/String" := (((((((A_51.ext E_52).wr W_53).wr W_54).wr W_55).wr W_56).wr W_57).wr W_58)
            have f60 : Fld Z h_58 b51 "java/lang/String" "value" "[B" .null := (((((((F_51_34.ext E_52).other W_53 (Or.inl (Nat.ne_of_lt (Nat.lt_of_lt_of_le A_51.lt (Nat.le_trans (Nat.le_refl _) ge_52))))).other W_54 (Or.inl (Nat.ne_of_lt (Nat.lt_of_lt_of_le A_51.lt (Nat.le_trans (Nat.le_refl _) ge_52))))).other W_55 (Or.inl (Nat.ne_of_lt (Nat.lt_of_lt_of_le A_51.lt (Nat.le_trans (Nat.le_refl _) ge_52))))).other W_56 (Or.inl (Nat.ne_of_lt (Nat.lt_of_lt_of_le A_51.lt (Nat.le_trans (Nat.le_refl _) ge_52))))).other W_57 (Or.inl (Nat.ne_of_lt (Nat.lt_of_lt_of_le A_51.lt (Nat.le_trans (Nat.le_refl _) ge_52))))).other W_58 (Or.inl (Nat.ne_of_lt (Nat.lt_of_lt_of_le A_51.lt (Nat.le_trans (Nat.le_refl _) ge_52)))))
            have f61 : Fld Z h_58 b51 "java/lang/String" "coder" "B" (.int (0 : Int32)) := (((((((F_51_32.ext E_52).other W_53 (Or.inl (Nat.ne_of_lt (Nat.lt_of_lt_of_le A_51.lt (Nat.le_trans (Nat.le_refl _) ge_52))))).other W_54 (Or.inl (Nat.ne_of_lt (Nat.lt_of_lt_of_le A_51.lt (Nat.le_trans (Nat.le_refl _) ge_52))))).other W_55 (Or.inl (Nat.ne_of_lt (Nat.lt_of_lt_of_le A_51.lt (Nat.le_trans (Nat.le_refl _) ge_52))))).other W_56 (Or.inl (Nat.ne_of_lt (Nat.lt_of_lt_of_le A_51.lt (Nat.le_trans (Nat.le_refl _) ge_52))))).other W_57 (Or.inl (Nat.ne_of_lt (Nat.lt_of_lt_of_le A_51.lt (Nat.le_trans (Nat.le_refl _) ge_52))))).other W_58 (Or.inl (Nat.ne_of_lt (Nat.lt_of_lt_of_le A_51.lt (Nat.le_trans (Nat.le_refl _) ge_52)))))
            have hp62 : ∀ c ∈ ([c0, c1, c2, c3, c4, c5] : List Int32), ¬ c < 0 ∧ ¬ (255 : Int32) < c := (latc l_c0 (latc l_c1 (latc l_c2 (latc l_c3 (latc l_c4 (latc l_c5 lat0))))))
            obtain ⟨v_63, T_63, L_63, X_63, hQ_63, st_63⟩ := goC X_58 hx hZ (y := ({ cls := "java/lang/String", name := "<init>", desc := "([C)V" } : Jvm.MethodName)) hown rfl (wd_9 hw) (wd_10 hw) (wd_11 hw) (by decide) (StrChars.Road.backV (W := 1) hZ (sw_words hw) (kI := 4) (wd_6 hw) (cs := ([c0, c1, c2, c3, c4, c5] : List Int32)) (bs := ([c0, c1, c2, c3, c4, c5] : List Int32).map (fun c => c.toInt8.toInt32)) (n := 6) g_b51 (Nat.le_trans Z0 KP_58.1) f59 f60 f61 V_58 (S_cs.ext O_58.2) n_cs rfl rfl (by decide) (by decide) hp62 rfl (by decide) (by decide)) e_58 (g := (mkF m 178 #[.val (.int p1), .val (.int c0), .val (.int c1), .val (.int c2), .val (.int c3), .val (.int c4), .val (.int c5)] [(.ref b52), (.ref b51), (.ref b51)])) rfl (by rw [hml]; rfl) (a := b51) (argsL := [(.ref b52)]) (rest := [(.ref b51)]) rfl (lenOf pd_0 rfl) rfl (by show 2 * 0 + _ ≤ _; exact Nat.le_of_eq rfl) (hb hby d_method_2_code_178) (by decide) (by decide)
            obtain ⟨rfl, Nq_63, K_63, Ex_63, Fc_63, t_63, kb_63, -, gt_63, -, Fv_63, Av_63⟩ := hQ_63
            have N_63 := Fr.app N_58 Nq_63
            have le_63 : h_58.size ≤ T_63.heap.size := K_63.1
            have KP_63 := KP_58.trans K_63 (allS (Or.inr sz_b51) all0)
            have O_63 := O_58.keep K_63 (allS g_b51 all0)
            have Sx_63 : Str Z (T_63.heap).size (T_63.heap) b51 ([c0, c1, c2, c3, c4, c5] : List Int32) := ⟨t_63, kb_63, Ex_63.lt, Av_63.lt, Ex_63, Fv_63, Fc_63, Av_63, hp62, Nat.le_of_ble_eq_true rfl⟩
            refine Go.step st_63 ?_
            show Go p e below _ (T_63.setTop (mkF m 181 #[.val (.int p1), .val (.int c0), .val (.int c1), .val (.int c2), .val (.int c3), .val (.int c4), .val (.int c5)] [(.ref b51)]))
            exact Go.retV X_63 hx hlk hret rfl (Or.inr (Or.inr (Or.inr (Or.inr ⟨rfl, rfl, rfl⟩)))) (hb hby d_method_2_code_181) (by decide) (by decide) (by exact ⟨b51, rfl, N_63, KP_63, sz_b51, (by rw [mk6, if_neg n1, if_neg n2, if_neg n3, if_neg n4, if_neg n5]; exact Sx_63)⟩)
--@E
--@C reqNN
def Q_reqNN (Z : State) (zc : Int32) (a1 : Addr) (a2 : Addr) (h0 : Heap) (n0 : Nat) (v : Option Value) (h : Heap) (L : List Loc) : Prop := v = some (.ref a1) ∧ Fr n0 L ∧ h = h0
set_option maxRecDepth 65536 in
set_option maxHeartbeats 40000000 in
theorem rm_reqNN (l : Launch) (Z : State) (a0 : Array Value) (hw : ∀ d ∈ tables_1, d.before a0 Z = true) (zc : Int32) (a1 : Addr) (a2 : Addr) (h0 : Heap) (n0 : Nat) (Z0 : n0 ≤ h0.size) (hSt : St Z zc) (hO : Old Z n0 h0) :
    CN l Z ({ cls := "java/util/Objects", name := "requireNonNull", desc := "(Ljava/lang/Object;Ljava/lang/String;)Ljava/lang/Object;" } : Jvm.MethodName) [(Jvm.Cond.code ({ cls := "java/util/Objects", name := "requireNonNull", desc := "(Ljava/lang/Object;Ljava/lang/String;)Ljava/lang/Object;" } : Jvm.MethodName) jdk_31_method_11_code (2 : Nat) (Option.some (Jvm.ClassFile.FieldType.object "java/lang/Object")))] ({ frames := 0, cells := 0, slots := 0, locals := 0 } : Room) #[(.ref a1), (.ref a2)] h0 (Q_reqNN Z zc a1 a2 h0 n0) := by
  refine CN.of (L0 := #[.val (.ref a1), .val (.ref a2)]) (plainFor_of_name pn_1) (fun m => by first | (simp [entryFrame, mkF, argsToLocals, Value.category]; done) | rfl) ?_
  intro p e s m below meth c s₁ hx hby hml hret hlk hZ hown hnm X0 e0
  have N0 := Fr.nil n0
  have KP0 := Keep.refl h0 []
  have hSt_ := hSt
  obtain ⟨S_cs, n_cs⟩ := hSt_
  show Go p e below _ (s₁.setTop (mkF m 0 #[.val (.ref a1), .val (.ref a2)] []))
  refine Go.step (fun _ k => XS.aloadN X0.here hx rfl (hb hby d_jdk_31_method_11_code_0) rfl rfl k) ?_
  show Go p e below _ (s₁.setTop (mkF m 1 #[.val (.ref a1), .val (.ref a2)] [(.ref a1)]))
  refine Go.step (fun _ k => XS.ifnonnullYes X0.here hx rfl (pc0 := 1) (pc' := 13) rfl (hb hby d_jdk_31_method_11_code_1) rfl (by decide) (by decide) k) ?_
  show Go p e below _ (s₁.setTop (mkF m 13 #[.val (.ref a1), .val (.ref a2)] []))
  refine Go.step (fun _ k => XS.aloadN X0.here hx rfl (hb hby d_jdk_31_method_11_code_13) rfl rfl k) ?_
  show Go p e below _ (s₁.setTop (mkF m 14 #[.val (.ref a1), .val (.ref a2)] [(.ref a1)]))
  exact Go.retV X0 hx hlk hret rfl (Or.inr (Or.inr (Or.inr (Or.inr ⟨rfl, rfl, rfl⟩)))) (hb hby d_jdk_31_method_11_code_14) (by decide) (by decide) (by rw [e0]; exact ⟨rfl, N0, rfl⟩)
--@E
--@C coder
def Q_coder (Z : State) (zc : Int32) (a1 : Addr) (h0 : Heap) (n0 : Nat) (v : Option Value) (h : Heap) (L : List Loc) : Prop := v = some (.int (0 : Int32)) ∧ Fr n0 L ∧ h = h0
set_option maxRecDepth 65536 in
set_option maxHeartbeats 40000000 in
theorem rm_coder (l : Launch) (Z : State) (a0 : Array Value) (hw : ∀ d ∈ tables_1, d.before a0 Z = true) (zc : Int32) (a1 : Addr) (h0 : Heap) (n0 : Nat) (Z0 : n0 ≤ h0.size) (Fc_a1 : Fld Z h0 a1 "java/lang/String" "coder" "B" (.int (0 : Int32))) (hSt : St Z zc) (hO : Old Z n0 h0) :
    CN l Z ({ cls := "java/lang/String", name := "coder", desc := "()B" } : Jvm.MethodName) [(Jvm.Cond.code ({ cls := "java/lang/String", name := "coder", desc := "()B" } : Jvm.MethodName) jdk_42_method_152_code (1 : Nat) (Option.some Jvm.ClassFile.FieldType.byte))] ({ frames := 0, cells := 0, slots := 0, locals := 0 } : Room) #[(.ref a1)] h0 (Q_coder Z zc a1 h0 n0) := by
  refine CN.of (L0 := #[.val (.ref a1)]) (plainFor_of_name pn_2) (fun m => by first | (simp [entryFrame, mkF, argsToLocals, Value.category]; done) | rfl) ?_
  intro p e s m below meth c s₁ hx hby hml hret hlk hZ hown hnm X0 e0
  have N0 := Fr.nil n0
  have KP0 := Keep.refl h0 []
  have hSt_ := hSt
  obtain ⟨S_cs, n_cs⟩ := hSt_
  show Go p e below _ (s₁.setTop (mkF m 0 #[.val (.ref a1)] []))
  obtain ⟨T_64, X_64, e_64, st_64⟩ := getS2 X0 hx hZ hown (host := "") (Or.inl (wd_19 hw)) Via.refl e0 (S_cs.ext hO.2) (g := (mkF m 0 #[.val (.ref a1)] [])) rfl (hb hby d_jdk_42_method_152_code_0)
  refine Go.step st_64 ?_
  show Go p e below _ (T_64.setTop (mkF m 3 #[.val (.ref a1)] [(.int zc)]))
  refine Go.step (fun _ k => XS.ifNo X_64.here hx rfl (hb hby d_jdk_42_method_152_code_3) rfl ((if0 _ _).trans (feq (n_cs : ¬ (zc = (0 : Int32)))).1) k) ?_
  show Go p e below _ (T_64.setTop (mkF m 6 #[.val (.ref a1)] []))
  refine Go.step (fun _ k => XS.aloadN X_64.here hx rfl (hb hby d_jdk_42_method_152_code_6) rfl rfl k) ?_
  show Go p e below _ (T_64.setTop (mkF m 7 #[.val (.ref a1)] [(.ref a1)]))
  obtain ⟨T_65, X_65, e_65, st_65⟩ := getF X_64 hx hZ hown (host := "") (Or.inl (wd_31 hw)) Via.refl e_64 Fc_a1 (g := (mkF m 7 #[.val (.ref a1)] [(.ref a1)])) rfl rfl (hb hby d_jdk_42_method_152_code_7)
  refine Go.step st_65 ?_
  show Go p e below _ (T_65.setTop (mkF m 10 #[.val (.ref a1)] [(.int (0 : Int32))]))
  refine Go.step (fun _ k => XS.goto X_65.here hx rfl (pc0 := 10) (pc' := 14) rfl (hb hby d_jdk_42_method_152_code_10) (by decide) (by decide) k) ?_
  show Go p e below _ (T_65.setTop (mkF m 14 #[.val (.ref a1)] [(.int (0 : Int32))]))
  exact Go.retV X_65 hx hlk hret rfl (Or.inl ⟨rfl, Or.inr (Or.inr (Or.inl rfl)), _, rfl⟩) (hb hby d_jdk_42_method_152_code_14) (by decide) (by decide) (by rw [e_65]; exact ⟨rfl, N0, rfl⟩)
--@E
abbrev pre (cs : List Int32) : Prop := 4 ≤ cs.length ∧ cs.getD 0 0 = (114 : Int32) ∧ cs.getD 1 0 = (112 : Int32) ∧ cs.getD 2 0 = (99 : Int32) ∧ cs.getD 3 0 = (46 : Int32)
abbrev preB (cs : List Int32) : Prop := (cs.getD 0 0).toInt8.toInt32 = (114 : Int32).toInt8.toInt32 ∧ (cs.getD 1 0).toInt8.toInt32 = (112 : Int32).toInt8.toInt32 ∧ (cs.getD 2 0).toInt8.toInt32 = (99 : Int32).toInt8.toInt32 ∧ (cs.getD 3 0).toInt8.toInt32 = (46 : Int32).toInt8.toInt32
theorem pre_of {cs : List Int32} (hl : ∀ c ∈ cs, ¬ c < 0 ∧ ¬ (255 : Int32) < c) (h : 4 ≤ cs.length) : preB cs ↔ pre cs := by
  have g : ∀ i, i < cs.length → ¬ cs.getD i 0 < 0 ∧ ¬ (255 : Int32) < cs.getD i 0 := fun i hi => by
    rw [List.getD_eq_getElem?_getD, List.getElem?_eq_getElem hi]; exact hl _ (List.getElem_mem hi)
  constructor
  · intro q
    exact ⟨h, i8_inj (g 0 (by omega)) (by decide) q.1, i8_inj (g 1 (by omega)) (by decide) q.2.1, i8_inj (g 2 (by omega)) (by decide) q.2.2.1, i8_inj (g 3 (by omega)) (by decide) q.2.2.2⟩
  · intro q
    refine ⟨by rw [q.2.1], by rw [q.2.2.1], by rw [q.2.2.2.1], by rw [q.2.2.2.2]⟩
--@C mism
def Q_mism (Z : State) (zc : Int32) (a1 : Addr) (k1 : ClassId) (a2 : Addr) (k2 : ClassId) (cs : List Int32) (h0 : Heap) (n0 : Nat) (v : Option Value) (h : Heap) (L : List Loc) : Prop := ∃ (v1 : Int32), v = some (.int v1) ∧ Fr n0 L ∧ h = h0 ∧ (v1 < 0 ↔ preB cs)
set_option maxRecDepth 65536 in
set_option maxHeartbeats 40000000 in
theorem rm_mism (l : Launch) (Z : State) (a0 : Array Value) (hw : ∀ d ∈ tables_1, d.before a0 Z = true) (zc : Int32) (a1 : Addr) (k1 : ClassId) (a2 : Addr) (k2 : ClassId) (cs : List Int32) (h0 : Heap) (n0 : Nat) (Z0 : n0 ≤ h0.size) (A_a1 : Arv Z h0 a1 k1 .byte (Int32.ofNat cs.length) ((cs.map fun c => c.toInt8.toInt32).map Value.int) (.int (0 : Int32))) (A_a2 : Arv Z h0 a2 k2 .byte (4 : Int32) [(.int (114 : Int32).toInt8.toInt32), (.int (112 : Int32).toInt8.toInt32), (.int (99 : Int32).toInt8.toInt32), (.int (46 : Int32).toInt8.toInt32)] (.int (0 : Int32))) (hn : (4 ≤ cs.length)) (hm : (cs.length ≤ 4000)) (hSt : St Z zc) (hO : Old Z n0 h0) :
    CN l Z ({ cls := "jdk/internal/util/ArraysSupport", name := "mismatch", desc := "([BI[BII)I" } : Jvm.MethodName) [(Jvm.Cond.code ({ cls := "jdk/internal/util/ArraysSupport", name := "mismatch", desc := "([BI[BII)I" } : Jvm.MethodName) jdk_48_method_14_code (8 : Nat) (Option.some Jvm.ClassFile.FieldType.int))] ({ frames := 0, cells := 0, slots := 0, locals := 0 } : Room) #[(.ref a1), (.int (0 : Int32)), (.ref a2), (.int (0 : Int32)), (.int (4 : Int32))] h0 (Q_mism Z zc a1 k1 a2 k2 cs h0 n0) := by
  refine CN.of (L0 := #[.val (.ref a1), .val (.int (0 : Int32)), .val (.ref a2), .val (.int (0 : Int32)), .val (.int (4 : Int32)), .unset, .unset, .unset]) (plainFor_of_name pn_3) (fun m => by first | (simp [entryFrame, mkF, argsToLocals, Value.category]; done) | rfl) ?_
  intro p e s m below meth c s₁ hx hby hml hret hlk hZ hown hnm X0 e0
  have N0 := Fr.nil n0
  have KP0 := Keep.refl h0 []
  have hSt_ := hSt
  obtain ⟨S_cs, n_cs⟩ := hSt_
  show Go p e below _ (s₁.setTop (mkF m 0 #[.val (.ref a1), .val (.int (0 : Int32)), .val (.ref a2), .val (.int (0 : Int32)), .val (.int (4 : Int32)), .unset, .unset, .unset] []))
  refine Go.step (fun _ k => XS.iconst X0.here hx rfl (hb hby d_jdk_48_method_14_code_0) k) ?_
  show Go p e below _ (s₁.setTop (mkF m 1 #[.val (.ref a1), .val (.int (0 : Int32)), .val (.ref a2), .val (.int (0 : Int32)), .val (.int (4 : Int32)), .unset, .unset, .unset] [(.int (0 : Int32))]))
  refine Go.step (fun _ k => XS.istore X0.here hx rfl (hb hby d_jdk_48_method_14_code_1) rfl (l' := #[.val (.ref a1), .val (.int (0 : Int32)), .val (.ref a2), .val (.int (0 : Int32)), .val (.int (4 : Int32)), .val (.int (0 : Int32)), .unset, .unset]) rfl k) ?_
  show Go p e below _ (s₁.setTop (mkF m 3 #[.val (.ref a1), .val (.int (0 : Int32)), .val (.ref a2), .val (.int (0 : Int32)), .val (.int (4 : Int32)), .val (.int (0 : Int32)), .unset, .unset] []))
  refine Go.step (fun _ k => XS.iload X0.here hx rfl (hb hby d_jdk_48_method_14_code_3) rfl  k) ?_
  show Go p e below _ (s₁.setTop (mkF m 5 #[.val (.ref a1), .val (.int (0 : Int32)), .val (.ref a2), .val (.int (0 : Int32)), .val (.int (4 : Int32)), .val (.int (0 : Int32)), .unset, .unset] [(.int (4 : Int32))]))
  refine Go.step (fun _ k => XS.bipush X0.here hx rfl (hb hby d_jdk_48_method_14_code_5) k) ?_
  show Go p e below _ (s₁.setTop (mkF m 7 #[.val (.ref a1), .val (.int (0 : Int32)), .val (.ref a2), .val (.int (0 : Int32)), .val (.int (4 : Int32)), .val (.int (0 : Int32)), .unset, .unset] [(.int (7 : Int32)), (.int (4 : Int32))]))
  refine Go.step (fun _ k => XS.icmpYes X0.here hx rfl (pc0 := 7) (pc' := 70) rfl (hb hby d_jdk_48_method_14_code_7) rfl (flt ((by decide) : ¬ ((7 : Int32) < (4 : Int32)))).2.2.2 (by decide) (by decide) k) ?_
  show Go p e below _ (s₁.setTop (mkF m 70 #[.val (.ref a1), .val (.int (0 : Int32)), .val (.ref a2), .val (.int (0 : Int32)), .val (.int (4 : Int32)), .val (.int (0 : Int32)), .unset, .unset] []))
  refine Go.step (fun _ k => XS.iload X0.here hx rfl (hb hby d_jdk_48_method_14_code_70) rfl  k) ?_
  show Go p e below _ (s₁.setTop (mkF m 72 #[.val (.ref a1), .val (.int (0 : Int32)), .val (.ref a2), .val (.int (0 : Int32)), .val (.int (4 : Int32)), .val (.int (0 : Int32)), .unset, .unset] [(.int (0 : Int32))]))
  refine Go.step (fun _ k => XS.iload X0.here hx rfl (hb hby d_jdk_48_method_14_code_72) rfl  k) ?_
  show Go p e below _ (s₁.setTop (mkF m 74 #[.val (.ref a1), .val (.int (0 : Int32)), .val (.ref a2), .val (.int (0 : Int32)), .val (.int (4 : Int32)), .val (.int (0 : Int32)), .unset, .unset] [(.int (4 : Int32)), (.int (0 : Int32))]))
  refine Go.step (fun _ k => XS.icmpNo X0.here hx rfl (hb hby d_jdk_48_method_14_code_74) rfl (tlt ((by decide) : (0 : Int32) < (4 : Int32))).2.1 k) ?_
  show Go p e below _ (s₁.setTop (mkF m 77 #[.val (.ref a1), .val (.int (0 : Int32)), .val (.ref a2), .val (.int (0 : Int32)), .val (.int (4 : Int32)), .val (.int (0 : Int32)), .unset, .unset] []))
  refine Go.step (fun _ k => XS.aloadN X0.here hx rfl (hb hby d_jdk_48_method_14_code_77) rfl rfl k) ?_
  show Go p e below _ (s₁.setTop (mkF m 78 #[.val (.ref a1), .val (.int (0 : Int32)), .val (.ref a2), .val (.int (0 : Int32)), .val (.int (4 : Int32)), .val (.int (0 : Int32)), .unset, .unset] [(.ref a1)]))
  refine Go.step (fun _ k => XS.iloadN X0.here hx rfl (hb hby d_jdk_48_method_14_code_78) rfl  k) ?_
  show Go p e below _ (s₁.setTop (mkF m 79 #[.val (.ref a1), .val (.int (0 : Int32)), .val (.ref a2), .val (.int (0 : Int32)), .val (.int (4 : Int32)), .val (.int (0 : Int32)), .unset, .unset] [(.int (0 : Int32)), (.ref a1)]))
  refine Go.step (fun _ k => XS.iload X0.here hx rfl (hb hby d_jdk_48_method_14_code_79) rfl  k) ?_
  show Go p e below _ (s₁.setTop (mkF m 81 #[.val (.ref a1), .val (.int (0 : Int32)), .val (.ref a2), .val (.int (0 : Int32)), .val (.int (4 : Int32)), .val (.int (0 : Int32)), .unset, .unset] [(.int (0 : Int32)), (.int (0 : Int32)), (.ref a1)]))
  refine Go.step (fun _ k => XS.iadd X0.here hx rfl (hb hby d_jdk_48_method_14_code_81) rfl k) ?_
  show Go p e below _ (s₁.setTop (mkF m 82 #[.val (.ref a1), .val (.int (0 : Int32)), .val (.ref a2), .val (.int (0 : Int32)), .val (.int (4 : Int32)), .val (.int (0 : Int32)), .unset, .unset] [(.int ((0 : Int32) + (0 : Int32))), (.ref a1)]))
  rw [show ((0 : Int32) + (0 : Int32)) = (0 : Int32) from by decide]
  show Go p e below _ (s₁.setTop (mkF m 82 #[.val (.ref a1), .val (.int (0 : Int32)), .val (.ref a2), .val (.int (0 : Int32)), .val (.int (4 : Int32)), .val (.int (0 : Int32)), .unset, .unset] [(.int (0 : Int32)), (.ref a1)]))
  have cp67 := A_a1
  obtain ⟨cl_66, Ar_66, -, Sz_66, -, Hs_66, -⟩ := cp67
  have hin_66 : ¬ ((0 : Int32) < 0 ∨ cl_66.slots.size ≤ ((0 : Int32)).toNatClampNeg) := (inb_of Sz_66 (lt_ofNat (i := 0) (by omega) (by decide) (by omega)))
  have hat_66 : cl_66.slots[((0 : Int32)).toNatClampNeg]? = some (.int (cs.getD 0 0).toInt8.toInt32) := (Hs_66.at (inb_of Sz_66 (lt_ofNat (i := 0) (by omega) (by decide) (by omega))) (bytes_getD cs 0))
  refine Go.step (fun _ k => X0.baloadBytes hx (j := (0 : Int32)) (v := (.int (cs.getD 0 0).toInt8.toInt32)) (by rw [e0]; exact Ar_66.1) (State.isArrayOf_alike hZ.alike Ar_66.2.1) Ar_66.2.2 hin_66 hat_66 (g := (mkF m 82 #[.val (.ref a1), .val (.int (0 : Int32)), .val (.ref a2), .val (.int (0 : Int32)), .val (.int (4 : Int32)), .val (.int (0 : Int32)), .unset, .unset] [(.int (0 : Int32)), (.ref a1)])) rfl rfl (hb hby d_jdk_48_method_14_code_82) _ k) ?_
  show Go p e below _ (s₁.setTop (mkF m 83 #[.val (.ref a1), .val (.int (0 : Int32)), .val (.ref a2), .val (.int (0 : Int32)), .val (.int (4 : Int32)), .val (.int (0 : Int32)), .unset, .unset] [(.int (cs.getD 0 0).toInt8.toInt32)]))
  refine Go.step (fun _ k => XS.aloadN X0.here hx rfl (hb hby d_jdk_48_method_14_code_83) rfl rfl k) ?_
  show Go p e below _ (s₁.setTop (mkF m 84 #[.val (.ref a1), .val (.int (0 : Int32)), .val (.ref a2), .val (.int (0 : Int32)), .val (.int (4 : Int32)), .val (.int (0 : Int32)), .unset, .unset] [(.ref a2), (.int (cs.getD 0 0).toInt8.toInt32)]))
  refine Go.step (fun _ k => XS.iloadN X0.here hx rfl (hb hby d_jdk_48_method_14_code_84) rfl  k) ?_
  show Go p e below _ (s₁.setTop (mkF m 85 #[.val (.ref a1), .val (.int (0 : Int32)), .val (.ref a2), .val (.int (0 : Int32)), .val (.int (4 : Int32)), .val (.int (0 : Int32)), .unset, .unset] [(.int (0 : Int32)), (.ref a2), (.int (cs.getD 0 0).toInt8.toInt32)]))
  refine Go.step (fun _ k => XS.iload X0.here hx rfl (hb hby d_jdk_48_method_14_code_85) rfl  k) ?_
  show Go p e below _ (s₁.setTop (mkF m 87 #[.val (.ref a1), .val (.int (0 : Int32)), .val (.ref a2), .val (.int (0 : Int32)), .val (.int (4 : Int32)), .val (.int (0 : Int32)), .unset, .unset] [(.int (0 : Int32)), (.int (0 : Int32)), (.ref a2), (.int (cs.getD 0 0).toInt8.toInt32)]))
  refine Go.step (fun _ k => XS.iadd X0.here hx rfl (hb hby d_jdk_48_method_14_code_87) rfl k) ?_
  show Go p e below _ (s₁.setTop (mkF m 88 #[.val (.ref a1), .val (.int (0 : Int32)), .val (.ref a2), .val (.int (0 : Int32)), .val (.int (4 : Int32)), .val (.int (0 : Int32)), .unset, .unset] [(.int ((0 : Int32) + (0 : Int32))), (.ref a2), (.int (cs.getD 0 0).toInt8.toInt32)]))
  rw [show ((0 : Int32) + (0 : Int32)) = (0 : Int32) from by decide]
  show Go p e below _ (s₁.setTop (mkF m 88 #[.val (.ref a1), .val (.int (0 : Int32)), .val (.ref a2), .val (.int (0 : Int32)), .val (.int (4 : Int32)), .val (.int (0 : Int32)), .unset, .unset] [(.int (0 : Int32)), (.ref a2), (.int (cs.getD 0 0).toInt8.toInt32)]))
  have cp69 := A_a2
  obtain ⟨cl_68, Ar_68, -, Sz_68, -, Hs_68, -⟩ := cp69
  have hin_68 : ¬ ((0 : Int32) < 0 ∨ cl_68.slots.size ≤ ((0 : Int32)).toNatClampNeg) := (inb_of Sz_68 ⟨by decide, by decide⟩)
  have hat_68 : cl_68.slots[((0 : Int32)).toNatClampNeg]? = some (.int (114 : Int32).toInt8.toInt32) := (Hs_68.at (inb_of Sz_68 ⟨by decide, by decide⟩) rfl)
  refine Go.step (fun _ k => X0.baloadBytes hx (j := (0 : Int32)) (v := (.int (114 : Int32).toInt8.toInt32)) (by rw [e0]; exact Ar_68.1) (State.isArrayOf_alike hZ.alike Ar_68.2.1) Ar_68.2.2 hin_68 hat_68 (g := (mkF m 88 #[.val (.ref a1), .val (.int (0 : Int32)), .val (.ref a2), .val (.int (0 : Int32)), .val (.int (4 : Int32)), .val (.int (0 : Int32)), .unset, .unset] [(.int (0 : Int32)), (.ref a2), (.int (cs.getD 0 0).toInt8.toInt32)])) rfl rfl (hb hby d_jdk_48_method_14_code_88) _ k) ?_
  show Go p e below _ (s₁.setTop (mkF m 89 #[.val (.ref a1), .val (.int (0 : Int32)), .val (.ref a2), .val (.int (0 : Int32)), .val (.int (4 : Int32)), .val (.int (0 : Int32)), .unset, .unset] [(.int (114 : Int32).toInt8.toInt32), (.int (cs.getD 0 0).toInt8.toInt32)]))
  by_cases y0 : (cs.getD 0 0).toInt8.toInt32 = (114 : Int32).toInt8.toInt32
  · skip
    refine Go.step (fun _ k => XS.icmpYes X0.here hx rfl (pc0 := 89) (pc' := 95) rfl (hb hby d_jdk_48_method_14_code_89) rfl (teq y0).1 (by decide) (by decide) k) ?_
    show Go p e below _ (s₁.setTop (mkF m 95 #[.val (.ref a1), .val (.int (0 : Int32)), .val (.ref a2), .val (.int (0 : Int32)), .val (.int (4 : Int32)), .val (.int (0 : Int32)), .unset, .unset] []))
    refine Go.step (fun _ k => XS.iinc X0.here hx rfl (hb hby d_jdk_48_method_14_code_95) rfl (l' := #[.val (.ref a1), .val (.int (0 : Int32)), .val (.ref a2), .val (.int (0 : Int32)), .val (.int (4 : Int32)), .val (.int ((0 : Int32) + (1 : Int32))), .unset, .unset]) rfl k) ?_
    show Go p e below _ (s₁.setTop (mkF m 98 #[.val (.ref a1), .val (.int (0 : Int32)), .val (.ref a2), .val (.int (0 : Int32)), .val (.int (4 : Int32)), .val (.int ((0 : Int32) + (1 : Int32))), .unset, .unset] []))
    rw [show ((0 : Int32) + (1 : Int32)) = (1 : Int32) from by decide]
    show Go p e below _ (s₁.setTop (mkF m 98 #[.val (.ref a1), .val (.int (0 : Int32)), .val (.ref a2), .val (.int (0 : Int32)), .val (.int (4 : Int32)), .val (.int (1 : Int32)), .unset, .unset] []))
    refine Go.step (fun _ k => XS.goto X0.here hx rfl (pc0 := 98) (pc' := 70) rfl (hb hby d_jdk_48_method_14_code_98) (by decide) (by decide) k) ?_
    show Go p e below _ (s₁.setTop (mkF m 70 #[.val (.ref a1), .val (.int (0 : Int32)), .val (.ref a2), .val (.int (0 : Int32)), .val (.int (4 : Int32)), .val (.int (1 : Int32)), .unset, .unset] []))
    refine Go.step (fun _ k => XS.iload X0.here hx rfl (hb hby d_jdk_48_method_14_code_70) rfl  k) ?_
    show Go p e below _ (s₁.setTop (mkF m 72 #[.val (.ref a1), .val (.int (0 : Int32)), .val (.ref a2), .val (.int (0 : Int32)), .val (.int (4 : Int32)), .val (.int (1 : Int32)), .unset, .unset] [(.int (1 : Int32))]))
    refine Go.step (fun _ k => XS.iload X0.here hx rfl (hb hby d_jdk_48_method_14_code_72) rfl  k) ?_
    show Go p e below _ (s₁.setTop (mkF m 74 #[.val (.ref a1), .val (.int (0 : Int32)), .val (.ref a2), .val (.int (0 : Int32)), .val (.int (4 : Int32)), .val (.int (1 : Int32)), .unset, .unset] [(.int (4 : Int32)), (.int (1 : Int32))]))
    refine Go.step (fun _ k => XS.icmpNo X0.here hx rfl (hb hby d_jdk_48_method_14_code_74) rfl (tlt ((by decide) : (1 : Int32) < (4 : Int32))).2.1 k) ?_
    show Go p e below _ (s₁.setTop (mkF m 77 #[.val (.ref a1), .val (.int (0 : Int32)), .val (.ref a2), .val (.int (0 : Int32)), .val (.int (4 : Int32)), .val (.int (1 : Int32)), .unset, .unset] []))
    refine Go.step (fun _ k => XS.aloadN X0.here hx rfl (hb hby d_jdk_48_method_14_code_77) rfl rfl k) ?_
    show Go p e below _ (s₁.setTop (mkF m 78 #[.val (.ref a1), .val (.int (0 : Int32)), .val (.ref a2), .val (.int (0 : Int32)), .val (.int (4 : Int32)), .val (.int (1 : Int32)), .unset, .unset] [(.ref a1)]))
    refine Go.step (fun _ k => XS.iloadN X0.here hx rfl (hb hby d_jdk_48_method_14_code_78) rfl  k) ?_
    show Go p e below _ (s₁.setTop (mkF m 79 #[.val (.ref a1), .val (.int (0 : Int32)), .val (.ref a2), .val (.int (0 : Int32)), .val (.int (4 : Int32)), .val (.int (1 : Int32)), .unset, .unset] [(.int (0 : Int32)), (.ref a1)]))
    refine Go.step (fun _ k => XS.iload X0.here hx rfl (hb hby d_jdk_48_method_14_code_79) rfl  k) ?_
    show Go p e below _ (s₁.setTop (mkF m 81 #[.val (.ref a1), .val (.int (0 : Int32)), .val (.ref a2), .val (.int (0 : Int32)), .val (.int (4 : Int32)), .val (.int (1 : Int32)), .unset, .unset] [(.int (1 : Int32)), (.int (0 : Int32)), (.ref a1)]))
    refine Go.step (fun _ k => XS.iadd X0.here hx rfl (hb hby d_jdk_48_method_14_code_81) rfl k) ?_
    show Go p e below _ (s₁.setTop (mkF m 82 #[.val (.ref a1), .val (.int (0 : Int32)), .val (.ref a2), .val (.int (0 : Int32)), .val (.int (4 : Int32)), .val (.int (1 : Int32)), .unset, .unset] [(.int ((0 : Int32) + (1 : Int32))), (.ref a1)]))
    rw [show ((0 : Int32) + (1 : Int32)) = (1 : Int32) from by decide]
    show Go p e below _ (s₁.setTop (mkF m 82 #[.val (.ref a1), .val (.int (0 : Int32)), .val (.ref a2), .val (.int (0 : Int32)), .val (.int (4 : Int32)), .val (.int (1 : Int32)), .unset, .unset] [(.int (1 : Int32)), (.ref a1)]))
    have cp71 := A_a1
    obtain ⟨cl_70, Ar_70, -, Sz_70, -, Hs_70, -⟩ := cp71
    have hin_70 : ¬ ((1 : Int32) < 0 ∨ cl_70.slots.size ≤ ((1 : Int32)).toNatClampNeg) := (inb_of Sz_70 (lt_ofNat (i := 1) (by omega) (by decide) (by omega)))
    have hat_70 : cl_70.slots[((1 : Int32)).toNatClampNeg]? = some (.int (cs.getD 1 0).toInt8.toInt32) := (Hs_70.at (inb_of Sz_70 (lt_ofNat (i := 1) (by omega) (by decide) (by omega))) (bytes_getD cs 1))
    refine Go.step (fun _ k => X0.baloadBytes hx (j := (1 : Int32)) (v := (.int (cs.getD 1 0).toInt8.toInt32)) (by rw [e0]; exact Ar_70.1) (State.isArrayOf_alike hZ.alike Ar_70.2.1) Ar_70.2.2 hin_70 hat_70 (g := (mkF m 82 #[.val (.ref a1), .val (.int (0 : Int32)), .val (.ref a2), .val (.int (0 : Int32)), .val (.int (4 : Int32)), .val (.int (1 : Int32)), .unset, .unset] [(.int (1 : Int32)), (.ref a1)])) rfl rfl (hb hby d_jdk_48_method_14_code_82) _ k) ?_
    show Go p e below _ (s₁.setTop (mkF m 83 #[.val (.ref a1), .val (.int (0 : Int32)), .val (.ref a2), .val (.int (0 : Int32)), .val (.int (4 : Int32)), .val (.int (1 : Int32)), .unset, .unset] [(.int (cs.getD 1 0).toInt8.toInt32)]))
    refine Go.step (fun _ k => XS.aloadN X0.here hx rfl (hb hby d_jdk_48_method_14_code_83) rfl rfl k) ?_
    show Go p e below _ (s₁.setTop (mkF m 84 #[.val (.ref a1), .val (.int (0 : Int32)), .val (.ref a2), .val (.int (0 : Int32)), .val (.int (4 : Int32)), .val (.int (1 : Int32)), .unset, .unset] [(.ref a2), (.int (cs.getD 1 0).toInt8.toInt32)]))
    refine Go.step (fun _ k => XS.iloadN X0.here hx rfl (hb hby d_jdk_48_method_14_code_84) rfl  k) ?_
    show Go p e below _ (s₁.setTop (mkF m 85 #[.val (.ref a1), .val (.int (0 : Int32)), .val (.ref a2), .val (.int (0 : Int32)), .val (.int (4 : Int32)), .val (.int (1 : Int32)), .unset, .unset] [(.int (0 : Int32)), (.ref a2), (.int (cs.getD 1 0).toInt8.toInt32)]))
    refine Go.step (fun _ k => XS.iload X0.here hx rfl (hb hby d_jdk_48_method_14_code_85) rfl  k) ?_
    show Go p e below _ (s₁.setTop (mkF m 87 #[.val (.ref a1), .val (.int (0 : Int32)), .val (.ref a2), .val (.int (0 : Int32)), .val (.int (4 : Int32)), .val (.int (1 : Int32)), .unset, .unset] [(.int (1 : Int32)), (.int (0 : Int32)), (.ref a2), (.int (cs.getD 1 0).toInt8.toInt32)]))
    refine Go.step (fun _ k => XS.iadd X0.here hx rfl (hb hby d_jdk_48_method_14_code_87) rfl k) ?_
    show Go p e below _ (s₁.setTop (mkF m 88 #[.val (.ref a1), .val (.int (0 : Int32)), .val (.ref a2), .val (.int (0 : Int32)), .val (.int (4 : Int32)), .val (.int (1 : Int32)), .unset, .unset] [(.int ((0 : Int32) + (1 : Int32))), (.ref a2), (.int (cs.getD 1 0).toInt8.toInt32)]))
    rw [show ((0 : Int32) + (1 : Int32)) = (1 : Int32) from by decide]
    show Go p e below _ (s₁.setTop (mkF m 88 #[.val (.ref a1), .val (.int (0 : Int32)), .val (.ref a2), .val (.int (0 : Int32)), .val (.int (4 : Int32)), .val (.int (1 : Int32)), .unset, .unset] [(.int (1 : Int32)), (.ref a2), (.int (cs.getD 1 0).toInt8.toInt32)]))
    have cp73 := A_a2
    obtain ⟨cl_72, Ar_72, -, Sz_72, -, Hs_72, -⟩ := cp73
    have hin_72 : ¬ ((1 : Int32) < 0 ∨ cl_72.slots.size ≤ ((1 : Int32)).toNatClampNeg) := (inb_of Sz_72 ⟨by decide, by decide⟩)
    have hat_72 : cl_72.slots[((1 : Int32)).toNatClampNeg]? = some (.int (112 : Int32).toInt8.toInt32) := (Hs_72.at (inb_of Sz_72 ⟨by decide, by decide⟩) rfl)
    refine Go.step (fun _ k => X0.baloadBytes hx (j := (1 : Int32)) (v := (.int (112 : Int32).toInt8.toInt32)) (by rw [e0]; exact Ar_72.1) (State.isArrayOf_alike hZ.alike Ar_72.2.1) Ar_72.2.2 hin_72 hat_72 (g := (mkF m 88 #[.val (.ref a1), .val (.int (0 : Int32)), .val (.ref a2), .val (.int (0 : Int32)), .val (.int (4 : Int32)), .val (.int (1 : Int32)), .unset, .unset] [(.int (1 : Int32)), (.ref a2), (.int (cs.getD 1 0).toInt8.toInt32)])) rfl rfl (hb hby d_jdk_48_method_14_code_88) _ k) ?_
    show Go p e below _ (s₁.setTop (mkF m 89 #[.val (.ref a1), .val (.int (0 : Int32)), .val (.ref a2), .val (.int (0 : Int32)), .val (.int (4 : Int32)), .val (.int (1 : Int32)), .unset, .unset] [(.int (112 : Int32).toInt8.toInt32), (.int (cs.getD 1 0).toInt8.toInt32)]))
    by_cases y1 : (cs.getD 1 0).toInt8.toInt32 = (112 : Int32).toInt8.toInt32
    · skip
      refine Go.step (fun _ k => XS.icmpYes X0.here hx rfl (pc0 := 89) (pc' := 95) rfl (hb hby d_jdk_48_method_14_code_89) rfl (teq y1).1 (by decide) (by decide) k) ?_
      show Go p e below _ (s₁.setTop (mkF m 95 #[.val (.ref a1), .val (.int (0 : Int32)), .val (.ref a2), .val (.int (0 : Int32)), .val (.int (4 : Int32)), .val (.int (1 : Int32)), .unset, .unset] []))
      refine Go.step (fun _ k => XS.iinc X0.here hx rfl (hb hby d_jdk_48_method_14_code_95) rfl (l' := #[.val (.ref a1), .val (.int (0 : Int32)), .val (.ref a2), .val (.int (0 : Int32)), .val (.int (4 : Int32)), .val (.int ((1 : Int32) + (1 : Int32))), .unset, .unset]) rfl k) ?_
      show Go p e below _ (s₁.setTop (mkF m 98 #[.val (.ref a1), .val (.int (0 : Int32)), .val (.ref a2), .val (.int (0 : Int32)), .val (.int (4 : Int32)), .val (.int ((1 : Int32) + (1 : Int32))), .unset, .unset] []))
      rw [show ((1 : Int32) + (1 : Int32)) = (2 : Int32) from by decide]
      show Go p e below _ (s₁.setTop (mkF m 98 #[.val (.ref a1), .val (.int (0 : Int32)), .val (.ref a2), .val (.int (0 : Int32)), .val (.int (4 : Int32)), .val (.int (2 : Int32)), .unset, .unset] []))
      refine Go.step (fun _ k => XS.goto X0.here hx rfl (pc0 := 98) (pc' := 70) rfl (hb hby d_jdk_48_method_14_code_98) (by decide) (by decide) k) ?_
      show Go p e below _ (s₁.setTop (mkF m 70 #[.val (.ref a1), .val (.int (0 : Int32)), .val (.ref a2), .val (.int (0 : Int32)), .val (.int (4 : Int32)), .val (.int (2 : Int32)), .unset, .unset] []))
      refine Go.step (fun _ k => XS.iload X0.here hx rfl (hb hby d_jdk_48_method_14_code_70) rfl  k) ?_
      show Go p e below _ (s₁.setTop (mkF m 72 #[.val (.ref a1), .val (.int (0 : Int32)), .val (.ref a2), .val (.int (0 : Int32)), .val (.int (4 : Int32)), .val (.int (2 : Int32)), .unset, .unset] [(.int (2 : Int32))]))
      refine Go.step (fun _ k => XS.iload X0.here hx rfl (hb hby d_jdk_48_method_14_code_72) rfl  k) ?_
      show Go p e below _ (s₁.setTop (mkF m 74 #[.val (.ref a1), .val (.int (0 : Int32)), .val (.ref a2), .val (.int (0 : Int32)), .val (.int (4 : Int32)), .val (.int (2 : Int32)), .unset, .unset] [(.int (4 : Int32)), (.int (2 : Int32))]))
      refine Go.step (fun _ k => XS.icmpNo X0.here hx rfl (hb hby d_jdk_48_method_14_code_74) rfl (tlt ((by decide) : (2 : Int32) < (4 : Int32))).2.1 k) ?_
      show Go p e below _ (s₁.setTop (mkF m 77 #[.val (.ref a1), .val (.int (0 : Int32)), .val (.ref a2), .val (.int (0 : Int32)), .val (.int (4 : Int32)), .val (.int (2 : Int32)), .unset, .unset] []))
      refine Go.step (fun _ k => XS.aloadN X0.here hx rfl (hb hby d_jdk_48_method_14_code_77) rfl rfl k) ?_
      show Go p e below _ (s₁.setTop (mkF m 78 #[.val (.ref a1), .val (.int (0 : Int32)), .val (.ref a2), .val (.int (0 : Int32)), .val (.int (4 : Int32)), .val (.int (2 : Int32)), .unset, .unset] [(.ref a1)]))
      refine Go.step (fun _ k => XS.iloadN X0.here hx rfl (hb hby d_jdk_48_method_14_code_78) rfl  k) ?_
      show Go p e below _ (s₁.setTop (mkF m 79 #[.val (.ref a1), .val (.int (0 : Int32)), .val (.ref a2), .val (.int (0 : Int32)), .val (.int (4 : Int32)), .val (.int (2 : Int32)), .unset, .unset] [(.int (0 : Int32)), (.ref a1)]))
      refine Go.step (fun _ k => XS.iload X0.here hx rfl (hb hby d_jdk_48_method_14_code_79) rfl  k) ?_
      show Go p e below _ (s₁.setTop (mkF m 81 #[.val (.ref a1), .val (.int (0 : Int32)), .val (.ref a2), .val (.int (0 : Int32)), .val (.int (4 : Int32)), .val (.int (2 : Int32)), .unset, .unset] [(.int (2 : Int32)), (.int (0 : Int32)), (.ref a1)]))
      refine Go.step (fun _ k => XS.iadd X0.here hx rfl (hb hby d_jdk_48_method_14_code_81) rfl k) ?_
      show Go p e below _ (s₁.setTop (mkF m 82 #[.val (.ref a1), .val (.int (0 : Int32)), .val (.ref a2), .val (.int (0 : Int32)), .val (.int (4 : Int32)), .val (.int (2 : Int32)), .unset, .unset] [(.int ((0 : Int32) + (2 : Int32))), (.ref a1)]))
      rw [show ((0 : Int32) + (2 : Int32)) = (2 : Int32) from by decide]
      show Go p e below _ (s₁.setTop (mkF m 82 #[.val (.ref a1), .val (.int (0 : Int32)), .val (.ref a2), .val (.int (0 : Int32)), .val (.int (4 : Int32)), .val (.int (2 : Int32)), .unset, .unset] [(.int (2 : Int32)), (.ref a1)]))
      have cp75 := A_a1
      obtain ⟨cl_74, Ar_74, -, Sz_74, -, Hs_74, -⟩ := cp75
      have hin_74 : ¬ ((2 : Int32) < 0 ∨ cl_74.slots.size ≤ ((2 : Int32)).toNatClampNeg) := (inb_of Sz_74 (lt_ofNat (i := 2) (by omega) (by decide) (by omega)))
      have hat_74 : cl_74.slots[((2 : Int32)).toNatClampNeg]? = some (.int (cs.getD 2 0).toInt8.toInt32) := (Hs_74.at (inb_of Sz_74 (lt_ofNat (i := 2) (by omega) (by decide) (by omega))) (bytes_getD cs 2))
      refine Go.step (fun _ k => X0.baloadBytes hx (j := (2 : Int32)) (v := (.int (cs.getD 2 0).toInt8.toInt32)) (by rw [e0]; exact Ar_74.1) (State.isArrayOf_alike hZ.alike Ar_74.2.1) Ar_74.2.2 hin_74 hat_74 (g := (mkF m 82 #[.val (.ref a1), .val (.int (0 : Int32)), .val (.ref a2), .val (.int (0 : Int32)), .val (.int (4 : Int32)), .val (.int (2 : Int32)), .unset, .unset] [(.int (2 : Int32)), (.ref a1)])) rfl rfl (hb hby d_jdk_48_method_14_code_82) _ k) ?_
      show Go p e below _ (s₁.setTop (mkF m 83 #[.val (.ref a1), .val (.int (0 : Int32)), .val (.ref a2), .val (.int (0 : Int32)), .val (.int (4 : Int32)), .val (.int (2 : Int32)), .unset, .unset] [(.int (cs.getD 2 0).toInt8.toInt32)]))
      refine Go.step (fun _ k => XS.aloadN X0.here hx rfl (hb hby d_jdk_48_method_14_code_83) rfl rfl k) ?_
      show Go p e below _ (s₁.setTop (mkF m 84 #[.val (.ref a1), .val (.int (0 : Int32)), .val (.ref a2), .val (.int (0 : Int32)), .val (.int (4 : Int32)), .val (.int (2 : Int32)), .unset, .unset] [(.ref a2), (.int (cs.getD 2 0).toInt8.toInt32)]))
      refine Go.step (fun _ k => XS.iloadN X0.here hx rfl (hb hby d_jdk_48_method_14_code_84) rfl  k) ?_
      show Go p e below _ (s₁.setTop (mkF m 85 #[.val (.ref a1), .val (.int (0 : Int32)), .val (.ref a2), .val (.int (0 : Int32)), .val (.int (4 : Int32)), .val (.int (2 : Int32)), .unset, .unset] [(.int (0 : Int32)), (.ref a2), (.int (cs.getD 2 0).toInt8.toInt32)]))
      refine Go.step (fun _ k => XS.iload X0.here hx rfl (hb hby d_jdk_48_method_14_code_85) rfl  k) ?_
      show Go p e below _ (s₁.setTop (mkF m 87 #[.val (.ref a1), .val (.int (0 : Int32)), .val (.ref a2), .val (.int (0 : Int32)), .val (.int (4 : Int32)), .val (.int (2 : Int32)), .unset, .unset] [(.int (2 : Int32)), (.int (0 : Int32)), (.ref a2), (.int (cs.getD 2 0).toInt8.toInt32)]))
      refine Go.step (fun _ k => XS.iadd X0.here hx rfl (hb hby d_jdk_48_method_14_code_87) rfl k) ?_
      show Go p e below _ (s₁.setTop (mkF m 88 #[.val (.ref a1), .val (.int (0 : Int32)), .val (.ref a2), .val (.int (0 : Int32)), .val (.int (4 : Int32)), .val (.int (2 : Int32)), .unset, .unset] [(.int ((0 : Int32) + (2 : Int32))), (.ref a2), (.int (cs.getD 2 0).toInt8.toInt32)]))
      rw [show ((0 : Int32) + (2 : Int32)) = (2 : Int32) from by decide]
      show Go p e below _ (s₁.setTop (mkF m 88 #[.val (.ref a1), .val (.int (0 : Int32)), .val (.ref a2), .val (.int (0 : Int32)), .val (.int (4 : Int32)), .val (.int (2 : Int32)), .unset, .unset] [(.int (2 : Int32)), (.ref a2), (.int (cs.getD 2 0).toInt8.toInt32)]))
      have cp77 := A_a2
      obtain ⟨cl_76, Ar_76, -, Sz_76, -, Hs_76, -⟩ := cp77
      have hin_76 : ¬ ((2 : Int32) < 0 ∨ cl_76.slots.size ≤ ((2 : Int32)).toNatClampNeg) := (inb_of Sz_76 ⟨by decide, by decide⟩)
      have hat_76 : cl_76.slots[((2 : Int32)).toNatClampNeg]? = some (.int (99 : Int32).toInt8.toInt32) := (Hs_76.at (inb_of Sz_76 ⟨by decide, by decide⟩) rfl)
      refine Go.step (fun _ k => X0.baloadBytes hx (j := (2 : Int32)) (v := (.int (99 : Int32).toInt8.toInt32)) (by rw [e0]; exact Ar_76.1) (State.isArrayOf_alike hZ.alike Ar_76.2.1) Ar_76.2.2 hin_76 hat_76 (g := (mkF m 88 #[.val (.ref a1), .val (.int (0 : Int32)), .val (.ref a2), .val (.int (0 : Int32)), .val (.int (4 : Int32)), .val (.int (2 : Int32)), .unset, .unset] [(.int (2 : Int32)), (.ref a2), (.int (cs.getD 2 0).toInt8.toInt32)])) rfl rfl (hb hby d_jdk_48_method_14_code_88) _ k) ?_
      show Go p e below _ (s₁.setTop (mkF m 89 #[.val (.ref a1), .val (.int (0 : Int32)), .val (.ref a2), .val (.int (0 : Int32)), .val (.int (4 : Int32)), .val (.int (2 : Int32)), .unset, .unset] [(.int (99 : Int32).toInt8.toInt32), (.int (cs.getD 2 0).toInt8.toInt32)]))
      by_cases y2 : (cs.getD 2 0).toInt8.toInt32 = (99 : Int32).toInt8.toInt32
      · skip
        refine Go.step (fun _ k => XS.icmpYes X0.here hx rfl (pc0 := 89) (pc' := 95) rfl (hb hby d_jdk_48_method_14_code_89) rfl (teq y2).1 (by decide) (by decide) k) ?_
        show Go p e below _ (s₁.setTop (mkF m 95 #[.val (.ref a1), .val (.int (0 : Int32)), .val (.ref a2), .val (.int (0 : Int32)), .val (.int (4 : Int32)), .val (.int (2 : Int32)), .unset, .unset] []))
        refine Go.step (fun _ k => XS.iinc X0.here hx rfl (hb hby d_jdk_48_method_14_code_95) rfl (l' := #[.val (.ref a1), .val (.int (0 : Int32)), .val (.ref a2), .val (.int (0 : Int32)), .val (.int (4 : Int32)), .val (.int ((2 : Int32) + (1 : Int32))), .unset, .unset]) rfl k) ?_
        show Go p e below _ (s₁.setTop (mkF m 98 #[.val (.ref a1), .val (.int (0 : Int32)), .val (.ref a2), .val (.int (0 : Int32)), .val (.int (4 : Int32)), .val (.int ((2 : Int32) + (1 : Int32))), .unset, .unset] []))
        rw [show ((2 : Int32) + (1 : Int32)) = (3 : Int32) from by decide]
        show Go p e below _ (s₁.setTop (mkF m 98 #[.val (.ref a1), .val (.int (0 : Int32)), .val (.ref a2), .val (.int (0 : Int32)), .val (.int (4 : Int32)), .val (.int (3 : Int32)), .unset, .unset] []))
        refine Go.step (fun _ k => XS.goto X0.here hx rfl (pc0 := 98) (pc' := 70) rfl (hb hby d_jdk_48_method_14_code_98) (by decide) (by decide) k) ?_
        show Go p e below _ (s₁.setTop (mkF m 70 #[.val (.ref a1), .val (.int (0 : Int32)), .val (.ref a2), .val (.int (0 : Int32)), .val (.int (4 : Int32)), .val (.int (3 : Int32)), .unset, .unset] []))
        refine Go.step (fun _ k => XS.iload X0.here hx rfl (hb hby d_jdk_48_method_14_code_70) rfl  k) ?_
        show Go p e below _ (s₁.setTop (mkF m 72 #[.val (.ref a1), .val (.int (0 : Int32)), .val (.ref a2), .val (.int (0 : Int32)), .val (.int (4 : Int32)), .val (.int (3 : Int32)), .unset, .unset] [(.int (3 : Int32))]))
        refine Go.step (fun _ k => XS.iload X0.here hx rfl (hb hby d_jdk_48_method_14_code_72) rfl  k) ?_
        show Go p e below _ (s₁.setTop (mkF m 74 #[.val (.ref a1), .val (.int (0 : Int32)), .val (.ref a2), .val (.int (0 : Int32)), .val (.int (4 : Int32)), .val (.int (3 : Int32)), .unset, .unset] [(.int (4 : Int32)), (.int (3 : Int32))]))
        refine Go.step (fun _ k => XS.icmpNo X0.here hx rfl (hb hby d_jdk_48_method_14_code_74) rfl (tlt ((by decide) : (3 : Int32) < (4 : Int32))).2.1 k) ?_
        show Go p e below _ (s₁.setTop (mkF m 77 #[.val (.ref a1), .val (.int (0 : Int32)), .val (.ref a2), .val (.int (0 : Int32)), .val (.int (4 : Int32)), .val (.int (3 : Int32)), .unset, .unset] []))
        refine Go.step (fun _ k => XS.aloadN X0.here hx rfl (hb hby d_jdk_48_method_14_code_77) rfl rfl k) ?_
        show Go p e below _ (s₁.setTop (mkF m 78 #[.val (.ref a1), .val (.int (0 : Int32)), .val (.ref a2), .val (.int (0 : Int32)), .val (.int (4 : Int32)), .val (.int (3 : Int32)), .unset, .unset] [(.ref a1)]))
        refine Go.step (fun _ k => XS.iloadN X0.here hx rfl (hb hby d_jdk_48_method_14_code_78) rfl  k) ?_
        show Go p e below _ (s₁.setTop (mkF m 79 #[.val (.ref a1), .val (.int (0 : Int32)), .val (.ref a2), .val (.int (0 : Int32)), .val (.int (4 : Int32)), .val (.int (3 : Int32)), .unset, .unset] [(.int (0 : Int32)), (.ref a1)]))
        refine Go.step (fun _ k => XS.iload X0.here hx rfl (hb hby d_jdk_48_method_14_code_79) rfl  k) ?_
        show Go p e below _ (s₁.setTop (mkF m 81 #[.val (.ref a1), .val (.int (0 : Int32)), .val (.ref a2), .val (.int (0 : Int32)), .val (.int (4 : Int32)), .val (.int (3 : Int32)), .unset, .unset] [(.int (3 : Int32)), (.int (0 : Int32)), (.ref a1)]))
        refine Go.step (fun _ k => XS.iadd X0.here hx rfl (hb hby d_jdk_48_method_14_code_81) rfl k) ?_
        show Go p e below _ (s₁.setTop (mkF m 82 #[.val (.ref a1), .val (.int (0 : Int32)), .val (.ref a2), .val (.int (0 : Int32)), .val (.int (4 : Int32)), .val (.int (3 : Int32)), .unset, .unset] [(.int ((0 : Int32) + (3 : Int32))), (.ref a1)]))
        rw [show ((0 : Int32) + (3 : Int32)) = (3 : Int32) from by decide]
        show Go p e below _ (s₁.setTop (mkF m 82 #[.val (.ref a1), .val (.int (0 : Int32)), .val (.ref a2), .val (.int (0 : Int32)), .val (.int (4 : Int32)), .val (.int (3 : Int32)), .unset, .unset] [(.int (3 : Int32)), (.ref a1)]))
        have cp79 := A_a1
        obtain ⟨cl_78, Ar_78, -, Sz_78, -, Hs_78, -⟩ := cp79
        have hin_78 : ¬ ((3 : Int32) < 0 ∨ cl_78.slots.size ≤ ((3 : Int32)).toNatClampNeg) := (inb_of Sz_78 (lt_ofNat (i := 3) (by omega) (by decide) (by omega)))
        have hat_78 : cl_78.slots[((3 : Int32)).toNatClampNeg]? = some (.int (cs.getD 3 0).toInt8.toInt32) := (Hs_78.at (inb_of Sz_78 (lt_ofNat (i := 3) (by omega) (by decide) (by omega))) (bytes_getD cs 3))
        refine Go.step (fun _ k => X0.baloadBytes hx (j := (3 : Int32)) (v := (.int (cs.getD 3 0).toInt8.toInt32)) (by rw [e0]; exact Ar_78.1) (State.isArrayOf_alike hZ.alike Ar_78.2.1) Ar_78.2.2 hin_78 hat_78 (g := (mkF m 82 #[.val (.ref a1), .val (.int (0 : Int32)), .val (.ref a2), .val (.int (0 : Int32)), .val (.int (4 : Int32)), .val (.int (3 : Int32)), .unset, .unset] [(.int (3 : Int32)), (.ref a1)])) rfl rfl (hb hby d_jdk_48_method_14_code_82) _ k) ?_
        show Go p e below _ (s₁.setTop (mkF m 83 #[.val (.ref a1), .val (.int (0 : Int32)), .val (.ref a2), .val (.int (0 : Int32)), .val (.int (4 : Int32)), .val (.int (3 : Int32)), .unset, .unset] [(.int (cs.getD 3 0).toInt8.toInt32)]))
        refine Go.step (fun _ k => XS.aloadN X0.here hx rfl (hb hby d_jdk_48_method_14_code_83) rfl rfl k) ?_
        show Go p e below _ (s₁.setTop (mkF m 84 #[.val (.ref a1), .val (.int (0 : Int32)), .val (.ref a2), .val (.int (0 : Int32)), .val (.int (4 : Int32)), .val (.int (3 : Int32)), .unset, .unset] [(.ref a2), (.int (cs.getD 3 0).toInt8.toInt32)]))
        refine Go.step (fun _ k => XS.iloadN X0.here hx rfl (hb hby d_jdk_48_method_14_code_84) rfl  k) ?_
        show Go p e below _ (s₁.setTop (mkF m 85 #[.val (.ref a1), .val (.int (0 : Int32)), .val (.ref a2), .val (.int (0 : Int32)), .val (.int (4 : Int32)), .val (.int (3 : Int32)), .unset, .unset] [(.int (0 : Int32)), (.ref a2), (.int (cs.getD 3 0).toInt8.toInt32)]))
        refine Go.step (fun _ k => XS.iload X0.here hx rfl (hb hby d_jdk_48_method_14_code_85) rfl  k) ?_
        show Go p e below _ (s₁.setTop (mkF m 87 #[.val (.ref a1), .val (.int (0 : Int32)), .val (.ref a2), .val (.int (0 : Int32)), .val (.int (4 : Int32)), .val (.int (3 : Int32)), .unset, .unset] [(.int (3 : Int32)), (.int (0 : Int32)), (.ref a2), (.int (cs.getD 3 0).toInt8.toInt32)]))
        refine Go.step (fun _ k => XS.iadd X0.here hx rfl (hb hby d_jdk_48_method_14_code_87) rfl k) ?_
        show Go p e below _ (s₁.setTop (mkF m 88 #[.val (.ref a1), .val (.int (0 : Int32)), .val (.ref a2), .val (.int (0 : Int32)), .val (.int (4 : Int32)), .val (.int (3 : Int32)), .unset, .unset] [(.int ((0 : Int32) + (3 : Int32))), (.ref a2), (.int (cs.getD 3 0).toInt8.toInt32)]))
        rw [show ((0 : Int32) + (3 : Int32)) = (3 : Int32) from by decide]
        show Go p e below _ (s₁.setTop (mkF m 88 #[.val (.ref a1), .val (.int (0 : Int32)), .val (.ref a2), .val (.int (0 : Int32)), .val (.int (4 : Int32)), .val (.int (3 : Int32)), .unset, .unset] [(.int (3 : Int32)), (.ref a2), (.int (cs.getD 3 0).toInt8.toInt32)]))
        have cp81 := A_a2
        obtain ⟨cl_80, Ar_80, -, Sz_80, -, Hs_80, -⟩ := cp81
        have hin_80 : ¬ ((3 : Int32) < 0 ∨ cl_80.slots.size ≤ ((3 : Int32)).toNatClampNeg) := (inb_of Sz_80 ⟨by decide, by decide⟩)
        have hat_80 : cl_80.slots[((3 : Int32)).toNatClampNeg]? = some (.int (46 : Int32).toInt8.toInt32) := (Hs_80.at (inb_of Sz_80 ⟨by decide, by decide⟩) rfl)
        refine Go.step (fun _ k => X0.baloadBytes hx (j := (3 : Int32)) (v := (.int (46 : Int32).toInt8.toInt32)) (by rw [e0]; exact Ar_80.1) (State.isArrayOf_alike hZ.alike Ar_80.2.1) Ar_80.2.2 hin_80 hat_80 (g := (mkF m 88 #[.val (.ref a1), .val (.int (0 : Int32)), .val (.ref a2), .val (.int (0 : Int32)), .val (.int (4 : Int32)), .val (.int (3 : Int32)), .unset, .unset] [(.int (3 : Int32)), (.ref a2), (.int (cs.getD 3 0).toInt8.toInt32)])) rfl rfl (hb hby d_jdk_48_method_14_code_88) _ k) ?_
        show Go p e below _ (s₁.setTop (mkF m 89 #[.val (.ref a1), .val (.int (0 : Int32)), .val (.ref a2), .val (.int (0 : Int32)), .val (.int (4 : Int32)), .val (.int (3 : Int32)), .unset, .unset] [(.int (46 : Int32).toInt8.toInt32), (.int (cs.getD 3 0).toInt8.toInt32)]))
        by_cases y3 : (cs.getD 3 0).toInt8.toInt32 = (46 : Int32).toInt8.toInt32
        · skip
          refine Go.step (fun _ k => XS.icmpYes X0.here hx rfl (pc0 := 89) (pc' := 95) rfl (hb hby d_jdk_48_method_14_code_89) rfl (teq y3).1 (by decide) (by decide) k) ?_
          show Go p e below _ (s₁.setTop (mkF m 95 #[.val (.ref a1), .val (.int (0 : Int32)), .val (.ref a2), .val (.int (0 : Int32)), .val (.int (4 : Int32)), .val (.int (3 : Int32)), .unset, .unset] []))
          refine Go.step (fun _ k => XS.iinc X0.here hx rfl (hb hby d_jdk_48_method_14_code_95) rfl (l' := #[.val (.ref a1), .val (.int (0 : Int32)), .val (.ref a2), .val (.int (0 : Int32)), .val (.int (4 : Int32)), .val (.int ((3 : Int32) + (1 : Int32))), .unset, .unset]) rfl k) ?_
          show Go p e below _ (s₁.setTop (mkF m 98 #[.val (.ref a1), .val (.int (0 : Int32)), .val (.ref a2), .val (.int (0 : Int32)), .val (.int (4 : Int32)), .val (.int ((3 : Int32) + (1 : Int32))), .unset, .unset] []))
          rw [show ((3 : Int32) + (1 : Int32)) = (4 : Int32) from by decide]
          show Go p e below _ (s₁.setTop (mkF m 98 #[.val (.ref a1), .val (.int (0 : Int32)), .val (.ref a2), .val (.int (0 : Int32)), .val (.int (4 : Int32)), .val (.int (4 : Int32)), .unset, .unset] []))
          refine Go.step (fun _ k => XS.goto X0.here hx rfl (pc0 := 98) (pc' := 70) rfl (hb hby d_jdk_48_method_14_code_98) (by decide) (by decide) k) ?_
          show Go p e below _ (s₁.setTop (mkF m 70 #[.val (.ref a1), .val (.int (0 : Int32)), .val (.ref a2), .val (.int (0 : Int32)), .val (.int (4 : Int32)), .val (.int (4 : Int32)), .unset, .unset] []))
          refine Go.step (fun _ k => XS.iload X0.here hx rfl (hb hby d_jdk_48_method_14_code_70) rfl  k) ?_
          show Go p e below _ (s₁.setTop (mkF m 72 #[.val (.ref a1), .val (.int (0 : Int32)), .val (.ref a2), .val (.int (0 : Int32)), .val (.int (4 : Int32)), .val (.int (4 : Int32)), .unset, .unset] [(.int (4 : Int32))]))
          refine Go.step (fun _ k => XS.iload X0.here hx rfl (hb hby d_jdk_48_method_14_code_72) rfl  k) ?_
          show Go p e below _ (s₁.setTop (mkF m 74 #[.val (.ref a1), .val (.int (0 : Int32)), .val (.ref a2), .val (.int (0 : Int32)), .val (.int (4 : Int32)), .val (.int (4 : Int32)), .unset, .unset] [(.int (4 : Int32)), (.int (4 : Int32))]))
          refine Go.step (fun _ k => XS.icmpYes X0.here hx rfl (pc0 := 74) (pc' := 101) rfl (hb hby d_jdk_48_method_14_code_74) rfl (flt ((by decide) : ¬ ((4 : Int32) < (4 : Int32)))).2.1 (by decide) (by decide) k) ?_
          show Go p e below _ (s₁.setTop (mkF m 101 #[.val (.ref a1), .val (.int (0 : Int32)), .val (.ref a2), .val (.int (0 : Int32)), .val (.int (4 : Int32)), .val (.int (4 : Int32)), .unset, .unset] []))
          refine Go.step (fun _ k => XS.iconst X0.here hx rfl (hb hby d_jdk_48_method_14_code_101) k) ?_
          show Go p e below _ (s₁.setTop (mkF m 102 #[.val (.ref a1), .val (.int (0 : Int32)), .val (.ref a2), .val (.int (0 : Int32)), .val (.int (4 : Int32)), .val (.int (4 : Int32)), .unset, .unset] [(.int (-1 : Int32))]))
          exact Go.retV X0 hx hlk hret rfl (Or.inl ⟨rfl, Or.inl rfl, _, rfl⟩) (hb hby d_jdk_48_method_14_code_102) (by decide) (by decide) (by rw [e0]; exact ⟨(-1 : Int32), rfl, N0, rfl, ⟨fun _ => ⟨y0, y1, y2, y3⟩, fun _ => by decide⟩⟩)
        · skip
          refine Go.step (fun _ k => XS.icmpNo X0.here hx rfl (hb hby d_jdk_48_method_14_code_89) rfl (feq y3).1 k) ?_
          show Go p e below _ (s₁.setTop (mkF m 92 #[.val (.ref a1), .val (.int (0 : Int32)), .val (.ref a2), .val (.int (0 : Int32)), .val (.int (4 : Int32)), .val (.int (3 : Int32)), .unset, .unset] []))
          refine Go.step (fun _ k => XS.iload X0.here hx rfl (hb hby d_jdk_48_method_14_code_92) rfl  k) ?_
          show Go p e below _ (s₁.setTop (mkF m 94 #[.val (.ref a1), .val (.int (0 : Int32)), .val (.ref a2), .val (.int (0 : Int32)), .val (.int (4 : Int32)), .val (.int (3 : Int32)), .unset, .unset] [(.int (3 : Int32))]))
          exact Go.retV X0 hx hlk hret rfl (Or.inl ⟨rfl, Or.inl rfl, _, rfl⟩) (hb hby d_jdk_48_method_14_code_94) (by decide) (by decide) (by rw [e0]; exact ⟨(3 : Int32), rfl, N0, rfl, ⟨fun q => absurd q (by decide), fun q => absurd q.2.2.2 y3⟩⟩)
      · skip
        refine Go.step (fun _ k => XS.icmpNo X0.here hx rfl (hb hby d_jdk_48_method_14_code_89) rfl (feq y2).1 k) ?_
        show Go p e below _ (s₁.setTop (mkF m 92 #[.val (.ref a1), .val (.int (0 : Int32)), .val (.ref a2), .val (.int (0 : Int32)), .val (.int (4 : Int32)), .val (.int (2 : Int32)), .unset, .unset] []))
        refine Go.step (fun _ k => XS.iload X0.here hx rfl (hb hby d_jdk_48_method_14_code_92) rfl  k) ?_
        show Go p e below _ (s₁.setTop (mkF m 94 #[.val (.ref a1), .val (.int (0 : Int32)), .val (.ref a2), .val (.int (0 : Int32)), .val (.int (4 : Int32)), .val (.int (2 : Int32)), .unset, .unset] [(.int (2 : Int32))]))
        exact Go.retV X0 hx hlk hret rfl (Or.inl ⟨rfl, Or.inl rfl, _, rfl⟩) (hb hby d_jdk_48_method_14_code_94) (by decide) (by decide) (by rw [e0]; exact ⟨(2 : Int32), rfl, N0, rfl, ⟨fun q => absurd q (by decide), fun q => absurd q.2.2.1 y2⟩⟩)
    · skip
      refine Go.step (fun _ k => XS.icmpNo X0.here hx rfl (hb hby d_jdk_48_method_14_code_89) rfl (feq y1).1 k) ?_
      show Go p e below _ (s₁.setTop (mkF m 92 #[.val (.ref a1), .val (.int (0 : Int32)), .val (.ref a2), .val (.int (0 : Int32)), .val (.int (4 : Int32)), .val (.int (1 : Int32)), .unset, .unset] []))
      refine Go.step (fun _ k => XS.iload X0.here hx rfl (hb hby d_jdk_48_method_14_code_92) rfl  k) ?_
      show Go p e below _ (s₁.setTop (mkF m 94 #[.val (.ref a1), .val (.int (0 : Int32)), .val (.ref a2), .val (.int (0 : Int32)), .val (.int (4 : Int32)), .val (.int (1 : Int32)), .unset, .unset] [(.int (1 : Int32))]))
      exact Go.retV X0 hx hlk hret rfl (Or.inl ⟨rfl, Or.inl rfl, _, rfl⟩) (hb hby d_jdk_48_method_14_code_94) (by decide) (by decide) (by rw [e0]; exact ⟨(1 : Int32), rfl, N0, rfl, ⟨fun q => absurd q (by decide), fun q => absurd q.2.1 y1⟩⟩)
  · skip
    refine Go.step (fun _ k => XS.icmpNo X0.here hx rfl (hb hby d_jdk_48_method_14_code_89) rfl (feq y0).1 k) ?_
    show Go p e below _ (s₁.setTop (mkF m 92 #[.val (.ref a1), .val (.int (0 : Int32)), .val (.ref a2), .val (.int (0 : Int32)), .val (.int (4 : Int32)), .val (.int (0 : Int32)), .unset, .unset] []))
    refine Go.step (fun _ k => XS.iload X0.here hx rfl (hb hby d_jdk_48_method_14_code_92) rfl  k) ?_
    show Go p e below _ (s₁.setTop (mkF m 94 #[.val (.ref a1), .val (.int (0 : Int32)), .val (.ref a2), .val (.int (0 : Int32)), .val (.int (4 : Int32)), .val (.int (0 : Int32)), .unset, .unset] [(.int (0 : Int32))]))
    exact Go.retV X0 hx hlk hret rfl (Or.inl ⟨rfl, Or.inl rfl, _, rfl⟩) (hb hby d_jdk_48_method_14_code_94) (by decide) (by decide) (by rw [e0]; exact ⟨(0 : Int32), rfl, N0, rfl, ⟨fun q => absurd q (by decide), fun q => absurd q.1 y0⟩⟩)
--@E
--@C sw3
def Q_sw3 (Z : State) (zc : Int32) (a1 : Addr) (a2 : Addr) (cs : List Int32) (h0 : Heap) (n0 : Nat) (v : Option Value) (h : Heap) (L : List Loc) : Prop := v = some (.int (if pre cs then (1 : Int32) else 0)) ∧ Fr n0 L ∧ h = h0
set_option maxRecDepth 65536 in
set_option maxHeartbeats 40000000 in
theorem rm_sw3 (l : Launch) (Z : State) (a0 : Array Value) (hw : ∀ d ∈ tables_1, d.before a0 Z = true) (zc : Int32) (a1 : Addr) (a2 : Addr) (cs : List Int32) (h0 : Heap) (n0 : Nat) (Z0 : n0 ≤ h0.size) (S_a1 : Str Z h0.size h0 a1 cs) (S_a2 : Str Z h0.size h0 a2 ([(114 : Int32), (112 : Int32), (99 : Int32), (46 : Int32)] : List Int32)) (hSt : St Z zc) (hO : Old Z n0 h0) :
    CN l Z ({ cls := "java/lang/String", name := "startsWith", desc := "(Ljava/lang/String;I)Z" } : Jvm.MethodName) [(Jvm.Cond.code ({ cls := "java/lang/String", name := "startsWith", desc := "(Ljava/lang/String;I)Z" } : Jvm.MethodName) jdk_42_method_75_code (8 : Nat) (Option.some Jvm.ClassFile.FieldType.boolean))] ({ frames := 2, cells := 0, slots := 0, locals := 27 } : Room) #[(.ref a1), (.ref a2), (.int (0 : Int32))] h0 (Q_sw3 Z zc a1 a2 cs h0 n0) := by
  refine CN.of (L0 := #[.val (.ref a1), .val (.ref a2), .val (.int (0 : Int32)), .unset, .unset, .unset, .unset, .unset]) (plainFor_of_name pn_2) (fun m => by first | (simp [entryFrame, mkF, argsToLocals, Value.category]; done) | rfl) ?_
  intro p e s m below meth c s₁ hx hby hml hret hlk hZ hown hnm X0 e0
  have N0 := Fr.nil n0
  have KP0 := Keep.refl h0 []
  have hSt_ := hSt
  obtain ⟨S_cs, n_cs⟩ := hSt_
  have hl0 := S_a1.lat
  have hm := S_a1.le4
  show Go p e below _ (s₁.setTop (mkF m 0 #[.val (.ref a1), .val (.ref a2), .val (.int (0 : Int32)), .unset, .unset, .unset, .unset, .unset] []))
  refine Go.step (fun _ k => XS.iloadN X0.here hx rfl (hb hby d_jdk_42_method_75_code_0) rfl  k) ?_
  show Go p e below _ (s₁.setTop (mkF m 1 #[.val (.ref a1), .val (.ref a2), .val (.int (0 : Int32)), .unset, .unset, .unset, .unset, .unset] [(.int (0 : Int32))]))
  refine Go.step (fun _ k => XS.ifNo X0.here hx rfl (hb hby d_jdk_42_method_75_code_1) rfl ((if0 _ _).trans (flt ((by decide) : ¬ ((0 : Int32) < (0 : Int32)))).1) k) ?_
  show Go p e below _ (s₁.setTop (mkF m 4 #[.val (.ref a1), .val (.ref a2), .val (.int (0 : Int32)), .unset, .unset, .unset, .unset, .unset] []))
  refine Go.step (fun _ k => XS.iloadN X0.here hx rfl (hb hby d_jdk_42_method_75_code_4) rfl  k) ?_
  show Go p e below _ (s₁.setTop (mkF m 5 #[.val (.ref a1), .val (.ref a2), .val (.int (0 : Int32)), .unset, .unset, .unset, .unset, .unset] [(.int (0 : Int32))]))
  refine Go.step (fun _ k => XS.aloadN X0.here hx rfl (hb hby d_jdk_42_method_75_code_5) rfl rfl k) ?_
  show Go p e below _ (s₁.setTop (mkF m 6 #[.val (.ref a1), .val (.ref a2), .val (.int (0 : Int32)), .unset, .unset, .unset, .unset, .unset] [(.ref a1), (.int (0 : Int32))]))
  have cp82 := S_a1
  obtain ⟨t83, kb83, -, -, Ex83, Fv83, Fc83, Av83, hl83, hn83⟩ := cp82
  obtain ⟨v_84, T_84, L_84, X_84, hQ_84, st_84⟩ := goV X0 hx hZ (y := ({ cls := "java/lang/String", name := "length", desc := "()I" } : Jvm.MethodName)) (z := ({ cls := "java/lang/String", name := "length", desc := "()I" } : Jvm.MethodName)) (kc := 0) (ks := 0) (QQ := fun v h' L => v = some (.int (Int32.ofNat cs.length)) ∧ L = [] ∧ h' = h0) hown (wd_62 hw) (wd_63 hw) (notFace_of_selects (args := #[]) (mvT hZ (wd_65 hw))) (wd_65 hw) (wd_64 hw) (by decide) (StrChars.Road.lenW (W := 1) hZ (sw_wordsLen hw) (kI := 4) (wd_6 hw) Ex83 Fv83 Fc83 Av83 (StrChars.Road.codOf rfl (fun c hc => (hl83 c hc).2)) (up255 hl83) (S_cs.ext hO.2) n_cs hn83 (by decide) (by decide)) e0 Ex83 (g := (mkF m 6 #[.val (.ref a1), .val (.ref a2), .val (.int (0 : Int32)), .unset, .unset, .unset, .unset, .unset] [(.ref a1), (.int (0 : Int32))])) rfl (by rw [hml]; rfl) (argsL := []) (rest := [(.int (0 : Int32))]) rfl (lenOf pd_1 rfl) rfl (by show 2 * 0 + _ ≤ _; exact Nat.le_of_eq rfl) (hb hby d_jdk_42_method_75_code_6) (by decide) (by decide)
  obtain ⟨rfl, rfl, e_84⟩ := hQ_84
  have N_84 := Fr.app N0 (Fr.nil n0)
  refine Go.step st_84 ?_
  show Go p e below _ (T_84.setTop (mkF m 9 #[.val (.ref a1), .val (.ref a2), .val (.int (0 : Int32)), .unset, .unset, .unset, .unset, .unset] [(.int (Int32.ofNat cs.length)), (.int (0 : Int32))]))
  refine Go.step (fun _ k => XS.aloadN X_84.here hx rfl (hb hby d_jdk_42_method_75_code_9) rfl rfl k) ?_
  show Go p e below _ (T_84.setTop (mkF m 10 #[.val (.ref a1), .val (.ref a2), .val (.int (0 : Int32)), .unset, .unset, .unset, .unset, .unset] [(.ref a2), (.int (Int32.ofNat cs.length)), (.int (0 : Int32))]))
  have cp85 := S_a2
  obtain ⟨t86, kb86, -, -, Ex86, Fv86, Fc86, Av86, hl86, hn86⟩ := cp85
  obtain ⟨v_87, T_87, L_87, X_87, hQ_87, st_87⟩ := goV X_84 hx hZ (y := ({ cls := "java/lang/String", name := "length", desc := "()I" } : Jvm.MethodName)) (z := ({ cls := "java/lang/String", name := "length", desc := "()I" } : Jvm.MethodName)) (kc := 0) (ks := 0) (QQ := fun v h' L => v = some (.int (4 : Int32)) ∧ L = [] ∧ h' = h0) hown (wd_62 hw) (wd_63 hw) (notFace_of_selects (args := #[]) (mvT hZ (wd_65 hw))) (wd_65 hw) (wd_64 hw) (by decide) (StrChars.Road.lenW (W := 2) hZ (sw_wordsLen hw) (kI := 4) (wd_6 hw) Ex86 Fv86 Fc86 Av86 (StrChars.Road.codOf rfl (fun c hc => (hl86 c hc).2)) (up255 hl86) (S_cs.ext hO.2) n_cs hn86 (by decide) (by decide)) e_84 Ex86 (g := (mkF m 10 #[.val (.ref a1), .val (.ref a2), .val (.int (0 : Int32)), .unset, .unset, .unset, .unset, .unset] [(.ref a2), (.int (Int32.ofNat cs.length)), (.int (0 : Int32))])) rfl (by rw [hml]; rfl) (argsL := []) (rest := [(.int (Int32.ofNat cs.length)), (.int (0 : Int32))]) rfl (lenOf pd_1 rfl) rfl (by show 2 * 0 + _ ≤ _; exact Nat.le_of_eq rfl) (hb hby d_jdk_42_method_75_code_10) (by decide) (by decide)
  obtain ⟨rfl, rfl, e_87⟩ := hQ_87
  have N_87 := Fr.app N_84 (Fr.nil n0)
  refine Go.step st_87 ?_
  show Go p e below _ (T_87.setTop (mkF m 13 #[.val (.ref a1), .val (.ref a2), .val (.int (0 : Int32)), .unset, .unset, .unset, .unset, .unset] [(.int (4 : Int32)), (.int (Int32.ofNat cs.length)), (.int (0 : Int32))]))
  refine Go.step (fun _ k => XS.isub X_87.here hx rfl (hb hby d_jdk_42_method_75_code_13) rfl k) ?_
  show Go p e below _ (T_87.setTop (mkF m 14 #[.val (.ref a1), .val (.ref a2), .val (.int (0 : Int32)), .unset, .unset, .unset, .unset, .unset] [(.int ((Int32.ofNat cs.length) - (4 : Int32))), (.int (0 : Int32))]))
  by_cases hs : ((Int32.ofNat cs.length) - (4 : Int32)) < (0 : Int32)
  · skip
    refine Go.step (fun _ k => XS.icmpNo X_87.here hx rfl (hb hby d_jdk_42_method_75_code_14) rfl (tlt hs).2.2.2 k) ?_
    show Go p e below _ (T_87.setTop (mkF m 17 #[.val (.ref a1), .val (.ref a2), .val (.int (0 : Int32)), .unset, .unset, .unset, .unset, .unset] []))
    refine Go.step (fun _ k => XS.iconst X_87.here hx rfl (hb hby d_jdk_42_method_75_code_17) k) ?_
    show Go p e below _ (T_87.setTop (mkF m 18 #[.val (.ref a1), .val (.ref a2), .val (.int (0 : Int32)), .unset, .unset, .unset, .unset, .unset] [(.int (0 : Int32))]))
    exact Go.retV X_87 hx hlk hret rfl (Or.inl ⟨rfl, Or.inr (Or.inl rfl), _, rfl⟩) (hb hby d_jdk_42_method_75_code_18) (by decide) (by decide) (by rw [e_87]; exact ⟨(by rw [if_neg (fun q => absurd q.1 (Nat.not_le.mpr ((sub_lt0 (n := 4) (Nat.le_trans hm (by decide)) (by decide) (by decide)).mp hs)))]), N_87, rfl⟩)
  · skip
    have hle : 4 ≤ cs.length := Nat.not_lt.mp (fun q => hs ((sub_lt0 (n := 4) (Nat.le_trans hm (by decide)) (by decide) (by decide)).mpr q))
    refine Go.step (fun _ k => XS.icmpYes X_87.here hx rfl (pc0 := 14) (pc' := 19) rfl (hb hby d_jdk_42_method_75_code_14) rfl (flt hs).2.2.2 (by decide) (by decide) k) ?_
    show Go p e below _ (T_87.setTop (mkF m 19 #[.val (.ref a1), .val (.ref a2), .val (.int (0 : Int32)), .unset, .unset, .unset, .unset, .unset] []))
    refine Go.step (fun _ k => XS.aloadN X_87.here hx rfl (hb hby d_jdk_42_method_75_code_19) rfl rfl k) ?_
    show Go p e below _ (T_87.setTop (mkF m 20 #[.val (.ref a1), .val (.ref a2), .val (.int (0 : Int32)), .unset, .unset, .unset, .unset, .unset] [(.ref a1)]))
    have cp88 := S_a1
    obtain ⟨t89, kb89, -, -, Ex89, Fv89, Fc89, Av89, hl89, hn89⟩ := cp88
    obtain ⟨T_90, X_90, e_90, st_90⟩ := getF X_87 hx hZ hown (host := "") (Or.inl (wd_33 hw)) Via.refl e_87 Fv89 (g := (mkF m 20 #[.val (.ref a1), .val (.ref a2), .val (.int (0 : Int32)), .unset, .unset, .unset, .unset, .unset] [(.ref a1)])) rfl rfl (hb hby d_jdk_42_method_75_code_20)
    refine Go.step st_90 ?_
    show Go p e below _ (T_90.setTop (mkF m 23 #[.val (.ref a1), .val (.ref a2), .val (.int (0 : Int32)), .unset, .unset, .unset, .unset, .unset] [(.ref t89)]))
    refine Go.step (fun _ k => XS.astoreN X_90.here hx rfl (hb hby d_jdk_42_method_75_code_23) rfl rfl (l' := #[.val (.ref a1), .val (.ref a2), .val (.int (0 : Int32)), .val (.ref t89), .unset, .unset, .unset, .unset]) rfl k) ?_
    show Go p e below _ (T_90.setTop (mkF m 24 #[.val (.ref a1), .val (.ref a2), .val (.int (0 : Int32)), .val (.ref t89), .unset, .unset, .unset, .unset] []))
    refine Go.step (fun _ k => XS.aloadN X_90.here hx rfl (hb hby d_jdk_42_method_75_code_24) rfl rfl k) ?_
    show Go p e below _ (T_90.setTop (mkF m 25 #[.val (.ref a1), .val (.ref a2), .val (.int (0 : Int32)), .val (.ref t89), .unset, .unset, .unset, .unset] [(.ref a2)]))
    have cp91 := S_a2
    obtain ⟨t92, kb92, -, -, Ex92, Fv92, Fc92, Av92, hl92, hn92⟩ := cp91
    obtain ⟨T_93, X_93, e_93, st_93⟩ := getF X_90 hx hZ hown (host := "") (Or.inl (wd_33 hw)) Via.refl e_90 Fv92 (g := (mkF m 25 #[.val (.ref a1), .val (.ref a2), .val (.int (0 : Int32)), .val (.ref t89), .unset, .unset, .unset, .unset] [(.ref a2)])) rfl rfl (hb hby d_jdk_42_method_75_code_25)
    refine Go.step st_93 ?_
    show Go p e below _ (T_93.setTop (mkF m 28 #[.val (.ref a1), .val (.ref a2), .val (.int (0 : Int32)), .val (.ref t89), .unset, .unset, .unset, .unset] [(.ref t92)]))
    refine Go.step (fun _ k => XS.astore X_93.here hx rfl (hb hby d_jdk_42_method_75_code_28) rfl rfl (l' := #[.val (.ref a1), .val (.ref a2), .val (.int (0 : Int32)), .val (.ref t89), .val (.ref t92), .unset, .unset, .unset]) rfl k) ?_
    show Go p e below _ (T_93.setTop (mkF m 30 #[.val (.ref a1), .val (.ref a2), .val (.int (0 : Int32)), .val (.ref t89), .val (.ref t92), .unset, .unset, .unset] []))
    refine Go.step (fun _ k => XS.iconst X_93.here hx rfl (hb hby d_jdk_42_method_75_code_30) k) ?_
    show Go p e below _ (T_93.setTop (mkF m 31 #[.val (.ref a1), .val (.ref a2), .val (.int (0 : Int32)), .val (.ref t89), .val (.ref t92), .unset, .unset, .unset] [(.int (0 : Int32))]))
    refine Go.step (fun _ k => XS.istore X_93.here hx rfl (hb hby d_jdk_42_method_75_code_31) rfl (l' := #[.val (.ref a1), .val (.ref a2), .val (.int (0 : Int32)), .val (.ref t89), .val (.ref t92), .val (.int (0 : Int32)), .unset, .unset]) rfl k) ?_
    show Go p e below _ (T_93.setTop (mkF m 33 #[.val (.ref a1), .val (.ref a2), .val (.int (0 : Int32)), .val (.ref t89), .val (.ref t92), .val (.int (0 : Int32)), .unset, .unset] []))
    refine Go.step (fun _ k => XS.aload X_93.here hx rfl (hb hby d_jdk_42_method_75_code_33) rfl rfl k) ?_
    show Go p e below _ (T_93.setTop (mkF m 35 #[.val (.ref a1), .val (.ref a2), .val (.int (0 : Int32)), .val (.ref t89), .val (.ref t92), .val (.int (0 : Int32)), .unset, .unset] [(.ref t92)]))
    have cp95 := Av92
    obtain ⟨cl_94, Ar_94, -, Sz_94, Ng_94, -, -⟩ := cp95
    refine Go.step (fun _ k => X_93.arraylength hx (by rw [e_93]; exact Ar_94.1) (State.isArrayOf_alike hZ.alike Ar_94.2.1) (g := (mkF m 35 #[.val (.ref a1), .val (.ref a2), .val (.int (0 : Int32)), .val (.ref t89), .val (.ref t92), .val (.int (0 : Int32)), .unset, .unset] [(.ref t92)])) rfl rfl (hb hby d_jdk_42_method_75_code_35) _ k) ?_
    rw [len_of Sz_94 Ng_94]
    show Go p e below _ (T_93.setTop (mkF m 36 #[.val (.ref a1), .val (.ref a2), .val (.int (0 : Int32)), .val (.ref t89), .val (.ref t92), .val (.int (0 : Int32)), .unset, .unset] [(.int (4 : Int32))]))
    refine Go.step (fun _ k => XS.istore X_93.here hx rfl (hb hby d_jdk_42_method_75_code_36) rfl (l' := #[.val (.ref a1), .val (.ref a2), .val (.int (0 : Int32)), .val (.ref t89), .val (.ref t92), .val (.int (0 : Int32)), .val (.int (4 : Int32)), .unset]) rfl k) ?_
    show Go p e below _ (T_93.setTop (mkF m 38 #[.val (.ref a1), .val (.ref a2), .val (.int (0 : Int32)), .val (.ref t89), .val (.ref t92), .val (.int (0 : Int32)), .val (.int (4 : Int32)), .unset] []))
    refine Go.step (fun _ k => XS.aloadN X_93.here hx rfl (hb hby d_jdk_42_method_75_code_38) rfl rfl k) ?_
    show Go p e below _ (T_93.setTop (mkF m 39 #[.val (.ref a1), .val (.ref a2), .val (.int (0 : Int32)), .val (.ref t89), .val (.ref t92), .val (.int (0 : Int32)), .val (.int (4 : Int32)), .unset] [(.ref a1)]))
    obtain ⟨v_96, T_96, L_96, X_96, hQ_96, st_96⟩ := goV X_93 hx hZ (y := ({ cls := "java/lang/String", name := "coder", desc := "()B" } : Jvm.MethodName)) (z := ({ cls := "java/lang/String", name := "coder", desc := "()B" } : Jvm.MethodName)) hown (wd_67 hw) (wd_68 hw) (notFace_of_selects (args := #[]) (mvT hZ (wd_70 hw))) (wd_70 hw) (wd_69 hw) (by decide) (backOf (W := 0) (rm_coder l Z a0 hw zc (a1) h0 n0 (Nat.le_trans Z0 KP0.1) Fc89 hSt hO) hZ (wd_71 hw) (wd_7 hw) (by decide) (by decide)) e_93 Ex89 (g := (mkF m 39 #[.val (.ref a1), .val (.ref a2), .val (.int (0 : Int32)), .val (.ref t89), .val (.ref t92), .val (.int (0 : Int32)), .val (.int (4 : Int32)), .unset] [(.ref a1)])) rfl (by rw [hml]; rfl) (argsL := []) (rest := []) rfl (lenOf pd_2 rfl) rfl (by show 2 * 0 + _ ≤ _; exact Nat.le_of_eq rfl) (hb hby d_jdk_42_method_75_code_39) (by decide) (by decide)
    obtain ⟨rfl, Nq_96, e_96⟩ := hQ_96
    have N_96 := Fr.app N_87 Nq_96
    refine Go.step st_96 ?_
    show Go p e below _ (T_96.setTop (mkF m 42 #[.val (.ref a1), .val (.ref a2), .val (.int (0 : Int32)), .val (.ref t89), .val (.ref t92), .val (.int (0 : Int32)), .val (.int (4 : Int32)), .unset] [(.int (0 : Int32))]))
    refine Go.step (fun _ k => XS.istore X_96.here hx rfl (hb hby d_jdk_42_method_75_code_42) rfl (l' := #[.val (.ref a1), .val (.ref a2), .val (.int (0 : Int32)), .val (.ref t89), .val (.ref t92), .val (.int (0 : Int32)), .val (.int (4 : Int32)), .val (.int (0 : Int32))]) rfl k) ?_
    show Go p e below _ (T_96.setTop (mkF m 44 #[.val (.ref a1), .val (.ref a2), .val (.int (0 : Int32)), .val (.ref t89), .val (.ref t92), .val (.int (0 : Int32)), .val (.int (4 : Int32)), .val (.int (0 : Int32))] []))
    refine Go.step (fun _ k => XS.iload X_96.here hx rfl (hb hby d_jdk_42_method_75_code_44) rfl  k) ?_
    show Go p e below _ (T_96.setTop (mkF m 46 #[.val (.ref a1), .val (.ref a2), .val (.int (0 : Int32)), .val (.ref t89), .val (.ref t92), .val (.int (0 : Int32)), .val (.int (4 : Int32)), .val (.int (0 : Int32))] [(.int (0 : Int32))]))
    refine Go.step (fun _ k => XS.aloadN X_96.here hx rfl (hb hby d_jdk_42_method_75_code_46) rfl rfl k) ?_
    show Go p e below _ (T_96.setTop (mkF m 47 #[.val (.ref a1), .val (.ref a2), .val (.int (0 : Int32)), .val (.ref t89), .val (.ref t92), .val (.int (0 : Int32)), .val (.int (4 : Int32)), .val (.int (0 : Int32))] [(.ref a2), (.int (0 : Int32))]))
    obtain ⟨v_97, T_97, L_97, X_97, hQ_97, st_97⟩ := goV X_96 hx hZ (y := ({ cls := "java/lang/String", name := "coder", desc := "()B" } : Jvm.MethodName)) (z := ({ cls := "java/lang/String", name := "coder", desc := "()B" } : Jvm.MethodName)) hown (wd_67 hw) (wd_68 hw) (notFace_of_selects (args := #[]) (mvT hZ (wd_70 hw))) (wd_70 hw) (wd_69 hw) (by decide) (backOf (W := 1) (rm_coder l Z a0 hw zc (a2) h0 n0 (Nat.le_trans Z0 KP0.1) Fc92 hSt hO) hZ (wd_71 hw) (wd_7 hw) (by decide) (by decide)) e_96 Ex92 (g := (mkF m 47 #[.val (.ref a1), .val (.ref a2), .val (.int (0 : Int32)), .val (.ref t89), .val (.ref t92), .val (.int (0 : Int32)), .val (.int (4 : Int32)), .val (.int (0 : Int32))] [(.ref a2), (.int (0 : Int32))])) rfl (by rw [hml]; rfl) (argsL := []) (rest := [(.int (0 : Int32))]) rfl (lenOf pd_2 rfl) rfl (by show 2 * 0 + _ ≤ _; exact Nat.le_of_eq rfl) (hb hby d_jdk_42_method_75_code_47) (by decide) (by decide)
    obtain ⟨rfl, Nq_97, e_97⟩ := hQ_97
    have N_97 := Fr.app N_96 Nq_97
    refine Go.step st_97 ?_
    show Go p e below _ (T_97.setTop (mkF m 50 #[.val (.ref a1), .val (.ref a2), .val (.int (0 : Int32)), .val (.ref t89), .val (.ref t92), .val (.int (0 : Int32)), .val (.int (4 : Int32)), .val (.int (0 : Int32))] [(.int (0 : Int32)), (.int (0 : Int32))]))
    refine Go.step (fun _ k => XS.icmpNo X_97.here hx rfl (hb hby d_jdk_42_method_75_code_50) rfl (teq ((by decide) : (0 : Int32) = (0 : Int32))).2 k) ?_
    show Go p e below _ (T_97.setTop (mkF m 53 #[.val (.ref a1), .val (.ref a2), .val (.int (0 : Int32)), .val (.ref t89), .val (.ref t92), .val (.int (0 : Int32)), .val (.int (4 : Int32)), .val (.int (0 : Int32))] []))
    refine Go.step (fun _ k => XS.iload X_97.here hx rfl (hb hby d_jdk_42_method_75_code_53) rfl  k) ?_
    show Go p e below _ (T_97.setTop (mkF m 55 #[.val (.ref a1), .val (.ref a2), .val (.int (0 : Int32)), .val (.ref t89), .val (.ref t92), .val (.int (0 : Int32)), .val (.int (4 : Int32)), .val (.int (0 : Int32))] [(.int (0 : Int32))]))
    refine Go.step (fun _ k => XS.iconst X_97.here hx rfl (hb hby d_jdk_42_method_75_code_55) k) ?_
    show Go p e below _ (T_97.setTop (mkF m 56 #[.val (.ref a1), .val (.ref a2), .val (.int (0 : Int32)), .val (.ref t89), .val (.ref t92), .val (.int (0 : Int32)), .val (.int (4 : Int32)), .val (.int (0 : Int32))] [(.int (1 : Int32)), (.int (0 : Int32))]))
    refine Go.step (fun _ k => XS.icmpYes X_97.here hx rfl (pc0 := 56) (pc' := 63) rfl (hb hby d_jdk_42_method_75_code_56) rfl (feq ((by decide) : ¬ ((0 : Int32) = (1 : Int32)))).2 (by decide) (by decide) k) ?_
    show Go p e below _ (T_97.setTop (mkF m 63 #[.val (.ref a1), .val (.ref a2), .val (.int (0 : Int32)), .val (.ref t89), .val (.ref t92), .val (.int (0 : Int32)), .val (.int (4 : Int32)), .val (.int (0 : Int32))] []))
    refine Go.step (fun _ k => XS.aloadN X_97.here hx rfl (hb hby d_jdk_42_method_75_code_63) rfl rfl k) ?_
    show Go p e below _ (T_97.setTop (mkF m 64 #[.val (.ref a1), .val (.ref a2), .val (.int (0 : Int32)), .val (.ref t89), .val (.ref t92), .val (.int (0 : Int32)), .val (.int (4 : Int32)), .val (.int (0 : Int32))] [(.ref t89)]))
    refine Go.step (fun _ k => XS.iloadN X_97.here hx rfl (hb hby d_jdk_42_method_75_code_64) rfl  k) ?_
    show Go p e below _ (T_97.setTop (mkF m 65 #[.val (.ref a1), .val (.ref a2), .val (.int (0 : Int32)), .val (.ref t89), .val (.ref t92), .val (.int (0 : Int32)), .val (.int (4 : Int32)), .val (.int (0 : Int32))] [(.int (0 : Int32)), (.ref t89)]))
    refine Go.step (fun _ k => XS.aload X_97.here hx rfl (hb hby d_jdk_42_method_75_code_65) rfl rfl k) ?_
    show Go p e below _ (T_97.setTop (mkF m 67 #[.val (.ref a1), .val (.ref a2), .val (.int (0 : Int32)), .val (.ref t89), .val (.ref t92), .val (.int (0 : Int32)), .val (.int (4 : Int32)), .val (.int (0 : Int32))] [(.ref t92), (.int (0 : Int32)), (.ref t89)]))
    refine Go.step (fun _ k => XS.iconst X_97.here hx rfl (hb hby d_jdk_42_method_75_code_67) k) ?_
    show Go p e below _ (T_97.setTop (mkF m 68 #[.val (.ref a1), .val (.ref a2), .val (.int (0 : Int32)), .val (.ref t89), .val (.ref t92), .val (.int (0 : Int32)), .val (.int (4 : Int32)), .val (.int (0 : Int32))] [(.int (0 : Int32)), (.ref t92), (.int (0 : Int32)), (.ref t89)]))
    refine Go.step (fun _ k => XS.iload X_97.here hx rfl (hb hby d_jdk_42_method_75_code_68) rfl  k) ?_
    show Go p e below _ (T_97.setTop (mkF m 70 #[.val (.ref a1), .val (.ref a2), .val (.int (0 : Int32)), .val (.ref t89), .val (.ref t92), .val (.int (0 : Int32)), .val (.int (4 : Int32)), .val (.int (0 : Int32))] [(.int (4 : Int32)), (.int (0 : Int32)), (.ref t92), (.int (0 : Int32)), (.ref t89)]))
    obtain ⟨v_98, T_98, L_98, X_98, hQ_98, st_98⟩ := goS X_97 hx hZ (y := ({ cls := "jdk/internal/util/ArraysSupport", name := "mismatch", desc := "([BI[BII)I" } : Jvm.MethodName)) hown (wd_72 hw) (wd_73 hw) (wd_74 hw) (wd_75 hw) (by decide) (backOf (W := 0) (rm_mism l Z a0 hw zc (t89) (kb89) (t92) (kb92) cs h0 n0 (Nat.le_trans Z0 KP0.1) Av89 Av92 hle hm hSt hO) hZ (wd_75 hw) (wd_74 hw) (by decide) (by decide)) e_97 (g := (mkF m 70 #[.val (.ref a1), .val (.ref a2), .val (.int (0 : Int32)), .val (.ref t89), .val (.ref t92), .val (.int (0 : Int32)), .val (.int (4 : Int32)), .val (.int (0 : Int32))] [(.int (4 : Int32)), (.int (0 : Int32)), (.ref t92), (.int (0 : Int32)), (.ref t89)])) rfl (by rw [hml]; rfl) (argsL := [(.ref t89), (.int (0 : Int32)), (.ref t92), (.int (0 : Int32)), (.int (4 : Int32))]) (rest := []) rfl (lenOf pd_3 rfl) rfl (by show 2 * 0 + _ ≤ _; exact Nat.le_of_eq rfl) (hb hby d_jdk_42_method_75_code_70) (by decide) (by decide)
    obtain ⟨v1_98, rfl, Nq_98, e_98, u0_98⟩ := hQ_98
    have N_98 := Fr.app N_97 Nq_98
    have hv_98 := u0_98
    refine Go.step st_98 ?_
    show Go p e below _ (T_98.setTop (mkF m 73 #[.val (.ref a1), .val (.ref a2), .val (.int (0 : Int32)), .val (.ref t89), .val (.ref t92), .val (.int (0 : Int32)), .val (.int (4 : Int32)), .val (.int (0 : Int32))] [(.int v1_98)]))
    by_cases hv0 : v1_98 < (0 : Int32)
    · skip
      refine Go.step (fun _ k => XS.ifNo X_98.here hx rfl (hb hby d_jdk_42_method_75_code_73) rfl ((if0 _ _).trans (tlt hv0).2.1) k) ?_
      show Go p e below _ (T_98.setTop (mkF m 76 #[.val (.ref a1), .val (.ref a2), .val (.int (0 : Int32)), .val (.ref t89), .val (.ref t92), .val (.int (0 : Int32)), .val (.int (4 : Int32)), .val (.int (0 : Int32))] []))
      refine Go.step (fun _ k => XS.iconst X_98.here hx rfl (hb hby d_jdk_42_method_75_code_76) k) ?_
      show Go p e below _ (T_98.setTop (mkF m 77 #[.val (.ref a1), .val (.ref a2), .val (.int (0 : Int32)), .val (.ref t89), .val (.ref t92), .val (.int (0 : Int32)), .val (.int (4 : Int32)), .val (.int (0 : Int32))] [(.int (1 : Int32))]))
      refine Go.step (fun _ k => XS.goto X_98.here hx rfl (pc0 := 77) (pc' := 81) rfl (hb hby d_jdk_42_method_75_code_77) (by decide) (by decide) k) ?_
      show Go p e below _ (T_98.setTop (mkF m 81 #[.val (.ref a1), .val (.ref a2), .val (.int (0 : Int32)), .val (.ref t89), .val (.ref t92), .val (.int (0 : Int32)), .val (.int (4 : Int32)), .val (.int (0 : Int32))] [(.int (1 : Int32))]))
      exact Go.retV X_98 hx hlk hret rfl (Or.inl ⟨rfl, Or.inr (Or.inl rfl), _, rfl⟩) (hb hby d_jdk_42_method_75_code_81) (by decide) (by decide) (by rw [e_98]; exact ⟨(by rw [if_pos ((pre_of hl0 hle).mp (hv_98.mp hv0))]), N_98, rfl⟩)
    · skip
      refine Go.step (fun _ k => XS.ifYes X_98.here hx rfl (pc0 := 73) (pc' := 80) rfl (hb hby d_jdk_42_method_75_code_73) rfl ((if0 _ _).trans (flt hv0).2.1) (by decide) (by decide) k) ?_
      show Go p e below _ (T_98.setTop (mkF m 80 #[.val (.ref a1), .val (.ref a2), .val (.int (0 : Int32)), .val (.ref t89), .val (.ref t92), .val (.int (0 : Int32)), .val (.int (4 : Int32)), .val (.int (0 : Int32))] []))
      refine Go.step (fun _ k => XS.iconst X_98.here hx rfl (hb hby d_jdk_42_method_75_code_80) k) ?_
      show Go p e below _ (T_98.setTop (mkF m 81 #[.val (.ref a1), .val (.ref a2), .val (.int (0 : Int32)), .val (.ref t89), .val (.ref t92), .val (.int (0 : Int32)), .val (.int (4 : Int32)), .val (.int (0 : Int32))] [(.int (0 : Int32))]))
      exact Go.retV X_98 hx hlk hret rfl (Or.inl ⟨rfl, Or.inr (Or.inl rfl), _, rfl⟩) (hb hby d_jdk_42_method_75_code_81) (by decide) (by decide) (by rw [e_98]; exact ⟨(by rw [if_neg (fun q => hv0 (hv_98.mpr ((pre_of hl0 hle).mpr q)))]), N_98, rfl⟩)
--@E
--@C sw2
def Q_sw2 (Z : State) (zc : Int32) (a1 : Addr) (a2 : Addr) (cs : List Int32) (h0 : Heap) (n0 : Nat) (v : Option Value) (h : Heap) (L : List Loc) : Prop := v = some (.int (if pre cs then (1 : Int32) else 0)) ∧ Fr n0 L ∧ h = h0
set_option maxRecDepth 65536 in
set_option maxHeartbeats 40000000 in
theorem rm_sw2 (l : Launch) (Z : State) (a0 : Array Value) (hw : ∀ d ∈ tables_1, d.before a0 Z = true) (zc : Int32) (a1 : Addr) (a2 : Addr) (cs : List Int32) (h0 : Heap) (n0 : Nat) (Z0 : n0 ≤ h0.size) (S_a1 : Str Z h0.size h0 a1 cs) (S_a2 : Str Z h0.size h0 a2 ([(114 : Int32), (112 : Int32), (99 : Int32), (46 : Int32)] : List Int32)) (hSt : St Z zc) (hO : Old Z n0 h0) :
    CN l Z ({ cls := "java/lang/String", name := "startsWith", desc := "(Ljava/lang/String;)Z" } : Jvm.MethodName) [(Jvm.Cond.code ({ cls := "java/lang/String", name := "startsWith", desc := "(Ljava/lang/String;)Z" } : Jvm.MethodName) jdk_42_method_76_code (2 : Nat) (Option.some Jvm.ClassFile.FieldType.boolean))] ({ frames := 3, cells := 0, slots := 0, locals := 46 } : Room) #[(.ref a1), (.ref a2)] h0 (Q_sw2 Z zc a1 a2 cs h0 n0) := by
  refine CN.of (L0 := #[.val (.ref a1), .val (.ref a2)]) (plainFor_of_name pn_2) (fun m => by first | (simp [entryFrame, mkF, argsToLocals, Value.category]; done) | rfl) ?_
  intro p e s m below meth c s₁ hx hby hml hret hlk hZ hown hnm X0 e0
  have N0 := Fr.nil n0
  have KP0 := Keep.refl h0 []
  have hSt_ := hSt
  obtain ⟨S_cs, n_cs⟩ := hSt_
  show Go p e below _ (s₁.setTop (mkF m 0 #[.val (.ref a1), .val (.ref a2)] []))
  refine Go.step (fun _ k => XS.aloadN X0.here hx rfl (hb hby d_jdk_42_method_76_code_0) rfl rfl k) ?_
  show Go p e below _ (s₁.setTop (mkF m 1 #[.val (.ref a1), .val (.ref a2)] [(.ref a1)]))
  refine Go.step (fun _ k => XS.aloadN X0.here hx rfl (hb hby d_jdk_42_method_76_code_1) rfl rfl k) ?_
  show Go p e below _ (s₁.setTop (mkF m 2 #[.val (.ref a1), .val (.ref a2)] [(.ref a2), (.ref a1)]))
  refine Go.step (fun _ k => XS.iconst X0.here hx rfl (hb hby d_jdk_42_method_76_code_2) k) ?_
  show Go p e below _ (s₁.setTop (mkF m 3 #[.val (.ref a1), .val (.ref a2)] [(.int (0 : Int32)), (.ref a2), (.ref a1)]))
  obtain ⟨v_99, T_99, L_99, X_99, hQ_99, st_99⟩ := goV X0 hx hZ (y := ({ cls := "java/lang/String", name := "startsWith", desc := "(Ljava/lang/String;I)Z" } : Jvm.MethodName)) (z := ({ cls := "java/lang/String", name := "startsWith", desc := "(Ljava/lang/String;I)Z" } : Jvm.MethodName)) hown (wd_57 hw) (wd_58 hw) (notFace_of_selects (args := #[]) (mvT hZ (wd_60 hw))) (wd_60 hw) (wd_59 hw) (by decide) (backOf (W := 0) (rm_sw3 l Z a0 hw zc (a1) (a2) (cs) h0 n0 (Nat.le_trans Z0 KP0.1) S_a1 S_a2 hSt hO) hZ (wd_61 hw) (wd_7 hw) (by decide) (by decide)) e0 S_a1.exa (g := (mkF m 3 #[.val (.ref a1), .val (.ref a2)] [(.int (0 : Int32)), (.ref a2), (.ref a1)])) rfl (by rw [hml]; rfl) (argsL := [(.ref a2), (.int (0 : Int32))]) (rest := []) rfl (lenOf pd_4 rfl) rfl (by show 2 * 0 + _ ≤ _; exact Nat.le_of_eq rfl) (hb hby d_jdk_42_method_76_code_3) (by decide) (by decide)
  obtain ⟨rfl, Nq_99, e_99⟩ := hQ_99
  have N_99 := Fr.app N0 Nq_99
  refine Go.step st_99 ?_
  show Go p e below _ (T_99.setTop (mkF m 6 #[.val (.ref a1), .val (.ref a2)] [(.int (if pre cs then (1 : Int32) else 0))]))
  exact Go.retV X_99 hx hlk hret b01_nar (Or.inl ⟨rfl, Or.inr (Or.inl rfl), _, rfl⟩) (hb hby d_jdk_42_method_76_code_6) (by decide) (by decide) (by rw [e_99]; exact ⟨rfl, N_99, rfl⟩)
--@E
--@C reqValid
def Q_reqValid (Z : State) (zc : Int32) (a1 : Addr) (cs : List Int32) (h0 : Heap) (n0 : Nat) (v : Option Value) (h : Heap) (L : List Loc) : Prop := v = some (.ref a1) ∧ Fr n0 L ∧ Keep h0 h []
set_option maxRecDepth 65536 in
set_option maxHeartbeats 40000000 in
theorem rm_reqValid (l : Launch) (Z : State) (a0 : Array Value) (hw : ∀ d ∈ tables_1, d.before a0 Z = true) (zc : Int32) (a1 : Addr) (cs : List Int32) (h0 : Heap) (n0 : Nat) (Z0 : n0 ≤ h0.size) (S_a1 : Str Z h0.size h0 a1 cs) (hne0 : (¬ cs.length = 0)) (hpre : (¬ pre cs)) (hSt : St Z zc) (hO : Old Z n0 h0) :
    CW l Z EL ({ cls := "com/example/enact/enact/CommandNames", name := "requireValid", desc := "(Ljava/lang/String;)Ljava/lang/String;" } : Jvm.MethodName) [(Jvm.Cond.code ({ cls := "com/example/enact/enact/CommandNames", name := "requireValid", desc := "(Ljava/lang/String;)Ljava/lang/String;" } : Jvm.MethodName) prog_3_method_2_code (1 : Nat) (Option.some (Jvm.ClassFile.FieldType.object "java/lang/String")))] ({ frames := 4, cells := 4, slots := 72, locals := 59 } : Room) #[(.ref a1)] h0 (Q_reqValid Z zc a1 cs h0 n0) := by
  refine CW.of (L0 := #[.val (.ref a1)]) (plainFor_of_name pn_4) (fun m => by first | (simp [entryFrame, mkF, argsToLocals, Value.category]; done) | rfl) ?_
  intro p e s m below meth c s₁ hx hby hml hret hlk hZ hown hnm X0 e0 hS0 hk0 CV0 hh0
  have hEL := hEL_ (a0 := a0) hw
  have hwS := hwS_ hw
  have N0 := Fr.nil n0
  have KP0 := Keep.refl h0 []
  have hSt_ := hSt
  obtain ⟨S_cs, n_cs⟩ := hSt_
  show Go p e below _ (s₁.setTop (mkF m 0 #[.val (.ref a1)] []))
  refine Go.step (fun _ k => XS.aloadN X0.here hx rfl (hb hby d_prog_3_method_2_code_0) rfl rfl k) ?_
  show Go p e below _ (s₁.setTop (mkF m 1 #[.val (.ref a1)] [(.ref a1)]))
  obtain ⟨a_100, T_100, h_100, k1_100, t_100, kb_100, X_100, e_100, E_100, hS_100, hk_100, hZ_100, hown_100, Ex_100, Fc_100, Fv_100, Av_100, lta_100, ltb_100, C_100, Lt_100, -, st_100⟩ := ldcCH X0 hx hZ hown (wd_39 hw) hwS e0 hS0 hk0 hEL (by decide) CV0 (vs := [(.int (99 : Int32)), (.int (111 : Int32)), (.int (109 : Int32)), (.int (109 : Int32)), (.int (97 : Int32)), (.int (110 : Int32)), (.int (100 : Int32)), (.int (32 : Int32)), (.int (110 : Int32)), (.int (97 : Int32)), (.int (109 : Int32)), (.int (101 : Int32))]) (z := (12 : Int32)) ⟨by decide, by decide⟩ (by decide) (by decide) (g := (mkF m 1 #[.val (.ref a1)] [(.ref a1)])) rfl (hb hby d_prog_3_method_2_code_1) (n := 48) (by decide) (by decide) (by decide) (by decide)
  refine Go.step st_100 ?_
  have CR_100 := CHr.trans (CHr.refl CV0) C_100
  have le_100 : h0.size ≤ h_100.size := E_100.1
  have KP_100 := KP0.ext E_100
  have O_100 := hO.ext E_100
  have Sx_100 : Str Z h_100.size h_100 a_100 ([(99 : Int32), (111 : Int32), (109 : Int32), (109 : Int32), (97 : Int32), (110 : Int32), (100 : Int32), (32 : Int32), (110 : Int32), (97 : Int32), (109 : Int32), (101 : Int32)] : List Int32) := ⟨t_100, kb_100, lta_100, ltb_100, Ex_100, Fv_100, Fc_100, Av_100, by decide, by decide⟩
  show Go p e below _ (T_100.setTop (mkF m 3 #[.val (.ref a1)] [(.ref a_100), (.ref a1)]))
  obtain ⟨v_101, T_101, L_101, X_101, hQ_101, st_101⟩ := goS X_100 hx hZ_100 (y := ({ cls := "java/util/Objects", name := "requireNonNull", desc := "(Ljava/lang/Object;Ljava/lang/String;)Ljava/lang/Object;" } : Jvm.MethodName)) hown_100 (wd_42 hw) (wd_43 hw) (wd_44 hw) (wd_45 hw) (by decide) (backOf (W := 0) (rm_reqNN l Z a0 hw zc (a1) (a_100) h_100 n0 (Nat.le_trans Z0 KP_100.1) hSt O_100) hZ_100 (wd_45 hw) (wd_44 hw) (by decide) (by decide)) e_100 (g := (mkF m 3 #[.val (.ref a1)] [(.ref a_100), (.ref a1)])) rfl (by rw [hml]; rfl) (argsL := [(.ref a1), (.ref a_100)]) (rest := []) rfl (lenOf pd_5 rfl) rfl (by show 2 * 0 + _ ≤ _; exact Nat.le_of_eq rfl) (hb hby d_prog_3_method_2_code_3) (by decide) (by decide)
  obtain ⟨rfl, Nq_101, e_101⟩ := hQ_101
  have N_101 := Fr.app N0 Nq_101
  refine Go.step st_101 ?_
  show Go p e below _ (T_101.setTop (mkF m 6 #[.val (.ref a1)] [(.ref a1)]))
  refine Go.step (fun _ k => XS.pop X_101.here hx rfl (hb hby d_prog_3_method_2_code_6) rfl rfl k) ?_
  show Go p e below _ (T_101.setTop (mkF m 7 #[.val (.ref a1)] []))
  refine Go.step (fun _ k => XS.aloadN X_101.here hx rfl (hb hby d_prog_3_method_2_code_7) rfl rfl k) ?_
  show Go p e below _ (T_101.setTop (mkF m 8 #[.val (.ref a1)] [(.ref a1)]))
  have f102 : Str Z h0.size h_100 a1 cs := (S_a1.ext E_100)
  have cp103 := f102
  obtain ⟨t104, kb104, -, -, Ex104, Fv104, Fc104, Av104, hl104, hn104⟩ := cp103
  obtain ⟨v_105, T_105, L_105, X_105, hQ_105, st_105⟩ := goV X_101 hx hZ_100 (y := ({ cls := "java/lang/String", name := "isEmpty", desc := "()Z" } : Jvm.MethodName)) (z := ({ cls := "java/lang/String", name := "isEmpty", desc := "()Z" } : Jvm.MethodName)) (kc := 0) (ks := 0) (QQ := fun v h' L => v = some (.int (if cs.length = 0 then (1 : Int32) else 0)) ∧ L = [] ∧ h' = h_100) hown_100 (wd_46 hw) (wd_47 hw) (notFace_of_selects (args := #[]) (mvT hZ_100 (wd_49 hw))) (wd_49 hw) (wd_48 hw) (by decide) (StrChars.Road.empW (W := 0) hZ_100 (sw_wordsEmp hw) (kI := 4) (wd_6 hw) Ex104 Fv104 Fc104 Av104 (StrChars.Road.codOf rfl (fun c hc => (hl104 c hc).2)) (up255 hl104) hn104 (by decide) (by decide)) e_101 Ex104 (g := (mkF m 8 #[.val (.ref a1)] [(.ref a1)])) rfl (by rw [hml]; rfl) (argsL := []) (rest := []) rfl (lenOf pd_6 rfl) rfl (by show 2 * 0 + _ ≤ _; exact Nat.le_of_eq rfl) (hb hby d_prog_3_method_2_code_8) (by decide) (by decide)
  obtain ⟨rfl, rfl, e_105⟩ := hQ_105
  have N_105 := Fr.app N_101 (Fr.nil n0)
  refine Go.step st_105 ?_
  show Go p e below _ (T_105.setTop (mkF m 11 #[.val (.ref a1)] [(.int (if cs.length = 0 then (1 : Int32) else 0))]))
  refine Go.step (fun _ k => XS.ifYes X_105.here hx rfl (pc0 := 11) (pc' := 24) rfl (hb hby d_prog_3_method_2_code_11) rfl ((if0 _ _).trans (teq (b01_eq (hne0 : ¬ (cs.length = 0)))).1) (by decide) (by decide) k) ?_
  show Go p e below _ (T_105.setTop (mkF m 24 #[.val (.ref a1)] []))
  refine Go.step (fun _ k => XS.aloadN X_105.here hx rfl (hb hby d_prog_3_method_2_code_24) rfl rfl k) ?_
  show Go p e below _ (T_105.setTop (mkF m 25 #[.val (.ref a1)] [(.ref a1)]))
  obtain ⟨a_106, T_106, h_106, k1_106, t_106, kb_106, X_106, e_106, E_106, hS_106, hk_106, hZ_106, hown_106, Ex_106, Fc_106, Fv_106, Av_106, lta_106, ltb_106, C_106, Lt_106, -, st_106⟩ := ldcCH X_105 hx hZ_100 hown_100 (wd_51 hw) hwS e_105 hS_100 hk_100 hEL (by decide) C_100.1 (vs := [(.int (114 : Int32)), (.int (112 : Int32)), (.int (99 : Int32)), (.int (46 : Int32))]) (z := (4 : Int32)) ⟨by decide, by decide⟩ (by decide) (by decide) (g := (mkF m 25 #[.val (.ref a1)] [(.ref a1)])) rfl (hb hby d_prog_3_method_2_code_25) (n := 16) (by decide) (by decide) (by decide) (by decide)
  refine Go.step st_106 ?_
  have CR_106 := CHr.trans CR_100 C_106
  have le_106 : h_100.size ≤ h_106.size := E_106.1
  have KP_106 := KP_100.ext E_106
  have O_106 := O_100.ext E_106
  have Sx_106 : Str Z h_106.size h_106 a_106 ([(114 : Int32), (112 : Int32), (99 : Int32), (46 : Int32)] : List Int32) := ⟨t_106, kb_106, lta_106, ltb_106, Ex_106, Fv_106, Fc_106, Av_106, by decide, by decide⟩
  show Go p e below _ (T_106.setTop (mkF m 27 #[.val (.ref a1)] [(.ref a_106), (.ref a1)]))
  have f107 : Str Z h0.size h_106 a1 cs := (f102.ext E_106)
  obtain ⟨v_108, T_108, L_108, X_108, hQ_108, st_108⟩ := goV X_106 hx hZ_106 (y := ({ cls := "java/lang/String", name := "startsWith", desc := "(Ljava/lang/String;)Z" } : Jvm.MethodName)) (z := ({ cls := "java/lang/String", name := "startsWith", desc := "(Ljava/lang/String;)Z" } : Jvm.MethodName)) hown_106 (wd_52 hw) (wd_53 hw) (notFace_of_selects (args := #[]) (mvT hZ_106 (wd_55 hw))) (wd_55 hw) (wd_54 hw) (by decide) (backOf (W := 0) (rm_sw2 l Z a0 hw zc (a1) (a_106) (cs) h_106 n0 (Nat.le_trans Z0 KP_106.1) (f107.mono (Nat.le_trans le_100 le_106)) Sx_106 hSt O_106) hZ_106 (wd_56 hw) (wd_7 hw) (by decide) (by decide)) e_106 f107.exa (g := (mkF m 27 #[.val (.ref a1)] [(.ref a_106), (.ref a1)])) rfl (by rw [hml]; rfl) (argsL := [(.ref a_106)]) (rest := []) rfl (lenOf pd_7 rfl) rfl (by show 2 * 0 + _ ≤ _; exact Nat.le_of_eq rfl) (hb hby d_prog_3_method_2_code_27) (by decide) (by decide)
  obtain ⟨rfl, Nq_108, e_108⟩ := hQ_108
  have N_108 := Fr.app N_105 Nq_108
  refine Go.step st_108 ?_
  show Go p e below _ (T_108.setTop (mkF m 30 #[.val (.ref a1)] [(.int (if pre cs then (1 : Int32) else 0))]))
  refine Go.step (fun _ k => XS.ifYes X_108.here hx rfl (pc0 := 30) (pc' := 47) rfl (hb hby d_prog_3_method_2_code_30) rfl ((if0 _ _).trans (teq (b01_eq (hpre : ¬ (pre cs)))).1) (by decide) (by decide) k) ?_
  show Go p e below _ (T_108.setTop (mkF m 47 #[.val (.ref a1)] []))
  refine Go.step (fun _ k => XS.aloadN X_108.here hx rfl (hb hby d_prog_3_method_2_code_47) rfl rfl k) ?_
  show Go p e below _ (T_108.setTop (mkF m 48 #[.val (.ref a1)] [(.ref a1)]))
  exact Go.retVW X_108 e_108 hS_106 hk_106 hZ_106 hEL hh0 CR_106 hx hlk hret rfl (Or.inr (Or.inr (Or.inr (Or.inr ⟨rfl, rfl, rfl⟩)))) (hb hby d_prog_3_method_2_code_48) (by decide) (by decide) (by rw [e_108]; exact ⟨rfl, N_108, KP_106⟩)
--@E
theorem mk6_facts {n c0 c1 c2 c3 c4 c5 : Int32} (hn : 0 ≤ n.toInt ∧ n.toInt < 7) (h0 : ¬ n = (0 : Int32)) (hr : ¬ (¬ n < (4 : Int32) ∧ c0 = (114 : Int32) ∧ c1 = (112 : Int32) ∧ c2 = (99 : Int32) ∧ c3 = (46 : Int32))) : ¬ (mk6 n c0 c1 c2 c3 c4 c5).length = 0 ∧ ¬ pre (mk6 n c0 c1 c2 c3 c4 c5) := by
  unfold mk6
  split
  · exact ⟨by simp, fun q => absurd q.1 (by simp)⟩
  split
  · exact ⟨by simp, fun q => absurd q.1 (by simp)⟩
  split
  · exact ⟨by simp, fun q => absurd q.1 (by simp)⟩
  rename_i h1 h2 h3
  have h4 : ¬ n < (4 : Int32) := fun q => by
    rw [Int32.lt_iff_toInt_lt] at q
    have e4 : (4 : Int32).toInt = 4 := by decide
    have k0 : ¬ n.toInt = 0 := fun z => h0 (Int32.toInt_inj.mp z)
    have k1 : ¬ n.toInt = 1 := fun z => h1 (Int32.toInt_inj.mp z)
    have k2 : ¬ n.toInt = 2 := fun z => h2 (Int32.toInt_inj.mp z)
    have k3 : ¬ n.toInt = 3 := fun z => h3 (Int32.toInt_inj.mp z)
    omega
  split
  · exact ⟨by simp, fun q => hr ⟨h4, q.2.1, q.2.2.1, q.2.2.2.1, q.2.2.2.2⟩⟩
  split
  · exact ⟨by simp, fun q => hr ⟨h4, q.2.1, q.2.2.1, q.2.2.2.1, q.2.2.2.2⟩⟩
  · exact ⟨by simp, fun q => hr ⟨h4, q.2.1, q.2.2.1, q.2.2.2.1, q.2.2.2.2⟩⟩
theorem rem7 (x : Int32) : 0 ≤ ((x &&& (2147483647 : Int32)) % (7 : Int32)).toInt ∧ ((x &&& (2147483647 : Int32)) % (7 : Int32)).toInt < 7 := by
  have h := c_mask x 2147483647 31 (by decide) (by decide)
  have r := (c_irem (x &&& (2147483647 : Int32)) 7 7 (by decide)).1 (by omega)
  omega
--@C law
def Q_law (Z : State) (zc : Int32) (p1 : Int32) (p2 : Int32) (p3 : Int32) (p4 : Int32) (h0 : Heap) (n0 : Nat) (v : Option Value) (h : Heap) (L : List Loc) : Prop := v = some (.int (1 : Int32)) ∧ Fr n0 L
set_option maxRecDepth 65536 in
set_option maxHeartbeats 40000000 in
theorem rm_law (l : Launch) (Z : State) (a0 : Array Value) (hw : ∀ d ∈ tables_1, d.before a0 Z = true) (zc : Int32) (p1 : Int32) (p2 : Int32) (p3 : Int32) (p4 : Int32) (h0 : Heap) (n0 : Nat) (Z0 : n0 ≤ h0.size) (hSt : St Z zc) (hO : Old Z n0 h0) :
    CW l Z EL x (Jvm.Cond.code x code maxLocals ret :: tables_1) room_1 #[(.int p1), (.int p2), (.int p3), (.int p4)] h0 (Q_law Z zc p1 p2 p3 p4 h0 n0) := by
  refine CW.of (L0 := #[.val (.int p1), .val (.int p2), .val (.int p3), .val (.int p4), .unset, .unset, .unset, .unset, .unset, .unset, .unset, .unset, .unset]) (plainFor_of_name pn_0) (fun m => by first | (simp [entryFrame, mkF, argsToLocals, Value.category]; done) | rfl) ?_
  intro p e s m below meth c s₁ hx hby hml hret hlk hZ hown hnm X0 e0 hS0 hk0 CV0 hh0
  have hEL := hEL_ (a0 := a0) hw
  have hwS := hwS_ hw
  have N0 := Fr.nil n0
  have KP0 := Keep.refl h0 []
  have hSt_ := hSt
  obtain ⟨S_cs, n_cs⟩ := hSt_
  show Go p e below _ (s₁.setTop (mkF m 0 #[.val (.int p1), .val (.int p2), .val (.int p3), .val (.int p4), .unset, .unset, .unset, .unset, .unset, .unset, .unset, .unset, .unset] []))
  refine Go.step (fun _ k => XS.iloadN X0.here hx rfl (hb hby at_0) rfl  k) ?_
  show Go p e below _ (s₁.setTop (mkF m 1 #[.val (.int p1), .val (.int p2), .val (.int p3), .val (.int p4), .unset, .unset, .unset, .unset, .unset, .unset, .unset, .unset, .unset] [(.int p1)]))
  refine Go.step (fun _ k => X0.ldcInt hx hown (mvT hZ (wd_0 hw)) (g := (mkF m 1 #[.val (.int p1), .val (.int p2), .val (.int p3), .val (.int p4), .unset, .unset, .unset, .unset, .unset, .unset, .unset, .unset, .unset] [(.int p1)])) rfl (hb hby at_1) _ k) ?_
  show Go p e below _ (s₁.setTop (mkF m 3 #[.val (.int p1), .val (.int p2), .val (.int p3), .val (.int p4), .unset, .unset, .unset, .unset, .unset, .unset, .unset, .unset, .unset] [(.int (2147483647 : Int32)), (.int p1)]))
  refine Go.step (fun _ k => XS.iand X0.here hx rfl (hb hby at_3) rfl k) ?_
  show Go p e below _ (s₁.setTop (mkF m 4 #[.val (.int p1), .val (.int p2), .val (.int p3), .val (.int p4), .unset, .unset, .unset, .unset, .unset, .unset, .unset, .unset, .unset] [(.int (p1 &&& (2147483647 : Int32)))]))
  refine Go.step (fun _ k => XS.bipush X0.here hx rfl (hb hby at_4) k) ?_
  show Go p e below _ (s₁.setTop (mkF m 6 #[.val (.int p1), .val (.int p2), .val (.int p3), .val (.int p4), .unset, .unset, .unset, .unset, .unset, .unset, .unset, .unset, .unset] [(.int (7 : Int32)), (.int (p1 &&& (2147483647 : Int32)))]))
  refine Go.step (fun _ k => iremM X0 hx rfl (hb hby at_6) rfl (by decide) k) ?_
  show Go p e below _ (s₁.setTop (mkF m 7 #[.val (.int p1), .val (.int p2), .val (.int p3), .val (.int p4), .unset, .unset, .unset, .unset, .unset, .unset, .unset, .unset, .unset] [(.int ((p1 &&& (2147483647 : Int32)) % (7 : Int32)))]))
  refine Go.step (fun _ k => XS.istore X0.here hx rfl (hb hby at_7) rfl (l' := #[.val (.int p1), .val (.int p2), .val (.int p3), .val (.int p4), .val (.int ((p1 &&& (2147483647 : Int32)) % (7 : Int32))), .unset, .unset, .unset, .unset, .unset, .unset, .unset, .unset]) rfl k) ?_
  show Go p e below _ (s₁.setTop (mkF m 9 #[.val (.int p1), .val (.int p2), .val (.int p3), .val (.int p4), .val (.int ((p1 &&& (2147483647 : Int32)) % (7 : Int32))), .unset, .unset, .unset, .unset, .unset, .unset, .unset, .unset] []))
  obtain ⟨nn, h_nn⟩ : ∃ z, z = ((p1 &&& (2147483647 : Int32)) % (7 : Int32)) := ⟨_, rfl⟩
  rw [← h_nn]
  show Go p e below _ (s₁.setTop (mkF m 9 #[.val (.int p1), .val (.int p2), .val (.int p3), .val (.int p4), .val (.int nn), .unset, .unset, .unset, .unset, .unset, .unset, .unset, .unset] []))
  have h_nn7 : 0 ≤ nn.toInt ∧ nn.toInt < 7 := by rw [h_nn]; exact rem7 _
  show Go p e below _ (s₁.setTop (mkF m 9 #[.val (.int p1), .val (.int p2), .val (.int p3), .val (.int p4), .val (.int nn), .unset, .unset, .unset, .unset, .unset, .unset, .unset, .unset] []))
  refine Go.step (fun _ k => XS.iload X0.here hx rfl (hb hby at_9) rfl  k) ?_
  show Go p e below _ (s₁.setTop (mkF m 11 #[.val (.int p1), .val (.int p2), .val (.int p3), .val (.int p4), .val (.int nn), .unset, .unset, .unset, .unset, .unset, .unset, .unset, .unset] [(.int nn)]))
  by_cases hn0 : nn = (0 : Int32)
  · skip
    refine Go.step (fun _ k => XS.ifNo X0.here hx rfl (hb hby at_11) rfl ((if0 _ _).trans (teq hn0).2) k) ?_
    show Go p e below _ (s₁.setTop (mkF m 14 #[.val (.int p1), .val (.int p2), .val (.int p3), .val (.int p4), .val (.int nn), .unset, .unset, .unset, .unset, .unset, .unset, .unset, .unset] []))
    refine Go.step (fun _ k => XS.iconst X0.here hx rfl (hb hby at_14) k) ?_
    show Go p e below _ (s₁.setTop (mkF m 15 #[.val (.int p1), .val (.int p2), .val (.int p3), .val (.int p4), .val (.int nn), .unset, .unset, .unset, .unset, .unset, .unset, .unset, .unset] [(.int (1 : Int32))]))
    exact Go.retVW X0 e0 hS0 hk0 hZ hEL hh0 (CHr.refl CV0) hx hlk hret rfl (Or.inl ⟨rfl, Or.inr (Or.inl rfl), _, rfl⟩) (hb hby at_15) (by decide) (by decide) (by rw [e0]; exact ⟨rfl, N0⟩)
  · skip
    refine Go.step (fun _ k => XS.ifYes X0.here hx rfl (pc0 := 11) (pc' := 16) rfl (hb hby at_11) rfl ((if0 _ _).trans (feq hn0).2) (by decide) (by decide) k) ?_
    show Go p e below _ (s₁.setTop (mkF m 16 #[.val (.int p1), .val (.int p2), .val (.int p3), .val (.int p4), .val (.int nn), .unset, .unset, .unset, .unset, .unset, .unset, .unset, .unset] []))
    refine Go.step (fun _ k => XS.iloadN X0.here hx rfl (hb hby at_16) rfl  k) ?_
    show Go p e below _ (s₁.setTop (mkF m 17 #[.val (.int p1), .val (.int p2), .val (.int p3), .val (.int p4), .val (.int nn), .unset, .unset, .unset, .unset, .unset, .unset, .unset, .unset] [(.int p2)]))
    refine Go.step (fun _ k => XS.sipush X0.here hx rfl (hb hby at_17) k) ?_
    show Go p e below _ (s₁.setTop (mkF m 20 #[.val (.int p1), .val (.int p2), .val (.int p3), .val (.int p4), .val (.int nn), .unset, .unset, .unset, .unset, .unset, .unset, .unset, .unset] [(.int (255 : Int32)), (.int p2)]))
    refine Go.step (fun _ k => XS.iand X0.here hx rfl (hb hby at_20) rfl k) ?_
    show Go p e below _ (s₁.setTop (mkF m 21 #[.val (.int p1), .val (.int p2), .val (.int p3), .val (.int p4), .val (.int nn), .unset, .unset, .unset, .unset, .unset, .unset, .unset, .unset] [(.int (p2 &&& (255 : Int32)))]))
    refine Go.step (fun _ k => XS.i2c X0.here hx rfl (hb hby at_21) rfl k) ?_
    show Go p e below _ (s₁.setTop (mkF m 22 #[.val (.int p1), .val (.int p2), .val (.int p3), .val (.int p4), .val (.int nn), .unset, .unset, .unset, .unset, .unset, .unset, .unset, .unset] [(.int (nar .char (p2 &&& (255 : Int32))))]))
    rw [show (nar .char (p2 &&& (255 : Int32))) = (p2 &&& (255 : Int32)) from nar255 _]
    show Go p e below _ (s₁.setTop (mkF m 22 #[.val (.int p1), .val (.int p2), .val (.int p3), .val (.int p4), .val (.int nn), .unset, .unset, .unset, .unset, .unset, .unset, .unset, .unset] [(.int (p2 &&& (255 : Int32)))]))
    refine Go.step (fun _ k => XS.istore X0.here hx rfl (hb hby at_22) rfl (l' := #[.val (.int p1), .val (.int p2), .val (.int p3), .val (.int p4), .val (.int nn), .val (.int (p2 &&& (255 : Int32))), .unset, .unset, .unset, .unset, .unset, .unset, .unset]) rfl k) ?_
    show Go p e below _ (s₁.setTop (mkF m 24 #[.val (.int p1), .val (.int p2), .val (.int p3), .val (.int p4), .val (.int nn), .val (.int (p2 &&& (255 : Int32))), .unset, .unset, .unset, .unset, .unset, .unset, .unset] []))
    obtain ⟨c0, h_c0⟩ : ∃ z, z = (p2 &&& (255 : Int32)) := ⟨_, rfl⟩
    rw [← h_c0]
    show Go p e below _ (s₁.setTop (mkF m 24 #[.val (.int p1), .val (.int p2), .val (.int p3), .val (.int p4), .val (.int nn), .val (.int c0), .unset, .unset, .unset, .unset, .unset, .unset, .unset] []))
    have l_c0 : ¬ c0 < 0 ∧ ¬ (255 : Int32) < c0 := by rw [h_c0]; exact lat255 _
    show Go p e below _ (s₁.setTop (mkF m 24 #[.val (.int p1), .val (.int p2), .val (.int p3), .val (.int p4), .val (.int nn), .val (.int c0), .unset, .unset, .unset, .unset, .unset, .unset, .unset] []))
    refine Go.step (fun _ k => XS.iloadN X0.here hx rfl (hb hby at_24) rfl  k) ?_
    show Go p e below _ (s₁.setTop (mkF m 25 #[.val (.int p1), .val (.int p2), .val (.int p3), .val (.int p4), .val (.int nn), .val (.int c0), .unset, .unset, .unset, .unset, .unset, .unset, .unset] [(.int p2)]))
    refine Go.step (fun _ k => XS.bipush X0.here hx rfl (hb hby at_25) k) ?_
    show Go p e below _ (s₁.setTop (mkF m 27 #[.val (.int p1), .val (.int p2), .val (.int p3), .val (.int p4), .val (.int nn), .val (.int c0), .unset, .unset, .unset, .unset, .unset, .unset, .unset] [(.int (8 : Int32)), (.int p2)]))
    refine Go.step (fun _ k => XS.iushr X0.here hx rfl (hb hby at_27) rfl k) ?_
    show Go p e below _ (s₁.setTop (mkF m 28 #[.val (.int p1), .val (.int p2), .val (.int p3), .val (.int p4), .val (.int nn), .val (.int c0), .unset, .unset, .unset, .unset, .unset, .unset, .unset] [(.int ((p2.toUInt32 >>> ((8 : Int32) &&& 31).toUInt32).toInt32))]))
    refine Go.step (fun _ k => XS.sipush X0.here hx rfl (hb hby at_28) k) ?_
    show Go p e below _ (s₁.setTop (mkF m 31 #[.val (.int p1), .val (.int p2), .val (.int p3), .val (.int p4), .val (.int nn), .val (.int c0), .unset, .unset, .unset, .unset, .unset, .unset, .unset] [(.int (255 : Int32)), (.int ((p2.toUInt32 >>> ((8 : Int32) &&& 31).toUInt32).toInt32))]))
    refine Go.step (fun _ k => XS.iand X0.here hx rfl (hb hby at_31) rfl k) ?_
    show Go p e below _ (s₁.setTop (mkF m 32 #[.val (.int p1), .val (.int p2), .val (.int p3), .val (.int p4), .val (.int nn), .val (.int c0), .unset, .unset, .unset, .unset, .unset, .unset, .unset] [(.int (((p2.toUInt32 >>> ((8 : Int32) &&& 31).toUInt32).toInt32) &&& (255 : Int32)))]))
    refine Go.step (fun _ k => XS.i2c X0.here hx rfl (hb hby at_32) rfl k) ?_
    show Go p e below _ (s₁.setTop (mkF m 33 #[.val (.int p1), .val (.int p2), .val (.int p3), .val (.int p4), .val (.int nn), .val (.int c0), .unset, .unset, .unset, .unset, .unset, .unset, .unset] [(.int (nar .char (((p2.toUInt32 >>> ((8 : Int32) &&& 31).toUInt32).toInt32) &&& (255 : Int32))))]))
    rw [show (nar .char (((p2.toUInt32 >>> ((8 : Int32) &&& 31).toUInt32).toInt32) &&& (255 : Int32))) = (((p2.toUInt32 >>> ((8 : Int32) &&& 31).toUInt32).toInt32) &&& (255 : Int32)) from nar255 _]
    show Go p e below _ (s₁.setTop (mkF m 33 #[.val (.int p1), .val (.int p2), .val (.int p3), .val (.int p4), .val (.int nn), .val (.int c0), .unset, .unset, .unset, .unset, .unset, .unset, .unset] [(.int (((p2.toUInt32 >>> ((8 : Int32) &&& 31).toUInt32).toInt32) &&& (255 : Int32)))]))
    refine Go.step (fun _ k => XS.istore X0.here hx rfl (hb hby at_33) rfl (l' := #[.val (.int p1), .val (.int p2), .val (.int p3), .val (.int p4), .val (.int nn), .val (.int c0), .val (.int (((p2.toUInt32 >>> ((8 : Int32) &&& 31).toUInt32).toInt32) &&& (255 : Int32))), .unset, .unset, .unset, .unset, .unset, .unset]) rfl k) ?_
    show Go p e below _ (s₁.setTop (mkF m 35 #[.val (.int p1), .val (.int p2), .val (.int p3), .val (.int p4), .val (.int nn), .val (.int c0), .val (.int (((p2.toUInt32 >>> ((8 : Int32) &&& 31).toUInt32).toInt32) &&& (255 : Int32))), .unset, .unset, .unset, .unset, .unset, .unset] []))
    obtain ⟨c1, h_c1⟩ : ∃ z, z = (((p2.toUInt32 >>> ((8 : Int32) &&& 31).toUInt32).toInt32) &&& (255 : Int32)) := ⟨_, rfl⟩
    rw [← h_c1]
    show Go p e below _ (s₁.setTop (mkF m 35 #[.val (.int p1), .val (.int p2), .val (.int p3), .val (.int p4), .val (.int nn), .val (.int c0), .val (.int c1), .unset, .unset, .unset, .unset, .unset, .unset] []))
    have l_c1 : ¬ c1 < 0 ∧ ¬ (255 : Int32) < c1 := by rw [h_c1]; exact lat255 _
    show Go p e below _ (s₁.setTop (mkF m 35 #[.val (.int p1), .val (.int p2), .val (.int p3), .val (.int p4), .val (.int nn), .val (.int c0), .val (.int c1), .unset, .unset, .unset, .unset, .unset, .unset] []))
    refine Go.step (fun _ k => XS.iloadN X0.here hx rfl (hb hby at_35) rfl  k) ?_
    show Go p e below _ (s₁.setTop (mkF m 36 #[.val (.int p1), .val (.int p2), .val (.int p3), .val (.int p4), .val (.int nn), .val (.int c0), .val (.int c1), .unset, .unset, .unset, .unset, .unset, .unset] [(.int p3)]))
    refine Go.step (fun _ k => XS.sipush X0.here hx rfl (hb hby at_36) k) ?_
    show Go p e below _ (s₁.setTop (mkF m 39 #[.val (.int p1), .val (.int p2), .val (.int p3), .val (.int p4), .val (.int nn), .val (.int c0), .val (.int c1), .unset, .unset, .unset, .unset, .unset, .unset] [(.int (255 : Int32)), (.int p3)]))
    refine Go.step (fun _ k => XS.iand X0.here hx rfl (hb hby at_39) rfl k) ?_
    show Go p e below _ (s₁.setTop (mkF m 40 #[.val (.int p1), .val (.int p2), .val (.int p3), .val (.int p4), .val (.int nn), .val (.int c0), .val (.int c1), .unset, .unset, .unset, .unset, .unset, .unset] [(.int (p3 &&& (255 : Int32)))]))
    refine Go.step (fun _ k => XS.i2c X0.here hx rfl (hb hby at_40) rfl k) ?_
    show Go p e below _ (s₁.setTop (mkF m 41 #[.val (.int p1), .val (.int p2), .val (.int p3), .val (.int p4), .val (.int nn), .val (.int c0), .val (.int c1), .unset, .unset, .unset, .unset, .unset, .unset] [(.int (nar .char (p3 &&& (255 : Int32))))]))
    rw [show (nar .char (p3 &&& (255 : Int32))) = (p3 &&& (255 : Int32)) from nar255 _]
    show Go p e below _ (s₁.setTop (mkF m 41 #[.val (.int p1), .val (.int p2), .val (.int p3), .val (.int p4), .val (.int nn), .val (.int c0), .val (.int c1), .unset, .unset, .unset, .unset, .unset, .unset] [(.int (p3 &&& (255 : Int32)))]))
    refine Go.step (fun _ k => XS.istore X0.here hx rfl (hb hby at_41) rfl (l' := #[.val (.int p1), .val (.int p2), .val (.int p3), .val (.int p4), .val (.int nn), .val (.int c0), .val (.int c1), .val (.int (p3 &&& (255 : Int32))), .unset, .unset, .unset, .unset, .unset]) rfl k) ?_
    show Go p e below _ (s₁.setTop (mkF m 43 #[.val (.int p1), .val (.int p2), .val (.int p3), .val (.int p4), .val (.int nn), .val (.int c0), .val (.int c1), .val (.int (p3 &&& (255 : Int32))), .unset, .unset, .unset, .unset, .unset] []))
    obtain ⟨c2, h_c2⟩ : ∃ z, z = (p3 &&& (255 : Int32)) := ⟨_, rfl⟩
    rw [← h_c2]
    show Go p e below _ (s₁.setTop (mkF m 43 #[.val (.int p1), .val (.int p2), .val (.int p3), .val (.int p4), .val (.int nn), .val (.int c0), .val (.int c1), .val (.int c2), .unset, .unset, .unset, .unset, .unset] []))
    have l_c2 : ¬ c2 < 0 ∧ ¬ (255 : Int32) < c2 := by rw [h_c2]; exact lat255 _
    show Go p e below _ (s₁.setTop (mkF m 43 #[.val (.int p1), .val (.int p2), .val (.int p3), .val (.int p4), .val (.int nn), .val (.int c0), .val (.int c1), .val (.int c2), .unset, .unset, .unset, .unset, .unset] []))
    refine Go.step (fun _ k => XS.iloadN X0.here hx rfl (hb hby at_43) rfl  k) ?_
    show Go p e below _ (s₁.setTop (mkF m 44 #[.val (.int p1), .val (.int p2), .val (.int p3), .val (.int p4), .val (.int nn), .val (.int c0), .val (.int c1), .val (.int c2), .unset, .unset, .unset, .unset, .unset] [(.int p3)]))
    refine Go.step (fun _ k => XS.bipush X0.here hx rfl (hb hby at_44) k) ?_
    show Go p e below _ (s₁.setTop (mkF m 46 #[.val (.int p1), .val (.int p2), .val (.int p3), .val (.int p4), .val (.int nn), .val (.int c0), .val (.int c1), .val (.int c2), .unset, .unset, .unset, .unset, .unset] [(.int (8 : Int32)), (.int p3)]))
    refine Go.step (fun _ k => XS.iushr X0.here hx rfl (hb hby at_46) rfl k) ?_
    show Go p e below _ (s₁.setTop (mkF m 47 #[.val (.int p1), .val (.int p2), .val (.int p3), .val (.int p4), .val (.int nn), .val (.int c0), .val (.int c1), .val (.int c2), .unset, .unset, .unset, .unset, .unset] [(.int ((p3.toUInt32 >>> ((8 : Int32) &&& 31).toUInt32).toInt32))]))
    refine Go.step (fun _ k => XS.sipush X0.here hx rfl (hb hby at_47) k) ?_
    show Go p e below _ (s₁.setTop (mkF m 50 #[.val (.int p1), .val (.int p2), .val (.int p3), .val (.int p4), .val (.int nn), .val (.int c0), .val (.int c1), .val (.int c2), .unset, .unset, .unset, .unset, .unset] [(.int (255 : Int32)), (.int ((p3.toUInt32 >>> ((8 : Int32) &&& 31).toUInt32).toInt32))]))
    refine Go.step (fun _ k => XS.iand X0.here hx rfl (hb hby at_50) rfl k) ?_
    show Go p e below _ (s₁.setTop (mkF m 51 #[.val (.int p1), .val (.int p2), .val (.int p3), .val (.int p4), .val (.int nn), .val (.int c0), .val (.int c1), .val (.int c2), .unset, .unset, .unset, .unset, .unset] [(.int (((p3.toUInt32 >>> ((8 : Int32) &&& 31).toUInt32).toInt32) &&& (255 : Int32)))]))
    refine Go.step (fun _ k => XS.i2c X0.here hx rfl (hb hby at_51) rfl k) ?_
    show Go p e below _ (s₁.setTop (mkF m 52 #[.val (.int p1), .val (.int p2), .val (.int p3), .val (.int p4), .val (.int nn), .val (.int c0), .val (.int c1), .val (.int c2), .unset, .unset, .unset, .unset, .unset] [(.int (nar .char (((p3.toUInt32 >>> ((8 : Int32) &&& 31).toUInt32).toInt32) &&& (255 : Int32))))]))
    rw [show (nar .char (((p3.toUInt32 >>> ((8 : Int32) &&& 31).toUInt32).toInt32) &&& (255 : Int32))) = (((p3.toUInt32 >>> ((8 : Int32) &&& 31).toUInt32).toInt32) &&& (255 : Int32)) from nar255 _]
    show Go p e below _ (s₁.setTop (mkF m 52 #[.val (.int p1), .val (.int p2), .val (.int p3), .val (.int p4), .val (.int nn), .val (.int c0), .val (.int c1), .val (.int c2), .unset, .unset, .unset, .unset, .unset] [(.int (((p3.toUInt32 >>> ((8 : Int32) &&& 31).toUInt32).toInt32) &&& (255 : Int32)))]))
    refine Go.step (fun _ k => XS.istore X0.here hx rfl (hb hby at_52) rfl (l' := #[.val (.int p1), .val (.int p2), .val (.int p3), .val (.int p4), .val (.int nn), .val (.int c0), .val (.int c1), .val (.int c2), .val (.int (((p3.toUInt32 >>> ((8 : Int32) &&& 31).toUInt32).toInt32) &&& (255 : Int32))), .unset, .unset, .unset, .unset]) rfl k) ?_
    show Go p e below _ (s₁.setTop (mkF m 54 #[.val (.int p1), .val (.int p2), .val (.int p3), .val (.int p4), .val (.int nn), .val (.int c0), .val (.int c1), .val (.int c2), .val (.int (((p3.toUInt32 >>> ((8 : Int32) &&& 31).toUInt32).toInt32) &&& (255 : Int32))), .unset, .unset, .unset, .unset] []))
    obtain ⟨c3, h_c3⟩ : ∃ z, z = (((p3.toUInt32 >>> ((8 : Int32) &&& 31).toUInt32).toInt32) &&& (255 : Int32)) := ⟨_, rfl⟩
    rw [← h_c3]
    show Go p e below _ (s₁.setTop (mkF m 54 #[.val (.int p1), .val (.int p2), .val (.int p3), .val (.int p4), .val (.int nn), .val (.int c0), .val (.int c1), .val (.int c2), .val (.int c3), .unset, .unset, .unset, .unset] []))
    have l_c3 : ¬ c3 < 0 ∧ ¬ (255 : Int32) < c3 := by rw [h_c3]; exact lat255 _
    show Go p e below _ (s₁.setTop (mkF m 54 #[.val (.int p1), .val (.int p2), .val (.int p3), .val (.int p4), .val (.int nn), .val (.int c0), .val (.int c1), .val (.int c2), .val (.int c3), .unset, .unset, .unset, .unset] []))
    refine Go.step (fun _ k => XS.iloadN X0.here hx rfl (hb hby at_54) rfl  k) ?_
    show Go p e below _ (s₁.setTop (mkF m 55 #[.val (.int p1), .val (.int p2), .val (.int p3), .val (.int p4), .val (.int nn), .val (.int c0), .val (.int c1), .val (.int c2), .val (.int c3), .unset, .unset, .unset, .unset] [(.int p4)]))
    refine Go.step (fun _ k => XS.sipush X0.here hx rfl (hb hby at_55) k) ?_
    show Go p e below _ (s₁.setTop (mkF m 58 #[.val (.int p1), .val (.int p2), .val (.int p3), .val (.int p4), .val (.int nn), .val (.int c0), .val (.int c1), .val (.int c2), .val (.int c3), .unset, .unset, .unset, .unset] [(.int (255 : Int32)), (.int p4)]))
    refine Go.step (fun _ k => XS.iand X0.here hx rfl (hb hby at_58) rfl k) ?_
    show Go p e below _ (s₁.setTop (mkF m 59 #[.val (.int p1), .val (.int p2), .val (.int p3), .val (.int p4), .val (.int nn), .val (.int c0), .val (.int c1), .val (.int c2), .val (.int c3), .unset, .unset, .unset, .unset] [(.int (p4 &&& (255 : Int32)))]))
    refine Go.step (fun _ k => XS.i2c X0.here hx rfl (hb hby at_59) rfl k) ?_
    show Go p e below _ (s₁.setTop (mkF m 60 #[.val (.int p1), .val (.int p2), .val (.int p3), .val (.int p4), .val (.int nn), .val (.int c0), .val (.int c1), .val (.int c2), .val (.int c3), .unset, .unset, .unset, .unset] [(.int (nar .char (p4 &&& (255 : Int32))))]))
    rw [show (nar .char (p4 &&& (255 : Int32))) = (p4 &&& (255 : Int32)) from nar255 _]
    show Go p e below _ (s₁.setTop (mkF m 60 #[.val (.int p1), .val (.int p2), .val (.int p3), .val (.int p4), .val (.int nn), .val (.int c0), .val (.int c1), .val (.int c2), .val (.int c3), .unset, .unset, .unset, .unset] [(.int (p4 &&& (255 : Int32)))]))
    refine Go.step (fun _ k => XS.istore X0.here hx rfl (hb hby at_60) rfl (l' := #[.val (.int p1), .val (.int p2), .val (.int p3), .val (.int p4), .val (.int nn), .val (.int c0), .val (.int c1), .val (.int c2), .val (.int c3), .val (.int (p4 &&& (255 : Int32))), .unset, .unset, .unset]) rfl k) ?_
    show Go p e below _ (s₁.setTop (mkF m 62 #[.val (.int p1), .val (.int p2), .val (.int p3), .val (.int p4), .val (.int nn), .val (.int c0), .val (.int c1), .val (.int c2), .val (.int c3), .val (.int (p4 &&& (255 : Int32))), .unset, .unset, .unset] []))
    obtain ⟨c4, h_c4⟩ : ∃ z, z = (p4 &&& (255 : Int32)) := ⟨_, rfl⟩
    rw [← h_c4]
    show Go p e below _ (s₁.setTop (mkF m 62 #[.val (.int p1), .val (.int p2), .val (.int p3), .val (.int p4), .val (.int nn), .val (.int c0), .val (.int c1), .val (.int c2), .val (.int c3), .val (.int c4), .unset, .unset, .unset] []))
    have l_c4 : ¬ c4 < 0 ∧ ¬ (255 : Int32) < c4 := by rw [h_c4]; exact lat255 _
    show Go p e below _ (s₁.setTop (mkF m 62 #[.val (.int p1), .val (.int p2), .val (.int p3), .val (.int p4), .val (.int nn), .val (.int c0), .val (.int c1), .val (.int c2), .val (.int c3), .val (.int c4), .unset, .unset, .unset] []))
    refine Go.step (fun _ k => XS.iloadN X0.here hx rfl (hb hby at_62) rfl  k) ?_
    show Go p e below _ (s₁.setTop (mkF m 63 #[.val (.int p1), .val (.int p2), .val (.int p3), .val (.int p4), .val (.int nn), .val (.int c0), .val (.int c1), .val (.int c2), .val (.int c3), .val (.int c4), .unset, .unset, .unset] [(.int p4)]))
    refine Go.step (fun _ k => XS.bipush X0.here hx rfl (hb hby at_63) k) ?_
    show Go p e below _ (s₁.setTop (mkF m 65 #[.val (.int p1), .val (.int p2), .val (.int p3), .val (.int p4), .val (.int nn), .val (.int c0), .val (.int c1), .val (.int c2), .val (.int c3), .val (.int c4), .unset, .unset, .unset] [(.int (8 : Int32)), (.int p4)]))
    refine Go.step (fun _ k => XS.iushr X0.here hx rfl (hb hby at_65) rfl k) ?_
    show Go p e below _ (s₁.setTop (mkF m 66 #[.val (.int p1), .val (.int p2), .val (.int p3), .val (.int p4), .val (.int nn), .val (.int c0), .val (.int c1), .val (.int c2), .val (.int c3), .val (.int c4), .unset, .unset, .unset] [(.int ((p4.toUInt32 >>> ((8 : Int32) &&& 31).toUInt32).toInt32))]))
    refine Go.step (fun _ k => XS.sipush X0.here hx rfl (hb hby at_66) k) ?_
    show Go p e below _ (s₁.setTop (mkF m 69 #[.val (.int p1), .val (.int p2), .val (.int p3), .val (.int p4), .val (.int nn), .val (.int c0), .val (.int c1), .val (.int c2), .val (.int c3), .val (.int c4), .unset, .unset, .unset] [(.int (255 : Int32)), (.int ((p4.toUInt32 >>> ((8 : Int32) &&& 31).toUInt32).toInt32))]))
    refine Go.step (fun _ k => XS.iand X0.here hx rfl (hb hby at_69) rfl k) ?_
    show Go p e below _ (s₁.setTop (mkF m 70 #[.val (.int p1), .val (.int p2), .val (.int p3), .val (.int p4), .val (.int nn), .val (.int c0), .val (.int c1), .val (.int c2), .val (.int c3), .val (.int c4), .unset, .unset, .unset] [(.int (((p4.toUInt32 >>> ((8 : Int32) &&& 31).toUInt32).toInt32) &&& (255 : Int32)))]))
    refine Go.step (fun _ k => XS.i2c X0.here hx rfl (hb hby at_70) rfl k) ?_
    show Go p e below _ (s₁.setTop (mkF m 71 #[.val (.int p1), .val (.int p2), .val (.int p3), .val (.int p4), .val (.int nn), .val (.int c0), .val (.int c1), .val (.int c2), .val (.int c3), .val (.int c4), .unset, .unset, .unset] [(.int (nar .char (((p4.toUInt32 >>> ((8 : Int32) &&& 31).toUInt32).toInt32) &&& (255 : Int32))))]))
    rw [show (nar .char (((p4.toUInt32 >>> ((8 : Int32) &&& 31).toUInt32).toInt32) &&& (255 : Int32))) = (((p4.toUInt32 >>> ((8 : Int32) &&& 31).toUInt32).toInt32) &&& (255 : Int32)) from nar255 _]
    show Go p e below _ (s₁.setTop (mkF m 71 #[.val (.int p1), .val (.int p2), .val (.int p3), .val (.int p4), .val (.int nn), .val (.int c0), .val (.int c1), .val (.int c2), .val (.int c3), .val (.int c4), .unset, .unset, .unset] [(.int (((p4.toUInt32 >>> ((8 : Int32) &&& 31).toUInt32).toInt32) &&& (255 : Int32)))]))
    refine Go.step (fun _ k => XS.istore X0.here hx rfl (hb hby at_71) rfl (l' := #[.val (.int p1), .val (.int p2), .val (.int p3), .val (.int p4), .val (.int nn), .val (.int c0), .val (.int c1), .val (.int c2), .val (.int c3), .val (.int c4), .val (.int (((p4.toUInt32 >>> ((8 : Int32) &&& 31).toUInt32).toInt32) &&& (255 : Int32))), .unset, .unset]) rfl k) ?_
    show Go p e below _ (s₁.setTop (mkF m 73 #[.val (.int p1), .val (.int p2), .val (.int p3), .val (.int p4), .val (.int nn), .val (.int c0), .val (.int c1), .val (.int c2), .val (.int c3), .val (.int c4), .val (.int (((p4.toUInt32 >>> ((8 : Int32) &&& 31).toUInt32).toInt32) &&& (255 : Int32))), .unset, .unset] []))
    obtain ⟨c5, h_c5⟩ : ∃ z, z = (((p4.toUInt32 >>> ((8 : Int32) &&& 31).toUInt32).toInt32) &&& (255 : Int32)) := ⟨_, rfl⟩
    rw [← h_c5]
    show Go p e below _ (s₁.setTop (mkF m 73 #[.val (.int p1), .val (.int p2), .val (.int p3), .val (.int p4), .val (.int nn), .val (.int c0), .val (.int c1), .val (.int c2), .val (.int c3), .val (.int c4), .val (.int c5), .unset, .unset] []))
    have l_c5 : ¬ c5 < 0 ∧ ¬ (255 : Int32) < c5 := by rw [h_c5]; exact lat255 _
    show Go p e below _ (s₁.setTop (mkF m 73 #[.val (.int p1), .val (.int p2), .val (.int p3), .val (.int p4), .val (.int nn), .val (.int c0), .val (.int c1), .val (.int c2), .val (.int c3), .val (.int c4), .val (.int c5), .unset, .unset] []))
    refine Go.step (fun _ k => XS.iload X0.here hx rfl (hb hby at_73) rfl  k) ?_
    show Go p e below _ (s₁.setTop (mkF m 75 #[.val (.int p1), .val (.int p2), .val (.int p3), .val (.int p4), .val (.int nn), .val (.int c0), .val (.int c1), .val (.int c2), .val (.int c3), .val (.int c4), .val (.int c5), .unset, .unset] [(.int nn)]))
    refine Go.step (fun _ k => XS.iconst X0.here hx rfl (hb hby at_75) k) ?_
    show Go p e below _ (s₁.setTop (mkF m 76 #[.val (.int p1), .val (.int p2), .val (.int p3), .val (.int p4), .val (.int nn), .val (.int c0), .val (.int c1), .val (.int c2), .val (.int c3), .val (.int c4), .val (.int c5), .unset, .unset] [(.int (4 : Int32)), (.int nn)]))
    refine own_join (t := s₁.setTop (mkF m 112 #[.val (.int p1), .val (.int p2), .val (.int p3), .val (.int p4), .val (.int nn), .val (.int c0), .val (.int c1), .val (.int c2), .val (.int c3), .val (.int c4), .val (.int c5), .unset, .unset] [(.int (if ¬ nn < (4 : Int32) ∧ c0 = (114 : Int32) ∧ c1 = (112 : Int32) ∧ c2 = (99 : Int32) ∧ c3 = (46 : Int32) then (1 : Int32) else 0))])) (fun J109 => ?_) ?_
    · skip
      by_cases r0 : nn < (4 : Int32)
      · skip
        refine Go.step (fun _ k => XS.icmpYes X0.here hx rfl (pc0 := 76) (pc' := 111) rfl (hb hby at_76) rfl (tlt r0).1 (by decide) (by decide) k) ?_
        show Go p e below _ (s₁.setTop (mkF m 111 #[.val (.int p1), .val (.int p2), .val (.int p3), .val (.int p4), .val (.int nn), .val (.int c0), .val (.int c1), .val (.int c2), .val (.int c3), .val (.int c4), .val (.int c5), .unset, .unset] []))
        refine Go.step (fun _ k => XS.iconst X0.here hx rfl (hb hby at_111) k) ?_
        show Go p e below _ (s₁.setTop (mkF m 112 #[.val (.int p1), .val (.int p2), .val (.int p3), .val (.int p4), .val (.int nn), .val (.int c0), .val (.int c1), .val (.int c2), .val (.int c3), .val (.int c4), .val (.int c5), .unset, .unset] [(.int (0 : Int32))]))
        rw [show (0 : Int32) = (if ¬ nn < (4 : Int32) ∧ c0 = (114 : Int32) ∧ c1 = (112 : Int32) ∧ c2 = (99 : Int32) ∧ c3 = (46 : Int32) then (1 : Int32) else 0) from (if_neg (fun q => q.1 r0)).symm]
        exact J109
      · skip
        refine Go.step (fun _ k => XS.icmpNo X0.here hx rfl (hb hby at_76) rfl (flt r0).1 k) ?_
        show Go p e below _ (s₁.setTop (mkF m 79 #[.val (.int p1), .val (.int p2), .val (.int p3), .val (.int p4), .val (.int nn), .val (.int c0), .val (.int c1), .val (.int c2), .val (.int c3), .val (.int c4), .val (.int c5), .unset, .unset] []))
        refine Go.step (fun _ k => XS.iload X0.here hx rfl (hb hby at_79) rfl  k) ?_
        show Go p e below _ (s₁.setTop (mkF m 81 #[.val (.int p1), .val (.int p2), .val (.int p3), .val (.int p4), .val (.int nn), .val (.int c0), .val (.int c1), .val (.int c2), .val (.int c3), .val (.int c4), .val (.int c5), .unset, .unset] [(.int c0)]))
        refine Go.step (fun _ k => XS.bipush X0.here hx rfl (hb hby at_81) k) ?_
        show Go p e below _ (s₁.setTop (mkF m 83 #[.val (.int p1), .val (.int p2), .val (.int p3), .val (.int p4), .val (.int nn), .val (.int c0), .val (.int c1), .val (.int c2), .val (.int c3), .val (.int c4), .val (.int c5), .unset, .unset] [(.int (114 : Int32)), (.int c0)]))
        by_cases r1 : c0 = (114 : Int32)
        · skip
          refine Go.step (fun _ k => XS.icmpNo X0.here hx rfl (hb hby at_83) rfl (teq r1).2 k) ?_
          show Go p e below _ (s₁.setTop (mkF m 86 #[.val (.int p1), .val (.int p2), .val (.int p3), .val (.int p4), .val (.int nn), .val (.int c0), .val (.int c1), .val (.int c2), .val (.int c3), .val (.int c4), .val (.int c5), .unset, .unset] []))
          refine Go.step (fun _ k => XS.iload X0.here hx rfl (hb hby at_86) rfl  k) ?_
          show Go p e below _ (s₁.setTop (mkF m 88 #[.val (.int p1), .val (.int p2), .val (.int p3), .val (.int p4), .val (.int nn), .val (.int c0), .val (.int c1), .val (.int c2), .val (.int c3), .val (.int c4), .val (.int c5), .unset, .unset] [(.int c1)]))
          refine Go.step (fun _ k => XS.bipush X0.here hx rfl (hb hby at_88) k) ?_
          show Go p e below _ (s₁.setTop (mkF m 90 #[.val (.int p1), .val (.int p2), .val (.int p3), .val (.int p4), .val (.int nn), .val (.int c0), .val (.int c1), .val (.int c2), .val (.int c3), .val (.int c4), .val (.int c5), .unset, .unset] [(.int (112 : Int32)), (.int c1)]))
          by_cases r2 : c1 = (112 : Int32)
          · skip
            refine Go.step (fun _ k => XS.icmpNo X0.here hx rfl (hb hby at_90) rfl (teq r2).2 k) ?_
            show Go p e below _ (s₁.setTop (mkF m 93 #[.val (.int p1), .val (.int p2), .val (.int p3), .val (.int p4), .val (.int nn), .val (.int c0), .val (.int c1), .val (.int c2), .val (.int c3), .val (.int c4), .val (.int c5), .unset, .unset] []))
            refine Go.step (fun _ k => XS.iload X0.here hx rfl (hb hby at_93) rfl  k) ?_
            show Go p e below _ (s₁.setTop (mkF m 95 #[.val (.int p1), .val (.int p2), .val (.int p3), .val (.int p4), .val (.int nn), .val (.int c0), .val (.int c1), .val (.int c2), .val (.int c3), .val (.int c4), .val (.int c5), .unset, .unset] [(.int c2)]))
            refine Go.step (fun _ k => XS.bipush X0.here hx rfl (hb hby at_95) k) ?_
            show Go p e below _ (s₁.setTop (mkF m 97 #[.val (.int p1), .val (.int p2), .val (.int p3), .val (.int p4), .val (.int nn), .val (.int c0), .val (.int c1), .val (.int c2), .val (.int c3), .val (.int c4), .val (.int c5), .unset, .unset] [(.int (99 : Int32)), (.int c2)]))
            by_cases r3 : c2 = (99 : Int32)
            · skip
              refine Go.step (fun _ k => XS.icmpNo X0.here hx rfl (hb hby at_97) rfl (teq r3).2 k) ?_
              show Go p e below _ (s₁.setTop (mkF m 100 #[.val (.int p1), .val (.int p2), .val (.int p3), .val (.int p4), .val (.int nn), .val (.int c0), .val (.int c1), .val (.int c2), .val (.int c3), .val (.int c4), .val (.int c5), .unset, .unset] []))
              refine Go.step (fun _ k => XS.iload X0.here hx rfl (hb hby at_100) rfl  k) ?_
              show Go p e below _ (s₁.setTop (mkF m 102 #[.val (.int p1), .val (.int p2), .val (.int p3), .val (.int p4), .val (.int nn), .val (.int c0), .val (.int c1), .val (.int c2), .val (.int c3), .val (.int c4), .val (.int c5), .unset, .unset] [(.int c3)]))
              refine Go.step (fun _ k => XS.bipush X0.here hx rfl (hb hby at_102) k) ?_
              show Go p e below _ (s₁.setTop (mkF m 104 #[.val (.int p1), .val (.int p2), .val (.int p3), .val (.int p4), .val (.int nn), .val (.int c0), .val (.int c1), .val (.int c2), .val (.int c3), .val (.int c4), .val (.int c5), .unset, .unset] [(.int (46 : Int32)), (.int c3)]))
              by_cases r4 : c3 = (46 : Int32)
              · skip
                refine Go.step (fun _ k => XS.icmpNo X0.here hx rfl (hb hby at_104) rfl (teq r4).2 k) ?_
                show Go p e below _ (s₁.setTop (mkF m 107 #[.val (.int p1), .val (.int p2), .val (.int p3), .val (.int p4), .val (.int nn), .val (.int c0), .val (.int c1), .val (.int c2), .val (.int c3), .val (.int c4), .val (.int c5), .unset, .unset] []))
                refine Go.step (fun _ k => XS.iconst X0.here hx rfl (hb hby at_107) k) ?_
                show Go p e below _ (s₁.setTop (mkF m 108 #[.val (.int p1), .val (.int p2), .val (.int p3), .val (.int p4), .val (.int nn), .val (.int c0), .val (.int c1), .val (.int c2), .val (.int c3), .val (.int c4), .val (.int c5), .unset, .unset] [(.int (1 : Int32))]))
                refine Go.step (fun _ k => XS.goto X0.here hx rfl (pc0 := 108) (pc' := 112) rfl (hb hby at_108) (by decide) (by decide) k) ?_
                show Go p e below _ (s₁.setTop (mkF m 112 #[.val (.int p1), .val (.int p2), .val (.int p3), .val (.int p4), .val (.int nn), .val (.int c0), .val (.int c1), .val (.int c2), .val (.int c3), .val (.int c4), .val (.int c5), .unset, .unset] [(.int (1 : Int32))]))
                rw [show (1 : Int32) = (if ¬ nn < (4 : Int32) ∧ c0 = (114 : Int32) ∧ c1 = (112 : Int32) ∧ c2 = (99 : Int32) ∧ c3 = (46 : Int32) then (1 : Int32) else 0) from (if_pos ⟨r0, r1, r2, r3, r4⟩).symm]
                exact J109
              · skip
                refine Go.step (fun _ k => XS.icmpYes X0.here hx rfl (pc0 := 104) (pc' := 111) rfl (hb hby at_104) rfl (feq r4).2 (by decide) (by decide) k) ?_
                show Go p e below _ (s₁.setTop (mkF m 111 #[.val (.int p1), .val (.int p2), .val (.int p3), .val (.int p4), .val (.int nn), .val (.int c0), .val (.int c1), .val (.int c2), .val (.int c3), .val (.int c4), .val (.int c5), .unset, .unset] []))
                refine Go.step (fun _ k => XS.iconst X0.here hx rfl (hb hby at_111) k) ?_
                show Go p e below _ (s₁.setTop (mkF m 112 #[.val (.int p1), .val (.int p2), .val (.int p3), .val (.int p4), .val (.int nn), .val (.int c0), .val (.int c1), .val (.int c2), .val (.int c3), .val (.int c4), .val (.int c5), .unset, .unset] [(.int (0 : Int32))]))
                rw [show (0 : Int32) = (if ¬ nn < (4 : Int32) ∧ c0 = (114 : Int32) ∧ c1 = (112 : Int32) ∧ c2 = (99 : Int32) ∧ c3 = (46 : Int32) then (1 : Int32) else 0) from (if_neg (fun q => r4 q.2.2.2.2)).symm]
                exact J109
            · skip
              refine Go.step (fun _ k => XS.icmpYes X0.here hx rfl (pc0 := 97) (pc' := 111) rfl (hb hby at_97) rfl (feq r3).2 (by decide) (by decide) k) ?_
              show Go p e below _ (s₁.setTop (mkF m 111 #[.val (.int p1), .val (.int p2), .val (.int p3), .val (.int p4), .val (.int nn), .val (.int c0), .val (.int c1), .val (.int c2), .val (.int c3), .val (.int c4), .val (.int c5), .unset, .unset] []))
              refine Go.step (fun _ k => XS.iconst X0.here hx rfl (hb hby at_111) k) ?_
              show Go p e below _ (s₁.setTop (mkF m 112 #[.val (.int p1), .val (.int p2), .val (.int p3), .val (.int p4), .val (.int nn), .val (.int c0), .val (.int c1), .val (.int c2), .val (.int c3), .val (.int c4), .val (.int c5), .unset, .unset] [(.int (0 : Int32))]))
              rw [show (0 : Int32) = (if ¬ nn < (4 : Int32) ∧ c0 = (114 : Int32) ∧ c1 = (112 : Int32) ∧ c2 = (99 : Int32) ∧ c3 = (46 : Int32) then (1 : Int32) else 0) from (if_neg (fun q => r3 q.2.2.2.1)).symm]
              exact J109
          · skip
            refine Go.step (fun _ k => XS.icmpYes X0.here hx rfl (pc0 := 90) (pc' := 111) rfl (hb hby at_90) rfl (feq r2).2 (by decide) (by decide) k) ?_
            show Go p e below _ (s₁.setTop (mkF m 111 #[.val (.int p1), .val (.int p2), .val (.int p3), .val (.int p4), .val (.int nn), .val (.int c0), .val (.int c1), .val (.int c2), .val (.int c3), .val (.int c4), .val (.int c5), .unset, .unset] []))
            refine Go.step (fun _ k => XS.iconst X0.here hx rfl (hb hby at_111) k) ?_
            show Go p e below _ (s₁.setTop (mkF m 112 #[.val (.int p1), .val (.int p2), .val (.int p3), .val (.int p4), .val (.int nn), .val (.int c0), .val (.int c1), .val (.int c2), .val (.int c3), .val (.int c4), .val (.int c5), .unset, .unset] [(.int (0 : Int32))]))
            rw [show (0 : Int32) = (if ¬ nn < (4 : Int32) ∧ c0 = (114 : Int32) ∧ c1 = (112 : Int32) ∧ c2 = (99 : Int32) ∧ c3 = (46 : Int32) then (1 : Int32) else 0) from (if_neg (fun q => r2 q.2.2.1)).symm]
            exact J109
        · skip
          refine Go.step (fun _ k => XS.icmpYes X0.here hx rfl (pc0 := 83) (pc' := 111) rfl (hb hby at_83) rfl (feq r1).2 (by decide) (by decide) k) ?_
          show Go p e below _ (s₁.setTop (mkF m 111 #[.val (.int p1), .val (.int p2), .val (.int p3), .val (.int p4), .val (.int nn), .val (.int c0), .val (.int c1), .val (.int c2), .val (.int c3), .val (.int c4), .val (.int c5), .unset, .unset] []))
          refine Go.step (fun _ k => XS.iconst X0.here hx rfl (hb hby at_111) k) ?_
          show Go p e below _ (s₁.setTop (mkF m 112 #[.val (.int p1), .val (.int p2), .val (.int p3), .val (.int p4), .val (.int nn), .val (.int c0), .val (.int c1), .val (.int c2), .val (.int c3), .val (.int c4), .val (.int c5), .unset, .unset] [(.int (0 : Int32))]))
          rw [show (0 : Int32) = (if ¬ nn < (4 : Int32) ∧ c0 = (114 : Int32) ∧ c1 = (112 : Int32) ∧ c2 = (99 : Int32) ∧ c3 = (46 : Int32) then (1 : Int32) else 0) from (if_neg (fun q => r1 q.2.1)).symm]
          exact J109
    · skip
      show Go p e below _ (s₁.setTop (mkF m 112 #[.val (.int p1), .val (.int p2), .val (.int p3), .val (.int p4), .val (.int nn), .val (.int c0), .val (.int c1), .val (.int c2), .val (.int c3), .val (.int c4), .val (.int c5), .unset, .unset] [(.int (if ¬ nn < (4 : Int32) ∧ c0 = (114 : Int32) ∧ c1 = (112 : Int32) ∧ c2 = (99 : Int32) ∧ c3 = (46 : Int32) then (1 : Int32) else 0))]))
      refine Go.step (fun _ k => XS.istore X0.here hx rfl (hb hby at_112) rfl (l' := #[.val (.int p1), .val (.int p2), .val (.int p3), .val (.int p4), .val (.int nn), .val (.int c0), .val (.int c1), .val (.int c2), .val (.int c3), .val (.int c4), .val (.int c5), .val (.int (if ¬ nn < (4 : Int32) ∧ c0 = (114 : Int32) ∧ c1 = (112 : Int32) ∧ c2 = (99 : Int32) ∧ c3 = (46 : Int32) then (1 : Int32) else 0)), .unset]) rfl k) ?_
      show Go p e below _ (s₁.setTop (mkF m 114 #[.val (.int p1), .val (.int p2), .val (.int p3), .val (.int p4), .val (.int nn), .val (.int c0), .val (.int c1), .val (.int c2), .val (.int c3), .val (.int c4), .val (.int c5), .val (.int (if ¬ nn < (4 : Int32) ∧ c0 = (114 : Int32) ∧ c1 = (112 : Int32) ∧ c2 = (99 : Int32) ∧ c3 = (46 : Int32) then (1 : Int32) else 0)), .unset] []))
      refine Go.step (fun _ k => XS.iload X0.here hx rfl (hb hby at_114) rfl  k) ?_
      show Go p e below _ (s₁.setTop (mkF m 116 #[.val (.int p1), .val (.int p2), .val (.int p3), .val (.int p4), .val (.int nn), .val (.int c0), .val (.int c1), .val (.int c2), .val (.int c3), .val (.int c4), .val (.int c5), .val (.int (if ¬ nn < (4 : Int32) ∧ c0 = (114 : Int32) ∧ c1 = (112 : Int32) ∧ c2 = (99 : Int32) ∧ c3 = (46 : Int32) then (1 : Int32) else 0)), .unset] [(.int (if ¬ nn < (4 : Int32) ∧ c0 = (114 : Int32) ∧ c1 = (112 : Int32) ∧ c2 = (99 : Int32) ∧ c3 = (46 : Int32) then (1 : Int32) else 0))]))
      by_cases hres : ¬ nn < (4 : Int32) ∧ c0 = (114 : Int32) ∧ c1 = (112 : Int32) ∧ c2 = (99 : Int32) ∧ c3 = (46 : Int32)
      · skip
        refine Go.step (fun _ k => XS.ifNo X0.here hx rfl (hb hby at_116) rfl ((if0 _ _).trans (feq (b01_ne hres)).1) k) ?_
        show Go p e below _ (s₁.setTop (mkF m 119 #[.val (.int p1), .val (.int p2), .val (.int p3), .val (.int p4), .val (.int nn), .val (.int c0), .val (.int c1), .val (.int c2), .val (.int c3), .val (.int c4), .val (.int c5), .val (.int (if ¬ nn < (4 : Int32) ∧ c0 = (114 : Int32) ∧ c1 = (112 : Int32) ∧ c2 = (99 : Int32) ∧ c3 = (46 : Int32) then (1 : Int32) else 0)), .unset] []))
        refine Go.step (fun _ k => XS.iconst X0.here hx rfl (hb hby at_119) k) ?_
        show Go p e below _ (s₁.setTop (mkF m 120 #[.val (.int p1), .val (.int p2), .val (.int p3), .val (.int p4), .val (.int nn), .val (.int c0), .val (.int c1), .val (.int c2), .val (.int c3), .val (.int c4), .val (.int c5), .val (.int (if ¬ nn < (4 : Int32) ∧ c0 = (114 : Int32) ∧ c1 = (112 : Int32) ∧ c2 = (99 : Int32) ∧ c3 = (46 : Int32) then (1 : Int32) else 0)), .unset] [(.int (1 : Int32))]))
        exact Go.retVW X0 e0 hS0 hk0 hZ hEL hh0 (CHr.refl CV0) hx hlk hret rfl (Or.inl ⟨rfl, Or.inr (Or.inl rfl), _, rfl⟩) (hb hby at_120) (by decide) (by decide) (by rw [e0]; exact ⟨rfl, N0⟩)
      · skip
        refine Go.step (fun _ k => XS.ifYes X0.here hx rfl (pc0 := 116) (pc' := 121) rfl (hb hby at_116) rfl ((if0 _ _).trans (teq (b01_eq hres)).1) (by decide) (by decide) k) ?_
        show Go p e below _ (s₁.setTop (mkF m 121 #[.val (.int p1), .val (.int p2), .val (.int p3), .val (.int p4), .val (.int nn), .val (.int c0), .val (.int c1), .val (.int c2), .val (.int c3), .val (.int c4), .val (.int c5), .val (.int (if ¬ nn < (4 : Int32) ∧ c0 = (114 : Int32) ∧ c1 = (112 : Int32) ∧ c2 = (99 : Int32) ∧ c3 = (46 : Int32) then (1 : Int32) else 0)), .unset] []))
        refine Go.step (fun _ k => XS.iload X0.here hx rfl (hb hby at_121) rfl  k) ?_
        show Go p e below _ (s₁.setTop (mkF m 123 #[.val (.int p1), .val (.int p2), .val (.int p3), .val (.int p4), .val (.int nn), .val (.int c0), .val (.int c1), .val (.int c2), .val (.int c3), .val (.int c4), .val (.int c5), .val (.int (if ¬ nn < (4 : Int32) ∧ c0 = (114 : Int32) ∧ c1 = (112 : Int32) ∧ c2 = (99 : Int32) ∧ c3 = (46 : Int32) then (1 : Int32) else 0)), .unset] [(.int nn)]))
        refine Go.step (fun _ k => XS.iload X0.here hx rfl (hb hby at_123) rfl  k) ?_
        show Go p e below _ (s₁.setTop (mkF m 125 #[.val (.int p1), .val (.int p2), .val (.int p3), .val (.int p4), .val (.int nn), .val (.int c0), .val (.int c1), .val (.int c2), .val (.int c3), .val (.int c4), .val (.int c5), .val (.int (if ¬ nn < (4 : Int32) ∧ c0 = (114 : Int32) ∧ c1 = (112 : Int32) ∧ c2 = (99 : Int32) ∧ c3 = (46 : Int32) then (1 : Int32) else 0)), .unset] [(.int c0), (.int nn)]))
        refine Go.step (fun _ k => XS.iload X0.here hx rfl (hb hby at_125) rfl  k) ?_
        show Go p e below _ (s₁.setTop (mkF m 127 #[.val (.int p1), .val (.int p2), .val (.int p3), .val (.int p4), .val (.int nn), .val (.int c0), .val (.int c1), .val (.int c2), .val (.int c3), .val (.int c4), .val (.int c5), .val (.int (if ¬ nn < (4 : Int32) ∧ c0 = (114 : Int32) ∧ c1 = (112 : Int32) ∧ c2 = (99 : Int32) ∧ c3 = (46 : Int32) then (1 : Int32) else 0)), .unset] [(.int c1), (.int c0), (.int nn)]))
        refine Go.step (fun _ k => XS.iload X0.here hx rfl (hb hby at_127) rfl  k) ?_
        show Go p e below _ (s₁.setTop (mkF m 129 #[.val (.int p1), .val (.int p2), .val (.int p3), .val (.int p4), .val (.int nn), .val (.int c0), .val (.int c1), .val (.int c2), .val (.int c3), .val (.int c4), .val (.int c5), .val (.int (if ¬ nn < (4 : Int32) ∧ c0 = (114 : Int32) ∧ c1 = (112 : Int32) ∧ c2 = (99 : Int32) ∧ c3 = (46 : Int32) then (1 : Int32) else 0)), .unset] [(.int c2), (.int c1), (.int c0), (.int nn)]))
        refine Go.step (fun _ k => XS.iload X0.here hx rfl (hb hby at_129) rfl  k) ?_
        show Go p e below _ (s₁.setTop (mkF m 131 #[.val (.int p1), .val (.int p2), .val (.int p3), .val (.int p4), .val (.int nn), .val (.int c0), .val (.int c1), .val (.int c2), .val (.int c3), .val (.int c4), .val (.int c5), .val (.int (if ¬ nn < (4 : Int32) ∧ c0 = (114 : Int32) ∧ c1 = (112 : Int32) ∧ c2 = (99 : Int32) ∧ c3 = (46 : Int32) then (1 : Int32) else 0)), .unset] [(.int c3), (.int c2), (.int c1), (.int c0), (.int nn)]))
        refine Go.step (fun _ k => XS.iload X0.here hx rfl (hb hby at_131) rfl  k) ?_
        show Go p e below _ (s₁.setTop (mkF m 133 #[.val (.int p1), .val (.int p2), .val (.int p3), .val (.int p4), .val (.int nn), .val (.int c0), .val (.int c1), .val (.int c2), .val (.int c3), .val (.int c4), .val (.int c5), .val (.int (if ¬ nn < (4 : Int32) ∧ c0 = (114 : Int32) ∧ c1 = (112 : Int32) ∧ c2 = (99 : Int32) ∧ c3 = (46 : Int32) then (1 : Int32) else 0)), .unset] [(.int c4), (.int c3), (.int c2), (.int c1), (.int c0), (.int nn)]))
        refine Go.step (fun _ k => XS.iload X0.here hx rfl (hb hby at_133) rfl  k) ?_
        show Go p e below _ (s₁.setTop (mkF m 135 #[.val (.int p1), .val (.int p2), .val (.int p3), .val (.int p4), .val (.int nn), .val (.int c0), .val (.int c1), .val (.int c2), .val (.int c3), .val (.int c4), .val (.int c5), .val (.int (if ¬ nn < (4 : Int32) ∧ c0 = (114 : Int32) ∧ c1 = (112 : Int32) ∧ c2 = (99 : Int32) ∧ c3 = (46 : Int32) then (1 : Int32) else 0)), .unset] [(.int c5), (.int c4), (.int c3), (.int c2), (.int c1), (.int c0), (.int nn)]))
        obtain ⟨v_110, T_110, L_110, X_110, hQ_110, st_110⟩ := goS X0 hx hZ (y := ({ cls := "com/example/enact/enact/CommandNamesRequireValidPinLaw", name := "make", desc := "(ICCCCCC)Ljava/lang/String;" } : Jvm.MethodName)) hown (wd_1 hw) (wd_2 hw) (wd_3 hw) (wd_4 hw) (by decide) (backOf (W := 0) (rm_make l Z a0 hw zc (nn) (c0) (c1) (c2) (c3) (c4) (c5) h0 n0 (Nat.le_trans Z0 KP0.1) (by assumption) (by assumption) (by assumption) (by assumption) (by assumption) (by assumption) hSt hO) hZ (wd_4 hw) (wd_3 hw) (by decide) (by decide)) e0 (g := (mkF m 135 #[.val (.int p1), .val (.int p2), .val (.int p3), .val (.int p4), .val (.int nn), .val (.int c0), .val (.int c1), .val (.int c2), .val (.int c3), .val (.int c4), .val (.int c5), .val (.int (if ¬ nn < (4 : Int32) ∧ c0 = (114 : Int32) ∧ c1 = (112 : Int32) ∧ c2 = (99 : Int32) ∧ c3 = (46 : Int32) then (1 : Int32) else 0)), .unset] [(.int c5), (.int c4), (.int c3), (.int c2), (.int c1), (.int c0), (.int nn)])) rfl (by rw [hml]; rfl) (argsL := [(.int nn), (.int c0), (.int c1), (.int c2), (.int c3), (.int c4), (.int c5)]) (rest := []) rfl (lenOf pd_8 rfl) rfl (by show 2 * 0 + _ ≤ _; exact Nat.le_of_eq rfl) (hb hby at_135) (by decide) (by decide)
        obtain ⟨r_110, rfl, Nq_110, K_110, u0_110, u1_110⟩ := hQ_110
        have N_110 := Fr.app N0 Nq_110
        have C_110 := CHr.keep K_110 sf0 CV0
        have CR_110 := CHr.trans (CHr.refl CV0) C_110
        have le_110 : h0.size ≤ T_110.heap.size := K_110.1
        have KP_110 := KP0.trans K_110 all0
        have O_110 := hO.keep K_110 all0
        have sz_r_110 : h0.size ≤ r_110 := Nat.le_trans (Nat.le_refl _) u0_110
        have g_r_110 : n0 ≤ r_110 := Nat.le_trans Z0 sz_r_110
        refine Go.step st_110 ?_
        show Go p e below _ (T_110.setTop (mkF m 138 #[.val (.int p1), .val (.int p2), .val (.int p3), .val (.int p4), .val (.int nn), .val (.int c0), .val (.int c1), .val (.int c2), .val (.int c3), .val (.int c4), .val (.int c5), .val (.int (if ¬ nn < (4 : Int32) ∧ c0 = (114 : Int32) ∧ c1 = (112 : Int32) ∧ c2 = (99 : Int32) ∧ c3 = (46 : Int32) then (1 : Int32) else 0)), .unset] [(.ref r_110)]))
        refine Go.step (fun _ k => XS.astore X_110.here hx rfl (hb hby at_138) rfl rfl (l' := #[.val (.int p1), .val (.int p2), .val (.int p3), .val (.int p4), .val (.int nn), .val (.int c0), .val (.int c1), .val (.int c2), .val (.int c3), .val (.int c4), .val (.int c5), .val (.int (if ¬ nn < (4 : Int32) ∧ c0 = (114 : Int32) ∧ c1 = (112 : Int32) ∧ c2 = (99 : Int32) ∧ c3 = (46 : Int32) then (1 : Int32) else 0)), .val (.ref r_110)]) rfl k) ?_
        show Go p e below _ (T_110.setTop (mkF m 140 #[.val (.int p1), .val (.int p2), .val (.int p3), .val (.int p4), .val (.int nn), .val (.int c0), .val (.int c1), .val (.int c2), .val (.int c3), .val (.int c4), .val (.int c5), .val (.int (if ¬ nn < (4 : Int32) ∧ c0 = (114 : Int32) ∧ c1 = (112 : Int32) ∧ c2 = (99 : Int32) ∧ c3 = (46 : Int32) then (1 : Int32) else 0)), .val (.ref r_110)] []))
        refine Go.step (fun _ k => XS.aload X_110.here hx rfl (hb hby at_140) rfl rfl k) ?_
        show Go p e below _ (T_110.setTop (mkF m 142 #[.val (.int p1), .val (.int p2), .val (.int p3), .val (.int p4), .val (.int nn), .val (.int c0), .val (.int c1), .val (.int c2), .val (.int c3), .val (.int c4), .val (.int c5), .val (.int (if ¬ nn < (4 : Int32) ∧ c0 = (114 : Int32) ∧ c1 = (112 : Int32) ∧ c2 = (99 : Int32) ∧ c3 = (46 : Int32) then (1 : Int32) else 0)), .val (.ref r_110)] [(.ref r_110)]))
        obtain ⟨v_111, T_111, L_111, X_111, hQ_111, hS_111, hZ_111, hown_111, C_111, st_111⟩ := goSW X_110 hx hZ (y := ({ cls := "com/example/enact/enact/CommandNames", name := "requireValid", desc := "(Ljava/lang/String;)Ljava/lang/String;" } : Jvm.MethodName)) hown hS0 (Nat.le_trans hk0 le_110) (wd_35 hw) (wd_36 hw) (wd_37 hw) (wd_38 hw) (by decide) (backOfSH (W := 0) (rm_reqValid l Z a0 hw zc (r_110) ((mk6 nn c0 c1 c2 c3 c4 c5)) T_110.heap n0 (Nat.le_trans Z0 KP_110.1) u1_110 (mk6_facts h_nn7 hn0 hres).1 (mk6_facts h_nn7 hn0 hres).2 hSt O_110) hZ (wd_38 hw) (wd_37 hw) (by decide) (by decide) hEL C_110.1) rfl (g := (mkF m 142 #[.val (.int p1), .val (.int p2), .val (.int p3), .val (.int p4), .val (.int nn), .val (.int c0), .val (.int c1), .val (.int c2), .val (.int c3), .val (.int c4), .val (.int c5), .val (.int (if ¬ nn < (4 : Int32) ∧ c0 = (114 : Int32) ∧ c1 = (112 : Int32) ∧ c2 = (99 : Int32) ∧ c3 = (46 : Int32) then (1 : Int32) else 0)), .val (.ref r_110)] [(.ref r_110)])) rfl (by rw [hml]; rfl) (argsL := [(.ref r_110)]) (rest := []) rfl (lenOf pd_9 rfl) rfl (by show 2 * 0 + _ ≤ _; exact Nat.le_of_eq rfl) (hb hby at_142) (by decide) (by decide)
        obtain ⟨rfl, Nq_111, K_111⟩ := hQ_111
        have N_111 := Fr.app N_110 Nq_111
        have CR_111 := CHr.trans CR_110 C_111
        have le_111 : T_110.heap.size ≤ T_111.heap.size := K_111.1
        have KP_111 := KP_110.trans K_111 all0
        have O_111 := O_110.keep K_111 all0
        refine Go.step st_111 ?_
        show Go p e below _ (T_111.setTop (mkF m 145 #[.val (.int p1), .val (.int p2), .val (.int p3), .val (.int p4), .val (.int nn), .val (.int c0), .val (.int c1), .val (.int c2), .val (.int c3), .val (.int c4), .val (.int c5), .val (.int (if ¬ nn < (4 : Int32) ∧ c0 = (114 : Int32) ∧ c1 = (112 : Int32) ∧ c2 = (99 : Int32) ∧ c3 = (46 : Int32) then (1 : Int32) else 0)), .val (.ref r_110)] [(.ref r_110)]))
        refine Go.step (fun _ k => XS.aload X_111.here hx rfl (hb hby at_145) rfl rfl k) ?_
        show Go p e below _ (T_111.setTop (mkF m 147 #[.val (.int p1), .val (.int p2), .val (.int p3), .val (.int p4), .val (.int nn), .val (.int c0), .val (.int c1), .val (.int c2), .val (.int c3), .val (.int c4), .val (.int c5), .val (.int (if ¬ nn < (4 : Int32) ∧ c0 = (114 : Int32) ∧ c1 = (112 : Int32) ∧ c2 = (99 : Int32) ∧ c3 = (46 : Int32) then (1 : Int32) else 0)), .val (.ref r_110)] [(.ref r_110), (.ref r_110)]))
        refine Go.step (fun _ k => Jvm.RoadKit.acmp (g := (mkF m 147 #[.val (.int p1), .val (.int p2), .val (.int p3), .val (.int p4), .val (.int nn), .val (.int c0), .val (.int c1), .val (.int c2), .val (.int c3), .val (.int c4), .val (.int c5), .val (.int (if ¬ nn < (4 : Int32) ∧ c0 = (114 : Int32) ∧ c1 = (112 : Int32) ∧ c2 = (99 : Int32) ∧ c3 = (46 : Int32) then (1 : Int32) else 0)), .val (.ref r_110)] [(.ref r_110), (.ref r_110)])) X_111 hx rfl rfl rfl (pc0 := 147) (pc' := 150) (same := true) rfl (hb hby at_147) rfl (decide_eq_true rfl) (by decide) (by decide) k) ?_
        show Go p e below _ (T_111.setTop (mkF m 150 #[.val (.int p1), .val (.int p2), .val (.int p3), .val (.int p4), .val (.int nn), .val (.int c0), .val (.int c1), .val (.int c2), .val (.int c3), .val (.int c4), .val (.int c5), .val (.int (if ¬ nn < (4 : Int32) ∧ c0 = (114 : Int32) ∧ c1 = (112 : Int32) ∧ c2 = (99 : Int32) ∧ c3 = (46 : Int32) then (1 : Int32) else 0)), .val (.ref r_110)] []))
        refine Go.step (fun _ k => XS.iconst X_111.here hx rfl (hb hby at_150) k) ?_
        show Go p e below _ (T_111.setTop (mkF m 151 #[.val (.int p1), .val (.int p2), .val (.int p3), .val (.int p4), .val (.int nn), .val (.int c0), .val (.int c1), .val (.int c2), .val (.int c3), .val (.int c4), .val (.int c5), .val (.int (if ¬ nn < (4 : Int32) ∧ c0 = (114 : Int32) ∧ c1 = (112 : Int32) ∧ c2 = (99 : Int32) ∧ c3 = (46 : Int32) then (1 : Int32) else 0)), .val (.ref r_110)] [(.int (1 : Int32))]))
        refine Go.step (fun _ k => XS.goto X_111.here hx rfl (pc0 := 151) (pc' := 155) rfl (hb hby at_151) (by decide) (by decide) k) ?_
        show Go p e below _ (T_111.setTop (mkF m 155 #[.val (.int p1), .val (.int p2), .val (.int p3), .val (.int p4), .val (.int nn), .val (.int c0), .val (.int c1), .val (.int c2), .val (.int c3), .val (.int c4), .val (.int c5), .val (.int (if ¬ nn < (4 : Int32) ∧ c0 = (114 : Int32) ∧ c1 = (112 : Int32) ∧ c2 = (99 : Int32) ∧ c3 = (46 : Int32) then (1 : Int32) else 0)), .val (.ref r_110)] [(.int (1 : Int32))]))
        exact Go.retVW X_111 rfl hS_111 (Nat.le_refl _) hZ_111 hEL hh0 CR_111 hx hlk hret rfl (Or.inl ⟨rfl, Or.inr (Or.inl rfl), _, rfl⟩) (hb hby at_155) (by decide) (by decide) (by exact ⟨rfl, N_111⟩)
--@E
set_option maxRecDepth 65536 in
set_option maxHeartbeats 40000000 in
theorem comes_1 {Post : Tables → Env → Array Value → State → Outcome → State → Prop} (hpost : ∀ tb e args s v u, (limb_1_1.after args s (.returned v) u = true ∧ limb_1_2.after args s (.returned v) u = true ∧ True) → ReturnedEndW s (.returned v) u (Jvm.fieldLocs frame_1_writes args s ++ Jvm.arrayLocs frame_1_arrays args s ++ Jvm.staticLocs frame_1_statics s) 24 2176 → Post tb e args s (.returned v) u) :
    ArmFor flags0 classFile x code maxLocals ret World_1 tables_1 room_1 Calls_1 rest_1 Pre_1 Post := by
  intro l hfl _ _ p e ha hc hk s m args below hf hA hF happ hP
  obtain ⟨hcalls, hrest, hpre⟩ := hP
  obtain ⟨-, -, -, hnamed, -, -, -, hat⟩ := (Spec.applies_iff hf).mp happ
  obtain ⟨hg, hn⟩ := and_e (Cond.before_iff.mp (show (Jvm.Cond.and given_1 narrow_1).before args s = true from hpre))
  obtain ⟨g_c, g_0⟩ := and_e hg
  obtain ⟨ga_0, g_1⟩ := and_e g_0
  obtain ⟨ga_1, g_2⟩ := and_e g_1
  obtain ⟨ga_2, g_3⟩ := and_e g_2
  have ga_3 := g_3
  obtain ⟨w0, w1, w2, w3, rfl⟩ : ∃ w0 w1 w2 w3 : Value, args = #[w0, w1, w2, w3] := by
    have hs : args.size = 4 := by simpa [Cond.value, given_1] using g_c
    obtain ⟨L⟩ := args
    match L, hs with
    | [w0, w1, w2, w3], _ => exact ⟨w0, w1, w2, w3, rfl⟩
  have hw := fun d (hd : d ∈ tables_1) => atoms_spec (ws := Jvm.Cond.code x code maxLocals ret :: tables_1) hat d (List.mem_cons_of_mem _ hd)
  obtain ⟨hsets, hown0⟩ := atoms_of _ (rest_1_c_eq ▸ (show rest_1_c.before _ s = true from hrest))
  obtain ⟨i0, ei0⟩ := is_v ga_0
  obtain rfl : w0 = (.int i0) := Option.some.inj ei0
  obtain ⟨i1, ei1⟩ := is_v ga_1
  obtain rfl : w1 = (.int i1) := Option.some.inj ei1
  obtain ⟨i2, ei2⟩ := is_v ga_2
  obtain rfl : w2 = (.int i2) := Option.some.inj ei2
  obtain ⟨i3, ei3⟩ := is_v ga_3
  obtain rfl : w3 = (.int i3) := Option.some.inj ei3
  have hs := fun (k : Nat) (d : Jvm.Cond) (h : jdkStatics_1[k]? = some d) => Cond.before_iff.mp (hsets d (List.mem_of_getElem? h))
  obtain ⟨zc, ezc⟩ := is_v (hs 1 _ rfl)
  have S_cs : Sta s s.heap "java/lang/String" "COMPACT_STRINGS" "Z" (.int zc) := Sta.start ezc (Or.inl (hsets _ (List.mem_of_getElem? (i := 0) rfl)))
  have n_cs : ¬ (zc = (0 : Int32)) := gotF (Cond.eq_ints ezc (Term.int_eval (0))) (not_v (hs 2 _ rfl))
  have hSt : St s zc := ⟨S_cs, n_cs⟩
  have hCV : CHv s EL s.vm s.heap := CHv.start (hEL_ hw) hcalls.1 (hsets _ (List.mem_of_getElem? (i := 2) rfl)) (wd_24 hw) (wd_6 hw)
  obtain ⟨n, o, h1, h2, h3, _, L, rfl, ⟨rfl, N⟩, -, hq⟩ := rm_law l s _ hw zc i0 i1 i2 i3 s.heap s.heap.size (Nat.le_refl _) hSt (Old.start s) p e ha hc hk s m _ below hf ((Spec.applies_iff_loose hf).mp happ).1 ⟨rfl, State.Warmed39.refl s, rfl, hCV⟩ trivial
  refine ⟨n, _, h1, h2, h3, hpost _ _ _ _ _ _ ⟨Cond.after_iff.mpr rfl, Cond.after_iff.mpr (eq_i res_at (Term.int_eval (1)) rfl), trivial⟩ ⟨hq.1, hq.2.1, hq.2.2.1, (hq.2.2.2.sift fun y hy => Or.inr (N y hy)).mono (by decide) (by decide)⟩⟩
theorem main_1_1 : Claimed_1_1 := comes_1 fun _ _ _ _ _ _ h hF => ⟨h.1, hF⟩
theorem main_1_2 : Claimed_1_2 := comes_1 fun _ _ _ _ _ _ h hF => ⟨h.2.1, hF⟩
end Jvm.Pilot.@@N@@
namespace Jvm.Pilot.@@N@@
open Jvm Jvm.ClassFile Sem Op Lib Jvm.Free Jvm.Stand Jvm.Pilot.@@N@@.Jvm.D
/-! MADE BY PROGRAM (witnessworld.py) out of the Statement's table words and the real class files: 21 classes; the members and pool entries that the words name. The judged class is class 1, her method 2. -/
namespace start1
open Jvm.ClassFile
def u (s : String) : CpInfo := .utf8 (stringToUtf16 s)
/-- a pool by its gaps: so many unusable entries, then the entry; so many at the end -/
def gap : Nat → List CpInfo → List CpInfo
  | 0, r => r
  | n + 1, r => .unusable :: gap n r
def poolList (es : List (Nat × CpInfo)) (last : Nat) : List CpInfo := es.foldr (fun e r => gap e.1 (e.2 :: r)) (gap last [])
def pool (es : List (Nat × CpInfo)) (last : Nat) : Array CpInfo := ⟨poolList es last⟩
def fileOf (pool : Array CpInfo) (this : Nat) (attrs : Array Attribute := #[]) (ms : Array MethodInfo := #[]) (fl : Nat := 33) (sup : Nat := 0) (ifs : Array Nat := #[]) (fds : Array FieldInfo := #[]) : ClassFile where
  minorVersion := 0
  majorVersion := 65
  constantPool := pool
  accessFlags := fl
  thisClass := this
  superClass := sup
  interfaces := ifs
  fields := fds
  methods := ms
  attributes := attrs
def plain (name : String) (sup : Option ClassId) : Class where
  name := name
  kind := .ordinary
  loader := none
  accessFlags := 33
  super := sup
  interfaces := #[]
  cf := none
  fields := #[]
  methods := #[]
  instanceTypes := #[]
  staticTypes := #[]
  resolved := #[]
  callSites := []
  init := .initialized
  statics := none
  mirror := none

def pool0 : Array CpInfo := pool [(5, u "<init>"), (0, u "()V"), (1, .class_ 10), (1, u "java/lang/Object")] 113

def k0c0 : Code := { maxStack := 0, maxLocals := 1, code := object_method_1_code, exceptionTable := #[], attributes := #[] }
def k0m0 : Method := { name := "<init>", desc := "()V", sig := { parameters := [], returnType := none }, accessFlags := 1, code := some k0c0 }
/-- java/lang/Object -/
def k0 : Class := { plain "java/lang/Object" none with
  accessFlags := 33
  interfaces := #[]
  cf := some (fileOf pool0 8 #[] #[{ accessFlags := 1, nameIndex := 5, descriptorIndex := 6, attributes := #[] }] 33 0 #[] #[])
  fields := #[]
  methods := #[k0m0]
  instanceTypes := #[]
  staticTypes := #[]
  resolved := Array.replicate 124 none
  statics := none }

def pool1 : Array CpInfo := pool [(2, .class_ 4), (1, u "java/lang/Object"), (0, u "<init>"), (0, u "()V"), (0, .class_ 8), (0, u "java/lang/String"), (0, .methodref 7 10), (0, .nameAndType 5 11), (0, u "([C)V"), (0, .integer 2147483647), (0, .methodref 14 15), (0, .class_ 16), (0, .nameAndType 17 18), (0, u "com/example/enact/enact/CommandNamesRequireValidPinLaw"), (0, u "make"), (0, u "(ICCCCCC)Ljava/lang/String;"), (0, .methodref 20 21), (0, .class_ 22), (0, .nameAndType 23 24), (0, u "com/example/enact/enact/CommandNames"), (0, u "requireValid"), (0, u "(Ljava/lang/String;)Ljava/lang/String;"), (3, u "law"), (0, u "(IIII)Z")] 2

def k1m0 : Method := { name := "<init>", desc := "()V", sig := { parameters := [], returnType := none }, accessFlags := 2, code := none }
def k1c1 : Code := { maxStack := 6, maxLocals := 7, code := method_2_code, exceptionTable := #[], attributes := #[] }
def k1m1 : Method := { name := "make", desc := "(ICCCCCC)Ljava/lang/String;", sig := { parameters := [.int, .char, .char, .char, .char, .char, .char], returnType := some (.object "java/lang/String") }, accessFlags := 10, code := some k1c1 }
def k1c2 : Code := { maxStack := 7, maxLocals := 13, code := code, exceptionTable := #[], attributes := #[] }
def k1m2 : Method := { name := "law", desc := "(IIII)Z", sig := { parameters := [.int, .int, .int, .int], returnType := some .boolean }, accessFlags := 9, code := some k1c2 }
/-- com/example/enact/enact/CommandNamesRequireValidPinLaw -/
def k1 : Class := { plain "com/example/enact/enact/CommandNamesRequireValidPinLaw" (some 0) with
  accessFlags := 49
  interfaces := #[]
  cf := some (fileOf pool1 14 #[] #[{ accessFlags := 2, nameIndex := 5, descriptorIndex := 6, attributes := #[] }, { accessFlags := 10, nameIndex := 17, descriptorIndex := 18, attributes := #[] }, { accessFlags := 9, nameIndex := 28, descriptorIndex := 29, attributes := #[] }] 49 2 #[] #[])
  fields := #[]
  methods := #[k1m0, k1m1, k1m2]
  instanceTypes := #[]
  staticTypes := #[]
  resolved := Array.replicate 32 none
  statics := none }

def pool2 : Array CpInfo := pool [(1, .class_ 2), (0, u "java/io/Serializable"), (0, .class_ 4), (0, u "java/lang/Object")] 2

/-- java/io/Serializable -/
def k2 : Class := { plain "java/io/Serializable" (some 0) with
  accessFlags := 1537
  interfaces := #[]
  cf := some (fileOf pool2 1 #[] #[] 1537 3 #[] #[])
  fields := #[]
  methods := #[]
  instanceTypes := #[]
  staticTypes := #[]
  resolved := Array.replicate 7 none
  statics := none }

def pool3 : Array CpInfo := pool [(1, .class_ 2), (0, u "java/lang/Comparable"), (0, .class_ 4), (0, u "java/lang/Object")] 7

/-- java/lang/Comparable -/
def k3 : Class := { plain "java/lang/Comparable" (some 0) with
  accessFlags := 1537
  interfaces := #[]
  cf := some (fileOf pool3 1 #[] #[] 1537 3 #[] #[])
  fields := #[]
  methods := #[]
  instanceTypes := #[]
  staticTypes := #[]
  resolved := Array.replicate 12 none
  statics := none }

def pool4 : Array CpInfo := pool [(2, .class_ 4), (1, u "java/lang/CharSequence"), (42, .class_ 48), (0, u "java/lang/CharSequence$1CodePointIterator"), (10, .class_ 60), (0, u "java/lang/CharSequence$1CharIterator"), (5, .class_ 67), (0, u "java/lang/Object")] 63

/-- java/lang/CharSequence -/
def k4 : Class := { plain "java/lang/CharSequence" (some 0) with
  accessFlags := 1537
  interfaces := #[]
  cf := some (fileOf pool4 2 #[.nestMembers #[47, 59]] #[] 1537 66 #[] #[])
  fields := #[]
  methods := #[]
  instanceTypes := #[]
  staticTypes := #[]
  resolved := Array.replicate 131 none
  statics := none }

def pool5 : Array CpInfo := pool [(1, .class_ 2), (0, u "java/lang/constant/Constable"), (0, .class_ 4), (0, u "java/lang/Object")] 6

/-- java/lang/constant/Constable -/
def k5 : Class := { plain "java/lang/constant/Constable" (some 0) with
  accessFlags := 1537
  interfaces := #[]
  cf := some (fileOf pool5 1 #[] #[] 1537 3 #[] #[])
  fields := #[]
  methods := #[]
  instanceTypes := #[]
  staticTypes := #[]
  resolved := Array.replicate 11 none
  statics := none }

def pool6 : Array CpInfo := pool [(1, .class_ 2), (0, u "java/lang/constant/ConstantDesc"), (0, .class_ 4), (0, u "java/lang/Object")] 32

/-- java/lang/constant/ConstantDesc -/
def k6 : Class := { plain "java/lang/constant/ConstantDesc" (some 0) with
  accessFlags := 1537
  interfaces := #[]
  cf := some (fileOf pool6 1 #[] #[] 1537 3 #[] #[])
  fields := #[]
  methods := #[]
  instanceTypes := #[]
  staticTypes := #[]
  resolved := Array.replicate 37 none
  statics := none }

def pool7 : Array CpInfo := pool [(1, .methodref 2 3), (0, .class_ 4), (0, .nameAndType 5 6), (0, u "java/lang/Object"), (0, u "<init>"), (0, u "()V"), (2, .fieldref 10 11), (0, .class_ 12), (0, .nameAndType 13 14), (0, u "java/lang/String"), (0, u "value"), (0, u "[B"), (0, .fieldref 10 16), (0, .nameAndType 17 18), (0, u "coder"), (0, u "B"), (2, u "hash"), (0, u "I"), (2, u "hashIsZero"), (0, u "Z"), (0, .methodref 10 28), (0, .nameAndType 5 29), (0, u "([CIILjava/lang/Void;)V"), (8, .fieldref 10 39), (0, .nameAndType 40 26), (0, u "COMPACT_STRINGS"), (1, .class_ 44), (1, u "java/lang/StringUTF16"), (0, u "compress"), (1, .methodref 42 48), (0, .nameAndType 49 50), (0, u "coderFromArrayLen"), (0, u "([BI)B"), (91, u "()Z"), (34, .methodref 42 178), (0, .nameAndType 45 179), (0, u "([CII)[B"), (154, u "()I"), (0, .methodref 10 336), (0, .nameAndType 17 337), (0, u "()B"), (38, u "([BI[BII)I"), (128, .methodref 10 506), (0, .nameAndType 507 334), (0, u "length"), (51, .class_ 561), (1, u "jdk/internal/util/ArraysSupport"), (0, u "mismatch"), (12, .class_ 576), (0, u "java/lang/CharSequence"), (22, u "CASE_INSENSITIVE_ORDER"), (0, u "Ljava/util/Comparator;"), (6, .methodref 559 608), (0, .nameAndType 562 376), (15, .methodref 10 625), (0, .nameAndType 626 627), (0, u "startsWith"), (0, u "(Ljava/lang/String;I)Z"), (64, u "isEmpty"), (317, u "([C)V"), (90, u "serialPersistentFields"), (0, u "[Ljava/io/ObjectStreamField;"), (0, .class_ 1104), (0, u "java/lang/String$CaseInsensitiveComparator"), (1, .class_ 1107), (0, u "java/io/Serializable"), (0, .class_ 1109), (0, u "java/lang/Comparable"), (0, .class_ 1111), (0, u "java/lang/constant/Constable"), (0, .class_ 1113), (0, u "java/lang/constant/ConstantDesc"), (2, u "serialVersionUID"), (0, u "J"), (3, u "REPL"), (0, u "C"), (2, u "LATIN1"), (1, u "UTF16"), (129, u "(Ljava/lang/String;)Z")] 193

def k7m0 : Method := { name := "<init>", desc := "()V", sig := { parameters := [], returnType := none }, accessFlags := 1, code := none }
def k7c1 : Code := { maxStack := 5, maxLocals := 2, code := jdk_42_method_3_code, exceptionTable := #[], attributes := #[] }
def k7m1 : Method := { name := "<init>", desc := "([C)V", sig := { parameters := [(.array .char)], returnType := none }, accessFlags := 1, code := some k7c1 }
def k7c2 : Code := { maxStack := 2, maxLocals := 1, code := jdk_42_method_54_code, exceptionTable := #[], attributes := #[] }
def k7m2 : Method := { name := "length", desc := "()I", sig := { parameters := [], returnType := some .int }, accessFlags := 1, code := some k7c2 }
def k7c3 : Code := { maxStack := 1, maxLocals := 1, code := jdk_42_method_55_code, exceptionTable := #[], attributes := #[] }
def k7m3 : Method := { name := "isEmpty", desc := "()Z", sig := { parameters := [], returnType := some .boolean }, accessFlags := 1, code := some k7c3 }
def k7c4 : Code := { maxStack := 5, maxLocals := 8, code := jdk_42_method_75_code, exceptionTable := #[], attributes := #[] }
def k7m4 : Method := { name := "startsWith", desc := "(Ljava/lang/String;I)Z", sig := { parameters := [(.object "java/lang/String"), .int], returnType := some .boolean }, accessFlags := 1, code := some k7c4 }
def k7c5 : Code := { maxStack := 3, maxLocals := 2, code := jdk_42_method_76_code, exceptionTable := #[], attributes := #[] }
def k7m5 : Method := { name := "startsWith", desc := "(Ljava/lang/String;)Z", sig := { parameters := [(.object "java/lang/String")], returnType := some .boolean }, accessFlags := 1, code := some k7c5 }
def k7c6 : Code := { maxStack := 4, maxLocals := 6, code := jdk_42_method_149_code, exceptionTable := #[], attributes := #[] }
def k7m6 : Method := { name := "<init>", desc := "([CIILjava/lang/Void;)V", sig := { parameters := [(.array .char), .int, .int, (.object "java/lang/Void")], returnType := none }, accessFlags := 2, code := some k7c6 }
def k7c7 : Code := { maxStack := 1, maxLocals := 1, code := jdk_42_method_152_code, exceptionTable := #[], attributes := #[] }
def k7m7 : Method := { name := "coder", desc := "()B", sig := { parameters := [], returnType := some .byte }, accessFlags := 0, code := some k7c7 }
/-- java/lang/String -/
def k7 : Class := { plain "java/lang/String" (some 0) with
  accessFlags := 49
  interfaces := #[2, 3, 4, 5, 6]
  cf := some (fileOf pool7 10 #[.nestMembers #[1103]] #[{ accessFlags := 1, nameIndex := 5, descriptorIndex := 6, attributes := #[] }, { accessFlags := 1, nameIndex := 5, descriptorIndex := 1010, attributes := #[] }, { accessFlags := 1, nameIndex := 507, descriptorIndex := 334, attributes := #[] }, { accessFlags := 1, nameIndex := 692, descriptorIndex := 142, attributes := #[] }, { accessFlags := 1, nameIndex := 626, descriptorIndex := 627, attributes := #[] }, { accessFlags := 1, nameIndex := 626, descriptorIndex := 1257, attributes := #[] }, { accessFlags := 2, nameIndex := 5, descriptorIndex := 29, attributes := #[] }, { accessFlags := 0, nameIndex := 17, descriptorIndex := 337, attributes := #[] }] 49 2 #[1106, 1108, 575, 1110, 1112] #[{ accessFlags := 18, nameIndex := 13, descriptorIndex := 14, attributes := #[] }, { accessFlags := 18, nameIndex := 17, descriptorIndex := 18, attributes := #[] }, { accessFlags := 2, nameIndex := 21, descriptorIndex := 22, attributes := #[] }, { accessFlags := 2, nameIndex := 25, descriptorIndex := 26, attributes := #[] }, { accessFlags := 26, nameIndex := 1116, descriptorIndex := 1117, attributes := #[] }, { accessFlags := 24, nameIndex := 40, descriptorIndex := 26, attributes := #[] }, { accessFlags := 26, nameIndex := 1101, descriptorIndex := 1102, attributes := #[] }, { accessFlags := 26, nameIndex := 1121, descriptorIndex := 1122, attributes := #[] }, { accessFlags := 25, nameIndex := 599, descriptorIndex := 600, attributes := #[] }, { accessFlags := 24, nameIndex := 1125, descriptorIndex := 18, attributes := #[] }, { accessFlags := 24, nameIndex := 1127, descriptorIndex := 18, attributes := #[] }])
  fields := #[{ name := "value", type := (.array .byte), accessFlags := 18, slot := 0, constantValue := 0 }, { name := "coder", type := .byte, accessFlags := 18, slot := 1, constantValue := 0 }, { name := "hash", type := .int, accessFlags := 2, slot := 2, constantValue := 0 }, { name := "hashIsZero", type := .boolean, accessFlags := 2, slot := 3, constantValue := 0 }, { name := "serialVersionUID", type := .long, accessFlags := 26, slot := 0, constantValue := 0 }, { name := "COMPACT_STRINGS", type := .boolean, accessFlags := 24, slot := 1, constantValue := 0 }, { name := "serialPersistentFields", type := (.array (.object "java/io/ObjectStreamField")), accessFlags := 26, slot := 2, constantValue := 0 }, { name := "REPL", type := .char, accessFlags := 26, slot := 3, constantValue := 0 }, { name := "CASE_INSENSITIVE_ORDER", type := (.object "java/util/Comparator"), accessFlags := 25, slot := 4, constantValue := 0 }, { name := "LATIN1", type := .byte, accessFlags := 24, slot := 5, constantValue := 0 }, { name := "UTF16", type := .byte, accessFlags := 24, slot := 6, constantValue := 0 }]
  methods := #[k7m0, k7m1, k7m2, k7m3, k7m4, k7m5, k7m6, k7m7]
  instanceTypes := #[(.array .byte), .byte, .int, .boolean]
  staticTypes := #[.long, .boolean, (.array (.object "java/io/ObjectStreamField")), .char, (.object "java/util/Comparator"), .byte, .byte]
  resolved := Array.replicate 1451 none
  statics := some 0 }

def pool8 : Array CpInfo := pool [(6, .class_ 8), (1, u "java/lang/Object"), (0, u "<init>"), (0, u "()V"), (1, .class_ 14), (1, u "java/lang/StringUTF16"), (31, u "$assertionsDisabled"), (0, u "Z"), (13, u "HI_BYTE_SHIFT"), (0, u "I"), (2, u "LO_BYTE_SHIFT"), (49, .methodref 12 116), (0, .nameAndType 117 118), (0, u "compress"), (0, u "([CI[BII)I"), (3, u "([CII)[B"), (138, u "coderFromArrayLen"), (0, u "([BI)B"), (106, .class_ 371), (1, u "java/lang/StringUTF16$LinesSpliterator"), (58, u "MAX_LENGTH"), (196, .class_ 628), (0, u "java/lang/StringUTF16$CodePointsSpliterator"), (0, .class_ 630), (0, u "java/lang/StringUTF16$CharsSpliterator")] 4

def k8m0 : Method := { name := "<init>", desc := "()V", sig := { parameters := [], returnType := none }, accessFlags := 0, code := none }
def k8c1 : Code := { maxStack := 2, maxLocals := 2, code := jdk_52_method_15_code, exceptionTable := #[], attributes := #[] }
def k8m1 : Method := { name := "coderFromArrayLen", desc := "([BI)B", sig := { parameters := [(.array .byte), .int], returnType := some .byte }, accessFlags := 8, code := some k8c1 }
def k8c2 : Code := { maxStack := 5, maxLocals := 6, code := jdk_52_method_16_code, exceptionTable := #[], attributes := #[] }
def k8m2 : Method := { name := "compress", desc := "([CII)[B", sig := { parameters := [(.array .char), .int, .int], returnType := some (.array .byte) }, accessFlags := 9, code := some k8c2 }
def k8c3 : Code := { maxStack := 3, maxLocals := 7, code := jdk_52_method_21_code, exceptionTable := #[], attributes := #[] }
def k8m3 : Method := { name := "compress", desc := "([CI[BII)I", sig := { parameters := [(.array .char), .int, (.array .byte), .int, .int], returnType := some .int }, accessFlags := 9, code := some k8c3 }
/-- java/lang/StringUTF16 -/
def k8 : Class := { plain "java/lang/StringUTF16" (some 0) with
  accessFlags := 48
  interfaces := #[]
  cf := some (fileOf pool8 12 #[.nestMembers #[627, 629, 369]] #[{ accessFlags := 0, nameIndex := 9, descriptorIndex := 10, attributes := #[] }, { accessFlags := 8, nameIndex := 261, descriptorIndex := 262, attributes := #[] }, { accessFlags := 9, nameIndex := 117, descriptorIndex := 122, attributes := #[] }, { accessFlags := 9, nameIndex := 117, descriptorIndex := 118, attributes := #[] }] 48 6 #[] #[{ accessFlags := 26, nameIndex := 61, descriptorIndex := 62, attributes := #[] }, { accessFlags := 26, nameIndex := 65, descriptorIndex := 62, attributes := #[] }, { accessFlags := 24, nameIndex := 430, descriptorIndex := 62, attributes := #[] }, { accessFlags := 4120, nameIndex := 46, descriptorIndex := 47, attributes := #[] }])
  fields := #[{ name := "HI_BYTE_SHIFT", type := .int, accessFlags := 26, slot := 0, constantValue := 0 }, { name := "LO_BYTE_SHIFT", type := .int, accessFlags := 26, slot := 1, constantValue := 0 }, { name := "MAX_LENGTH", type := .int, accessFlags := 24, slot := 2, constantValue := 0 }, { name := "$assertionsDisabled", type := .boolean, accessFlags := 4120, slot := 3, constantValue := 0 }]
  methods := #[k8m0, k8m1, k8m2, k8m3]
  instanceTypes := #[]
  staticTypes := #[.int, .int, .int, .boolean]
  resolved := Array.replicate 635 none
  statics := none }

def pool9 : Array CpInfo := pool [(2, .class_ 4), (1, u "java/lang/Object"), (0, u "<init>"), (0, u "()V"), (0, .string 8), (0, u "command name"), (0, .methodref 10 11), (0, .class_ 12), (0, .nameAndType 13 14), (0, u "java/util/Objects"), (0, u "requireNonNull"), (0, u "(Ljava/lang/Object;Ljava/lang/String;)Ljava/lang/Object;"), (0, .methodref 16 17), (0, .class_ 18), (0, .nameAndType 19 20), (0, u "java/lang/String"), (0, u "isEmpty"), (0, u "()Z"), (7, .class_ 29), (0, u "com/example/enact/enact/CommandNames"), (0, .string 31), (0, u "rpc."), (0, .methodref 16 33), (0, .nameAndType 34 35), (0, u "startsWith"), (0, u "(Ljava/lang/String;)Z"), (3, u "(Ljava/lang/String;)Ljava/lang/String;"), (0, u "RESERVED_PREFIX"), (0, u "Ljava/lang/String;"), (3, u "requireValid")] 18

def k9m0 : Method := { name := "<init>", desc := "()V", sig := { parameters := [], returnType := none }, accessFlags := 2, code := none }
def k9c1 : Code := { maxStack := 3, maxLocals := 1, code := prog_3_method_2_code, exceptionTable := #[], attributes := #[] }
def k9m1 : Method := { name := "requireValid", desc := "(Ljava/lang/String;)Ljava/lang/String;", sig := { parameters := [(.object "java/lang/String")], returnType := some (.object "java/lang/String") }, accessFlags := 9, code := some k9c1 }
/-- com/example/enact/enact/CommandNames -/
def k9 : Class := { plain "com/example/enact/enact/CommandNames" (some 0) with
  accessFlags := 33
  interfaces := #[]
  cf := some (fileOf pool9 28 #[] #[{ accessFlags := 2, nameIndex := 5, descriptorIndex := 6, attributes := #[] }, { accessFlags := 9, nameIndex := 45, descriptorIndex := 39, attributes := #[] }] 33 2 #[] #[{ accessFlags := 26, nameIndex := 40, descriptorIndex := 41, attributes := #[] }])
  fields := #[{ name := "RESERVED_PREFIX", type := (.object "java/lang/String"), accessFlags := 26, slot := 0, constantValue := 0 }]
  methods := #[k9m0, k9m1]
  instanceTypes := #[]
  staticTypes := #[(.object "java/lang/String")]
  resolved := Array.replicate 64 none
  statics := none }

def pool10 : Array CpInfo := pool [(2, .class_ 4), (1, u "java/lang/Object"), (0, u "<init>"), (0, u "()V"), (35, .class_ 44), (1, u "java/util/Objects"), (0, u "requireNonNull"), (48, u "(Ljava/lang/Object;Ljava/lang/String;)Ljava/lang/Object;")] 89

def k10m0 : Method := { name := "<init>", desc := "()V", sig := { parameters := [], returnType := none }, accessFlags := 2, code := none }
def k10c1 : Code := { maxStack := 3, maxLocals := 2, code := jdk_31_method_11_code, exceptionTable := #[], attributes := #[] }
def k10m1 : Method := { name := "requireNonNull", desc := "(Ljava/lang/Object;Ljava/lang/String;)Ljava/lang/Object;", sig := { parameters := [(.object "java/lang/Object"), (.object "java/lang/String")], returnType := some (.object "java/lang/Object") }, accessFlags := 9, code := some k10c1 }
/-- java/util/Objects -/
def k10 : Class := { plain "java/util/Objects" (some 0) with
  accessFlags := 49
  interfaces := #[]
  cf := some (fileOf pool10 42 #[] #[{ accessFlags := 2, nameIndex := 5, descriptorIndex := 6, attributes := #[] }, { accessFlags := 9, nameIndex := 45, descriptorIndex := 94, attributes := #[] }] 49 2 #[] #[])
  fields := #[]
  methods := #[k10m0, k10m1]
  instanceTypes := #[]
  staticTypes := #[]
  resolved := Array.replicate 184 none
  statics := none }

def pool11 : Array CpInfo := pool [(9, u "<init>"), (6, .class_ 18), (1, u "java/lang/Object"), (0, u "()V"), (1, .class_ 23), (1, u "jdk/internal/util/ArraysSupport"), (0, u "LOG2_ARRAY_LONG_INDEX_SCALE"), (0, u "I"), (2, u "U"), (0, u "Ljdk/internal/misc/Unsafe;"), (8, u "BIG_ENDIAN"), (0, u "Z"), (8, u "LOG2_BYTE_BIT_SIZE"), (4, u "LOG2_ARRAY_INT_INDEX_SCALE"), (54, u "JLA"), (0, u "Ljdk/internal/access/JavaLangAccess;"), (11, u "LOG2_ARRAY_BOOLEAN_INDEX_SCALE"), (9, u "LOG2_ARRAY_BYTE_INDEX_SCALE"), (5, u "LOG2_ARRAY_CHAR_INDEX_SCALE"), (5, u "LOG2_ARRAY_SHORT_INDEX_SCALE"), (5, u "mismatch"), (12, u "LOG2_ARRAY_FLOAT_INDEX_SCALE"), (24, u "LOG2_ARRAY_DOUBLE_INDEX_SCALE"), (89, u "T_BOOLEAN"), (2, u "T_CHAR"), (1, u "T_FLOAT"), (1, u "T_DOUBLE"), (1, u "T_BYTE"), (1, u "T_SHORT"), (1, u "T_INT"), (1, u "T_LONG"), (1, u "SOFT_MAX_ARRAY_LENGTH"), (42, u "([BI[BII)I")] 40

def k11m0 : Method := { name := "<init>", desc := "()V", sig := { parameters := [], returnType := none }, accessFlags := 2, code := none }
def k11c1 : Code := { maxStack := 8, maxLocals := 8, code := jdk_48_method_14_code, exceptionTable := #[], attributes := #[] }
def k11m1 : Method := { name := "mismatch", desc := "([BI[BII)I", sig := { parameters := [(.array .byte), .int, (.array .byte), .int, .int], returnType := some .int }, accessFlags := 9, code := some k11c1 }
/-- jdk/internal/util/ArraysSupport -/
def k11 : Class := { plain "jdk/internal/util/ArraysSupport" (some 0) with
  accessFlags := 33
  interfaces := #[]
  cf := some (fileOf pool11 21 #[] #[{ accessFlags := 2, nameIndex := 9, descriptorIndex := 19, attributes := #[] }, { accessFlags := 9, nameIndex := 149, descriptorIndex := 337, attributes := #[] }] 33 16 #[] #[{ accessFlags := 24, nameIndex := 28, descriptorIndex := 29, attributes := #[] }, { accessFlags := 26, nameIndex := 38, descriptorIndex := 39, attributes := #[] }, { accessFlags := 25, nameIndex := 121, descriptorIndex := 25, attributes := #[] }, { accessFlags := 25, nameIndex := 131, descriptorIndex := 25, attributes := #[] }, { accessFlags := 25, nameIndex := 137, descriptorIndex := 25, attributes := #[] }, { accessFlags := 25, nameIndex := 143, descriptorIndex := 25, attributes := #[] }, { accessFlags := 25, nameIndex := 53, descriptorIndex := 25, attributes := #[] }, { accessFlags := 25, nameIndex := 24, descriptorIndex := 25, attributes := #[] }, { accessFlags := 25, nameIndex := 162, descriptorIndex := 25, attributes := #[] }, { accessFlags := 25, nameIndex := 187, descriptorIndex := 25, attributes := #[] }, { accessFlags := 26, nameIndex := 48, descriptorIndex := 25, attributes := #[] }, { accessFlags := 25, nameIndex := 277, descriptorIndex := 25, attributes := #[] }, { accessFlags := 25, nameIndex := 280, descriptorIndex := 25, attributes := #[] }, { accessFlags := 25, nameIndex := 282, descriptorIndex := 25, attributes := #[] }, { accessFlags := 25, nameIndex := 284, descriptorIndex := 25, attributes := #[] }, { accessFlags := 25, nameIndex := 286, descriptorIndex := 25, attributes := #[] }, { accessFlags := 25, nameIndex := 288, descriptorIndex := 25, attributes := #[] }, { accessFlags := 25, nameIndex := 290, descriptorIndex := 25, attributes := #[] }, { accessFlags := 25, nameIndex := 292, descriptorIndex := 25, attributes := #[] }, { accessFlags := 26, nameIndex := 108, descriptorIndex := 109, attributes := #[] }, { accessFlags := 25, nameIndex := 294, descriptorIndex := 25, attributes := #[] }])
  fields := #[{ name := "U", type := (.object "jdk/internal/misc/Unsafe"), accessFlags := 24, slot := 0, constantValue := 0 }, { name := "BIG_ENDIAN", type := .boolean, accessFlags := 26, slot := 1, constantValue := 0 }, { name := "LOG2_ARRAY_BOOLEAN_INDEX_SCALE", type := .int, accessFlags := 25, slot := 2, constantValue := 0 }, { name := "LOG2_ARRAY_BYTE_INDEX_SCALE", type := .int, accessFlags := 25, slot := 3, constantValue := 0 }, { name := "LOG2_ARRAY_CHAR_INDEX_SCALE", type := .int, accessFlags := 25, slot := 4, constantValue := 0 }, { name := "LOG2_ARRAY_SHORT_INDEX_SCALE", type := .int, accessFlags := 25, slot := 5, constantValue := 0 }, { name := "LOG2_ARRAY_INT_INDEX_SCALE", type := .int, accessFlags := 25, slot := 6, constantValue := 0 }, { name := "LOG2_ARRAY_LONG_INDEX_SCALE", type := .int, accessFlags := 25, slot := 7, constantValue := 0 }, { name := "LOG2_ARRAY_FLOAT_INDEX_SCALE", type := .int, accessFlags := 25, slot := 8, constantValue := 0 }, { name := "LOG2_ARRAY_DOUBLE_INDEX_SCALE", type := .int, accessFlags := 25, slot := 9, constantValue := 0 }, { name := "LOG2_BYTE_BIT_SIZE", type := .int, accessFlags := 26, slot := 10, constantValue := 0 }, { name := "T_BOOLEAN", type := .int, accessFlags := 25, slot := 11, constantValue := 0 }, { name := "T_CHAR", type := .int, accessFlags := 25, slot := 12, constantValue := 0 }, { name := "T_FLOAT", type := .int, accessFlags := 25, slot := 13, constantValue := 0 }, { name := "T_DOUBLE", type := .int, accessFlags := 25, slot := 14, constantValue := 0 }, { name := "T_BYTE", type := .int, accessFlags := 25, slot := 15, constantValue := 0 }, { name := "T_SHORT", type := .int, accessFlags := 25, slot := 16, constantValue := 0 }, { name := "T_INT", type := .int, accessFlags := 25, slot := 17, constantValue := 0 }, { name := "T_LONG", type := .int, accessFlags := 25, slot := 18, constantValue := 0 }, { name := "JLA", type := (.object "jdk/internal/access/JavaLangAccess"), accessFlags := 26, slot := 19, constantValue := 0 }, { name := "SOFT_MAX_ARRAY_LENGTH", type := .int, accessFlags := 25, slot := 20, constantValue := 0 }]
  methods := #[k11m0, k11m1]
  instanceTypes := #[]
  staticTypes := #[(.object "jdk/internal/misc/Unsafe"), .boolean, .int, .int, .int, .int, .int, .int, .int, .int, .int, .int, .int, .int, .int, .int, .int, .int, .int, (.object "jdk/internal/access/JavaLangAccess"), .int]
  resolved := Array.replicate 378 none
  statics := none }

def pool12 : Array CpInfo := pool [(4, .class_ 6), (1, u "java/lang/Object"), (0, u "<init>"), (0, u "()V"), (5, .class_ 16), (1, u "java/lang/StringLatin1"), (104, u "$assertionsDisabled"), (0, u "Z"), (98, .class_ 223), (1, u "java/lang/StringLatin1$LinesSpliterator"), (166, .class_ 391), (0, u "java/lang/StringLatin1$CharsSpliterator")] 3

def k12m0 : Method := { name := "<init>", desc := "()V", sig := { parameters := [], returnType := none }, accessFlags := 0, code := none }
/-- java/lang/StringLatin1 -/
def k12 : Class := { plain "java/lang/StringLatin1" (some 0) with
  accessFlags := 48
  interfaces := #[]
  cf := some (fileOf pool12 14 #[.nestMembers #[390, 221]] #[{ accessFlags := 0, nameIndex := 7, descriptorIndex := 8, attributes := #[] }] 48 4 #[] #[{ accessFlags := 4120, nameIndex := 121, descriptorIndex := 122, attributes := #[] }])
  fields := #[{ name := "$assertionsDisabled", type := .boolean, accessFlags := 4120, slot := 0, constantValue := 0 }]
  methods := #[k12m0]
  instanceTypes := #[]
  staticTypes := #[.boolean]
  resolved := Array.replicate 395 none
  statics := none }

def pool13 : Array CpInfo := pool [(2, .class_ 4), (1, u "java/lang/Object"), (0, u "<init>"), (0, u "()V"), (17, .class_ 26), (1, u "jdk/internal/util/Preconditions"), (28, .class_ 56), (0, u "jdk/internal/util/Preconditions$4"), (57, .class_ 115), (0, u "jdk/internal/util/Preconditions$1"), (7, u "SIOOBE_FORMATTER"), (0, u "Ljava/util/function/BiFunction;"), (0, .class_ 126), (0, u "jdk/internal/util/Preconditions$2"), (3, u "AIOOBE_FORMATTER"), (0, .class_ 132), (0, u "jdk/internal/util/Preconditions$3"), (3, u "IOOBE_FORMATTER")] 57

def k13m0 : Method := { name := "<init>", desc := "()V", sig := { parameters := [], returnType := none }, accessFlags := 1, code := none }
/-- jdk/internal/util/Preconditions -/
def k13 : Class := { plain "jdk/internal/util/Preconditions" (some 0) with
  accessFlags := 33
  interfaces := #[]
  cf := some (fileOf pool13 24 #[.nestMembers #[55, 131, 125, 114]] #[{ accessFlags := 1, nameIndex := 5, descriptorIndex := 6, attributes := #[] }] 33 2 #[] #[{ accessFlags := 25, nameIndex := 123, descriptorIndex := 124, attributes := #[] }, { accessFlags := 25, nameIndex := 130, descriptorIndex := 124, attributes := #[] }, { accessFlags := 25, nameIndex := 136, descriptorIndex := 124, attributes := #[] }])
  fields := #[{ name := "SIOOBE_FORMATTER", type := (.object "java/util/function/BiFunction"), accessFlags := 25, slot := 0, constantValue := 0 }, { name := "AIOOBE_FORMATTER", type := (.object "java/util/function/BiFunction"), accessFlags := 25, slot := 1, constantValue := 0 }, { name := "IOOBE_FORMATTER", type := (.object "java/util/function/BiFunction"), accessFlags := 25, slot := 2, constantValue := 0 }]
  methods := #[k13m0]
  instanceTypes := #[]
  staticTypes := #[(.object "java/util/function/BiFunction"), (.object "java/util/function/BiFunction"), (.object "java/util/function/BiFunction")]
  resolved := Array.replicate 194 none
  statics := some 1 }

def pool14 : Array CpInfo := pool [(1, u "java/lang/Cloneable"), (0, .class_ 1), (0, u "java/lang/Object"), (0, .class_ 3)] 3

/-- java/lang/Cloneable -/
def k14 : Class := { plain "java/lang/Cloneable" (some 0) with
  accessFlags := 1537
  interfaces := #[]
  cf := some (fileOf pool14 2 #[] #[] 1537 4 #[] #[])
  fields := #[]
  methods := #[]
  instanceTypes := #[]
  staticTypes := #[]
  resolved := Array.replicate 8 none
  statics := none }

/-- the primitive byte -/
def k15 : Class := { plain "byte" none with kind := .primitive 'B', accessFlags := 0x411 }
/-- [B -/
def k16 : Class := { plain "[B" (some 0) with kind := .array 15 .byte, interfaces := #[14, 2], accessFlags := 1041 }

/-- the primitive char -/
def k17 : Class := { plain "char" none with kind := .primitive 'C', accessFlags := 0x411 }
/-- [C -/
def k18 : Class := { plain "[C" (some 0) with kind := .array 17 .char, interfaces := #[14, 2], accessFlags := 1041 }

/-- the primitive int -/
def k19 : Class := { plain "int" none with kind := .primitive 'I', accessFlags := 0x411 }
/-- [I -/
def k20 : Class := { plain "[I" (some 0) with kind := .array 19 .int, interfaces := #[14, 2], accessFlags := 1041 }

def heap : Heap := #[{ cls := 7, slots := #[.long 0, .int 1, .null, .int 0, .null, .int 0, .int 0], vm := .statics 7 },
  { cls := 13, slots := #[.null, .null, .null], vm := .statics 13 }]
def classes : Array Class := #[k0, k1, k2, k3, k4, k5, k6, k7, k8, k9, k10, k11, k12, k13, k14, k15, k16, k17, k18, k19, k20]
def interned : List (Array UInt16 × Addr) := []
def slotsUsed : Nat := 10
def theMethod : MethodId := ⟨1, 2⟩
def args0 : Array Value := #[.int 3, .int 65, .int 66, .int 67]
def aboutOver (below : List Frame) : State where
  vm := { classes := classes, interned := interned.toArray }
  heap := heap
  slotsUsed := slotsUsed
  threads := #[{ frames := .invoking theMethod args0 :: below }]
def below0 : List Frame := [.native { method := ⟨0, 0⟩, args := #[] }]
def about1 : State := aboutOver below0
def p0 : Program := .bare "" "" ""
def e0 : Env := launch0.env 0 0 0
theorem w_frames : about1.frames = Frame.invoking theMethod args0 :: below0 := rfl
set_option maxRecDepth 65536 in
theorem w_args : argsFit about1.vm theMethod args0 = true := by decide +kernel
set_option maxRecDepth 65536 in
theorem w_heap : heapFits about1 = true := by decide +kernel
set_option maxRecDepth 65536 in
theorem w_runnable : about1.curStatus? = some .runnable := by decide +kernel
set_option maxRecDepth 65536 in
theorem w_alone : about1.alone = true := by decide +kernel
set_option maxRecDepth 65536 in
theorem w_named : about1.methodNamed? x = some theMethod := by decide +kernel
set_option maxRecDepth 65536 in
theorem w_hears : about1.hears theMethod below0 = true := by decide +kernel
set_option maxRecDepth 65536 in
theorem w_ripe : about1.ripe theMethod args0 below0 = true := by decide +kernel
theorem w_running : about1.status = .running := rfl
set_option maxRecDepth 65536 in
theorem w_room : about1.hasRoom e0.platform room_1 = true :=
  launch0.hasRoom_least _ room_1 (by decide +kernel) (by decide +kernel) (by decide +kernel) (by decide +kernel) (by decide +kernel) (by decide +kernel)
theorem allAtoms_all (ts : List Jvm.Cond) (a : Array Jvm.Value) (st : Jvm.State) : (allAtoms ts).before a st = ts.all (fun c => c.before a st) := by
  induction ts with
  | nil => rfl
  | cons c t ih =>
    show (Jvm.Cond.and c (allAtoms t)).before a st = _
    rw [Jvm.Cond.before_and, ih, List.all_cons]
def words1 : List Jvm.Cond := Jvm.Cond.code x code maxLocals ret :: tables_1
/-- a 'code' word, met by the world's own term for the bytes: nothing is compared byte by byte -/
theorem code_word {y : MethodName} {bytes : ByteArray} {mx : Nat} {rt : Option FieldType} {a : Array Value} {s : State} {m : MethodId} {meth : Method} {c : Code} (h1 : s.methodNamed? y = some m) (h2 : s.vm.method? m = some meth) (h3 : meth.code = some c) (h4 : c.code = bytes)
    (h5 : (c.maxLocals == mx && c.exceptionTable.isEmpty && decide (c.maxStack ≤ mostOperands) && decide (meth.sig.returnType = rt) && !meth.locks && decide (parseMethodDescriptor y.desc = some meth.sig)) = true) : (Jvm.Cond.code y bytes mx rt).before a s = true := by
  simp only [Bool.and_eq_true, beq_iff_eq, Bool.not_eq_true', decide_eq_true_eq] at h5
  obtain ⟨⟨⟨⟨⟨g1, g2⟩, g3⟩, g4⟩, g5⟩, g6⟩ := h5
  simp [Cond.before, Cond.holds, Cond.value, h1, h2, h3, h4, g1, g2, g3, g4, g5, g6]
def isCode : Jvm.Cond → Bool
  | .code _ _ _ _ => true
  | _ => false
theorem all_split {L : List Jvm.Cond} {P : Jvm.Cond → Bool} (h1 : L.all (fun c => isCode c || P c) = true) (h2 : ∀ c ∈ L.filter isCode, P c = true) : L.all P = true := by
  refine List.all_eq_true.mpr fun c hc => ?_
  have h := List.all_eq_true.mp h1 c hc
  rcases Bool.eq_false_or_eq_true (isCode c) with hi | hi
  · exact h2 c (List.mem_filter.mpr ⟨hc, hi⟩)
  · simpa [hi] using h
set_option maxRecDepth 65536 in
theorem w_c0 : (Jvm.Cond.code x code maxLocals ret).before args0 about1 = true := code_word (m := ⟨1, 2⟩) (meth := k1m2) (c := k1c2) (by decide +kernel) rfl rfl rfl (by decide +kernel)
set_option maxRecDepth 65536 in
theorem w_c1 : (Jvm.Cond.code ({ cls := "com/example/enact/enact/CommandNamesRequireValidPinLaw", name := "make", desc := "(ICCCCCC)Ljava/lang/String;" } : Jvm.MethodName) method_2_code (7 : Nat) (Option.some (Jvm.ClassFile.FieldType.object "java/lang/String"))).before args0 about1 = true := code_word (m := ⟨1, 1⟩) (meth := k1m1) (c := k1c1) (by decide +kernel) rfl rfl rfl (by decide +kernel)
set_option maxRecDepth 65536 in
theorem w_c2 : (Jvm.Cond.code ({ cls := "java/lang/String", name := "<init>", desc := "([C)V" } : Jvm.MethodName) jdk_42_method_3_code (2 : Nat) (Option.none : Option Jvm.ClassFile.FieldType)).before args0 about1 = true := code_word (m := ⟨7, 1⟩) (meth := k7m1) (c := k7c1) (by decide +kernel) rfl rfl rfl (by decide +kernel)
set_option maxRecDepth 65536 in
theorem w_c3 : (Jvm.Cond.code ({ cls := "java/lang/String", name := "<init>", desc := "([CIILjava/lang/Void;)V" } : Jvm.MethodName) jdk_42_method_149_code (6 : Nat) (Option.none : Option Jvm.ClassFile.FieldType)).before args0 about1 = true := code_word (m := ⟨7, 6⟩) (meth := k7m6) (c := k7c6) (by decide +kernel) rfl rfl rfl (by decide +kernel)
set_option maxRecDepth 65536 in
theorem w_c4 : (Jvm.Cond.code ({ cls := "java/lang/Object", name := "<init>", desc := "()V" } : Jvm.MethodName) object_method_1_code (1 : Nat) (Option.none : Option Jvm.ClassFile.FieldType)).before args0 about1 = true := code_word (m := ⟨0, 0⟩) (meth := k0m0) (c := k0c0) (by decide +kernel) rfl rfl rfl (by decide +kernel)
set_option maxRecDepth 65536 in
theorem w_c5 : (Jvm.Cond.code ({ cls := "java/lang/StringUTF16", name := "compress", desc := "([CII)[B" } : Jvm.MethodName) jdk_52_method_16_code (6 : Nat) (Option.some (Jvm.ClassFile.FieldType.array Jvm.ClassFile.FieldType.byte))).before args0 about1 = true := code_word (m := ⟨8, 2⟩) (meth := k8m2) (c := k8c2) (by decide +kernel) rfl rfl rfl (by decide +kernel)
set_option maxRecDepth 65536 in
theorem w_c6 : (Jvm.Cond.code ({ cls := "java/lang/StringUTF16", name := "compress", desc := "([CI[BII)I" } : Jvm.MethodName) jdk_52_method_21_code (7 : Nat) (Option.some Jvm.ClassFile.FieldType.int)).before args0 about1 = true := code_word (m := ⟨8, 3⟩) (meth := k8m3) (c := k8c3) (by decide +kernel) rfl rfl rfl (by decide +kernel)
set_option maxRecDepth 65536 in
theorem w_c7 : (Jvm.Cond.code ({ cls := "java/lang/StringUTF16", name := "coderFromArrayLen", desc := "([BI)B" } : Jvm.MethodName) jdk_52_method_15_code (2 : Nat) (Option.some Jvm.ClassFile.FieldType.byte)).before args0 about1 = true := code_word (m := ⟨8, 1⟩) (meth := k8m1) (c := k8c1) (by decide +kernel) rfl rfl rfl (by decide +kernel)
set_option maxRecDepth 65536 in
theorem w_c8 : (Jvm.Cond.code ({ cls := "com/example/enact/enact/CommandNames", name := "requireValid", desc := "(Ljava/lang/String;)Ljava/lang/String;" } : Jvm.MethodName) prog_3_method_2_code (1 : Nat) (Option.some (Jvm.ClassFile.FieldType.object "java/lang/String"))).before args0 about1 = true := code_word (m := ⟨9, 1⟩) (meth := k9m1) (c := k9c1) (by decide +kernel) rfl rfl rfl (by decide +kernel)
set_option maxRecDepth 65536 in
theorem w_c9 : (Jvm.Cond.code ({ cls := "java/util/Objects", name := "requireNonNull", desc := "(Ljava/lang/Object;Ljava/lang/String;)Ljava/lang/Object;" } : Jvm.MethodName) jdk_31_method_11_code (2 : Nat) (Option.some (Jvm.ClassFile.FieldType.object "java/lang/Object"))).before args0 about1 = true := code_word (m := ⟨10, 1⟩) (meth := k10m1) (c := k10c1) (by decide +kernel) rfl rfl rfl (by decide +kernel)
set_option maxRecDepth 65536 in
theorem w_c10 : (Jvm.Cond.code ({ cls := "java/lang/String", name := "isEmpty", desc := "()Z" } : Jvm.MethodName) jdk_42_method_55_code (1 : Nat) (Option.some Jvm.ClassFile.FieldType.boolean)).before args0 about1 = true := code_word (m := ⟨7, 3⟩) (meth := k7m3) (c := k7c3) (by decide +kernel) rfl rfl rfl (by decide +kernel)
set_option maxRecDepth 65536 in
theorem w_c11 : (Jvm.Cond.code ({ cls := "java/lang/String", name := "startsWith", desc := "(Ljava/lang/String;)Z" } : Jvm.MethodName) jdk_42_method_76_code (2 : Nat) (Option.some Jvm.ClassFile.FieldType.boolean)).before args0 about1 = true := code_word (m := ⟨7, 5⟩) (meth := k7m5) (c := k7c5) (by decide +kernel) rfl rfl rfl (by decide +kernel)
set_option maxRecDepth 65536 in
theorem w_c12 : (Jvm.Cond.code ({ cls := "java/lang/String", name := "startsWith", desc := "(Ljava/lang/String;I)Z" } : Jvm.MethodName) jdk_42_method_75_code (8 : Nat) (Option.some Jvm.ClassFile.FieldType.boolean)).before args0 about1 = true := code_word (m := ⟨7, 4⟩) (meth := k7m4) (c := k7c4) (by decide +kernel) rfl rfl rfl (by decide +kernel)
set_option maxRecDepth 65536 in
theorem w_c13 : (Jvm.Cond.code ({ cls := "java/lang/String", name := "length", desc := "()I" } : Jvm.MethodName) jdk_42_method_54_code (1 : Nat) (Option.some Jvm.ClassFile.FieldType.int)).before args0 about1 = true := code_word (m := ⟨7, 2⟩) (meth := k7m2) (c := k7c2) (by decide +kernel) rfl rfl rfl (by decide +kernel)
set_option maxRecDepth 65536 in
theorem w_c14 : (Jvm.Cond.code ({ cls := "java/lang/String", name := "coder", desc := "()B" } : Jvm.MethodName) jdk_42_method_152_code (1 : Nat) (Option.some Jvm.ClassFile.FieldType.byte)).before args0 about1 = true := code_word (m := ⟨7, 7⟩) (meth := k7m7) (c := k7c7) (by decide +kernel) rfl rfl rfl (by decide +kernel)
set_option maxRecDepth 65536 in
theorem w_c15 : (Jvm.Cond.code ({ cls := "jdk/internal/util/ArraysSupport", name := "mismatch", desc := "([BI[BII)I" } : Jvm.MethodName) jdk_48_method_14_code (8 : Nat) (Option.some Jvm.ClassFile.FieldType.int)).before args0 about1 = true := code_word (m := ⟨11, 1⟩) (meth := k11m1) (c := k11c1) (by decide +kernel) rfl rfl rfl (by decide +kernel)
def codes1 : List Jvm.Cond := [Jvm.Cond.code x code maxLocals ret, Jvm.Cond.code ({ cls := "com/example/enact/enact/CommandNamesRequireValidPinLaw", name := "make", desc := "(ICCCCCC)Ljava/lang/String;" } : Jvm.MethodName) method_2_code (7 : Nat) (Option.some (Jvm.ClassFile.FieldType.object "java/lang/String")), Jvm.Cond.code ({ cls := "java/lang/String", name := "<init>", desc := "([C)V" } : Jvm.MethodName) jdk_42_method_3_code (2 : Nat) (Option.none : Option Jvm.ClassFile.FieldType), Jvm.Cond.code ({ cls := "java/lang/String", name := "<init>", desc := "([CIILjava/lang/Void;)V" } : Jvm.MethodName) jdk_42_method_149_code (6 : Nat) (Option.none : Option Jvm.ClassFile.FieldType), Jvm.Cond.code ({ cls := "java/lang/Object", name := "<init>", desc := "()V" } : Jvm.MethodName) object_method_1_code (1 : Nat) (Option.none : Option Jvm.ClassFile.FieldType), Jvm.Cond.code ({ cls := "java/lang/StringUTF16", name := "compress", desc := "([CII)[B" } : Jvm.MethodName) jdk_52_method_16_code (6 : Nat) (Option.some (Jvm.ClassFile.FieldType.array Jvm.ClassFile.FieldType.byte)), Jvm.Cond.code ({ cls := "java/lang/StringUTF16", name := "compress", desc := "([CI[BII)I" } : Jvm.MethodName) jdk_52_method_21_code (7 : Nat) (Option.some Jvm.ClassFile.FieldType.int), Jvm.Cond.code ({ cls := "java/lang/StringUTF16", name := "coderFromArrayLen", desc := "([BI)B" } : Jvm.MethodName) jdk_52_method_15_code (2 : Nat) (Option.some Jvm.ClassFile.FieldType.byte), Jvm.Cond.code ({ cls := "com/example/enact/enact/CommandNames", name := "requireValid", desc := "(Ljava/lang/String;)Ljava/lang/String;" } : Jvm.MethodName) prog_3_method_2_code (1 : Nat) (Option.some (Jvm.ClassFile.FieldType.object "java/lang/String")), Jvm.Cond.code ({ cls := "java/util/Objects", name := "requireNonNull", desc := "(Ljava/lang/Object;Ljava/lang/String;)Ljava/lang/Object;" } : Jvm.MethodName) jdk_31_method_11_code (2 : Nat) (Option.some (Jvm.ClassFile.FieldType.object "java/lang/Object")), Jvm.Cond.code ({ cls := "java/lang/String", name := "isEmpty", desc := "()Z" } : Jvm.MethodName) jdk_42_method_55_code (1 : Nat) (Option.some Jvm.ClassFile.FieldType.boolean), Jvm.Cond.code ({ cls := "java/lang/String", name := "startsWith", desc := "(Ljava/lang/String;)Z" } : Jvm.MethodName) jdk_42_method_76_code (2 : Nat) (Option.some Jvm.ClassFile.FieldType.boolean), Jvm.Cond.code ({ cls := "java/lang/String", name := "startsWith", desc := "(Ljava/lang/String;I)Z" } : Jvm.MethodName) jdk_42_method_75_code (8 : Nat) (Option.some Jvm.ClassFile.FieldType.boolean), Jvm.Cond.code ({ cls := "java/lang/String", name := "length", desc := "()I" } : Jvm.MethodName) jdk_42_method_54_code (1 : Nat) (Option.some Jvm.ClassFile.FieldType.int), Jvm.Cond.code ({ cls := "java/lang/String", name := "coder", desc := "()B" } : Jvm.MethodName) jdk_42_method_152_code (1 : Nat) (Option.some Jvm.ClassFile.FieldType.byte), Jvm.Cond.code ({ cls := "jdk/internal/util/ArraysSupport", name := "mismatch", desc := "([BI[BII)I" } : Jvm.MethodName) jdk_48_method_14_code (8 : Nat) (Option.some Jvm.ClassFile.FieldType.int)]
set_option maxRecDepth 65536 in
theorem codes_eq : words1.filter isCode = codes1 := rfl
theorem w_codes : ∀ c ∈ words1.filter isCode, c.before args0 about1 = true := by
  rw [codes_eq]
  intro c hc
  simp only [codes1, List.mem_cons, List.not_mem_nil, or_false] at hc
  rcases hc with rfl | rfl | rfl | rfl | rfl | rfl | rfl | rfl | rfl | rfl | rfl | rfl | rfl | rfl | rfl | rfl
  · exact w_c0
  · exact w_c1
  · exact w_c2
  · exact w_c3
  · exact w_c4
  · exact w_c5
  · exact w_c6
  · exact w_c7
  · exact w_c8
  · exact w_c9
  · exact w_c10
  · exact w_c11
  · exact w_c12
  · exact w_c13
  · exact w_c14
  · exact w_c15
set_option maxRecDepth 65536 in
theorem w_t1 : (words1.take 24).all (fun c => isCode c || c.before args0 about1) = true := by decide +kernel
set_option maxRecDepth 65536 in
theorem w_t2 : ((words1.drop 24).take 24).all (fun c => isCode c || c.before args0 about1) = true := by decide +kernel
set_option maxRecDepth 65536 in
theorem w_t3 : (((words1.drop 24).drop 24).take 24).all (fun c => isCode c || c.before args0 about1) = true := by decide +kernel
set_option maxRecDepth 65536 in
theorem w_t4 : (((words1.drop 24).drop 24).drop 24).all (fun c => isCode c || c.before args0 about1) = true := by decide +kernel
theorem w_tables : (allAtoms (Jvm.Cond.code x code maxLocals ret :: tables_1)).before args0 about1 = true := by
  rw [allAtoms_all]
  show words1.all (fun c => c.before args0 about1) = true
  refine all_split ?_ w_codes
  rw [← List.take_append_drop 24 words1, List.all_append, w_t1, ← List.take_append_drop 24 (words1.drop 24), List.all_append, w_t2, ← List.take_append_drop 24 ((words1.drop 24).drop 24), List.all_append, w_t3, w_t4]
  rfl
set_option maxRecDepth 65536 in
theorem w_rest : rest_1_c.before args0 about1 = true := by decide +kernel
set_option maxRecDepth 65536 in
theorem w_case : (Jvm.Cond.and given_1 narrow_1).before args0 about1 = true := by decide +kernel
set_option maxRecDepth 65536 in
theorem w_consts : constsHeld consts_1 about1 := Jvm.Lit.constsHeldB_iff.mp (by decide +kernel)
theorem w_applies : (headSpec (Jvm.Cond.code x code maxLocals ret :: tables_1) room_1).applies x e0.platform about1 = true :=
  (Spec.applies_iff w_frames).mpr ⟨w_running, w_runnable, w_alone, w_named, w_hears, w_ripe, w_room, w_tables⟩
theorem atStart : AtStart classFile x code maxLocals ret World_1 tables_1 room_1 Calls_1 rest_1 Pre_1 launch0 p0 e0 about1 theMethod args0 below0 :=
  ⟨lists_1, trivial, launch0.admits_env _ _ _, launch0.least_env, fairChoices_fair.cas, fairChoices_fair.clock, w_frames, w_args, w_heap, w_applies, ⟨w_consts, trivial⟩, w_rest, w_case⟩
end start1
theorem witness_1 : WitnessClaimed_1 := ⟨start1.p0, start1.e0, start1.about1, start1.theMethod, start1.args0, start1.below0, start1.atStart⟩
end Jvm.Pilot.@@N@@
