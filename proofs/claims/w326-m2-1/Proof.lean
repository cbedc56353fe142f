import JvmDerived
import JvmDerived.Pilot.@@N@@Statement
import JvmDerived.Pilot.@@N@@Code
set_option linter.unusedVariables false
set_option linter.unusedSimpArgs false
namespace Jvm.Own
open Jvm Jvm.ClassFile Sem Op Lib Jvm.Free Jvm.Stand Jvm.LawKit Jvm.RoadKit Bundle
section Base
variable {p : Program} {l : Launch} {e : Env} {R : Room} {s : State} {m : MethodId} {args : Array Value} {below : List Frame} {meth : Method} {c : Code} {T : State} {locs : List Loc} {cells slots : Nat} {Z : State} {a0 : Array Value} {h : Heap}
/-- from t the run ends, and its end is as Qf says -/
def Go (p : Program) (e : Env) (below : List Frame) (Qf : Outcome → State → Prop) (t : State) : Prop :=
  ∃ s₂ o, Steps p.tables e below t s₂ ∧ s₂.status = .running ∧ Ended s₂ below o ∧ Qf o s₂
theorem Go.step {Qf : Outcome → State → Prop} {t t' : State} (k : ∀ u, Steps p.tables e below t' u → Steps p.tables e below t u) (h : Go p e below Qf t') : Go p e below Qf t := by
  obtain ⟨s₂, o, h1, h2⟩ := h
  exact ⟨s₂, o, k _ h1, h2⟩
/-- the end of a narrow walk -/
def QN (s : State) (rm : Room) (Q : Option Value → Heap → List Loc → Prop) (o : Outcome) (U' : State) : Prop := ∃ v L, o = .returned v ∧ Q v U'.heap L ∧ FrameEnd s o U' L rm.cells rm.slots
abbrev CN (l : Launch) (Z : State) (y : MethodName) (ws : List Jvm.Cond) (rm : Room) (as : Array Value) (h0 : Heap) (Q : Option Value → Heap → List Loc → Prop) : Prop :=
  MetFree l y (head1 ws rm) (fun a U => a = as ∧ Z.Warmed39 U.vm ∧ U.heap = h0) (fun _ _ _ _ _ => True) (fun _ U o U' => ∃ v L, o = .returned v ∧ Q v U'.heap L ∧ FrameEnd U o U' L rm.cells rm.slots)
theorem CN.of {y : MethodName} {bytes : ByteArray} {maxL : Nat} {ret : Option FieldType} {ws : List Jvm.Cond} {rm : Room} {as : Array Value} {h0 : Heap} {Q : Option Value → Heap → List Loc → Prop} {L0 : Array Slot}
    (hp : plainFor y = true) (ef : ∀ m, entryFrame m as maxL = mkF m 0 L0 [])
    (body : ∀ (p : Program) (e : Env) (s : State) (m : MethodId) (below : List Frame) (meth : Method) (c : Code) (s₁ : State), p.tables.exec = Jvm.exec → c.code = bytes → c.maxLocals = maxL → meth.sig.returnType = ret → meth.locks = false → Z.Warmed39 s.vm → s.vm.findClass y.cls = some m.cls → meth.name = y.name → Stand p l e rm s m as below meth c s₁ [] 0 0 → s₁.heap = h0 → Go p e below (QN s rm Q) (s₁.setTop (mkF m 0 L0 []))) :
    CN l Z y (Jvm.Cond.code y bytes maxL ret :: ws) rm as h0 Q := by
  refine MetFree.of_bodySF hp hisR ?_
  intro p e s m args below meth c s₁ Bd hml0 hP hK
  obtain ⟨rfl, hZ, hh⟩ := hP
  have q := body p e s m below meth c s₁ Bd.exec Bd.bytes hml0 Bd.returns Bd.notSynchronized hZ (findClass_of_methodNamed Bd.named) (name_of_methodNamed Bd.named Bd.method).1 (Stand.of_body Bd) (by rw [← hh, Bd.state]; rfl)
  rw [← ef m] at q
  exact q
theorem Go.ret {Q : Option Value → Heap → List Loc → Prop} {rm : Room} {t : State} (X : Stand p l e R s m args below meth c T locs cells slots) (hlk : meth.locks = false) (v : Option Value) (hv : meth.sig.returnType = none → v = none) (hc : cells ≤ rm.cells) (hs : slots ≤ rm.slots) (q : Q v T.heap locs)
    (st : ∀ fs, (∀ (f : JFrame) (acts : List Action), f.method = m → f.locked = none → f.entered = [] → (doReturn e (T.setTop f) acts v).1 = T.setFrames fs) → Steps p.tables e below t (T.setFrames fs)) : Go p e below (QN s rm Q) t := by
  obtain ⟨fs, hr, hrun, hended, hW, hsame⟩ := X.leave (v := v) hv hlk
  exact ⟨_, _, st fs hr, hrun, hended, v, locs, rfl, q, ⟨v, rfl⟩, hW, hsame.mono hc hs⟩
/-- a value comes back -/
theorem Go.retV {Q : Option Value → Heap → List Loc → Prop} {rm : Room} (X : Stand p l e R s m args below meth c T locs cells slots) (hx : p.tables.exec = Jvm.exec) (hlk : meth.locks = false) {pc : Nat} {Ls : Array Slot} {w : Value} {t : FieldType} {i : Instr} {rest : List Value} (hret : meth.sig.returnType = some t) (hn : narrow t w = w)
    (hi : (i = .ireturn ∧ (t = .int ∨ t = .boolean ∨ t = .byte ∨ t = .char ∨ t = .short) ∧ ∃ z, w = .int z) ∨ (i = .lreturn ∧ t = .long ∧ ∃ z, w = .long z) ∨ (i = .dreturn ∧ t = .double ∧ ∃ z, w = .double z) ∨ (i = .freturn ∧ t = .float ∧ ∃ z, w = .float z) ∨ (i = .areturn ∧ t.isReference = true ∧ w.isRef = true))
    (hd : decode c.code pc = .ok (i, 1)) (hc : cells ≤ rm.cells) (hs : slots ≤ rm.slots) (q : Q (some w) T.heap locs) : Go p e below (QN s rm Q) (T.setTop (mkF m pc Ls (w :: rest))) :=
  Go.ret X hlk (some w) (fun h => by rw [hret] at h; cases h) hc hs q fun fs hr => retOut X hx hret hn hi hd hr
/-- nothing comes back -/
theorem Go.ret0 {Q : Option Value → Heap → List Loc → Prop} {rm : Room} (X : Stand p l e R s m args below meth c T locs cells slots) (hx : p.tables.exec = Jvm.exec) (hlk : meth.locks = false) {pc : Nat} {Ls : Array Slot} (hret : meth.sig.returnType = none)
    (hd : decode c.code pc = .ok (.return_, 1)) (hc : cells ≤ rm.cells) (hs : slots ≤ rm.slots) (q : Q none T.heap locs) : Go p e below (QN s rm Q) (T.setTop (mkF m pc Ls [])) :=
  Go.ret X hlk none (fun _ => rfl) hc hs q fun fs hr => X.returnOut hx hret hd hr
/-- what pays a call -/
abbrev Pay (l : Launch) (R : Room) (p : Program) (e : Env) (below : List Frame) (s : State) (args : Array Value) (y : MethodName) (W : Nat) (as : Array Value) (h : Heap) (kc ks : Nat) (QQ : Option Value → Heap → List Loc → Prop) : Prop :=
  Back l R p e below s args y 3 W (fun P a => a = as ∧ P.U.heap = h ∧ P.cells + kc ≤ R.cells ∧ P.slots + ks ≤ R.slots) (fun P _ v B => ∃ L, QQ v B.U.heap L ∧ B.locs = P.locs ++ L ∧ B.cells = P.cells + kc ∧ B.slots = P.slots + ks)
theorem goS (X : Stand p l e R s m args below meth c T locs cells slots) (hx : p.tables.exec = Jvm.exec) (hZ : Z.Warmed39 s.vm) {own : String} {index : Nat} {y : MethodName} {bytes : ByteArray} {maxL : Nat} {ret : Option FieldType} (hown : s.vm.findClass own = some m.cls)
    (w1 : (Jvm.Cond.methodLink own index y).before a0 Z = true) (w2 : (Jvm.Cond.static y).before a0 Z = true) (w3 : (Jvm.Cond.initialized y.cls).before a0 Z = true) (w4 : (Jvm.Cond.code y bytes maxL ret).before a0 Z = true) (hy : y.cls ≠ "java/lang/invoke/MethodHandle" ∧ y.cls ≠ "java/lang/invoke/VarHandle")
    {W kc ks : Nat} {as : Array Value} {QQ : Option Value → Heap → List Loc → Prop} (K : Pay l R p e below s args y W as h kc ks QQ) (eT : T.heap = h) {g : JFrame} (hg : g.method = m) (hsize : g.locals.size = c.maxLocals) {argsL rest : List Value} (has : argsL.toArray = as)
    (hlen : ∀ sig, parseMethodDescriptor y.desc = some sig → argsL.length = sig.parameters.length) (hstack : g.stack = argsL.reverse ++ rest) (hW : 2 * g.monitorRoom + (rest.map fun v => v.category).sum ≤ W) (hd : decode c.code g.pc = .ok (.invokestatic index, 3)) (hc : cells + kc ≤ R.cells) (hs : slots + ks ≤ R.slots) :
    ∃ v T' L, Stand p l e R s m args below meth c T' (locs ++ L) (cells + kc) (slots + ks) ∧ QQ v T'.heap L ∧ ∀ u, Steps p.tables e below (T'.setTop { g with pc := g.pc + 3, stack := v.toList ++ rest }) u → Steps p.tables e below (T.setTop g) u := by
  obtain ⟨v, _, ⟨T', L', k', n'⟩, -, X', ⟨L, hQ, l1, y1, z1⟩, st⟩ := Jvm.LawKit.callS X hx hown (mvT hZ w1) (mvT hZ w2) (mvT hZ w3) (mvT hZ w4) hy K hg hsize hlen hstack hW hd (fun _ _ => ⟨has, eT, hc, hs⟩)
  try dsimp only [Pt.U, Pt.locs, Pt.cells, Pt.slots] at X' l1 y1 z1 st hQ
  subst l1 y1 z1
  exact ⟨v, T', L, X', hQ, st⟩
theorem goC (X : Stand p l e R s m args below meth c T locs cells slots) (hx : p.tables.exec = Jvm.exec) (hZ : Z.Warmed39 s.vm) {own : String} {index : Nat} {y : MethodName} {bytes : ByteArray} {maxL : Nat} (hown : s.vm.findClass own = some m.cls)
    (hy1 : y.name = "<init>") (w1 : (Jvm.Cond.methodLink own index y).before a0 Z = true) (w2 : (Jvm.Cond.instanceMethod y).before a0 Z = true) (w4 : (Jvm.Cond.code y bytes maxL none).before a0 Z = true) (hy : y.cls ≠ "java/lang/invoke/MethodHandle" ∧ y.cls ≠ "java/lang/invoke/VarHandle")
    {W kc ks : Nat} {as : Array Value} {QQ : Option Value → Heap → List Loc → Prop} (K : Pay l R p e below s args y W as h kc ks QQ) (eT : T.heap = h) {g : JFrame} (hg : g.method = m) (hsize : g.locals.size = c.maxLocals) {a : Addr} {argsL rest : List Value} (has : (.ref a :: argsL).toArray = as)
    (hlen : ∀ sig, parseMethodDescriptor y.desc = some sig → argsL.length = sig.parameters.length) (hstack : g.stack = argsL.reverse ++ .ref a :: rest) (hW : 2 * g.monitorRoom + (rest.map fun v => v.category).sum ≤ W) (hd : decode c.code g.pc = .ok (.invokespecial index, 3)) (hc : cells + kc ≤ R.cells) (hs : slots + ks ≤ R.slots) :
    ∃ v T' L, Stand p l e R s m args below meth c T' (locs ++ L) (cells + kc) (slots + ks) ∧ QQ v T'.heap L ∧ ∀ u, Steps p.tables e below (T'.setTop { g with pc := g.pc + 3, stack := v.toList ++ rest }) u → Steps p.tables e below (T.setTop g) u := by
  obtain ⟨v, _, ⟨T', L', k', n'⟩, -, X', ⟨L, hQ, l1, y1, z1⟩, st⟩ := X.specialBack hx hy1 hown (mvT hZ w1) (mvT hZ w2) (mvT hZ w4) hy K hg hsize (Steps.refl _) hlen hstack hW hd (fun _ _ => ⟨has, eT, hc, hs⟩)
  try dsimp only [Pt.U, Pt.locs, Pt.cells, Pt.slots] at X' l1 y1 z1 st hQ
  subst l1 y1 z1
  exact ⟨v, T', L, X', hQ, fun u k => st.trans k⟩
theorem goV (X : Stand p l e R s m args below meth c T locs cells slots) (hx : p.tables.exec = Jvm.exec) (hZ : Z.Warmed39 s.vm) {own C : String} {index : Nat} {y z : MethodName} (hown : s.vm.findClass own = some m.cls)
    (w1 : (Jvm.Cond.methodLink own index y).before a0 Z = true) (w2 : (Jvm.Cond.declares y).before a0 Z = true) (hnf : NotFace s y) (w3 : (Jvm.Cond.selects C y z).before a0 Z = true) (w4 : (Jvm.Cond.instanceMethod z).before a0 Z = true) (hy : y.cls ≠ "java/lang/invoke/MethodHandle" ∧ y.cls ≠ "java/lang/invoke/VarHandle")
    {W kc ks : Nat} {as : Array Value} {QQ : Option Value → Heap → List Loc → Prop} (K : Pay l R p e below s args z W as h kc ks QQ) (eT : T.heap = h) {a : Addr} (E : Exa Z h a C) {g : JFrame} (hg : g.method = m) (hsize : g.locals.size = c.maxLocals) {argsL rest : List Value} (has : (.ref a :: argsL).toArray = as)
    (hlen : ∀ sig, parseMethodDescriptor y.desc = some sig → argsL.length = sig.parameters.length) (hstack : g.stack = argsL.reverse ++ .ref a :: rest) (hW : 2 * g.monitorRoom + (rest.map fun v => v.category).sum ≤ W) (hd : decode c.code g.pc = .ok (.invokevirtual index, 3)) (hc : cells + kc ≤ R.cells) (hs : slots + ks ≤ R.slots) :
    ∃ v T' L, Stand p l e R s m args below meth c T' (locs ++ L) (cells + kc) (slots + ks) ∧ QQ v T'.heap L ∧ ∀ u, Steps p.tables e below (T'.setTop { g with pc := g.pc + 3, stack := v.toList ++ rest }) u → Steps p.tables e below (T.setTop g) u := by
  obtain ⟨cB, kB, q1, q2, q3⟩ := isOf hZ eT E
  obtain ⟨v, _, ⟨T', L', k', n'⟩, -, X', ⟨L, hQ, l1, y1, z1⟩, st⟩ := X.virtualBack hx hown (mvT hZ w1) (mvT hZ w2) hnf (mvT hZ w3) (mvT hZ w4) hy K q1 q3 hg hsize (Steps.refl _) hlen hstack hW hd (fun _ _ => ⟨has, eT, hc, hs⟩)
  try dsimp only [Pt.U, Pt.locs, Pt.cells, Pt.slots] at X' l1 y1 z1 st hQ
  subst l1 y1 z1
  exact ⟨v, T', L, X', hQ, fun u k => st.trans k⟩
/-- .. whose named class does not declare it -/
theorem goU (X : Stand p l e R s m args below meth c T locs cells slots) (hx : p.tables.exec = Jvm.exec) (hZ : Z.Warmed39 s.vm) {own C owner : String} {index : Nat} {y z : MethodName} (hown : s.vm.findClass own = some m.cls)
    (w1 : (Jvm.Cond.methodLink own index y).before a0 Z = true) (w5 : (Jvm.Cond.sameMethod y.cls owner y.name y.desc).before a0 Z = true) (w2 : (Jvm.Cond.declares ⟨owner, y.name, y.desc⟩).before a0 Z = true) (w3 : (Jvm.Cond.selects C y z).before a0 Z = true) (w4 : (Jvm.Cond.instanceMethod z).before a0 Z = true) (hy : owner ≠ "java/lang/invoke/MethodHandle" ∧ owner ≠ "java/lang/invoke/VarHandle")
    {W kc ks : Nat} {as : Array Value} {QQ : Option Value → Heap → List Loc → Prop} (K : Pay l R p e below s args z W as h kc ks QQ) (eT : T.heap = h) {a : Addr} (E : Exa Z h a C) {g : JFrame} (hg : g.method = m) (hsize : g.locals.size = c.maxLocals) {argsL rest : List Value} (has : (.ref a :: argsL).toArray = as)
    (hlen : ∀ sig, parseMethodDescriptor y.desc = some sig → argsL.length = sig.parameters.length) (hstack : g.stack = argsL.reverse ++ .ref a :: rest) (hW : 2 * g.monitorRoom + (rest.map fun v => v.category).sum ≤ W) (hd : decode c.code g.pc = .ok (.invokevirtual index, 3)) (hc : cells + kc ≤ R.cells) (hs : slots + ks ≤ R.slots) :
    ∃ v T' L, Stand p l e R s m args below meth c T' (locs ++ L) (cells + kc) (slots + ks) ∧ QQ v T'.heap L ∧ ∀ u, Steps p.tables e below (T'.setTop { g with pc := g.pc + 3, stack := v.toList ++ rest }) u → Steps p.tables e below (T.setTop g) u := by
  obtain ⟨cB, kB, q1, q2, q3⟩ := isOf hZ eT E
  obtain ⟨v, _, ⟨T', L', k', n'⟩, -, X', ⟨L, hQ, l1, y1, z1⟩, st⟩ := X.virtualBackUp hx hown (mvT hZ w1) (mvT hZ w5) (mvT hZ w2) hy (mvT hZ w3) (mvT hZ w4) K q1 q3 hg hsize (Steps.refl _) hlen hstack hW hd (fun _ _ => ⟨has, eT, hc, hs⟩)
  try dsimp only [Pt.U, Pt.locs, Pt.cells, Pt.slots] at X' l1 y1 z1 st hQ
  subst l1 y1 z1
  exact ⟨v, T', L, X', hQ, fun u k => st.trans k⟩
/-- a private method by invokevirtual -/
theorem goP (X : Stand p l e R s m args below meth c T locs cells slots) (hx : p.tables.exec = Jvm.exec) (hZ : Z.Warmed39 s.vm) {own C : String} {index : Nat} {y : MethodName} {bytes : ByteArray} {maxL : Nat} {ret : Option FieldType} (hown : s.vm.findClass own = some m.cls)
    (w1 : (Jvm.Cond.methodLink own index y).before a0 Z = true) (w2 : (Jvm.Cond.instanceMethod y).before a0 Z = true) (w3 : (Jvm.Cond.selects y.cls y y).before a0 Z = true) (w5 : (Jvm.Cond.privateMethod y).before a0 Z = true) (w4 : (Jvm.Cond.code y bytes maxL ret).before a0 Z = true) (hy : y.cls ≠ "java/lang/invoke/MethodHandle" ∧ y.cls ≠ "java/lang/invoke/VarHandle")
    {W kc ks : Nat} {as : Array Value} {QQ : Option Value → Heap → List Loc → Prop} (K : Pay l R p e below s args y W as h kc ks QQ) (eT : T.heap = h) {a : Addr} (E : Exa Z h a C) {g : JFrame} (hg : g.method = m) (hsize : g.locals.size = c.maxLocals) {argsL rest : List Value} (has : (.ref a :: argsL).toArray = as)
    (hlen : ∀ sig, parseMethodDescriptor y.desc = some sig → argsL.length = sig.parameters.length) (hstack : g.stack = argsL.reverse ++ .ref a :: rest) (hW : 2 * g.monitorRoom + (rest.map fun v => v.category).sum ≤ W) (hd : decode c.code g.pc = .ok (.invokevirtual index, 3)) (hc : cells + kc ≤ R.cells) (hs : slots + ks ≤ R.slots) :
    ∃ v T' L, Stand p l e R s m args below meth c T' (locs ++ L) (cells + kc) (slots + ks) ∧ QQ v T'.heap L ∧ ∀ u, Steps p.tables e below (T'.setTop { g with pc := g.pc + 3, stack := v.toList ++ rest }) u → Steps p.tables e below (T.setTop g) u := by
  obtain ⟨cq, q1, q2⟩ := E.cell
  obtain ⟨v, _, ⟨T', L', k', n'⟩, -, X', ⟨L, hQ, l1, y1, z1⟩, st⟩ := X.privateBack hx hown (mvT hZ w1) (mvT hZ w2) (mvT hZ w3) (Cond.privateMethod_at (mvP hZ w5 (args := #[]))) (mvT hZ w4) hy K hg hsize (Steps.refl _) (by rw [eT]; exact q1) q2 hlen hstack hW hd (fun _ _ => ⟨has, eT, hc, hs⟩)
  try dsimp only [Pt.U, Pt.locs, Pt.cells, Pt.slots] at X' l1 y1 z1 st hQ
  subst l1 y1 z1
  exact ⟨v, T', L, X', hQ, fun u k => st.trans k⟩
theorem lremM {g : JFrame} {target : State} (X : Stand p l e R s m args below meth c T locs cells slots) (hx : p.tables.exec = Jvm.exec) (hg : g.method = m) {x y : Int64} {rest : List Value} (hd : decode c.code g.pc = .ok (.lrem, 1)) (hs : g.stack = .long y :: .long x :: rest) (hy : y ≠ 0)
    (hr : Steps p.tables e below (T.setTop { g with pc := g.pc + 1, stack := .long (x % y) :: rest }) target) : Steps p.tables e below (T.setTop g) target :=
  XS.lrem X.here hx hg hd hs hy (by rw [lrem_mod]; exact hr)
theorem narrow_ref {t : FieldType} {v : Value} (h : v.isRef = true) : narrow t v = v := by cases v <;> first | (simp [Value.isRef] at h; done) | (cases t <;> rfl)
theorem fits_ref' {C : String} {v : Value} (h : v.isRef = true) : fits (.object C) v = true := by cases v <;> simp_all [Value.isRef, fits]
/-- what the case's words say of a static -/
theorem sta_obj {C n d K : String} (hi : (Jvm.Cond.initializedFor C n d).before args s = true ∨ ((Jvm.Cond.initialized C).before args s = true ∧ (Jvm.Cond.laysStatic C n d).before args s = true)) (hx : (Jvm.Cond.exactly (.static C n d) K).value args s none s [] = some true) :
    ∃ a, Sta s s.heap C n d (.ref a) ∧ Exa s s.heap a K ∧ (Term.static C n d).eval args s none [] s = some (.ref a) := by
  obtain ⟨a, e⟩ := exa_v hx
  exact ⟨a, Sta.start e hi, Exa.start e hx, e⟩
theorem fld_l {t : Term} {a : Addr} {C f d : String} {v : Int64} (ev : t.eval args s none [] s = some (.ref a)) (h : (Jvm.Cond.eq (.field t C f d) (.long v)).value args s none s [] = some true) : Fld s s.heap a C f d (.long v) :=
  Fld.start (by rw [← fld_at ev]; exact eqv_l (long_at v) h)
theorem fld_i {t : Term} {a : Addr} {C f d : String} {v : Int32} (ev : t.eval args s none [] s = some (.ref a)) (h : (Jvm.Cond.eq (.field t C f d) (.int v)).value args s none s [] = some true) : Fld s s.heap a C f d (.int v) :=
  Fld.start (by rw [← fld_at ev]; exact eqv_i (Term.int_eval v) h)
theorem b01_ne {P : Prop} [Decidable P] (q : P) : ¬ (if P then (1 : Int32) else 0) = 0 := by rw [if_pos q]; decide
theorem b01_eq {P : Prop} [Decidable P] (q : ¬ P) : (if P then (1 : Int32) else 0) = 0 := if_neg q
theorem b01_nar {P : Prop} [Decidable P] : narrow .boolean (.int (if P then (1 : Int32) else 0)) = .int (if P then (1 : Int32) else 0) := by split <;> rfl
end Base
end Jvm.Own
namespace Jvm.Pilot.@@N@@
open Jvm Jvm.ClassFile Sem Op Lib Jvm.Free Jvm.Stand Jvm.LawKit Jvm.RoadKit Bundle Jvm.Own Jvm.Pilot.@@N@@.Jvm.D
theorem wd_0 {a0 : Array Value} {Z : State} (hw : ∀ d ∈ tables_1, d.before a0 Z = true) : (Jvm.Cond.constantLong "com/example/hallstatt/hallstatt/api/ListingParametersPositionTimePinLaw" (7 : Nat) (-62167219200000000 : Int64)).before a0 Z = true := hw _ (List.mem_of_getElem? (i := 0) rfl)
theorem wd_1 {a0 : Array Value} {Z : State} (hw : ∀ d ∈ tables_1, d.before a0 Z = true) : (Jvm.Cond.constantLong "com/example/hallstatt/hallstatt/api/ListingParametersPositionTimePinLaw" (9 : Nat) (253402300800000000 : Int64)).before a0 Z = true := hw _ (List.mem_of_getElem? (i := 1) rfl)
theorem wd_2 {a0 : Array Value} {Z : State} (hw : ∀ d ∈ tables_1, d.before a0 Z = true) : (Jvm.Cond.constantLong "com/example/hallstatt/hallstatt/api/ListingParametersPositionTimePinLaw" (15 : Nat) (1023 : Int64)).before a0 Z = true := hw _ (List.mem_of_getElem? (i := 2) rfl)
theorem wd_3 {a0 : Array Value} {Z : State} (hw : ∀ d ∈ tables_1, d.before a0 Z = true) : (Jvm.Cond.methodLink "com/example/hallstatt/hallstatt/api/ListingParametersPositionTimePinLaw" (19 : Nat) ({ cls := "java/lang/String", name := "valueOf", desc := "(C)Ljava/lang/String;" } : Jvm.MethodName)).before a0 Z = true := hw _ (List.mem_of_getElem? (i := 3) rfl)
theorem wd_4 {a0 : Array Value} {Z : State} (hw : ∀ d ∈ tables_1, d.before a0 Z = true) : (Jvm.Cond.static ({ cls := "java/lang/String", name := "valueOf", desc := "(C)Ljava/lang/String;" } : Jvm.MethodName)).before a0 Z = true := hw _ (List.mem_of_getElem? (i := 4) rfl)
theorem wd_5 {a0 : Array Value} {Z : State} (hw : ∀ d ∈ tables_1, d.before a0 Z = true) : (Jvm.Cond.initialized "java/lang/String").before a0 Z = true := hw _ (List.mem_of_getElem? (i := 5) rfl)
theorem wd_6 {a0 : Array Value} {Z : State} (hw : ∀ d ∈ tables_1, d.before a0 Z = true) : (Jvm.Cond.code ({ cls := "java/lang/String", name := "valueOf", desc := "(C)Ljava/lang/String;" } : Jvm.MethodName) jdk_42_method_139_code (1 : Nat) (Option.some (Jvm.ClassFile.FieldType.object "java/lang/String"))).before a0 Z = true := hw _ (List.mem_of_getElem? (i := 6) rfl)
theorem wd_7 {a0 : Array Value} {Z : State} (hw : ∀ d ∈ tables_1, d.before a0 Z = true) : (Jvm.Cond.fieldLink "java/lang/String" (38 : Nat) "java/lang/String" "COMPACT_STRINGS" "Z").before a0 Z = true := hw _ (List.mem_of_getElem? (i := 7) rfl)
theorem wd_8 {a0 : Array Value} {Z : State} (hw : ∀ d ∈ tables_1, d.before a0 Z = true) : (Jvm.Cond.methodLink "java/lang/String" (1015 : Nat) ({ cls := "java/lang/StringLatin1", name := "canEncode", desc := "(C)Z" } : Jvm.MethodName)).before a0 Z = true := hw _ (List.mem_of_getElem? (i := 8) rfl)
theorem wd_9 {a0 : Array Value} {Z : State} (hw : ∀ d ∈ tables_1, d.before a0 Z = true) : (Jvm.Cond.static ({ cls := "java/lang/StringLatin1", name := "canEncode", desc := "(C)Z" } : Jvm.MethodName)).before a0 Z = true := hw _ (List.mem_of_getElem? (i := 9) rfl)
theorem wd_10 {a0 : Array Value} {Z : State} (hw : ∀ d ∈ tables_1, d.before a0 Z = true) : (Jvm.Cond.initialized "java/lang/StringLatin1").before a0 Z = true := hw _ (List.mem_of_getElem? (i := 10) rfl)
theorem wd_11 {a0 : Array Value} {Z : State} (hw : ∀ d ∈ tables_1, d.before a0 Z = true) : (Jvm.Cond.code ({ cls := "java/lang/StringLatin1", name := "canEncode", desc := "(C)Z" } : Jvm.MethodName) jdk_43_method_3_code (1 : Nat) (Option.some Jvm.ClassFile.FieldType.boolean)).before a0 Z = true := hw _ (List.mem_of_getElem? (i := 11) rfl)
theorem wd_12 {a0 : Array Value} {Z : State} (hw : ∀ d ∈ tables_1, d.before a0 Z = true) : (Jvm.Cond.classLink "java/lang/String" (10 : Nat) "java/lang/String").before a0 Z = true := hw _ (List.mem_of_getElem? (i := 12) rfl)
theorem wd_13 {a0 : Array Value} {Z : State} (hw : ∀ d ∈ tables_1, d.before a0 Z = true) : (Jvm.Cond.instantiable "java/lang/String" (4 : Nat)).before a0 Z = true := hw _ (List.mem_of_getElem? (i := 13) rfl)
theorem wd_14 {a0 : Array Value} {Z : State} (hw : ∀ d ∈ tables_1, d.before a0 Z = true) : (Jvm.Cond.methodLink "java/lang/String" (1018 : Nat) ({ cls := "java/lang/StringLatin1", name := "toBytes", desc := "(C)[B" } : Jvm.MethodName)).before a0 Z = true := hw _ (List.mem_of_getElem? (i := 14) rfl)
theorem wd_15 {a0 : Array Value} {Z : State} (hw : ∀ d ∈ tables_1, d.before a0 Z = true) : (Jvm.Cond.static ({ cls := "java/lang/StringLatin1", name := "toBytes", desc := "(C)[B" } : Jvm.MethodName)).before a0 Z = true := hw _ (List.mem_of_getElem? (i := 15) rfl)
theorem wd_16 {a0 : Array Value} {Z : State} (hw : ∀ d ∈ tables_1, d.before a0 Z = true) : (Jvm.Cond.code ({ cls := "java/lang/StringLatin1", name := "toBytes", desc := "(C)[B" } : Jvm.MethodName) jdk_43_method_46_code (1 : Nat) (Option.some (Jvm.ClassFile.FieldType.array Jvm.ClassFile.FieldType.byte))).before a0 Z = true := hw _ (List.mem_of_getElem? (i := 16) rfl)
theorem wd_17 {a0 : Array Value} {Z : State} (hw : ∀ d ∈ tables_1, d.before a0 Z = true) : (Jvm.Cond.arrayClass Jvm.ClassFile.FieldType.byte).before a0 Z = true := hw _ (List.mem_of_getElem? (i := 17) rfl)
theorem wd_18 {a0 : Array Value} {Z : State} (hw : ∀ d ∈ tables_1, d.before a0 Z = true) : (Jvm.Cond.methodLink "java/lang/String" (209 : Nat) ({ cls := "java/lang/String", name := "<init>", desc := "([BB)V" } : Jvm.MethodName)).before a0 Z = true := hw _ (List.mem_of_getElem? (i := 18) rfl)
theorem wd_19 {a0 : Array Value} {Z : State} (hw : ∀ d ∈ tables_1, d.before a0 Z = true) : (Jvm.Cond.instanceMethod ({ cls := "java/lang/String", name := "<init>", desc := "([BB)V" } : Jvm.MethodName)).before a0 Z = true := hw _ (List.mem_of_getElem? (i := 19) rfl)
theorem wd_21 {a0 : Array Value} {Z : State} (hw : ∀ d ∈ tables_1, d.before a0 Z = true) : (Jvm.Cond.code ({ cls := "java/lang/String", name := "<init>", desc := "([BB)V" } : Jvm.MethodName) jdk_42_method_151_code (3 : Nat) (Option.none : Option Jvm.ClassFile.FieldType)).before a0 Z = true := hw _ (List.mem_of_getElem? (i := 21) rfl)
theorem wd_22 {a0 : Array Value} {Z : State} (hw : ∀ d ∈ tables_1, d.before a0 Z = true) : (Jvm.Cond.methodLink "java/lang/String" (1 : Nat) ({ cls := "java/lang/Object", name := "<init>", desc := "()V" } : Jvm.MethodName)).before a0 Z = true := hw _ (List.mem_of_getElem? (i := 22) rfl)
theorem wd_23 {a0 : Array Value} {Z : State} (hw : ∀ d ∈ tables_1, d.before a0 Z = true) : (Jvm.Cond.instanceMethod ({ cls := "java/lang/Object", name := "<init>", desc := "()V" } : Jvm.MethodName)).before a0 Z = true := hw _ (List.mem_of_getElem? (i := 23) rfl)
theorem wd_24 {a0 : Array Value} {Z : State} (hw : ∀ d ∈ tables_1, d.before a0 Z = true) : (Jvm.Cond.code ({ cls := "java/lang/Object", name := "<init>", desc := "()V" } : Jvm.MethodName) object_method_1_code (1 : Nat) (Option.none : Option Jvm.ClassFile.FieldType)).before a0 Z = true := hw _ (List.mem_of_getElem? (i := 24) rfl)
theorem wd_25 {a0 : Array Value} {Z : State} (hw : ∀ d ∈ tables_1, d.before a0 Z = true) : (Jvm.Cond.fieldLink "java/lang/String" (9 : Nat) "java/lang/String" "value" "[B").before a0 Z = true := hw _ (List.mem_of_getElem? (i := 25) rfl)
theorem wd_26 {a0 : Array Value} {Z : State} (hw : ∀ d ∈ tables_1, d.before a0 Z = true) : (Jvm.Cond.laysFinal "java/lang/String" "java/lang/String" "value" "[B").before a0 Z = true := hw _ (List.mem_of_getElem? (i := 26) rfl)
theorem wd_27 {a0 : Array Value} {Z : State} (hw : ∀ d ∈ tables_1, d.before a0 Z = true) : (Jvm.Cond.fieldLink "java/lang/String" (15 : Nat) "java/lang/String" "coder" "B").before a0 Z = true := hw _ (List.mem_of_getElem? (i := 27) rfl)
theorem wd_28 {a0 : Array Value} {Z : State} (hw : ∀ d ∈ tables_1, d.before a0 Z = true) : (Jvm.Cond.laysFinal "java/lang/String" "java/lang/String" "coder" "B").before a0 Z = true := hw _ (List.mem_of_getElem? (i := 28) rfl)
theorem wd_29 {a0 : Array Value} {Z : State} (hw : ∀ d ∈ tables_1, d.before a0 Z = true) : (Jvm.Cond.methodLink "com/example/hallstatt/hallstatt/api/ListingParametersPositionTimePinLaw" (25 : Nat) ({ cls := "com/example/hallstatt/hallstatt/api/ListingParameters", name := "positionTime", desc := "(Ljava/lang/String;J)Ljava/time/Instant;" } : Jvm.MethodName)).before a0 Z = true := hw _ (List.mem_of_getElem? (i := 29) rfl)
theorem wd_30 {a0 : Array Value} {Z : State} (hw : ∀ d ∈ tables_1, d.before a0 Z = true) : (Jvm.Cond.static ({ cls := "com/example/hallstatt/hallstatt/api/ListingParameters", name := "positionTime", desc := "(Ljava/lang/String;J)Ljava/time/Instant;" } : Jvm.MethodName)).before a0 Z = true := hw _ (List.mem_of_getElem? (i := 30) rfl)
theorem wd_31 {a0 : Array Value} {Z : State} (hw : ∀ d ∈ tables_1, d.before a0 Z = true) : (Jvm.Cond.initialized "com/example/hallstatt/hallstatt/api/ListingParameters").before a0 Z = true := hw _ (List.mem_of_getElem? (i := 31) rfl)
theorem wd_32 {a0 : Array Value} {Z : State} (hw : ∀ d ∈ tables_1, d.before a0 Z = true) : (Jvm.Cond.code ({ cls := "com/example/hallstatt/hallstatt/api/ListingParameters", name := "positionTime", desc := "(Ljava/lang/String;J)Ljava/time/Instant;" } : Jvm.MethodName) prog_12_method_7_code (4 : Nat) (Option.some (Jvm.ClassFile.FieldType.object "java/time/Instant"))).before a0 Z = true := hw _ (List.mem_of_getElem? (i := 32) rfl)
theorem wd_33 {a0 : Array Value} {Z : State} (hw : ∀ d ∈ tables_1, d.before a0 Z = true) : (Jvm.Cond.fieldLink "com/example/hallstatt/hallstatt/api/ListingParameters" (142 : Nat) "java/time/Instant" "EPOCH" "Ljava/time/Instant;").before a0 Z = true := hw _ (List.mem_of_getElem? (i := 33) rfl)
theorem wd_34 {a0 : Array Value} {Z : State} (hw : ∀ d ∈ tables_1, d.before a0 Z = true) : (Jvm.Cond.initialized "java/time/Instant").before a0 Z = true := hw _ (List.mem_of_getElem? (i := 34) rfl)
theorem wd_35 {a0 : Array Value} {Z : State} (hw : ∀ d ∈ tables_1, d.before a0 Z = true) : (Jvm.Cond.fieldLink "com/example/hallstatt/hallstatt/api/ListingParameters" (146 : Nat) "java/time/temporal/ChronoUnit" "MICROS" "Ljava/time/temporal/ChronoUnit;").before a0 Z = true := hw _ (List.mem_of_getElem? (i := 35) rfl)
theorem wd_37 {a0 : Array Value} {Z : State} (hw : ∀ d ∈ tables_1, d.before a0 Z = true) : (Jvm.Cond.methodLink "com/example/hallstatt/hallstatt/api/ListingParameters" (152 : Nat) ({ cls := "java/time/Instant", name := "plus", desc := "(JLjava/time/temporal/TemporalUnit;)Ljava/time/Instant;" } : Jvm.MethodName)).before a0 Z = true := hw _ (List.mem_of_getElem? (i := 37) rfl)
theorem wd_38 {a0 : Array Value} {Z : State} (hw : ∀ d ∈ tables_1, d.before a0 Z = true) : (Jvm.Cond.declares ({ cls := "java/time/Instant", name := "plus", desc := "(JLjava/time/temporal/TemporalUnit;)Ljava/time/Instant;" } : Jvm.MethodName)).before a0 Z = true := hw _ (List.mem_of_getElem? (i := 38) rfl)
theorem wd_39 {a0 : Array Value} {Z : State} (hw : ∀ d ∈ tables_1, d.before a0 Z = true) : (Jvm.Cond.instanceMethod ({ cls := "java/time/Instant", name := "plus", desc := "(JLjava/time/temporal/TemporalUnit;)Ljava/time/Instant;" } : Jvm.MethodName)).before a0 Z = true := hw _ (List.mem_of_getElem? (i := 39) rfl)
theorem wd_40 {a0 : Array Value} {Z : State} (hw : ∀ d ∈ tables_1, d.before a0 Z = true) : (Jvm.Cond.selects "java/time/Instant" ({ cls := "java/time/Instant", name := "plus", desc := "(JLjava/time/temporal/TemporalUnit;)Ljava/time/Instant;" } : Jvm.MethodName) ({ cls := "java/time/Instant", name := "plus", desc := "(JLjava/time/temporal/TemporalUnit;)Ljava/time/Instant;" } : Jvm.MethodName)).before a0 Z = true := hw _ (List.mem_of_getElem? (i := 40) rfl)
theorem wd_41 {a0 : Array Value} {Z : State} (hw : ∀ d ∈ tables_1, d.before a0 Z = true) : (Jvm.Cond.code ({ cls := "java/time/Instant", name := "plus", desc := "(JLjava/time/temporal/TemporalUnit;)Ljava/time/Instant;" } : Jvm.MethodName) jdk_2320_method_21_code (5 : Nat) (Option.some (Jvm.ClassFile.FieldType.object "java/time/Instant"))).before a0 Z = true := hw _ (List.mem_of_getElem? (i := 41) rfl)
theorem wd_42 {a0 : Array Value} {Z : State} (hw : ∀ d ∈ tables_1, d.before a0 Z = true) : (Jvm.Cond.classLink "java/time/Instant" (160 : Nat) "java/time/temporal/ChronoUnit").before a0 Z = true := hw _ (List.mem_of_getElem? (i := 42) rfl)
theorem wd_44 {a0 : Array Value} {Z : State} (hw : ∀ d ∈ tables_1, d.before a0 Z = true) : (Jvm.Cond.fieldLink "java/time/Instant" (253 : Nat) "java/time/Instant$1" "$SwitchMap$java$time$temporal$ChronoUnit" "[I").before a0 Z = true := hw _ (List.mem_of_getElem? (i := 44) rfl)
theorem wd_46 {a0 : Array Value} {Z : State} (hw : ∀ d ∈ tables_1, d.before a0 Z = true) : (Jvm.Cond.methodLink "java/time/Instant" (256 : Nat) ({ cls := "java/time/temporal/ChronoUnit", name := "ordinal", desc := "()I" } : Jvm.MethodName)).before a0 Z = true := hw _ (List.mem_of_getElem? (i := 46) rfl)
theorem wd_47 {a0 : Array Value} {Z : State} (hw : ∀ d ∈ tables_1, d.before a0 Z = true) : (Jvm.Cond.sameMethod "java/time/temporal/ChronoUnit" "java/lang/Enum" "ordinal" "()I").before a0 Z = true := hw _ (List.mem_of_getElem? (i := 47) rfl)
theorem wd_48 {a0 : Array Value} {Z : State} (hw : ∀ d ∈ tables_1, d.before a0 Z = true) : (Jvm.Cond.declares ({ cls := "java/lang/Enum", name := "ordinal", desc := "()I" } : Jvm.MethodName)).before a0 Z = true := hw _ (List.mem_of_getElem? (i := 48) rfl)
theorem wd_49 {a0 : Array Value} {Z : State} (hw : ∀ d ∈ tables_1, d.before a0 Z = true) : (Jvm.Cond.instanceMethod ({ cls := "java/lang/Enum", name := "ordinal", desc := "()I" } : Jvm.MethodName)).before a0 Z = true := hw _ (List.mem_of_getElem? (i := 49) rfl)
theorem wd_50 {a0 : Array Value} {Z : State} (hw : ∀ d ∈ tables_1, d.before a0 Z = true) : (Jvm.Cond.selects "java/time/temporal/ChronoUnit" ({ cls := "java/time/temporal/ChronoUnit", name := "ordinal", desc := "()I" } : Jvm.MethodName) ({ cls := "java/lang/Enum", name := "ordinal", desc := "()I" } : Jvm.MethodName)).before a0 Z = true := hw _ (List.mem_of_getElem? (i := 50) rfl)
theorem wd_51 {a0 : Array Value} {Z : State} (hw : ∀ d ∈ tables_1, d.before a0 Z = true) : (Jvm.Cond.initialized "java/lang/Enum").before a0 Z = true := hw _ (List.mem_of_getElem? (i := 51) rfl)
theorem wd_52 {a0 : Array Value} {Z : State} (hw : ∀ d ∈ tables_1, d.before a0 Z = true) : (Jvm.Cond.code ({ cls := "java/lang/Enum", name := "ordinal", desc := "()I" } : Jvm.MethodName) jdk_37_method_2_code (1 : Nat) (Option.some Jvm.ClassFile.FieldType.int)).before a0 Z = true := hw _ (List.mem_of_getElem? (i := 52) rfl)
theorem wd_53 {a0 : Array Value} {Z : State} (hw : ∀ d ∈ tables_1, d.before a0 Z = true) : (Jvm.Cond.fieldLink "java/lang/Enum" (7 : Nat) "java/lang/Enum" "ordinal" "I").before a0 Z = true := hw _ (List.mem_of_getElem? (i := 53) rfl)
theorem wd_55 {a0 : Array Value} {Z : State} (hw : ∀ d ∈ tables_1, d.before a0 Z = true) : (Jvm.Cond.constantLong "java/time/Instant" (257 : Nat) (1000000 : Int64)).before a0 Z = true := hw _ (List.mem_of_getElem? (i := 55) rfl)
theorem wd_56 {a0 : Array Value} {Z : State} (hw : ∀ d ∈ tables_1, d.before a0 Z = true) : (Jvm.Cond.constantLong "java/time/Instant" (259 : Nat) (1000 : Int64)).before a0 Z = true := hw _ (List.mem_of_getElem? (i := 56) rfl)
theorem wd_57 {a0 : Array Value} {Z : State} (hw : ∀ d ∈ tables_1, d.before a0 Z = true) : (Jvm.Cond.methodLink "java/time/Instant" (261 : Nat) ({ cls := "java/time/Instant", name := "plus", desc := "(JJ)Ljava/time/Instant;" } : Jvm.MethodName)).before a0 Z = true := hw _ (List.mem_of_getElem? (i := 57) rfl)
theorem wd_58 {a0 : Array Value} {Z : State} (hw : ∀ d ∈ tables_1, d.before a0 Z = true) : (Jvm.Cond.instanceMethod ({ cls := "java/time/Instant", name := "plus", desc := "(JJ)Ljava/time/Instant;" } : Jvm.MethodName)).before a0 Z = true := hw _ (List.mem_of_getElem? (i := 58) rfl)
theorem wd_59 {a0 : Array Value} {Z : State} (hw : ∀ d ∈ tables_1, d.before a0 Z = true) : (Jvm.Cond.privateMethod ({ cls := "java/time/Instant", name := "plus", desc := "(JJ)Ljava/time/Instant;" } : Jvm.MethodName)).before a0 Z = true := hw _ (List.mem_of_getElem? (i := 59) rfl)
theorem wd_60 {a0 : Array Value} {Z : State} (hw : ∀ d ∈ tables_1, d.before a0 Z = true) : (Jvm.Cond.selects "java/time/Instant" ({ cls := "java/time/Instant", name := "plus", desc := "(JJ)Ljava/time/Instant;" } : Jvm.MethodName) ({ cls := "java/time/Instant", name := "plus", desc := "(JJ)Ljava/time/Instant;" } : Jvm.MethodName)).before a0 Z = true := hw _ (List.mem_of_getElem? (i := 60) rfl)
theorem wd_61 {a0 : Array Value} {Z : State} (hw : ∀ d ∈ tables_1, d.before a0 Z = true) : (Jvm.Cond.code ({ cls := "java/time/Instant", name := "plus", desc := "(JJ)Ljava/time/Instant;" } : Jvm.MethodName) jdk_2320_method_25_code (9 : Nat) (Option.some (Jvm.ClassFile.FieldType.object "java/time/Instant"))).before a0 Z = true := hw _ (List.mem_of_getElem? (i := 61) rfl)
theorem wd_62 {a0 : Array Value} {Z : State} (hw : ∀ d ∈ tables_1, d.before a0 Z = true) : (Jvm.Cond.fieldLink "java/time/Instant" (140 : Nat) "java/time/Instant" "seconds" "J").before a0 Z = true := hw _ (List.mem_of_getElem? (i := 62) rfl)
theorem wd_63 {a0 : Array Value} {Z : State} (hw : ∀ d ∈ tables_1, d.before a0 Z = true) : (Jvm.Cond.laysFinal "java/time/Instant" "java/time/Instant" "seconds" "J").before a0 Z = true := hw _ (List.mem_of_getElem? (i := 63) rfl)
theorem wd_64 {a0 : Array Value} {Z : State} (hw : ∀ d ∈ tables_1, d.before a0 Z = true) : (Jvm.Cond.methodLink "java/time/Instant" (34 : Nat) ({ cls := "java/lang/Math", name := "addExact", desc := "(JJ)J" } : Jvm.MethodName)).before a0 Z = true := hw _ (List.mem_of_getElem? (i := 64) rfl)
theorem wd_65 {a0 : Array Value} {Z : State} (hw : ∀ d ∈ tables_1, d.before a0 Z = true) : (Jvm.Cond.static ({ cls := "java/lang/Math", name := "addExact", desc := "(JJ)J" } : Jvm.MethodName)).before a0 Z = true := hw _ (List.mem_of_getElem? (i := 65) rfl)
theorem wd_66 {a0 : Array Value} {Z : State} (hw : ∀ d ∈ tables_1, d.before a0 Z = true) : (Jvm.Cond.initialized "java/lang/Math").before a0 Z = true := hw _ (List.mem_of_getElem? (i := 66) rfl)
theorem wd_67 {a0 : Array Value} {Z : State} (hw : ∀ d ∈ tables_1, d.before a0 Z = true) : (Jvm.Cond.code ({ cls := "java/lang/Math", name := "addExact", desc := "(JJ)J" } : Jvm.MethodName) jdk_29_method_25_code (6 : Nat) (Option.some Jvm.ClassFile.FieldType.long)).before a0 Z = true := hw _ (List.mem_of_getElem? (i := 67) rfl)
theorem wd_68 {a0 : Array Value} {Z : State} (hw : ∀ d ∈ tables_1, d.before a0 Z = true) : (Jvm.Cond.constantLong "java/time/Instant" (26 : Nat) (1000000000 : Int64)).before a0 Z = true := hw _ (List.mem_of_getElem? (i := 68) rfl)
theorem wd_69 {a0 : Array Value} {Z : State} (hw : ∀ d ∈ tables_1, d.before a0 Z = true) : (Jvm.Cond.fieldLink "java/time/Instant" (144 : Nat) "java/time/Instant" "nanos" "I").before a0 Z = true := hw _ (List.mem_of_getElem? (i := 69) rfl)
theorem wd_70 {a0 : Array Value} {Z : State} (hw : ∀ d ∈ tables_1, d.before a0 Z = true) : (Jvm.Cond.laysFinal "java/time/Instant" "java/time/Instant" "nanos" "I").before a0 Z = true := hw _ (List.mem_of_getElem? (i := 70) rfl)
theorem wd_71 {a0 : Array Value} {Z : State} (hw : ∀ d ∈ tables_1, d.before a0 Z = true) : (Jvm.Cond.methodLink "java/time/Instant" (68 : Nat) ({ cls := "java/time/Instant", name := "ofEpochSecond", desc := "(JJ)Ljava/time/Instant;" } : Jvm.MethodName)).before a0 Z = true := hw _ (List.mem_of_getElem? (i := 71) rfl)
theorem wd_72 {a0 : Array Value} {Z : State} (hw : ∀ d ∈ tables_1, d.before a0 Z = true) : (Jvm.Cond.static ({ cls := "java/time/Instant", name := "ofEpochSecond", desc := "(JJ)Ljava/time/Instant;" } : Jvm.MethodName)).before a0 Z = true := hw _ (List.mem_of_getElem? (i := 72) rfl)
theorem wd_73 {a0 : Array Value} {Z : State} (hw : ∀ d ∈ tables_1, d.before a0 Z = true) : (Jvm.Cond.code ({ cls := "java/time/Instant", name := "ofEpochSecond", desc := "(JJ)Ljava/time/Instant;" } : Jvm.MethodName) jdk_2320_method_4_code (7 : Nat) (Option.some (Jvm.ClassFile.FieldType.object "java/time/Instant"))).before a0 Z = true := hw _ (List.mem_of_getElem? (i := 73) rfl)
theorem wd_74 {a0 : Array Value} {Z : State} (hw : ∀ d ∈ tables_1, d.before a0 Z = true) : (Jvm.Cond.methodLink "java/time/Instant" (28 : Nat) ({ cls := "java/lang/Math", name := "floorDiv", desc := "(JJ)J" } : Jvm.MethodName)).before a0 Z = true := hw _ (List.mem_of_getElem? (i := 74) rfl)
theorem wd_75 {a0 : Array Value} {Z : State} (hw : ∀ d ∈ tables_1, d.before a0 Z = true) : (Jvm.Cond.static ({ cls := "java/lang/Math", name := "floorDiv", desc := "(JJ)J" } : Jvm.MethodName)).before a0 Z = true := hw _ (List.mem_of_getElem? (i := 75) rfl)
theorem wd_76 {a0 : Array Value} {Z : State} (hw : ∀ d ∈ tables_1, d.before a0 Z = true) : (Jvm.Cond.code ({ cls := "java/lang/Math", name := "floorDiv", desc := "(JJ)J" } : Jvm.MethodName) jdk_29_method_49_code (6 : Nat) (Option.some Jvm.ClassFile.FieldType.long)).before a0 Z = true := hw _ (List.mem_of_getElem? (i := 76) rfl)
theorem wd_77 {a0 : Array Value} {Z : State} (hw : ∀ d ∈ tables_1, d.before a0 Z = true) : (Jvm.Cond.methodLink "java/time/Instant" (37 : Nat) ({ cls := "java/lang/Math", name := "floorMod", desc := "(JJ)J" } : Jvm.MethodName)).before a0 Z = true := hw _ (List.mem_of_getElem? (i := 77) rfl)
theorem wd_78 {a0 : Array Value} {Z : State} (hw : ∀ d ∈ tables_1, d.before a0 Z = true) : (Jvm.Cond.static ({ cls := "java/lang/Math", name := "floorMod", desc := "(JJ)J" } : Jvm.MethodName)).before a0 Z = true := hw _ (List.mem_of_getElem? (i := 78) rfl)
theorem wd_79 {a0 : Array Value} {Z : State} (hw : ∀ d ∈ tables_1, d.before a0 Z = true) : (Jvm.Cond.code ({ cls := "java/lang/Math", name := "floorMod", desc := "(JJ)J" } : Jvm.MethodName) jdk_29_method_52_code (6 : Nat) (Option.some Jvm.ClassFile.FieldType.long)).before a0 Z = true := hw _ (List.mem_of_getElem? (i := 79) rfl)
theorem wd_80 {a0 : Array Value} {Z : State} (hw : ∀ d ∈ tables_1, d.before a0 Z = true) : (Jvm.Cond.methodLink "java/time/Instant" (20 : Nat) ({ cls := "java/time/Instant", name := "create", desc := "(JI)Ljava/time/Instant;" } : Jvm.MethodName)).before a0 Z = true := hw _ (List.mem_of_getElem? (i := 80) rfl)
theorem wd_81 {a0 : Array Value} {Z : State} (hw : ∀ d ∈ tables_1, d.before a0 Z = true) : (Jvm.Cond.static ({ cls := "java/time/Instant", name := "create", desc := "(JI)Ljava/time/Instant;" } : Jvm.MethodName)).before a0 Z = true := hw _ (List.mem_of_getElem? (i := 81) rfl)
theorem wd_82 {a0 : Array Value} {Z : State} (hw : ∀ d ∈ tables_1, d.before a0 Z = true) : (Jvm.Cond.code ({ cls := "java/time/Instant", name := "create", desc := "(JI)Ljava/time/Instant;" } : Jvm.MethodName) jdk_2320_method_8_code (3 : Nat) (Option.some (Jvm.ClassFile.FieldType.object "java/time/Instant"))).before a0 Z = true := hw _ (List.mem_of_getElem? (i := 82) rfl)
theorem wd_83 {a0 : Array Value} {Z : State} (hw : ∀ d ∈ tables_1, d.before a0 Z = true) : (Jvm.Cond.constantLong "java/time/Instant" (125 : Nat) (-31557014167219200 : Int64)).before a0 Z = true := hw _ (List.mem_of_getElem? (i := 83) rfl)
theorem wd_84 {a0 : Array Value} {Z : State} (hw : ∀ d ∈ tables_1, d.before a0 Z = true) : (Jvm.Cond.constantLong "java/time/Instant" (127 : Nat) (31556889864403199 : Int64)).before a0 Z = true := hw _ (List.mem_of_getElem? (i := 84) rfl)
theorem wd_85 {a0 : Array Value} {Z : State} (hw : ∀ d ∈ tables_1, d.before a0 Z = true) : (Jvm.Cond.classLink "java/time/Instant" (21 : Nat) "java/time/Instant").before a0 Z = true := hw _ (List.mem_of_getElem? (i := 85) rfl)
theorem wd_86 {a0 : Array Value} {Z : State} (hw : ∀ d ∈ tables_1, d.before a0 Z = true) : (Jvm.Cond.instantiable "java/time/Instant" (2 : Nat)).before a0 Z = true := hw _ (List.mem_of_getElem? (i := 86) rfl)
theorem wd_87 {a0 : Array Value} {Z : State} (hw : ∀ d ∈ tables_1, d.before a0 Z = true) : (Jvm.Cond.methodLink "java/time/Instant" (134 : Nat) ({ cls := "java/time/Instant", name := "<init>", desc := "(JI)V" } : Jvm.MethodName)).before a0 Z = true := hw _ (List.mem_of_getElem? (i := 87) rfl)
theorem wd_88 {a0 : Array Value} {Z : State} (hw : ∀ d ∈ tables_1, d.before a0 Z = true) : (Jvm.Cond.instanceMethod ({ cls := "java/time/Instant", name := "<init>", desc := "(JI)V" } : Jvm.MethodName)).before a0 Z = true := hw _ (List.mem_of_getElem? (i := 88) rfl)
theorem wd_90 {a0 : Array Value} {Z : State} (hw : ∀ d ∈ tables_1, d.before a0 Z = true) : (Jvm.Cond.code ({ cls := "java/time/Instant", name := "<init>", desc := "(JI)V" } : Jvm.MethodName) jdk_2320_method_9_code (4 : Nat) (Option.none : Option Jvm.ClassFile.FieldType)).before a0 Z = true := hw _ (List.mem_of_getElem? (i := 90) rfl)
theorem wd_91 {a0 : Array Value} {Z : State} (hw : ∀ d ∈ tables_1, d.before a0 Z = true) : (Jvm.Cond.methodLink "java/time/Instant" (137 : Nat) ({ cls := "java/lang/Object", name := "<init>", desc := "()V" } : Jvm.MethodName)).before a0 Z = true := hw _ (List.mem_of_getElem? (i := 91) rfl)
theorem wd_92 {a0 : Array Value} {Z : State} (hw : ∀ d ∈ tables_1, d.before a0 Z = true) : (Jvm.Cond.methodLink "com/example/hallstatt/hallstatt/api/ListingParameters" (52 : Nat) ({ cls := "com/example/hallstatt/hallstatt/api/ListingParameters", name := "inRange", desc := "(Ljava/time/Instant;)Z" } : Jvm.MethodName)).before a0 Z = true := hw _ (List.mem_of_getElem? (i := 92) rfl)
theorem wd_93 {a0 : Array Value} {Z : State} (hw : ∀ d ∈ tables_1, d.before a0 Z = true) : (Jvm.Cond.static ({ cls := "com/example/hallstatt/hallstatt/api/ListingParameters", name := "inRange", desc := "(Ljava/time/Instant;)Z" } : Jvm.MethodName)).before a0 Z = true := hw _ (List.mem_of_getElem? (i := 93) rfl)
theorem wd_94 {a0 : Array Value} {Z : State} (hw : ∀ d ∈ tables_1, d.before a0 Z = true) : (Jvm.Cond.code ({ cls := "com/example/hallstatt/hallstatt/api/ListingParameters", name := "inRange", desc := "(Ljava/time/Instant;)Z" } : Jvm.MethodName) prog_12_method_8_code (1 : Nat) (Option.some Jvm.ClassFile.FieldType.boolean)).before a0 Z = true := hw _ (List.mem_of_getElem? (i := 94) rfl)
theorem wd_95 {a0 : Array Value} {Z : State} (hw : ∀ d ∈ tables_1, d.before a0 Z = true) : (Jvm.Cond.fieldLink "com/example/hallstatt/hallstatt/api/ListingParameters" (156 : Nat) "com/example/hallstatt/hallstatt/api/ListingParameters" "EARLIEST" "Ljava/time/Instant;").before a0 Z = true := hw _ (List.mem_of_getElem? (i := 95) rfl)
theorem wd_96 {a0 : Array Value} {Z : State} (hw : ∀ d ∈ tables_1, d.before a0 Z = true) : (Jvm.Cond.laysStatic "com/example/hallstatt/hallstatt/api/ListingParameters" "EARLIEST" "Ljava/time/Instant;").before a0 Z = true := hw _ (List.mem_of_getElem? (i := 96) rfl)
theorem wd_97 {a0 : Array Value} {Z : State} (hw : ∀ d ∈ tables_1, d.before a0 Z = true) : (Jvm.Cond.methodLink "com/example/hallstatt/hallstatt/api/ListingParameters" (159 : Nat) ({ cls := "java/time/Instant", name := "isBefore", desc := "(Ljava/time/Instant;)Z" } : Jvm.MethodName)).before a0 Z = true := hw _ (List.mem_of_getElem? (i := 97) rfl)
theorem wd_98 {a0 : Array Value} {Z : State} (hw : ∀ d ∈ tables_1, d.before a0 Z = true) : (Jvm.Cond.declares ({ cls := "java/time/Instant", name := "isBefore", desc := "(Ljava/time/Instant;)Z" } : Jvm.MethodName)).before a0 Z = true := hw _ (List.mem_of_getElem? (i := 98) rfl)
theorem wd_99 {a0 : Array Value} {Z : State} (hw : ∀ d ∈ tables_1, d.before a0 Z = true) : (Jvm.Cond.instanceMethod ({ cls := "java/time/Instant", name := "isBefore", desc := "(Ljava/time/Instant;)Z" } : Jvm.MethodName)).before a0 Z = true := hw _ (List.mem_of_getElem? (i := 99) rfl)
theorem wd_100 {a0 : Array Value} {Z : State} (hw : ∀ d ∈ tables_1, d.before a0 Z = true) : (Jvm.Cond.selects "java/time/Instant" ({ cls := "java/time/Instant", name := "isBefore", desc := "(Ljava/time/Instant;)Z" } : Jvm.MethodName) ({ cls := "java/time/Instant", name := "isBefore", desc := "(Ljava/time/Instant;)Z" } : Jvm.MethodName)).before a0 Z = true := hw _ (List.mem_of_getElem? (i := 100) rfl)
theorem wd_101 {a0 : Array Value} {Z : State} (hw : ∀ d ∈ tables_1, d.before a0 Z = true) : (Jvm.Cond.code ({ cls := "java/time/Instant", name := "isBefore", desc := "(Ljava/time/Instant;)Z" } : Jvm.MethodName) jdk_2320_method_43_code (2 : Nat) (Option.some Jvm.ClassFile.FieldType.boolean)).before a0 Z = true := hw _ (List.mem_of_getElem? (i := 101) rfl)
theorem wd_102 {a0 : Array Value} {Z : State} (hw : ∀ d ∈ tables_1, d.before a0 Z = true) : (Jvm.Cond.methodLink "java/time/Instant" (371 : Nat) ({ cls := "java/time/Instant", name := "compareTo", desc := "(Ljava/time/Instant;)I" } : Jvm.MethodName)).before a0 Z = true := hw _ (List.mem_of_getElem? (i := 102) rfl)
theorem wd_103 {a0 : Array Value} {Z : State} (hw : ∀ d ∈ tables_1, d.before a0 Z = true) : (Jvm.Cond.declares ({ cls := "java/time/Instant", name := "compareTo", desc := "(Ljava/time/Instant;)I" } : Jvm.MethodName)).before a0 Z = true := hw _ (List.mem_of_getElem? (i := 103) rfl)
theorem wd_104 {a0 : Array Value} {Z : State} (hw : ∀ d ∈ tables_1, d.before a0 Z = true) : (Jvm.Cond.instanceMethod ({ cls := "java/time/Instant", name := "compareTo", desc := "(Ljava/time/Instant;)I" } : Jvm.MethodName)).before a0 Z = true := hw _ (List.mem_of_getElem? (i := 104) rfl)
theorem wd_105 {a0 : Array Value} {Z : State} (hw : ∀ d ∈ tables_1, d.before a0 Z = true) : (Jvm.Cond.selects "java/time/Instant" ({ cls := "java/time/Instant", name := "compareTo", desc := "(Ljava/time/Instant;)I" } : Jvm.MethodName) ({ cls := "java/time/Instant", name := "compareTo", desc := "(Ljava/time/Instant;)I" } : Jvm.MethodName)).before a0 Z = true := hw _ (List.mem_of_getElem? (i := 105) rfl)
theorem wd_106 {a0 : Array Value} {Z : State} (hw : ∀ d ∈ tables_1, d.before a0 Z = true) : (Jvm.Cond.code ({ cls := "java/time/Instant", name := "compareTo", desc := "(Ljava/time/Instant;)I" } : Jvm.MethodName) jdk_2320_method_41_code (3 : Nat) (Option.some Jvm.ClassFile.FieldType.int)).before a0 Z = true := hw _ (List.mem_of_getElem? (i := 106) rfl)
theorem wd_107 {a0 : Array Value} {Z : State} (hw : ∀ d ∈ tables_1, d.before a0 Z = true) : (Jvm.Cond.methodLink "java/time/Instant" (367 : Nat) ({ cls := "java/lang/Long", name := "compare", desc := "(JJ)I" } : Jvm.MethodName)).before a0 Z = true := hw _ (List.mem_of_getElem? (i := 107) rfl)
theorem wd_108 {a0 : Array Value} {Z : State} (hw : ∀ d ∈ tables_1, d.before a0 Z = true) : (Jvm.Cond.static ({ cls := "java/lang/Long", name := "compare", desc := "(JJ)I" } : Jvm.MethodName)).before a0 Z = true := hw _ (List.mem_of_getElem? (i := 108) rfl)
theorem wd_109 {a0 : Array Value} {Z : State} (hw : ∀ d ∈ tables_1, d.before a0 Z = true) : (Jvm.Cond.initialized "java/lang/Long").before a0 Z = true := hw _ (List.mem_of_getElem? (i := 109) rfl)
theorem wd_110 {a0 : Array Value} {Z : State} (hw : ∀ d ∈ tables_1, d.before a0 Z = true) : (Jvm.Cond.code ({ cls := "java/lang/Long", name := "compare", desc := "(JJ)I" } : Jvm.MethodName) jdk_35_method_42_code (4 : Nat) (Option.some Jvm.ClassFile.FieldType.int)).before a0 Z = true := hw _ (List.mem_of_getElem? (i := 110) rfl)
theorem wd_111 {a0 : Array Value} {Z : State} (hw : ∀ d ∈ tables_1, d.before a0 Z = true) : (Jvm.Cond.fieldLink "com/example/hallstatt/hallstatt/api/ListingParameters" (162 : Nat) "com/example/hallstatt/hallstatt/api/ListingParameters" "BEYOND_LATEST" "Ljava/time/Instant;").before a0 Z = true := hw _ (List.mem_of_getElem? (i := 111) rfl)
theorem wd_112 {a0 : Array Value} {Z : State} (hw : ∀ d ∈ tables_1, d.before a0 Z = true) : (Jvm.Cond.laysStatic "com/example/hallstatt/hallstatt/api/ListingParameters" "BEYOND_LATEST" "Ljava/time/Instant;").before a0 Z = true := hw _ (List.mem_of_getElem? (i := 112) rfl)
theorem wd_113 {a0 : Array Value} {Z : State} (hw : ∀ d ∈ tables_1, d.before a0 Z = true) : (Jvm.Cond.methodLink "com/example/hallstatt/hallstatt/api/ListingParametersPositionTimePinLaw" (31 : Nat) ({ cls := "com/example/hallstatt/hallstatt/api/ListingParameters", name := "micros", desc := "(Ljava/time/Instant;)J" } : Jvm.MethodName)).before a0 Z = true := hw _ (List.mem_of_getElem? (i := 113) rfl)
theorem wd_114 {a0 : Array Value} {Z : State} (hw : ∀ d ∈ tables_1, d.before a0 Z = true) : (Jvm.Cond.static ({ cls := "com/example/hallstatt/hallstatt/api/ListingParameters", name := "micros", desc := "(Ljava/time/Instant;)J" } : Jvm.MethodName)).before a0 Z = true := hw _ (List.mem_of_getElem? (i := 114) rfl)
theorem wd_115 {a0 : Array Value} {Z : State} (hw : ∀ d ∈ tables_1, d.before a0 Z = true) : (Jvm.Cond.code ({ cls := "com/example/hallstatt/hallstatt/api/ListingParameters", name := "micros", desc := "(Ljava/time/Instant;)J" } : Jvm.MethodName) prog_12_method_6_code (1 : Nat) (Option.some Jvm.ClassFile.FieldType.long)).before a0 Z = true := hw _ (List.mem_of_getElem? (i := 115) rfl)
theorem wd_116 {a0 : Array Value} {Z : State} (hw : ∀ d ∈ tables_1, d.before a0 Z = true) : (Jvm.Cond.methodLink "com/example/hallstatt/hallstatt/api/ListingParameters" (132 : Nat) ({ cls := "java/time/Instant", name := "getEpochSecond", desc := "()J" } : Jvm.MethodName)).before a0 Z = true := hw _ (List.mem_of_getElem? (i := 116) rfl)
theorem wd_117 {a0 : Array Value} {Z : State} (hw : ∀ d ∈ tables_1, d.before a0 Z = true) : (Jvm.Cond.declares ({ cls := "java/time/Instant", name := "getEpochSecond", desc := "()J" } : Jvm.MethodName)).before a0 Z = true := hw _ (List.mem_of_getElem? (i := 117) rfl)
theorem wd_118 {a0 : Array Value} {Z : State} (hw : ∀ d ∈ tables_1, d.before a0 Z = true) : (Jvm.Cond.instanceMethod ({ cls := "java/time/Instant", name := "getEpochSecond", desc := "()J" } : Jvm.MethodName)).before a0 Z = true := hw _ (List.mem_of_getElem? (i := 118) rfl)
theorem wd_119 {a0 : Array Value} {Z : State} (hw : ∀ d ∈ tables_1, d.before a0 Z = true) : (Jvm.Cond.selects "java/time/Instant" ({ cls := "java/time/Instant", name := "getEpochSecond", desc := "()J" } : Jvm.MethodName) ({ cls := "java/time/Instant", name := "getEpochSecond", desc := "()J" } : Jvm.MethodName)).before a0 Z = true := hw _ (List.mem_of_getElem? (i := 119) rfl)
theorem wd_120 {a0 : Array Value} {Z : State} (hw : ∀ d ∈ tables_1, d.before a0 Z = true) : (Jvm.Cond.code ({ cls := "java/time/Instant", name := "getEpochSecond", desc := "()J" } : Jvm.MethodName) jdk_2320_method_15_code (1 : Nat) (Option.some Jvm.ClassFile.FieldType.long)).before a0 Z = true := hw _ (List.mem_of_getElem? (i := 120) rfl)
theorem wd_121 {a0 : Array Value} {Z : State} (hw : ∀ d ∈ tables_1, d.before a0 Z = true) : (Jvm.Cond.constantLong "com/example/hallstatt/hallstatt/api/ListingParameters" (136 : Nat) (1000000 : Int64)).before a0 Z = true := hw _ (List.mem_of_getElem? (i := 121) rfl)
theorem wd_122 {a0 : Array Value} {Z : State} (hw : ∀ d ∈ tables_1, d.before a0 Z = true) : (Jvm.Cond.methodLink "com/example/hallstatt/hallstatt/api/ListingParameters" (138 : Nat) ({ cls := "java/time/Instant", name := "getNano", desc := "()I" } : Jvm.MethodName)).before a0 Z = true := hw _ (List.mem_of_getElem? (i := 122) rfl)
theorem wd_123 {a0 : Array Value} {Z : State} (hw : ∀ d ∈ tables_1, d.before a0 Z = true) : (Jvm.Cond.declares ({ cls := "java/time/Instant", name := "getNano", desc := "()I" } : Jvm.MethodName)).before a0 Z = true := hw _ (List.mem_of_getElem? (i := 123) rfl)
theorem wd_124 {a0 : Array Value} {Z : State} (hw : ∀ d ∈ tables_1, d.before a0 Z = true) : (Jvm.Cond.instanceMethod ({ cls := "java/time/Instant", name := "getNano", desc := "()I" } : Jvm.MethodName)).before a0 Z = true := hw _ (List.mem_of_getElem? (i := 124) rfl)
theorem wd_125 {a0 : Array Value} {Z : State} (hw : ∀ d ∈ tables_1, d.before a0 Z = true) : (Jvm.Cond.selects "java/time/Instant" ({ cls := "java/time/Instant", name := "getNano", desc := "()I" } : Jvm.MethodName) ({ cls := "java/time/Instant", name := "getNano", desc := "()I" } : Jvm.MethodName)).before a0 Z = true := hw _ (List.mem_of_getElem? (i := 125) rfl)
theorem wd_126 {a0 : Array Value} {Z : State} (hw : ∀ d ∈ tables_1, d.before a0 Z = true) : (Jvm.Cond.code ({ cls := "java/time/Instant", name := "getNano", desc := "()I" } : Jvm.MethodName) jdk_2320_method_16_code (1 : Nat) (Option.some Jvm.ClassFile.FieldType.int)).before a0 Z = true := hw _ (List.mem_of_getElem? (i := 126) rfl)
theorem wd_127 {a0 : Array Value} {Z : State} (hw : ∀ d ∈ tables_1, d.before a0 Z = true) : (Jvm.Cond.constantLong "com/example/hallstatt/hallstatt/api/ListingParametersPositionTimePinLaw" (13 : Nat) (9223372036854775807 : Int64)).before a0 Z = true := hw _ (List.mem_of_getElem? (i := 127) rfl)
theorem wd_128 {a0 : Array Value} {Z : State} (hw : ∀ d ∈ tables_1, d.before a0 Z = true) : (Jvm.Cond.constantLong "com/example/hallstatt/hallstatt/api/ListingParametersPositionTimePinLaw" (17 : Nat) (1000000000 : Int64)).before a0 Z = true := hw _ (List.mem_of_getElem? (i := 128) rfl)
theorem pn_0 : plainName "java/lang/StringLatin1" = true := by first | (simp [plainName, overriddenIn]; done) | decide +kernel
theorem pn_1 : plainName "java/lang/String" = true := by first | (simp [plainName, overriddenIn]; done) | decide +kernel
theorem pn_2 : plainName "java/lang/Enum" = true := by first | (simp [plainName, overriddenIn]; done) | decide +kernel
theorem pn_3 : plainName "java/lang/Long" = true := by first | (simp [plainName, overriddenIn]; done) | decide +kernel
theorem pn_4 : plainName "java/time/Instant" = true := by first | (simp [plainName, overriddenIn]; done) | decide +kernel
theorem pn_5 : plainName "com/example/hallstatt/hallstatt/api/ListingParameters" = true := by first | (simp [plainName, overriddenIn]; done) | decide +kernel
theorem pn_6 : plainName "com/example/hallstatt/hallstatt/api/ListingParametersPositionTimePinLaw" = true := by first | (simp [plainName, overriddenIn]; done) | decide +kernel
theorem pd_0 : parseMethodDescriptor "(C)Z" = some ⟨[.char], some .boolean⟩ := by decide +kernel
theorem pd_1 : parseMethodDescriptor "(C)[B" = some ⟨[.char], some (.array .byte)⟩ := by decide +kernel
theorem pd_2 : parseMethodDescriptor "([BB)V" = some ⟨[(.array .byte), .byte], none⟩ := by decide +kernel
theorem pd_3 : parseMethodDescriptor "(JI)V" = some ⟨[.long, .int], none⟩ := by decide +kernel
theorem pd_4 : parseMethodDescriptor "(JJ)J" = some ⟨[.long, .long], some .long⟩ := by decide +kernel
theorem pd_5 : parseMethodDescriptor "(JI)Ljava/time/Instant;" = some ⟨[.long, .int], some (.object "java/time/Instant")⟩ := by decide +kernel
theorem pd_6 : parseMethodDescriptor "(JJ)Ljava/time/Instant;" = some ⟨[.long, .long], some (.object "java/time/Instant")⟩ := by decide +kernel
theorem pd_7 : parseMethodDescriptor "()I" = some ⟨[], some .int⟩ := by decide +kernel
theorem pd_8 : parseMethodDescriptor "(JJ)I" = some ⟨[.long, .long], some .int⟩ := by decide +kernel
theorem pd_9 : parseMethodDescriptor "(Ljava/time/Instant;)I" = some ⟨[(.object "java/time/Instant")], some .int⟩ := by decide +kernel
theorem pd_10 : parseMethodDescriptor "(Ljava/time/Instant;)Z" = some ⟨[(.object "java/time/Instant")], some .boolean⟩ := by decide +kernel
theorem pd_11 : parseMethodDescriptor "(JLjava/time/temporal/TemporalUnit;)Ljava/time/Instant;" = some ⟨[.long, (.object "java/time/temporal/TemporalUnit")], some (.object "java/time/Instant")⟩ := by decide +kernel
theorem pd_12 : parseMethodDescriptor "()J" = some ⟨[], some .long⟩ := by decide +kernel
theorem pd_13 : parseMethodDescriptor "(C)Ljava/lang/String;" = some ⟨[.char], some (.object "java/lang/String")⟩ := by decide +kernel
theorem pd_14 : parseMethodDescriptor "(Ljava/lang/String;J)Ljava/time/Instant;" = some ⟨[(.object "java/lang/String"), .long], some (.object "java/time/Instant")⟩ := by decide +kernel
theorem pd_15 : parseMethodDescriptor "(Ljava/time/Instant;)J" = some ⟨[(.object "java/time/Instant")], some .long⟩ := by decide +kernel
theorem pf_0 : parseFieldDescriptor "[B" = some (.array .byte) := by decide +kernel
theorem pf_1 : parseFieldDescriptor "B" = some .byte := by decide +kernel
theorem pf_2 : parseFieldDescriptor "J" = some .long := by decide +kernel
theorem pf_3 : parseFieldDescriptor "I" = some .int := by decide +kernel
theorem sn_0 {a0 : Array Value} {Z : State} (hw : ∀ d ∈ tables_1, d.before a0 Z = true) : Jvm.RoadKit.slotOf Z "java/lang/String" "coder" "B" ≠ Jvm.RoadKit.slotOf Z "java/lang/String" "value" "[B" := slot_ne (a0 := a0) (C := "java/lang/String") (Or.inr (wd_28 hw)) (Or.inr (wd_26 hw)) (by decide) pf_1 pf_0
theorem sn_1 {a0 : Array Value} {Z : State} (hw : ∀ d ∈ tables_1, d.before a0 Z = true) : Jvm.RoadKit.slotOf Z "java/lang/String" "value" "[B" ≠ Jvm.RoadKit.slotOf Z "java/lang/String" "coder" "B" := slot_ne (a0 := a0) (C := "java/lang/String") (Or.inr (wd_26 hw)) (Or.inr (wd_28 hw)) (by decide) pf_0 pf_1
theorem sn_2 {a0 : Array Value} {Z : State} (hw : ∀ d ∈ tables_1, d.before a0 Z = true) : Jvm.RoadKit.slotOf Z "java/time/Instant" "nanos" "I" ≠ Jvm.RoadKit.slotOf Z "java/time/Instant" "seconds" "J" := slot_ne (a0 := a0) (C := "java/time/Instant") (Or.inr (wd_70 hw)) (Or.inr (wd_63 hw)) (by decide) pf_3 pf_2
theorem sn_3 {a0 : Array Value} {Z : State} (hw : ∀ d ∈ tables_1, d.before a0 Z = true) : Jvm.RoadKit.slotOf Z "java/time/Instant" "seconds" "J" ≠ Jvm.RoadKit.slotOf Z "java/time/Instant" "nanos" "I" := slot_ne (a0 := a0) (C := "java/time/Instant") (Or.inr (wd_63 hw)) (Or.inr (wd_70 hw)) (by decide) pf_2 pf_3
theorem d_jdk_2320_method_15_code_0 : decode jdk_2320_method_15_code 0 = .ok (.aload_n 0, 1) := by decide +kernel
theorem d_jdk_2320_method_15_code_1 : decode jdk_2320_method_15_code 1 = .ok (.getfield 140, 3) := by decide +kernel
theorem d_jdk_2320_method_15_code_4 : decode jdk_2320_method_15_code 4 = .ok (.lreturn, 1) := by decide +kernel
theorem d_jdk_2320_method_16_code_0 : decode jdk_2320_method_16_code 0 = .ok (.aload_n 0, 1) := by decide +kernel
theorem d_jdk_2320_method_16_code_1 : decode jdk_2320_method_16_code 1 = .ok (.getfield 144, 3) := by decide +kernel
theorem d_jdk_2320_method_16_code_4 : decode jdk_2320_method_16_code 4 = .ok (.ireturn, 1) := by decide +kernel
theorem d_jdk_2320_method_21_code_0 : decode jdk_2320_method_21_code 0 = .ok (.aload_n 3, 1) := by decide +kernel
theorem d_jdk_2320_method_21_code_1 : decode jdk_2320_method_21_code 1 = .ok (.instanceof 160, 3) := by decide +kernel
theorem d_jdk_2320_method_21_code_11 : decode jdk_2320_method_21_code 11 = .ok (.astore 4, 2) := by decide +kernel
theorem d_jdk_2320_method_21_code_13 : decode jdk_2320_method_21_code 13 = .ok (.getstatic 253, 3) := by decide +kernel
theorem d_jdk_2320_method_21_code_16 : decode jdk_2320_method_21_code 16 = .ok (.aload 4, 2) := by decide +kernel
theorem d_jdk_2320_method_21_code_18 : decode jdk_2320_method_21_code 18 = .ok (.invokevirtual 256, 3) := by decide +kernel
theorem d_jdk_2320_method_21_code_196 : decode jdk_2320_method_21_code 196 = .ok (.areturn, 1) := by decide +kernel
theorem d_jdk_2320_method_21_code_21 : decode jdk_2320_method_21_code 21 = .ok (.iaload, 1) := by decide +kernel
theorem d_jdk_2320_method_21_code_22 : decode jdk_2320_method_21_code 22 = .ok (.tableswitch 146 1 8 #[46, 54, 75, 83, 91, 104, 118, 132], 46) := by decide +kernel
theorem d_jdk_2320_method_21_code_4 : decode jdk_2320_method_21_code 4 = .ok (.ifCond .eq 193, 3) := by decide +kernel
theorem d_jdk_2320_method_21_code_7 : decode jdk_2320_method_21_code 7 = .ok (.aload_n 3, 1) := by decide +kernel
theorem d_jdk_2320_method_21_code_76 : decode jdk_2320_method_21_code 76 = .ok (.aload_n 0, 1) := by decide +kernel
theorem d_jdk_2320_method_21_code_77 : decode jdk_2320_method_21_code 77 = .ok (.lload_n 1, 1) := by decide +kernel
theorem d_jdk_2320_method_21_code_78 : decode jdk_2320_method_21_code 78 = .ok (.ldc2_w 257, 3) := by decide +kernel
theorem d_jdk_2320_method_21_code_8 : decode jdk_2320_method_21_code 8 = .ok (.checkcast 160, 3) := by decide +kernel
theorem d_jdk_2320_method_21_code_81 : decode jdk_2320_method_21_code 81 = .ok (.ldiv, 1) := by decide +kernel
theorem d_jdk_2320_method_21_code_82 : decode jdk_2320_method_21_code 82 = .ok (.lload_n 1, 1) := by decide +kernel
theorem d_jdk_2320_method_21_code_83 : decode jdk_2320_method_21_code 83 = .ok (.ldc2_w 257, 3) := by decide +kernel
theorem d_jdk_2320_method_21_code_86 : decode jdk_2320_method_21_code 86 = .ok (.lrem, 1) := by decide +kernel
theorem d_jdk_2320_method_21_code_87 : decode jdk_2320_method_21_code 87 = .ok (.ldc2_w 259, 3) := by decide +kernel
theorem d_jdk_2320_method_21_code_90 : decode jdk_2320_method_21_code 90 = .ok (.lmul, 1) := by decide +kernel
theorem d_jdk_2320_method_21_code_91 : decode jdk_2320_method_21_code 91 = .ok (.invokevirtual 261, 3) := by decide +kernel
theorem d_jdk_2320_method_21_code_94 : decode jdk_2320_method_21_code 94 = .ok (.goto 102, 3) := by decide +kernel
theorem d_jdk_2320_method_25_code_0 : decode jdk_2320_method_25_code 0 = .ok (.lload_n 1, 1) := by decide +kernel
theorem d_jdk_2320_method_25_code_1 : decode jdk_2320_method_25_code 1 = .ok (.lload_n 3, 1) := by decide +kernel
theorem d_jdk_2320_method_25_code_10 : decode jdk_2320_method_25_code 10 = .ok (.aload_n 0, 1) := by decide +kernel
theorem d_jdk_2320_method_25_code_11 : decode jdk_2320_method_25_code 11 = .ok (.getfield 140, 3) := by decide +kernel
theorem d_jdk_2320_method_25_code_14 : decode jdk_2320_method_25_code 14 = .ok (.lload_n 1, 1) := by decide +kernel
theorem d_jdk_2320_method_25_code_15 : decode jdk_2320_method_25_code 15 = .ok (.invokestatic 34, 3) := by decide +kernel
theorem d_jdk_2320_method_25_code_18 : decode jdk_2320_method_25_code 18 = .ok (.lstore 5, 2) := by decide +kernel
theorem d_jdk_2320_method_25_code_2 : decode jdk_2320_method_25_code 2 = .ok (.lor, 1) := by decide +kernel
theorem d_jdk_2320_method_25_code_20 : decode jdk_2320_method_25_code 20 = .ok (.lload 5, 2) := by decide +kernel
theorem d_jdk_2320_method_25_code_22 : decode jdk_2320_method_25_code 22 = .ok (.lload_n 3, 1) := by decide +kernel
theorem d_jdk_2320_method_25_code_23 : decode jdk_2320_method_25_code 23 = .ok (.ldc2_w 26, 3) := by decide +kernel
theorem d_jdk_2320_method_25_code_26 : decode jdk_2320_method_25_code 26 = .ok (.ldiv, 1) := by decide +kernel
theorem d_jdk_2320_method_25_code_27 : decode jdk_2320_method_25_code 27 = .ok (.invokestatic 34, 3) := by decide +kernel
theorem d_jdk_2320_method_25_code_3 : decode jdk_2320_method_25_code 3 = .ok (.lconst 0, 1) := by decide +kernel
theorem d_jdk_2320_method_25_code_30 : decode jdk_2320_method_25_code 30 = .ok (.lstore 5, 2) := by decide +kernel
theorem d_jdk_2320_method_25_code_32 : decode jdk_2320_method_25_code 32 = .ok (.lload_n 3, 1) := by decide +kernel
theorem d_jdk_2320_method_25_code_33 : decode jdk_2320_method_25_code 33 = .ok (.ldc2_w 26, 3) := by decide +kernel
theorem d_jdk_2320_method_25_code_36 : decode jdk_2320_method_25_code 36 = .ok (.lrem, 1) := by decide +kernel
theorem d_jdk_2320_method_25_code_37 : decode jdk_2320_method_25_code 37 = .ok (.lstore_n 3, 1) := by decide +kernel
theorem d_jdk_2320_method_25_code_38 : decode jdk_2320_method_25_code 38 = .ok (.aload_n 0, 1) := by decide +kernel
theorem d_jdk_2320_method_25_code_39 : decode jdk_2320_method_25_code 39 = .ok (.getfield 144, 3) := by decide +kernel
theorem d_jdk_2320_method_25_code_4 : decode jdk_2320_method_25_code 4 = .ok (.lcmp, 1) := by decide +kernel
theorem d_jdk_2320_method_25_code_42 : decode jdk_2320_method_25_code 42 = .ok (.i2l, 1) := by decide +kernel
theorem d_jdk_2320_method_25_code_43 : decode jdk_2320_method_25_code 43 = .ok (.lload_n 3, 1) := by decide +kernel
theorem d_jdk_2320_method_25_code_44 : decode jdk_2320_method_25_code 44 = .ok (.ladd, 1) := by decide +kernel
theorem d_jdk_2320_method_25_code_45 : decode jdk_2320_method_25_code 45 = .ok (.lstore 7, 2) := by decide +kernel
theorem d_jdk_2320_method_25_code_47 : decode jdk_2320_method_25_code 47 = .ok (.lload 5, 2) := by decide +kernel
theorem d_jdk_2320_method_25_code_49 : decode jdk_2320_method_25_code 49 = .ok (.lload 7, 2) := by decide +kernel
theorem d_jdk_2320_method_25_code_5 : decode jdk_2320_method_25_code 5 = .ok (.ifCond .ne 5, 3) := by decide +kernel
theorem d_jdk_2320_method_25_code_51 : decode jdk_2320_method_25_code 51 = .ok (.invokestatic 68, 3) := by decide +kernel
theorem d_jdk_2320_method_25_code_54 : decode jdk_2320_method_25_code 54 = .ok (.areturn, 1) := by decide +kernel
theorem d_jdk_2320_method_25_code_8 : decode jdk_2320_method_25_code 8 = .ok (.aload_n 0, 1) := by decide +kernel
theorem d_jdk_2320_method_25_code_9 : decode jdk_2320_method_25_code 9 = .ok (.areturn, 1) := by decide +kernel
theorem d_jdk_2320_method_41_code_0 : decode jdk_2320_method_41_code 0 = .ok (.aload_n 0, 1) := by decide +kernel
theorem d_jdk_2320_method_41_code_1 : decode jdk_2320_method_41_code 1 = .ok (.getfield 140, 3) := by decide +kernel
theorem d_jdk_2320_method_41_code_11 : decode jdk_2320_method_41_code 11 = .ok (.istore_n 2, 1) := by decide +kernel
theorem d_jdk_2320_method_41_code_12 : decode jdk_2320_method_41_code 12 = .ok (.iload_n 2, 1) := by decide +kernel
theorem d_jdk_2320_method_41_code_13 : decode jdk_2320_method_41_code 13 = .ok (.ifCond .eq 5, 3) := by decide +kernel
theorem d_jdk_2320_method_41_code_16 : decode jdk_2320_method_41_code 16 = .ok (.iload_n 2, 1) := by decide +kernel
theorem d_jdk_2320_method_41_code_17 : decode jdk_2320_method_41_code 17 = .ok (.ireturn, 1) := by decide +kernel
theorem d_jdk_2320_method_41_code_18 : decode jdk_2320_method_41_code 18 = .ok (.aload_n 0, 1) := by decide +kernel
theorem d_jdk_2320_method_41_code_19 : decode jdk_2320_method_41_code 19 = .ok (.getfield 144, 3) := by decide +kernel
theorem d_jdk_2320_method_41_code_22 : decode jdk_2320_method_41_code 22 = .ok (.aload_n 1, 1) := by decide +kernel
theorem d_jdk_2320_method_41_code_23 : decode jdk_2320_method_41_code 23 = .ok (.getfield 144, 3) := by decide +kernel
theorem d_jdk_2320_method_41_code_26 : decode jdk_2320_method_41_code 26 = .ok (.isub, 1) := by decide +kernel
theorem d_jdk_2320_method_41_code_27 : decode jdk_2320_method_41_code 27 = .ok (.ireturn, 1) := by decide +kernel
theorem d_jdk_2320_method_41_code_4 : decode jdk_2320_method_41_code 4 = .ok (.aload_n 1, 1) := by decide +kernel
theorem d_jdk_2320_method_41_code_5 : decode jdk_2320_method_41_code 5 = .ok (.getfield 140, 3) := by decide +kernel
theorem d_jdk_2320_method_41_code_8 : decode jdk_2320_method_41_code 8 = .ok (.invokestatic 367, 3) := by decide +kernel
theorem d_jdk_2320_method_43_code_0 : decode jdk_2320_method_43_code 0 = .ok (.aload_n 0, 1) := by decide +kernel
theorem d_jdk_2320_method_43_code_1 : decode jdk_2320_method_43_code 1 = .ok (.aload_n 1, 1) := by decide +kernel
theorem d_jdk_2320_method_43_code_12 : decode jdk_2320_method_43_code 12 = .ok (.iconst 0, 1) := by decide +kernel
theorem d_jdk_2320_method_43_code_13 : decode jdk_2320_method_43_code 13 = .ok (.ireturn, 1) := by decide +kernel
theorem d_jdk_2320_method_43_code_2 : decode jdk_2320_method_43_code 2 = .ok (.invokevirtual 371, 3) := by decide +kernel
theorem d_jdk_2320_method_43_code_5 : decode jdk_2320_method_43_code 5 = .ok (.ifCond .ge 7, 3) := by decide +kernel
theorem d_jdk_2320_method_43_code_8 : decode jdk_2320_method_43_code 8 = .ok (.iconst 1, 1) := by decide +kernel
theorem d_jdk_2320_method_43_code_9 : decode jdk_2320_method_43_code 9 = .ok (.goto 4, 3) := by decide +kernel
theorem d_jdk_2320_method_4_code_0 : decode jdk_2320_method_4_code 0 = .ok (.lload_n 0, 1) := by decide +kernel
theorem d_jdk_2320_method_4_code_1 : decode jdk_2320_method_4_code 1 = .ok (.lload_n 2, 1) := by decide +kernel
theorem d_jdk_2320_method_4_code_11 : decode jdk_2320_method_4_code 11 = .ok (.lstore 4, 2) := by decide +kernel
theorem d_jdk_2320_method_4_code_13 : decode jdk_2320_method_4_code 13 = .ok (.lload_n 2, 1) := by decide +kernel
theorem d_jdk_2320_method_4_code_14 : decode jdk_2320_method_4_code 14 = .ok (.ldc2_w 26, 3) := by decide +kernel
theorem d_jdk_2320_method_4_code_17 : decode jdk_2320_method_4_code 17 = .ok (.invokestatic 37, 3) := by decide +kernel
theorem d_jdk_2320_method_4_code_2 : decode jdk_2320_method_4_code 2 = .ok (.ldc2_w 26, 3) := by decide +kernel
theorem d_jdk_2320_method_4_code_20 : decode jdk_2320_method_4_code 20 = .ok (.l2i, 1) := by decide +kernel
theorem d_jdk_2320_method_4_code_21 : decode jdk_2320_method_4_code 21 = .ok (.istore 6, 2) := by decide +kernel
theorem d_jdk_2320_method_4_code_23 : decode jdk_2320_method_4_code 23 = .ok (.lload 4, 2) := by decide +kernel
theorem d_jdk_2320_method_4_code_25 : decode jdk_2320_method_4_code 25 = .ok (.iload 6, 2) := by decide +kernel
theorem d_jdk_2320_method_4_code_27 : decode jdk_2320_method_4_code 27 = .ok (.invokestatic 20, 3) := by decide +kernel
theorem d_jdk_2320_method_4_code_30 : decode jdk_2320_method_4_code 30 = .ok (.areturn, 1) := by decide +kernel
theorem d_jdk_2320_method_4_code_5 : decode jdk_2320_method_4_code 5 = .ok (.invokestatic 28, 3) := by decide +kernel
theorem d_jdk_2320_method_4_code_8 : decode jdk_2320_method_4_code 8 = .ok (.invokestatic 34, 3) := by decide +kernel
theorem d_jdk_2320_method_8_code_0 : decode jdk_2320_method_8_code 0 = .ok (.lload_n 0, 1) := by decide +kernel
theorem d_jdk_2320_method_8_code_1 : decode jdk_2320_method_8_code 1 = .ok (.iload_n 2, 1) := by decide +kernel
theorem d_jdk_2320_method_8_code_13 : decode jdk_2320_method_8_code 13 = .ok (.lload_n 0, 1) := by decide +kernel
theorem d_jdk_2320_method_8_code_14 : decode jdk_2320_method_8_code 14 = .ok (.ldc2_w 125, 3) := by decide +kernel
theorem d_jdk_2320_method_8_code_17 : decode jdk_2320_method_8_code 17 = .ok (.lcmp, 1) := by decide +kernel
theorem d_jdk_2320_method_8_code_18 : decode jdk_2320_method_8_code 18 = .ok (.ifCond .lt 11, 3) := by decide +kernel
theorem d_jdk_2320_method_8_code_2 : decode jdk_2320_method_8_code 2 = .ok (.i2l, 1) := by decide +kernel
theorem d_jdk_2320_method_8_code_21 : decode jdk_2320_method_8_code 21 = .ok (.lload_n 0, 1) := by decide +kernel
theorem d_jdk_2320_method_8_code_22 : decode jdk_2320_method_8_code 22 = .ok (.ldc2_w 127, 3) := by decide +kernel
theorem d_jdk_2320_method_8_code_25 : decode jdk_2320_method_8_code 25 = .ok (.lcmp, 1) := by decide +kernel
theorem d_jdk_2320_method_8_code_26 : decode jdk_2320_method_8_code 26 = .ok (.ifCond .le 13, 3) := by decide +kernel
theorem d_jdk_2320_method_8_code_3 : decode jdk_2320_method_8_code 3 = .ok (.lor, 1) := by decide +kernel
theorem d_jdk_2320_method_8_code_39 : decode jdk_2320_method_8_code 39 = .ok (.new 21, 3) := by decide +kernel
theorem d_jdk_2320_method_8_code_4 : decode jdk_2320_method_8_code 4 = .ok (.lconst 0, 1) := by decide +kernel
theorem d_jdk_2320_method_8_code_42 : decode jdk_2320_method_8_code 42 = .ok (.dup, 1) := by decide +kernel
theorem d_jdk_2320_method_8_code_43 : decode jdk_2320_method_8_code 43 = .ok (.lload_n 0, 1) := by decide +kernel
theorem d_jdk_2320_method_8_code_44 : decode jdk_2320_method_8_code 44 = .ok (.iload_n 2, 1) := by decide +kernel
theorem d_jdk_2320_method_8_code_45 : decode jdk_2320_method_8_code 45 = .ok (.invokespecial 134, 3) := by decide +kernel
theorem d_jdk_2320_method_8_code_48 : decode jdk_2320_method_8_code 48 = .ok (.areturn, 1) := by decide +kernel
theorem d_jdk_2320_method_8_code_5 : decode jdk_2320_method_8_code 5 = .ok (.lcmp, 1) := by decide +kernel
theorem d_jdk_2320_method_8_code_6 : decode jdk_2320_method_8_code 6 = .ok (.ifCond .ne 7, 3) := by decide +kernel
theorem d_jdk_2320_method_9_code_0 : decode jdk_2320_method_9_code 0 = .ok (.aload_n 0, 1) := by decide +kernel
theorem d_jdk_2320_method_9_code_1 : decode jdk_2320_method_9_code 1 = .ok (.invokespecial 137, 3) := by decide +kernel
theorem d_jdk_2320_method_9_code_10 : decode jdk_2320_method_9_code 10 = .ok (.iload_n 3, 1) := by decide +kernel
theorem d_jdk_2320_method_9_code_11 : decode jdk_2320_method_9_code 11 = .ok (.putfield 144, 3) := by decide +kernel
theorem d_jdk_2320_method_9_code_14 : decode jdk_2320_method_9_code 14 = .ok (.return_, 1) := by decide +kernel
theorem d_jdk_2320_method_9_code_4 : decode jdk_2320_method_9_code 4 = .ok (.aload_n 0, 1) := by decide +kernel
theorem d_jdk_2320_method_9_code_5 : decode jdk_2320_method_9_code 5 = .ok (.lload_n 1, 1) := by decide +kernel
theorem d_jdk_2320_method_9_code_6 : decode jdk_2320_method_9_code 6 = .ok (.putfield 140, 3) := by decide +kernel
theorem d_jdk_2320_method_9_code_9 : decode jdk_2320_method_9_code 9 = .ok (.aload_n 0, 1) := by decide +kernel
theorem d_jdk_29_method_25_code_0 : decode jdk_29_method_25_code 0 = .ok (.lload_n 0, 1) := by decide +kernel
theorem d_jdk_29_method_25_code_1 : decode jdk_29_method_25_code 1 = .ok (.lload_n 2, 1) := by decide +kernel
theorem d_jdk_29_method_25_code_10 : decode jdk_29_method_25_code 10 = .ok (.lload 4, 2) := by decide +kernel
theorem d_jdk_29_method_25_code_12 : decode jdk_29_method_25_code 12 = .ok (.lxor, 1) := by decide +kernel
theorem d_jdk_29_method_25_code_13 : decode jdk_29_method_25_code 13 = .ok (.land, 1) := by decide +kernel
theorem d_jdk_29_method_25_code_14 : decode jdk_29_method_25_code 14 = .ok (.lconst 0, 1) := by decide +kernel
theorem d_jdk_29_method_25_code_15 : decode jdk_29_method_25_code 15 = .ok (.lcmp, 1) := by decide +kernel
theorem d_jdk_29_method_25_code_16 : decode jdk_29_method_25_code 16 = .ok (.ifCond .ge 13, 3) := by decide +kernel
theorem d_jdk_29_method_25_code_2 : decode jdk_29_method_25_code 2 = .ok (.ladd, 1) := by decide +kernel
theorem d_jdk_29_method_25_code_29 : decode jdk_29_method_25_code 29 = .ok (.lload 4, 2) := by decide +kernel
theorem d_jdk_29_method_25_code_3 : decode jdk_29_method_25_code 3 = .ok (.lstore 4, 2) := by decide +kernel
theorem d_jdk_29_method_25_code_31 : decode jdk_29_method_25_code 31 = .ok (.lreturn, 1) := by decide +kernel
theorem d_jdk_29_method_25_code_5 : decode jdk_29_method_25_code 5 = .ok (.lload_n 0, 1) := by decide +kernel
theorem d_jdk_29_method_25_code_6 : decode jdk_29_method_25_code 6 = .ok (.lload 4, 2) := by decide +kernel
theorem d_jdk_29_method_25_code_8 : decode jdk_29_method_25_code 8 = .ok (.lxor, 1) := by decide +kernel
theorem d_jdk_29_method_25_code_9 : decode jdk_29_method_25_code 9 = .ok (.lload_n 2, 1) := by decide +kernel
theorem d_jdk_29_method_49_code_0 : decode jdk_29_method_49_code 0 = .ok (.lload_n 0, 1) := by decide +kernel
theorem d_jdk_29_method_49_code_1 : decode jdk_29_method_49_code 1 = .ok (.lload_n 2, 1) := by decide +kernel
theorem d_jdk_29_method_49_code_10 : decode jdk_29_method_49_code 10 = .ok (.ifCond .ge 17, 3) := by decide +kernel
theorem d_jdk_29_method_49_code_13 : decode jdk_29_method_49_code 13 = .ok (.lload 4, 2) := by decide +kernel
theorem d_jdk_29_method_49_code_15 : decode jdk_29_method_49_code 15 = .ok (.lload_n 2, 1) := by decide +kernel
theorem d_jdk_29_method_49_code_16 : decode jdk_29_method_49_code 16 = .ok (.lmul, 1) := by decide +kernel
theorem d_jdk_29_method_49_code_17 : decode jdk_29_method_49_code 17 = .ok (.lload_n 0, 1) := by decide +kernel
theorem d_jdk_29_method_49_code_18 : decode jdk_29_method_49_code 18 = .ok (.lcmp, 1) := by decide +kernel
theorem d_jdk_29_method_49_code_19 : decode jdk_29_method_49_code 19 = .ok (.ifCond .eq 8, 3) := by decide +kernel
theorem d_jdk_29_method_49_code_2 : decode jdk_29_method_49_code 2 = .ok (.ldiv, 1) := by decide +kernel
theorem d_jdk_29_method_49_code_22 : decode jdk_29_method_49_code 22 = .ok (.lload 4, 2) := by decide +kernel
theorem d_jdk_29_method_49_code_24 : decode jdk_29_method_49_code 24 = .ok (.lconst 1, 1) := by decide +kernel
theorem d_jdk_29_method_49_code_25 : decode jdk_29_method_49_code 25 = .ok (.lsub, 1) := by decide +kernel
theorem d_jdk_29_method_49_code_26 : decode jdk_29_method_49_code 26 = .ok (.lreturn, 1) := by decide +kernel
theorem d_jdk_29_method_49_code_27 : decode jdk_29_method_49_code 27 = .ok (.lload 4, 2) := by decide +kernel
theorem d_jdk_29_method_49_code_29 : decode jdk_29_method_49_code 29 = .ok (.lreturn, 1) := by decide +kernel
theorem d_jdk_29_method_49_code_3 : decode jdk_29_method_49_code 3 = .ok (.lstore 4, 2) := by decide +kernel
theorem d_jdk_29_method_49_code_5 : decode jdk_29_method_49_code 5 = .ok (.lload_n 0, 1) := by decide +kernel
theorem d_jdk_29_method_49_code_6 : decode jdk_29_method_49_code 6 = .ok (.lload_n 2, 1) := by decide +kernel
theorem d_jdk_29_method_49_code_7 : decode jdk_29_method_49_code 7 = .ok (.lxor, 1) := by decide +kernel
theorem d_jdk_29_method_49_code_8 : decode jdk_29_method_49_code 8 = .ok (.lconst 0, 1) := by decide +kernel
theorem d_jdk_29_method_49_code_9 : decode jdk_29_method_49_code 9 = .ok (.lcmp, 1) := by decide +kernel
theorem d_jdk_29_method_52_code_0 : decode jdk_29_method_52_code 0 = .ok (.lload_n 0, 1) := by decide +kernel
theorem d_jdk_29_method_52_code_1 : decode jdk_29_method_52_code 1 = .ok (.lload_n 2, 1) := by decide +kernel
theorem d_jdk_29_method_52_code_10 : decode jdk_29_method_52_code 10 = .ok (.ifCond .ge 15, 3) := by decide +kernel
theorem d_jdk_29_method_52_code_13 : decode jdk_29_method_52_code 13 = .ok (.lload 4, 2) := by decide +kernel
theorem d_jdk_29_method_52_code_15 : decode jdk_29_method_52_code 15 = .ok (.lconst 0, 1) := by decide +kernel
theorem d_jdk_29_method_52_code_16 : decode jdk_29_method_52_code 16 = .ok (.lcmp, 1) := by decide +kernel
theorem d_jdk_29_method_52_code_17 : decode jdk_29_method_52_code 17 = .ok (.ifCond .eq 8, 3) := by decide +kernel
theorem d_jdk_29_method_52_code_2 : decode jdk_29_method_52_code 2 = .ok (.lrem, 1) := by decide +kernel
theorem d_jdk_29_method_52_code_20 : decode jdk_29_method_52_code 20 = .ok (.lload 4, 2) := by decide +kernel
theorem d_jdk_29_method_52_code_22 : decode jdk_29_method_52_code 22 = .ok (.lload_n 2, 1) := by decide +kernel
theorem d_jdk_29_method_52_code_23 : decode jdk_29_method_52_code 23 = .ok (.ladd, 1) := by decide +kernel
theorem d_jdk_29_method_52_code_24 : decode jdk_29_method_52_code 24 = .ok (.lreturn, 1) := by decide +kernel
theorem d_jdk_29_method_52_code_25 : decode jdk_29_method_52_code 25 = .ok (.lload 4, 2) := by decide +kernel
theorem d_jdk_29_method_52_code_27 : decode jdk_29_method_52_code 27 = .ok (.lreturn, 1) := by decide +kernel
theorem d_jdk_29_method_52_code_3 : decode jdk_29_method_52_code 3 = .ok (.lstore 4, 2) := by decide +kernel
theorem d_jdk_29_method_52_code_5 : decode jdk_29_method_52_code 5 = .ok (.lload_n 0, 1) := by decide +kernel
theorem d_jdk_29_method_52_code_6 : decode jdk_29_method_52_code 6 = .ok (.lload_n 2, 1) := by decide +kernel
theorem d_jdk_29_method_52_code_7 : decode jdk_29_method_52_code 7 = .ok (.lxor, 1) := by decide +kernel
theorem d_jdk_29_method_52_code_8 : decode jdk_29_method_52_code 8 = .ok (.lconst 0, 1) := by decide +kernel
theorem d_jdk_29_method_52_code_9 : decode jdk_29_method_52_code 9 = .ok (.lcmp, 1) := by decide +kernel
theorem d_jdk_35_method_42_code_0 : decode jdk_35_method_42_code 0 = .ok (.lload_n 0, 1) := by decide +kernel
theorem d_jdk_35_method_42_code_1 : decode jdk_35_method_42_code 1 = .ok (.lload_n 2, 1) := by decide +kernel
theorem d_jdk_35_method_42_code_10 : decode jdk_35_method_42_code 10 = .ok (.lload_n 0, 1) := by decide +kernel
theorem d_jdk_35_method_42_code_11 : decode jdk_35_method_42_code 11 = .ok (.lload_n 2, 1) := by decide +kernel
theorem d_jdk_35_method_42_code_12 : decode jdk_35_method_42_code 12 = .ok (.lcmp, 1) := by decide +kernel
theorem d_jdk_35_method_42_code_13 : decode jdk_35_method_42_code 13 = .ok (.ifCond .ne 7, 3) := by decide +kernel
theorem d_jdk_35_method_42_code_16 : decode jdk_35_method_42_code 16 = .ok (.iconst 0, 1) := by decide +kernel
theorem d_jdk_35_method_42_code_17 : decode jdk_35_method_42_code 17 = .ok (.goto 4, 3) := by decide +kernel
theorem d_jdk_35_method_42_code_2 : decode jdk_35_method_42_code 2 = .ok (.lcmp, 1) := by decide +kernel
theorem d_jdk_35_method_42_code_20 : decode jdk_35_method_42_code 20 = .ok (.iconst 1, 1) := by decide +kernel
theorem d_jdk_35_method_42_code_21 : decode jdk_35_method_42_code 21 = .ok (.ireturn, 1) := by decide +kernel
theorem d_jdk_35_method_42_code_3 : decode jdk_35_method_42_code 3 = .ok (.ifCond .ge 7, 3) := by decide +kernel
theorem d_jdk_35_method_42_code_6 : decode jdk_35_method_42_code 6 = .ok (.iconst (-1), 1) := by decide +kernel
theorem d_jdk_35_method_42_code_7 : decode jdk_35_method_42_code 7 = .ok (.goto 14, 3) := by decide +kernel
theorem d_jdk_37_method_2_code_0 : decode jdk_37_method_2_code 0 = .ok (.aload_n 0, 1) := by decide +kernel
theorem d_jdk_37_method_2_code_1 : decode jdk_37_method_2_code 1 = .ok (.getfield 7, 3) := by decide +kernel
theorem d_jdk_37_method_2_code_4 : decode jdk_37_method_2_code 4 = .ok (.ireturn, 1) := by decide +kernel
theorem d_jdk_42_method_139_code_0 : decode jdk_42_method_139_code 0 = .ok (.getstatic 38, 3) := by decide +kernel
theorem d_jdk_42_method_139_code_10 : decode jdk_42_method_139_code 10 = .ok (.ifCond .eq 16, 3) := by decide +kernel
theorem d_jdk_42_method_139_code_13 : decode jdk_42_method_139_code 13 = .ok (.new 10, 3) := by decide +kernel
theorem d_jdk_42_method_139_code_16 : decode jdk_42_method_139_code 16 = .ok (.dup, 1) := by decide +kernel
theorem d_jdk_42_method_139_code_17 : decode jdk_42_method_139_code 17 = .ok (.iload_n 0, 1) := by decide +kernel
theorem d_jdk_42_method_139_code_18 : decode jdk_42_method_139_code 18 = .ok (.invokestatic 1018, 3) := by decide +kernel
theorem d_jdk_42_method_139_code_21 : decode jdk_42_method_139_code 21 = .ok (.iconst 0, 1) := by decide +kernel
theorem d_jdk_42_method_139_code_22 : decode jdk_42_method_139_code 22 = .ok (.invokespecial 209, 3) := by decide +kernel
theorem d_jdk_42_method_139_code_25 : decode jdk_42_method_139_code 25 = .ok (.areturn, 1) := by decide +kernel
theorem d_jdk_42_method_139_code_3 : decode jdk_42_method_139_code 3 = .ok (.ifCond .eq 23, 3) := by decide +kernel
theorem d_jdk_42_method_139_code_6 : decode jdk_42_method_139_code 6 = .ok (.iload_n 0, 1) := by decide +kernel
theorem d_jdk_42_method_139_code_7 : decode jdk_42_method_139_code 7 = .ok (.invokestatic 1015, 3) := by decide +kernel
theorem d_jdk_42_method_151_code_0 : decode jdk_42_method_151_code 0 = .ok (.aload_n 0, 1) := by decide +kernel
theorem d_jdk_42_method_151_code_1 : decode jdk_42_method_151_code 1 = .ok (.invokespecial 1, 3) := by decide +kernel
theorem d_jdk_42_method_151_code_10 : decode jdk_42_method_151_code 10 = .ok (.iload_n 2, 1) := by decide +kernel
theorem d_jdk_42_method_151_code_11 : decode jdk_42_method_151_code 11 = .ok (.putfield 15, 3) := by decide +kernel
theorem d_jdk_42_method_151_code_14 : decode jdk_42_method_151_code 14 = .ok (.return_, 1) := by decide +kernel
theorem d_jdk_42_method_151_code_4 : decode jdk_42_method_151_code 4 = .ok (.aload_n 0, 1) := by decide +kernel
theorem d_jdk_42_method_151_code_5 : decode jdk_42_method_151_code 5 = .ok (.aload_n 1, 1) := by decide +kernel
theorem d_jdk_42_method_151_code_6 : decode jdk_42_method_151_code 6 = .ok (.putfield 9, 3) := by decide +kernel
theorem d_jdk_42_method_151_code_9 : decode jdk_42_method_151_code 9 = .ok (.aload_n 0, 1) := by decide +kernel
theorem d_jdk_43_method_3_code_0 : decode jdk_43_method_3_code 0 = .ok (.iload_n 0, 1) := by decide +kernel
theorem d_jdk_43_method_3_code_1 : decode jdk_43_method_3_code 1 = .ok (.sipush 255, 3) := by decide +kernel
theorem d_jdk_43_method_3_code_12 : decode jdk_43_method_3_code 12 = .ok (.ireturn, 1) := by decide +kernel
theorem d_jdk_43_method_3_code_4 : decode jdk_43_method_3_code 4 = .ok (.if_icmp .gt 7, 3) := by decide +kernel
theorem d_jdk_43_method_3_code_7 : decode jdk_43_method_3_code 7 = .ok (.iconst 1, 1) := by decide +kernel
theorem d_jdk_43_method_3_code_8 : decode jdk_43_method_3_code 8 = .ok (.goto 4, 3) := by decide +kernel
theorem d_jdk_43_method_46_code_0 : decode jdk_43_method_46_code 0 = .ok (.iconst 1, 1) := by decide +kernel
theorem d_jdk_43_method_46_code_1 : decode jdk_43_method_46_code 1 = .ok (.newarray .byte, 2) := by decide +kernel
theorem d_jdk_43_method_46_code_3 : decode jdk_43_method_46_code 3 = .ok (.dup, 1) := by decide +kernel
theorem d_jdk_43_method_46_code_4 : decode jdk_43_method_46_code 4 = .ok (.iconst 0, 1) := by decide +kernel
theorem d_jdk_43_method_46_code_5 : decode jdk_43_method_46_code 5 = .ok (.iload_n 0, 1) := by decide +kernel
theorem d_jdk_43_method_46_code_6 : decode jdk_43_method_46_code 6 = .ok (.i2b, 1) := by decide +kernel
theorem d_jdk_43_method_46_code_7 : decode jdk_43_method_46_code 7 = .ok (.bastore, 1) := by decide +kernel
theorem d_jdk_43_method_46_code_8 : decode jdk_43_method_46_code 8 = .ok (.areturn, 1) := by decide +kernel
theorem d_prog_12_method_6_code_0 : decode prog_12_method_6_code 0 = .ok (.aload_n 0, 1) := by decide +kernel
theorem d_prog_12_method_6_code_1 : decode prog_12_method_6_code 1 = .ok (.invokevirtual 132, 3) := by decide +kernel
theorem d_prog_12_method_6_code_12 : decode prog_12_method_6_code 12 = .ok (.sipush 1000, 3) := by decide +kernel
theorem d_prog_12_method_6_code_15 : decode prog_12_method_6_code 15 = .ok (.idiv, 1) := by decide +kernel
theorem d_prog_12_method_6_code_16 : decode prog_12_method_6_code 16 = .ok (.i2l, 1) := by decide +kernel
theorem d_prog_12_method_6_code_17 : decode prog_12_method_6_code 17 = .ok (.ladd, 1) := by decide +kernel
theorem d_prog_12_method_6_code_18 : decode prog_12_method_6_code 18 = .ok (.lreturn, 1) := by decide +kernel
theorem d_prog_12_method_6_code_4 : decode prog_12_method_6_code 4 = .ok (.ldc2_w 136, 3) := by decide +kernel
theorem d_prog_12_method_6_code_7 : decode prog_12_method_6_code 7 = .ok (.lmul, 1) := by decide +kernel
theorem d_prog_12_method_6_code_8 : decode prog_12_method_6_code 8 = .ok (.aload_n 0, 1) := by decide +kernel
theorem d_prog_12_method_6_code_9 : decode prog_12_method_6_code 9 = .ok (.invokevirtual 138, 3) := by decide +kernel
theorem d_prog_12_method_7_code_0 : decode prog_12_method_7_code 0 = .ok (.getstatic 142, 3) := by decide +kernel
theorem d_prog_12_method_7_code_10 : decode prog_12_method_7_code 10 = .ok (.astore_n 3, 1) := by decide +kernel
theorem d_prog_12_method_7_code_11 : decode prog_12_method_7_code 11 = .ok (.aload_n 3, 1) := by decide +kernel
theorem d_prog_12_method_7_code_12 : decode prog_12_method_7_code 12 = .ok (.invokestatic 52, 3) := by decide +kernel
theorem d_prog_12_method_7_code_15 : decode prog_12_method_7_code 15 = .ok (.ifCond .ne 8, 3) := by decide +kernel
theorem d_prog_12_method_7_code_23 : decode prog_12_method_7_code 23 = .ok (.aload_n 3, 1) := by decide +kernel
theorem d_prog_12_method_7_code_24 : decode prog_12_method_7_code 24 = .ok (.areturn, 1) := by decide +kernel
theorem d_prog_12_method_7_code_3 : decode prog_12_method_7_code 3 = .ok (.lload_n 1, 1) := by decide +kernel
theorem d_prog_12_method_7_code_4 : decode prog_12_method_7_code 4 = .ok (.getstatic 146, 3) := by decide +kernel
theorem d_prog_12_method_7_code_7 : decode prog_12_method_7_code 7 = .ok (.invokevirtual 152, 3) := by decide +kernel
theorem d_prog_12_method_8_code_0 : decode prog_12_method_8_code 0 = .ok (.aload_n 0, 1) := by decide +kernel
theorem d_prog_12_method_8_code_1 : decode prog_12_method_8_code 1 = .ok (.getstatic 156, 3) := by decide +kernel
theorem d_prog_12_method_8_code_10 : decode prog_12_method_8_code 10 = .ok (.aload_n 0, 1) := by decide +kernel
theorem d_prog_12_method_8_code_11 : decode prog_12_method_8_code 11 = .ok (.getstatic 162, 3) := by decide +kernel
theorem d_prog_12_method_8_code_14 : decode prog_12_method_8_code 14 = .ok (.invokevirtual 159, 3) := by decide +kernel
theorem d_prog_12_method_8_code_17 : decode prog_12_method_8_code 17 = .ok (.ifCond .eq 7, 3) := by decide +kernel
theorem d_prog_12_method_8_code_20 : decode prog_12_method_8_code 20 = .ok (.iconst 1, 1) := by decide +kernel
theorem d_prog_12_method_8_code_21 : decode prog_12_method_8_code 21 = .ok (.goto 4, 3) := by decide +kernel
theorem d_prog_12_method_8_code_25 : decode prog_12_method_8_code 25 = .ok (.ireturn, 1) := by decide +kernel
theorem d_prog_12_method_8_code_4 : decode prog_12_method_8_code 4 = .ok (.invokevirtual 159, 3) := by decide +kernel
theorem d_prog_12_method_8_code_7 : decode prog_12_method_8_code 7 = .ok (.ifCond .ne 17, 3) := by decide +kernel
def St (Z : State) (ep : Addr) (mc : Addr) (sm : Addr) (ea : Addr) (be : Addr) (cz : Cell) (zc : Int32) : Prop := Sta Z Z.heap "java/lang/String" "COMPACT_STRINGS" "Z" (.int zc) ∧ ¬ zc = 0 ∧ Sta Z Z.heap "java/time/Instant" "EPOCH" "Ljava/time/Instant;" (.ref ep) ∧ Exa Z Z.heap ep "java/time/Instant" ∧ Fld Z Z.heap ep "java/time/Instant" "seconds" "J" (.long (0 : Int64)) ∧ Fld Z Z.heap ep "java/time/Instant" "nanos" "I" (.int (0 : Int32)) ∧ Sta Z Z.heap "java/time/temporal/ChronoUnit" "MICROS" "Ljava/time/temporal/ChronoUnit;" (.ref mc) ∧ Exa Z Z.heap mc "java/time/temporal/ChronoUnit" ∧ Fld Z Z.heap mc "java/lang/Enum" "ordinal" "I" (.int (1 : Int32)) ∧ Sta Z Z.heap "java/time/Instant$1" "$SwitchMap$java$time$temporal$ChronoUnit" "[I" (.ref sm) ∧ Arr Z Z.heap sm cz .int ∧ ¬ ((1 : Int32) < 0 ∨ cz.slots.size ≤ (1 : Int32).toNatClampNeg) ∧ cz.slots[(1 : Int32).toNatClampNeg]? = some (.int (2 : Int32)) ∧ Sta Z Z.heap "com/example/hallstatt/hallstatt/api/ListingParameters" "EARLIEST" "Ljava/time/Instant;" (.ref ea) ∧ Exa Z Z.heap ea "java/time/Instant" ∧ Fld Z Z.heap ea "java/time/Instant" "seconds" "J" (.long (-62167219200 : Int64)) ∧ Fld Z Z.heap ea "java/time/Instant" "nanos" "I" (.int (0 : Int32)) ∧ Sta Z Z.heap "com/example/hallstatt/hallstatt/api/ListingParameters" "BEYOND_LATEST" "Ljava/time/Instant;" (.ref be) ∧ Exa Z Z.heap be "java/time/Instant" ∧ Fld Z Z.heap be "java/time/Instant" "seconds" "J" (.long (253402300800 : Int64))
def fdivJ (x y : Int64) : Int64 := if (x ^^^ y) < 0 then (if (x / y) * y = x then x / y else x / y - 1) else x / y
def fmodJ (x y : Int64) : Int64 := if (x ^^^ y) < 0 then (if x % y = 0 then x % y else x % y + y) else x % y
def cmpJ (x y : Int64) : Int32 := if x < y then -1 else if x = y then 0 else 1
theorem i8_i8 (x : Int32) : x.toInt8.toInt32.toInt8.toInt32 = x.toInt8.toInt32 := by simp
theorem m255 (p : Int32) : ¬ (255 : Int32) < p &&& 255 := by
  have h := c_mask p 255 8 (by decide) (by decide)
  rw [Int32.lt_iff_toInt_lt, h]
  have : (255 : Int32).toInt = 255 := by decide
  omega
theorem or64_zero {x y : Int64} : (x ||| y) = 0 ↔ x = 0 ∧ y = 0 := by
  rw [← Int64.toBitVec_inj, ← Int64.toBitVec_inj, ← Int64.toBitVec_inj, Int64.toBitVec_or]
  exact BitVec.or_eq_zero_iff
theorem lit9 : (1000000000 : Int64).toInt = 1000000000 := by decide
theorem lit6 : (1000000 : Int64).toInt = 1000000 := by decide
theorem lit3 : (1000 : Int64).toInt = 1000 := by decide
theorem z64 : (0 : Int64).toInt = 0 := by decide
theorem q9 {y : Int64} (h1 : -1000000000 < y.toInt) (h2 : y.toInt < 1000000000) : y / 1000000000 = 0 ∧ y % 1000000000 = y := by
  have hd := c_ldiv y 1000000000 1000000000 lit9 (by decide)
  constructor
  · apply Int64.toInt_inj.mp
    rw [z64]
    rcases Int.lt_or_le y.toInt 0 with q | q
    · rw [hd.2 q]; omega
    · rw [hd.1 q]; omega
  · apply Int64.toInt_inj.mp
    rw [Int64.toInt_mod, lit9]
    have ht := tr y.toInt 1000000000
    rcases Int.lt_or_le y.toInt 0 with q | q
    · rw [ht.2 q]; omega
    · rw [ht.1 q]; omega
theorem fd9 {y : Int64} (h1 : -1000000000 < y.toInt) (h2 : y.toInt < 1000000000) : (0 ≤ y.toInt ∧ fdivJ y 1000000000 = 0 ∧ fmodJ y 1000000000 = y) ∨ (y.toInt < 0 ∧ fdivJ y 1000000000 = -1 ∧ (fmodJ y 1000000000).toInt = y.toInt + 1000000000) := by
  obtain ⟨e1, e2⟩ := q9 h1 h2
  have hs := c_xorSL y 1000000000
  rw [lit9] at hs
  rcases Int.lt_or_le y.toInt 0 with q | q
  · right
    have h3 : (y ^^^ 1000000000) < 0 := by rw [Int64.lt_iff_toInt_lt, z64]; exact hs.2.1 q (by omega)
    have hy : ¬ y = 0 := fun z => by rw [z, z64] at q; omega
    refine ⟨q, ?_, ?_⟩
    · rw [fdivJ, if_pos h3, e1, if_neg (by rw [show (0 : Int64) * 1000000000 = 0 from by decide]; exact fun z => hy z.symm)]; decide
    · rw [fmodJ, if_pos h3, e2, if_neg hy]
      have := c_ladd y 1000000000
      have := rng64 (y + 1000000000)
      rw [lit9] at *
      omega
  · left
    have h3 : ¬ (y ^^^ 1000000000) < 0 := by rw [Int64.lt_iff_toInt_lt, z64]; have := hs.2.2.2 q (by omega); omega
    exact ⟨q, by rw [fdivJ, if_neg h3, e1], by rw [fmodJ, if_neg h3, e2]⟩
abbrev Bnd (x1 y1 : Int64) : Prop := -62167219200 ≤ x1.toInt ∧ x1.toInt ≤ 253402300800 ∧ -1000000000 < y1.toInt ∧ y1.toInt < 1000000000
theorem m1lit : (-1 : Int64).toInt = -1 := by decide
/-- the sum's and the remainder's values -/
theorem oe_vals {x1 y1 : Int64} (hb : Bnd x1 y1) : ((x1 + fdivJ y1 1000000000).toInt = x1.toInt + (fdivJ y1 1000000000).toInt ∧ (fdivJ y1 1000000000).toInt * 1000000000 + (fmodJ y1 1000000000).toInt = y1.toInt ∧ -1 ≤ (fdivJ y1 1000000000).toInt ∧ (fdivJ y1 1000000000).toInt ≤ 0) ∧ 0 ≤ (fmodJ y1 1000000000).toInt ∧ (fmodJ y1 1000000000).toInt < 1000000000 ∧ (fmodJ y1 1000000000).toInt32.toInt = (fmodJ y1 1000000000).toInt := by
  obtain ⟨h1, h2, h3, h4⟩ := hb
  have hc := c_ladd x1 (fdivJ y1 1000000000)
  have hr := rng64 (x1 + fdivJ y1 1000000000)
  have hi := c_l2i (fmodJ y1 1000000000)
  have hj := rng32 (fmodJ y1 1000000000).toInt32
  rcases fd9 h3 h4 with ⟨q, e1, e2⟩ | ⟨q, e1, e2⟩
  · rw [e1] at hc hr ⊢
    rw [z64] at hc ⊢
    rw [e2] at hi hj ⊢
    omega
  · rw [e1] at hc hr ⊢
    rw [m1lit] at hc ⊢
    omega
theorem addOk {x y : Int64} (h1 : -9223372036854775808 ≤ x.toInt + y.toInt) (h2 : x.toInt + y.toInt < 9223372036854775808) : ¬ ((x ^^^ (x + y)) &&& (y ^^^ (x + y))) < 0 := by
  have hc := c_ladd x y
  have hr := rng64 (x + y)
  have e : (x + y).toInt = x.toInt + y.toInt := by omega
  have a1 := c_xorSL x (x + y)
  have a2 := c_xorSL y (x + y)
  have a3 := c_andSL (x ^^^ (x + y)) (y ^^^ (x + y))
  have hx := rng64 x
  have hy := rng64 y
  rw [Int64.lt_iff_toInt_lt, z64]
  rcases Int.lt_or_le x.toInt 0 with q1 | q1 <;> rcases Int.lt_or_le y.toInt 0 with q2 | q2 <;> rcases Int.lt_or_le (x + y).toInt 0 with q3 | q3
  · have := a3.2.1 (a1.1 q1 q3); omega
  · omega
  · have := a3.2.1 (a1.1 q1 q3); omega
  · have := a3.2.2 (a2.2.2.2 q2 q3); omega
  · have := a3.2.2 (a2.1 q2 q3); omega
  · have := a3.2.1 (a1.2.2.2 q1 q3); omega
  · omega
  · have := a3.2.1 (a1.2.2.2 q1 q3); omega
theorem oe_ov {x1 y1 : Int64} (hb : Bnd x1 y1) : ¬ ((x1 ^^^ (x1 + fdivJ y1 1000000000)) &&& (fdivJ y1 1000000000 ^^^ (x1 + fdivJ y1 1000000000))) < 0 := by
  have h := oe_vals hb
  obtain ⟨h1, h2, h3, h4⟩ := hb
  exact addOk (by omega) (by omega)
theorem oe_nz {x1 y1 : Int64} (hb : Bnd x1 y1) (hnz : ¬ x1.toInt * 1000000000 + y1.toInt = 0) : ¬ ((x1 + fdivJ y1 1000000000) ||| (fmodJ y1 1000000000).toInt32.toInt64) = 0 := fun q => by
  obtain ⟨q1, q2⟩ := or64_zero.mp q
  have h := oe_vals hb
  have e1 := congrArg Int64.toInt q1
  have e2 := congrArg Int64.toInt q2
  rw [z64] at e1 e2
  rw [Int32.toInt_toInt64] at e2
  omega
theorem oe_lo {x1 y1 : Int64} (hb : Bnd x1 y1) : ¬ (x1 + fdivJ y1 1000000000) < -31557014167219200 := by
  have h := oe_vals hb
  obtain ⟨h1, h2, h3, h4⟩ := hb
  rw [Int64.lt_iff_toInt_lt, show (-31557014167219200 : Int64).toInt = -31557014167219200 from by decide]
  omega
theorem oe_hi {x1 y1 : Int64} (hb : Bnd x1 y1) : ¬ 31556889864403199 < (x1 + fdivJ y1 1000000000) := by
  have h := oe_vals hb
  obtain ⟨h1, h2, h3, h4⟩ := hb
  rw [Int64.lt_iff_toInt_lt, show (31556889864403199 : Int64).toInt = 31556889864403199 from by decide]
  omega
theorem oe_res {x1 y1 : Int64} (hb : Bnd x1 y1) : (x1 + fdivJ y1 1000000000).toInt * 1000000000 + (fmodJ y1 1000000000).toInt32.toInt = x1.toInt * 1000000000 + y1.toInt ∧ 0 ≤ (fmodJ y1 1000000000).toInt32.toInt ∧ (fmodJ y1 1000000000).toInt32.toInt < 1000000000 := by
  have h := oe_vals hb
  omega
theorem pj_zero {x1 y1 : Int64} (h : (x1 ||| y1) = (0 : Int64)) : (0 : Int64).toInt * 1000000000 + (0 : Int32).toInt = x1.toInt * 1000000000 + y1.toInt ∧ 0 ≤ (0 : Int32).toInt ∧ (0 : Int32).toInt < 1000000000 := by
  obtain ⟨rfl, rfl⟩ := or64_zero.mp h
  decide
theorem a0x (x : Int64) : (0 : Int64) + x = x := by simp
theorem pj_ov1 {x1 y1 : Int64} (hb : Bnd x1 y1) : ¬ (((0 : Int64) ^^^ (0 + x1)) &&& (x1 ^^^ (0 + x1))) < 0 := by
  have := rng64 x1
  exact addOk (by rw [z64]; omega) (by rw [z64]; omega)
theorem pj_eqs {x1 y1 : Int64} (hb : Bnd x1 y1) : (0 : Int64) + x1 + y1 / 1000000000 = x1 ∧ (0 : Int32).toInt64 + y1 % 1000000000 = y1 := by
  obtain ⟨h1, h2, h3, h4⟩ := hb
  obtain ⟨e1, e2⟩ := q9 h3 h4
  rw [e1, e2, show (0 : Int32).toInt64 = 0 from by decide, a0x, a0x]
  exact ⟨by simp, rfl⟩
theorem pj_ov2 {x1 y1 : Int64} (hb : Bnd x1 y1) : ¬ (((0 : Int64) + x1 ^^^ ((0 : Int64) + x1 + y1 / 1000000000)) &&& (y1 / 1000000000 ^^^ ((0 : Int64) + x1 + y1 / 1000000000))) < 0 := by
  obtain ⟨h1, h2, h3, h4⟩ := hb
  obtain ⟨e1, e2⟩ := q9 h3 h4
  rw [e1, a0x]
  exact addOk (by rw [z64]; omega) (by rw [z64]; omega)
theorem pj_bnd {x1 y1 : Int64} (hb : Bnd x1 y1) : Bnd ((0 : Int64) + x1 + y1 / 1000000000) ((0 : Int32).toInt64 + y1 % 1000000000) := by
  rw [(pj_eqs hb).1, (pj_eqs hb).2]; exact hb
theorem pj_nz {x1 y1 : Int64} (hb : Bnd x1 y1) (h : ¬ (x1 ||| y1) = (0 : Int64)) : ¬ ((0 : Int64) + x1 + y1 / 1000000000).toInt * 1000000000 + ((0 : Int32).toInt64 + y1 % 1000000000).toInt = 0 := by
  rw [(pj_eqs hb).1, (pj_eqs hb).2]
  obtain ⟨h1, h2, h3, h4⟩ := hb
  intro q
  refine h (or64_zero.mpr ⟨Int64.toInt_inj.mp ?_, Int64.toInt_inj.mp ?_⟩) <;> rw [z64] <;> omega
theorem pj_res {x1 y1 se : Int64} {na : Int32} (hb : Bnd x1 y1) (h : se.toInt * 1000000000 + na.toInt = ((0 : Int64) + x1 + y1 / 1000000000).toInt * 1000000000 + ((0 : Int32).toInt64 + y1 % 1000000000).toInt ∧ 0 ≤ na.toInt ∧ na.toInt < 1000000000) : se.toInt * 1000000000 + na.toInt = x1.toInt * 1000000000 + y1.toInt ∧ 0 ≤ na.toInt ∧ na.toInt < 1000000000 := by
  rw [(pj_eqs hb).1, (pj_eqs hb).2] at h; exact h
abbrev Mb (m1 : Int64) : Prop := -62167219200000000 ≤ m1.toInt ∧ m1.toInt < 253402300800000000
theorem pu_vals {m1 : Int64} (hm : Mb m1) : (m1 / 1000000).toInt * 1000000000 + (m1 % 1000000 * 1000).toInt = m1.toInt * 1000 ∧ Bnd (m1 / 1000000) (m1 % 1000000 * 1000) := by
  obtain ⟨h1, h2⟩ := hm
  have hd := c_ldiv m1 1000000 1000000 lit6 (by decide)
  have ht := tr m1.toInt 1000000
  have hr : (m1 % 1000000).toInt = m1.toInt.tmod 1000000 := by rw [Int64.toInt_mod, lit6]
  have hc := c_lmul (m1 % 1000000) 1000
  have hg := rng64 (m1 % 1000000 * 1000)
  rw [lit3] at hc
  unfold Bnd
  rcases Int.lt_or_le m1.toInt 0 with q | q
  · rw [ht.2 q] at hr
    rw [hd.2 q]
    have e : (m1 % 1000000 * 1000).toInt = (m1 % 1000000).toInt * 1000 := by omega
    omega
  · rw [ht.1 q] at hr
    rw [hd.1 q]
    have e : (m1 % 1000000 * 1000).toInt = (m1 % 1000000).toInt * 1000 := by omega
    omega
theorem pu_bnd {m1 : Int64} (hm : Mb m1) : Bnd (m1 / 1000000) (m1 % 1000000 * 1000) := (pu_vals hm).2
theorem pu_res {m1 se : Int64} {na : Int32} (hm : Mb m1) (h : se.toInt * 1000000000 + na.toInt = (m1 / 1000000).toInt * 1000000000 + (m1 % 1000000 * 1000).toInt ∧ 0 ≤ na.toInt ∧ na.toInt < 1000000000) : se.toInt * 1000000 + na.toInt / 1000 = m1.toInt ∧ 0 ≤ na.toInt ∧ na.toInt < 1000000000 := by
  have := (pu_vals hm).1
  omega
theorem ce_ne {se : Int64} {na : Int32} (h : -62167219200 ≤ se.toInt ∧ 0 ≤ na.toInt) : ¬ cmpJ se (-62167219200) < 0 := by
  have q : ¬ se < -62167219200 := by rw [Int64.lt_iff_toInt_lt, show (-62167219200 : Int64).toInt = -62167219200 from by decide]; omega
  rw [cmpJ, if_neg q]
  split <;> decide
theorem ce_eq {se : Int64} {na : Int32} (h : -62167219200 ≤ se.toInt ∧ 0 ≤ na.toInt) : ¬ (na - (0 : Int32)) < 0 := by
  have hc := c_isub na 0
  have hr := rng32 (na - 0)
  have hn := rng32 na
  have z : (0 : Int32).toInt = 0 := by decide
  rw [Int32.lt_iff_toInt_lt, z]
  rw [z] at hc
  omega
theorem cb_lt' {se : Int64} (h : se.toInt < 253402300800) : cmpJ se 253402300800 = -1 := by
  have q : se < 253402300800 := by rw [Int64.lt_iff_toInt_lt, show (253402300800 : Int64).toInt = 253402300800 from by decide]; exact h
  rw [cmpJ, if_pos q]
theorem cb_ne {se : Int64} (h : se.toInt < 253402300800) : ¬ cmpJ se 253402300800 = 0 := by rw [cb_lt' h]; decide
theorem cb_lt {se : Int64} (h : se.toInt < 253402300800) : cmpJ se 253402300800 < 0 := by rw [cb_lt' h]; decide
theorem pt_ge {m1 se : Int64} {na : Int32} (hm : Mb m1) (h : se.toInt * 1000000 + na.toInt / 1000 = m1.toInt ∧ 0 ≤ na.toInt ∧ na.toInt < 1000000000) : -62167219200 ≤ se.toInt ∧ 0 ≤ na.toInt := by
  obtain ⟨h1, h2⟩ := hm
  omega
theorem pt_lt {m1 se : Int64} {na : Int32} (hm : Mb m1) (h : se.toInt * 1000000 + na.toInt / 1000 = m1.toInt ∧ 0 ≤ na.toInt ∧ na.toInt < 1000000000) : se.toInt < 253402300800 := by
  obtain ⟨h1, h2⟩ := hm
  omega
theorem mi_eq {m1 se : Int64} {na : Int32} (hm : Mb m1) (h : se.toInt * 1000000 + na.toInt / 1000 = m1.toInt ∧ 0 ≤ na.toInt ∧ na.toInt < 1000000000) : se * 1000000 + (na / 1000).toInt64 = m1 := by
  apply Int64.toInt_inj.mp
  have hd := (c_idiv na 1000 1000 (by decide) (by decide)).1 h.2.1
  have hl := c_lmul se 1000000
  have ha := c_ladd (se * 1000000) (na / 1000).toInt64
  rw [Int32.toInt_toInt64] at ha
  rw [lit6] at hl
  have g1 := rng64 (se * 1000000)
  have g2 := rng64 (se * 1000000 + (na / 1000).toInt64)
  obtain ⟨h1, h2⟩ := hm
  omega
theorem lw0 (x : Int64) : Mb ((-62167219200000000 : Int64) + (x &&& (9223372036854775807 : Int64)) % (315569520000000000 : Int64)) := by
  have hm := c_maskL x 9223372036854775807 63 (by decide) (by decide)
  have hr : ((x &&& (9223372036854775807 : Int64)) % (315569520000000000 : Int64)).toInt = (x &&& (9223372036854775807 : Int64)).toInt.tmod 315569520000000000 := by rw [Int64.toInt_mod]; rfl
  have ht := tr (x &&& (9223372036854775807 : Int64)).toInt 315569520000000000
  have hc := c_ladd (-62167219200000000) ((x &&& (9223372036854775807 : Int64)) % (315569520000000000 : Int64))
  have hg := rng64 ((-62167219200000000 : Int64) + (x &&& (9223372036854775807 : Int64)) % (315569520000000000 : Int64))
  rw [show (-62167219200000000 : Int64).toInt = -62167219200000000 from by decide] at hc
  have h0 : 0 ≤ (x &&& (9223372036854775807 : Int64)).toInt := by omega
  rw [ht.1 h0] at hr
  unfold Mb
  omega
theorem m1023 (x : Int64) : 0 ≤ (x &&& (1023 : Int64)).toInt ∧ (x &&& (1023 : Int64)).toInt < 1024 := by
  have hm := c_maskL x 1023 10 (by decide) (by decide)
  omega
theorem lw1 (x : Int64) : Mb ((-62167219200000000 : Int64) + (x &&& (1023 : Int64))) := by
  have hm := m1023 x
  have hc := c_ladd (-62167219200000000) (x &&& (1023 : Int64))
  have hg := rng64 ((-62167219200000000 : Int64) + (x &&& (1023 : Int64)))
  rw [show (-62167219200000000 : Int64).toInt = -62167219200000000 from by decide] at hc
  unfold Mb
  omega
theorem lw2 (x : Int64) : Mb ((253402300799999999 : Int64) - (x &&& (1023 : Int64))) := by
  have hm := m1023 x
  have hc := c_lsub 253402300799999999 (x &&& (1023 : Int64))
  have hg := rng64 ((253402300799999999 : Int64) - (x &&& (1023 : Int64)))
  rw [show (253402300799999999 : Int64).toInt = 253402300799999999 from by decide] at hc
  unfold Mb
  omega
theorem lw3 (x : Int64) : Mb (x % (1000000000 : Int64)) := by
  have hr : (x % (1000000000 : Int64)).toInt = x.toInt.tmod 1000000000 := by rw [Int64.toInt_mod, lit9]
  have ht := tr x.toInt 1000000000
  unfold Mb
  rcases Int.lt_or_le x.toInt 0 with q | q
  · rw [ht.2 q] at hr; omega
  · rw [ht.1 q] at hr; omega

def Q_canEncode (Z : State) (ep : Addr) (mc : Addr) (sm : Addr) (ea : Addr) (be : Addr) (cz : Cell) (zc : Int32) (p1 : Int32) (h0 : Heap) (n0 : Nat) (v : Option Value) (h : Heap) (L : List Loc) : Prop := v = some (.int (1 : Int32)) ∧ Fr n0 L ∧ h = h0
set_option maxRecDepth 65536 in
set_option maxHeartbeats 40000000 in
theorem rm_canEncode (l : Launch) (Z : State) (a0 : Array Value) (hw : ∀ d ∈ tables_1, d.before a0 Z = true) (ep : Addr) (mc : Addr) (sm : Addr) (ea : Addr) (be : Addr) (cz : Cell) (zc : Int32) (p1 : Int32) (h0 : Heap) (n0 : Nat) (Z0 : n0 ≤ h0.size) (hp1 : ¬ (255 : Int32) < p1) (hSt : St Z ep mc sm ea be cz zc) (hO : Old Z n0 h0) :
    CN l Z ({ cls := "java/lang/StringLatin1", name := "canEncode", desc := "(C)Z" } : Jvm.MethodName) [(Jvm.Cond.code ({ cls := "java/lang/StringLatin1", name := "canEncode", desc := "(C)Z" } : Jvm.MethodName) jdk_43_method_3_code (1 : Nat) (Option.some Jvm.ClassFile.FieldType.boolean))] ({ frames := 0, cells := 0, slots := 0, locals := 0 } : Room) #[(.int p1)] h0 (Q_canEncode Z ep mc sm ea be cz zc p1 h0 n0) := by
  refine CN.of (L0 := #[.val (.int p1)]) (plainFor_of_name pn_0) (fun m => by first | rfl | (simp [entryFrame, mkF, argsToLocals, Value.category]; done)) ?_
  intro p e s m below meth c s₁ hx hby hml hret hlk hZ hown hnm X0 e0
  have N0 := Fr.nil n0
  have KP0 := Keep.refl h0 []
  have hSt_ := hSt
  obtain ⟨S_cs, n_cs, S_ep, E_ep, Fs_ep, Fn_ep, S_mc, E_mc, F_mc, S_sm, A_sm, n_sm, v_sm, S_ea, E_ea, Fs_ea, Fn_ea, S_be, E_be, Fs_be⟩ := hSt_
  show Go p e below _ (s₁.setTop (mkF m 0 #[.val (.int p1)] []))
  refine Go.step (fun _ k => XS.iloadN X0.here hx rfl (hb hby d_jdk_43_method_3_code_0) rfl  k) ?_
  show Go p e below _ (s₁.setTop (mkF m 1 #[.val (.int p1)] [(.int p1)]))
  refine Go.step (fun _ k => XS.sipush X0.here hx rfl (hb hby d_jdk_43_method_3_code_1) k) ?_
  show Go p e below _ (s₁.setTop (mkF m 4 #[.val (.int p1)] [(.int (255 : Int32)), (.int p1)]))
  refine Go.step (fun _ k => XS.icmpNo X0.here hx rfl (hb hby d_jdk_43_method_3_code_4) rfl (flt (hp1 : ¬ ((255 : Int32) < p1))).2.2.1 k) ?_
  show Go p e below _ (s₁.setTop (mkF m 7 #[.val (.int p1)] []))
  refine Go.step (fun _ k => XS.iconst X0.here hx rfl (hb hby d_jdk_43_method_3_code_7) k) ?_
  show Go p e below _ (s₁.setTop (mkF m 8 #[.val (.int p1)] [(.int (1 : Int32))]))
  refine Go.step (fun _ k => XS.goto X0.here hx rfl (pc0 := 8) (pc' := 12) rfl (hb hby d_jdk_43_method_3_code_8) (by decide) (by decide) k) ?_
  show Go p e below _ (s₁.setTop (mkF m 12 #[.val (.int p1)] [(.int (1 : Int32))]))
  exact Go.retV X0 hx hlk hret rfl (Or.inl ⟨rfl, Or.inr (Or.inl rfl), _, rfl⟩) (hb hby d_jdk_43_method_3_code_12) (by decide) (by decide) (by rw [e0]; exact ⟨rfl, N0, rfl⟩)
def Q_toBytes (Z : State) (ep : Addr) (mc : Addr) (sm : Addr) (ea : Addr) (be : Addr) (cz : Cell) (zc : Int32) (p1 : Int32) (h0 : Heap) (n0 : Nat) (v : Option Value) (h : Heap) (L : List Loc) : Prop := ∃ (r : Addr) (kr : ClassId), v = some (.ref r) ∧ Fr n0 L ∧ Keep h0 h [] ∧ h0.size ≤ r ∧ Arv Z h r kr .byte (1 : Int32) [(.int p1.toInt8.toInt32)] (.int (0 : Int32))
set_option maxRecDepth 65536 in
set_option maxHeartbeats 40000000 in
theorem rm_toBytes (l : Launch) (Z : State) (a0 : Array Value) (hw : ∀ d ∈ tables_1, d.before a0 Z = true) (ep : Addr) (mc : Addr) (sm : Addr) (ea : Addr) (be : Addr) (cz : Cell) (zc : Int32) (p1 : Int32) (h0 : Heap) (n0 : Nat) (Z0 : n0 ≤ h0.size) (hSt : St Z ep mc sm ea be cz zc) (hO : Old Z n0 h0) :
    CN l Z ({ cls := "java/lang/StringLatin1", name := "toBytes", desc := "(C)[B" } : Jvm.MethodName) [(Jvm.Cond.code ({ cls := "java/lang/StringLatin1", name := "toBytes", desc := "(C)[B" } : Jvm.MethodName) jdk_43_method_46_code (1 : Nat) (Option.some (Jvm.ClassFile.FieldType.array Jvm.ClassFile.FieldType.byte)))] ({ frames := 0, cells := 1, slots := 1, locals := 0 } : Room) #[(.int p1)] h0 (Q_toBytes Z ep mc sm ea be cz zc p1 h0 n0) := by
  refine CN.of (L0 := #[.val (.int p1)]) (plainFor_of_name pn_0) (fun m => by first | rfl | (simp [entryFrame, mkF, argsToLocals, Value.category]; done)) ?_
  intro p e s m below meth c s₁ hx hby hml hret hlk hZ hown hnm X0 e0
  have N0 := Fr.nil n0
  have KP0 := Keep.refl h0 []
  have hSt_ := hSt
  obtain ⟨S_cs, n_cs, S_ep, E_ep, Fs_ep, Fn_ep, S_mc, E_mc, F_mc, S_sm, A_sm, n_sm, v_sm, S_ea, E_ea, Fs_ea, Fn_ea, S_be, E_be, Fs_be⟩ := hSt_
  show Go p e below _ (s₁.setTop (mkF m 0 #[.val (.int p1)] []))
  refine Go.step (fun _ k => XS.iconst X0.here hx rfl (hb hby d_jdk_43_method_46_code_0) k) ?_
  show Go p e below _ (s₁.setTop (mkF m 1 #[.val (.int p1)] [(.int (1 : Int32))]))
  obtain ⟨T_1, h_1, k_1, X_1, e_1, E_1, A_1, st_1⟩ := newP X0 hx hZ (aty := .byte) (wd_17 hw) e0 (g := (mkF m 1 #[.val (.int p1)] [(.int (1 : Int32))])) rfl (hb hby d_jdk_43_method_46_code_1) rfl (by decide) (cap := 1) (by decide) (by decide) (by decide) (by decide)
  obtain ⟨b1, q_1⟩ : ∃ z, z = h0.size := ⟨_, rfl⟩
  rw [← q_1] at A_1 st_1
  refine Go.step st_1 ?_
  have le_1 : h0.size ≤ h_1.size := E_1.1
  have KP_1 := KP0.ext E_1
  have O_1 := hO.ext E_1
  have ge_1 : h0.size ≤ b1 := Nat.le_of_eq q_1.symm
  have sz_b1 : h0.size ≤ b1 := Nat.le_trans (Nat.le_refl _) ge_1
  have g_b1 : n0 ≤ b1 := Nat.le_trans Z0 sz_b1
  have V_1 : Arv Z h_1 b1 k_1 .byte (1 : Int32) [(.int (0 : Int32))] (.int (0 : Int32)) := (Arv.new A_1 (by decide)).pad (pad_rep [] (.int (0 : Int32)) 1)
  show Go p e below _ (T_1.setTop (mkF m 3 #[.val (.int p1)] [(.ref b1)]))
  refine Go.step (fun _ k => XS.dup X_1.here hx rfl (hb hby d_jdk_43_method_46_code_3) rfl rfl k) ?_
  show Go p e below _ (T_1.setTop (mkF m 4 #[.val (.int p1)] [(.ref b1), (.ref b1)]))
  refine Go.step (fun _ k => XS.iconst X_1.here hx rfl (hb hby d_jdk_43_method_46_code_4) k) ?_
  show Go p e below _ (T_1.setTop (mkF m 5 #[.val (.int p1)] [(.int (0 : Int32)), (.ref b1), (.ref b1)]))
  refine Go.step (fun _ k => XS.iloadN X_1.here hx rfl (hb hby d_jdk_43_method_46_code_5) rfl  k) ?_
  show Go p e below _ (T_1.setTop (mkF m 6 #[.val (.int p1)] [(.int p1), (.int (0 : Int32)), (.ref b1), (.ref b1)]))
  refine Go.step (fun _ k => XS.i2b X_1.here hx rfl (hb hby d_jdk_43_method_46_code_6) rfl k) ?_
  show Go p e below _ (T_1.setTop (mkF m 7 #[.val (.int p1)] [(.int p1.toInt8.toInt32), (.int (0 : Int32)), (.ref b1), (.ref b1)]))
  obtain ⟨cl_2, Ar_2, ck_2, Sz_2, Ng_2, Hs_2, Gs_2⟩ := V_1
  have hin_2 : ¬ ((0 : Int32) < 0 ∨ cl_2.slots.size ≤ ((0 : Int32)).toNatClampNeg) := inb_of Sz_2 ⟨by decide, by decide⟩
  obtain ⟨T_2, h_2, X_2, e_2, W_2, st_2⟩ := stB X_1 hx hZ e_1 Ar_2 (j := (0 : Int32)) hin_2 (g := (mkF m 7 #[.val (.int p1)] [(.int p1.toInt8.toInt32), (.int (0 : Int32)), (.ref b1), (.ref b1)])) rfl rfl (hb hby d_jdk_43_method_46_code_7)
  refine Go.step st_2 ?_
  have N_2 := Fr.snoc X_2 N0 g_b1
  have le_2 : h_1.size ≤ h_2.size := Nat.le_of_eq W_2.size.symm
  have KP_2 := KP_1.wr W_2 (Or.inr sz_b1)
  have O_2 := O_1.wr W_2 g_b1
  have V_2 : Arv Z h_2 b1 k_1 .byte (1 : Int32) [(.int p1.toInt8.toInt32)] (.int (0 : Int32)) := by
    have q := Arv.set Ar_2 ck_2 Sz_2 Ng_2 Hs_2 Gs_2 (fits_nar_byte _) W_2 0 rfl (Nat.le_of_ble_eq_true rfl)
    rw [i8_i8] at q; exact q
  show Go p e below _ (T_2.setTop (mkF m 8 #[.val (.int p1)] [(.ref b1)]))
  exact Go.retV X_2 hx hlk hret rfl (Or.inr (Or.inr (Or.inr (Or.inr ⟨rfl, rfl, rfl⟩)))) (hb hby d_jdk_43_method_46_code_8) (by decide) (by decide) (by rw [e_2]; exact ⟨b1, k_1, rfl, N_2, KP_2, sz_b1, V_2⟩)
def Q_initBB (Z : State) (ep : Addr) (mc : Addr) (sm : Addr) (ea : Addr) (be : Addr) (cz : Cell) (zc : Int32) (a1 : Addr) (a2 : Addr) (h0 : Heap) (n0 : Nat) (v : Option Value) (h : Heap) (L : List Loc) : Prop := v = none ∧ Fr n0 L ∧ Keep h0 h [a1] ∧ Fld Z h a1 "java/lang/String" "value" "[B" (.ref a2) ∧ Fld Z h a1 "java/lang/String" "coder" "B" (.int (0 : Int32))
set_option maxRecDepth 65536 in
set_option maxHeartbeats 40000000 in
theorem rm_initBB (l : Launch) (Z : State) (a0 : Array Value) (hw : ∀ d ∈ tables_1, d.before a0 Z = true) (ep : Addr) (mc : Addr) (sm : Addr) (ea : Addr) (be : Addr) (cz : Cell) (zc : Int32) (a1 : Addr) (a2 : Addr) (h0 : Heap) (n0 : Nat) (Z0 : n0 ≤ h0.size) (E_a1 : Exa Z h0 a1 "java/lang/String") (F_a1v : Fld Z h0 a1 "java/lang/String" "value" "[B" .null) (F_a1c : Fld Z h0 a1 "java/lang/String" "coder" "B" (.int (0 : Int32))) (g_a1 : n0 ≤ a1) (hSt : St Z ep mc sm ea be cz zc) (hO : Old Z n0 h0) :
    CN l Z ({ cls := "java/lang/String", name := "<init>", desc := "([BB)V" } : Jvm.MethodName) [(Jvm.Cond.code ({ cls := "java/lang/String", name := "<init>", desc := "([BB)V" } : Jvm.MethodName) jdk_42_method_151_code (3 : Nat) (Option.none : Option Jvm.ClassFile.FieldType))] ({ frames := 1, cells := 0, slots := 0, locals := 12 } : Room) #[(.ref a1), (.ref a2), (.int (0 : Int32))] h0 (Q_initBB Z ep mc sm ea be cz zc a1 a2 h0 n0) := by
  refine CN.of (L0 := #[.val (.ref a1), .val (.ref a2), .val (.int (0 : Int32))]) (plainFor_of_name pn_1) (fun m => by first | rfl | (simp [entryFrame, mkF, argsToLocals, Value.category]; done)) ?_
  intro p e s m below meth c s₁ hx hby hml hret hlk hZ hown hnm X0 e0
  have N0 := Fr.nil n0
  have KP0 := Keep.refl h0 [a1]
  have hSt_ := hSt
  obtain ⟨S_cs, n_cs, S_ep, E_ep, Fs_ep, Fn_ep, S_mc, E_mc, F_mc, S_sm, A_sm, n_sm, v_sm, S_ea, E_ea, Fs_ea, Fn_ea, S_be, E_be, Fs_be⟩ := hSt_
  show Go p e below _ (s₁.setTop (mkF m 0 #[.val (.ref a1), .val (.ref a2), .val (.int (0 : Int32))] []))
  refine Go.step (fun _ k => XS.aloadN X0.here hx rfl (hb hby d_jdk_42_method_151_code_0) rfl rfl k) ?_
  show Go p e below _ (s₁.setTop (mkF m 1 #[.val (.ref a1), .val (.ref a2), .val (.int (0 : Int32))] [(.ref a1)]))
  obtain ⟨T_3, X_3, e_3, st_3⟩ := initO X0 hx hZ hown (wd_22 hw) (wd_23 hw) (wd_24 hw) e0 (g := (mkF m 1 #[.val (.ref a1), .val (.ref a2), .val (.int (0 : Int32))] [(.ref a1)])) rfl (by rw [hml]; rfl) rfl (hb hby d_jdk_42_method_151_code_1) (by decide) (W := 0) (by show 2 * 0 + _ ≤ _; exact Nat.le_of_eq rfl) (by decide)
  refine Go.step st_3 ?_
  show Go p e below _ (T_3.setTop (mkF m 4 #[.val (.ref a1), .val (.ref a2), .val (.int (0 : Int32))] []))
  refine Go.step (fun _ k => XS.aloadN X_3.here hx rfl (hb hby d_jdk_42_method_151_code_4) rfl rfl k) ?_
  show Go p e below _ (T_3.setTop (mkF m 5 #[.val (.ref a1), .val (.ref a2), .val (.int (0 : Int32))] [(.ref a1)]))
  refine Go.step (fun _ k => XS.aloadN X_3.here hx rfl (hb hby d_jdk_42_method_151_code_5) rfl rfl k) ?_
  show Go p e below _ (T_3.setTop (mkF m 6 #[.val (.ref a1), .val (.ref a2), .val (.int (0 : Int32))] [(.ref a2), (.ref a1)]))
  obtain ⟨T_4, h_4, X_4, e_4, W_4, st_4⟩ := putF X_3 hx hZ hown (host := "") (Or.inl (wd_25 hw)) Via.refl e_3 F_a1v E_a1 (Or.inr ⟨(wd_26 hw), rfl, hnm⟩) (wd_13 hw) (ty := (.array .byte)) pf_0 rfl rfl (g := (mkF m 6 #[.val (.ref a1), .val (.ref a2), .val (.int (0 : Int32))] [(.ref a2), (.ref a1)])) rfl rfl (hb hby d_jdk_42_method_151_code_6)
  refine Go.step st_4 ?_
  have N_4 := Fr.snoc X_4 N0 g_a1
  have le_4 : h0.size ≤ h_4.size := Nat.le_of_eq W_4.size.symm
  have KP_4 := KP0.wr W_4 (Or.inl (List.mem_of_getElem? (i := 0) rfl))
  have O_4 := hO.wr W_4 g_a1
  have F_4 : Fld Z h_4 a1 "java/lang/String" "value" "[B" (.ref a2) := F_a1v.same W_4
  show Go p e below _ (T_4.setTop (mkF m 9 #[.val (.ref a1), .val (.ref a2), .val (.int (0 : Int32))] []))
  refine Go.step (fun _ k => XS.aloadN X_4.here hx rfl (hb hby d_jdk_42_method_151_code_9) rfl rfl k) ?_
  show Go p e below _ (T_4.setTop (mkF m 10 #[.val (.ref a1), .val (.ref a2), .val (.int (0 : Int32))] [(.ref a1)]))
  refine Go.step (fun _ k => XS.iloadN X_4.here hx rfl (hb hby d_jdk_42_method_151_code_10) rfl  k) ?_
  show Go p e below _ (T_4.setTop (mkF m 11 #[.val (.ref a1), .val (.ref a2), .val (.int (0 : Int32))] [(.int (0 : Int32)), (.ref a1)]))
  have f5 : Exa Z h_4 a1 "java/lang/String" := (E_a1.wr W_4)
  have f6 : Fld Z h_4 a1 "java/lang/String" "coder" "B" (.int (0 : Int32)) := (F_a1c.other W_4 (Or.inr (sn_0 hw)))
  obtain ⟨T_7, h_7, X_7, e_7, W_7, st_7⟩ := putFN X_4 hx hZ hown (wd_27 hw) Via.refl e_4 f6 f5 (Or.inr ⟨(wd_28 hw), rfl, hnm⟩) (wd_13 hw) (ty := .byte) (v' := (.int (0 : Int32))) pf_1 rfl (by decide) (g := (mkF m 11 #[.val (.ref a1), .val (.ref a2), .val (.int (0 : Int32))] [(.int (0 : Int32)), (.ref a1)])) rfl rfl (hb hby d_jdk_42_method_151_code_11)
  refine Go.step st_7 ?_
  have N_7 := Fr.snoc X_7 N_4 g_a1
  have le_7 : h_4.size ≤ h_7.size := Nat.le_of_eq W_7.size.symm
  have KP_7 := KP_4.wr W_7 (Or.inl (List.mem_of_getElem? (i := 0) rfl))
  have O_7 := O_4.wr W_7 g_a1
  have F_7 : Fld Z h_7 a1 "java/lang/String" "coder" "B" (.int (0 : Int32)) := f6.same W_7
  show Go p e below _ (T_7.setTop (mkF m 14 #[.val (.ref a1), .val (.ref a2), .val (.int (0 : Int32))] []))
  have f8 : Fld Z h_7 a1 "java/lang/String" "value" "[B" (.ref a2) := (F_4.other W_7 (Or.inr (sn_1 hw)))
  exact Go.ret0 X_7 hx hlk hret (hb hby d_jdk_42_method_151_code_14) (by decide) (by decide) (by rw [e_7]; exact ⟨rfl, N_7, KP_7, f8, F_7⟩)
def Q_valueOf (Z : State) (ep : Addr) (mc : Addr) (sm : Addr) (ea : Addr) (be : Addr) (cz : Cell) (zc : Int32) (p1 : Int32) (h0 : Heap) (n0 : Nat) (v : Option Value) (h : Heap) (L : List Loc) : Prop := ∃ (r : Addr), v = some (.ref r) ∧ Fr n0 L ∧ Keep h0 h [] ∧ h0.size ≤ r
set_option maxRecDepth 65536 in
set_option maxHeartbeats 40000000 in
theorem rm_valueOf (l : Launch) (Z : State) (a0 : Array Value) (hw : ∀ d ∈ tables_1, d.before a0 Z = true) (ep : Addr) (mc : Addr) (sm : Addr) (ea : Addr) (be : Addr) (cz : Cell) (zc : Int32) (p1 : Int32) (h0 : Heap) (n0 : Nat) (Z0 : n0 ≤ h0.size) (hp1 : ¬ (255 : Int32) < p1) (hSt : St Z ep mc sm ea be cz zc) (hO : Old Z n0 h0) :
    CN l Z ({ cls := "java/lang/String", name := "valueOf", desc := "(C)Ljava/lang/String;" } : Jvm.MethodName) [(Jvm.Cond.code ({ cls := "java/lang/String", name := "valueOf", desc := "(C)Ljava/lang/String;" } : Jvm.MethodName) jdk_42_method_139_code (1 : Nat) (Option.some (Jvm.ClassFile.FieldType.object "java/lang/String")))] ({ frames := 2, cells := 2, slots := 5, locals := 27 } : Room) #[(.int p1)] h0 (Q_valueOf Z ep mc sm ea be cz zc p1 h0 n0) := by
  refine CN.of (L0 := #[.val (.int p1)]) (plainFor_of_name pn_1) (fun m => by first | rfl | (simp [entryFrame, mkF, argsToLocals, Value.category]; done)) ?_
  intro p e s m below meth c s₁ hx hby hml hret hlk hZ hown hnm X0 e0
  have N0 := Fr.nil n0
  have KP0 := Keep.refl h0 []
  have hSt_ := hSt
  obtain ⟨S_cs, n_cs, S_ep, E_ep, Fs_ep, Fn_ep, S_mc, E_mc, F_mc, S_sm, A_sm, n_sm, v_sm, S_ea, E_ea, Fs_ea, Fn_ea, S_be, E_be, Fs_be⟩ := hSt_
  show Go p e below _ (s₁.setTop (mkF m 0 #[.val (.int p1)] []))
  obtain ⟨T_9, X_9, e_9, st_9⟩ := getS2 X0 hx hZ hown (host := "") (Or.inl (wd_7 hw)) Via.refl e0 (S_cs.ext hO.2) (g := (mkF m 0 #[.val (.int p1)] [])) rfl (hb hby d_jdk_42_method_139_code_0)
  refine Go.step st_9 ?_
  show Go p e below _ (T_9.setTop (mkF m 3 #[.val (.int p1)] [(.int zc)]))
  refine Go.step (fun _ k => XS.ifNo X_9.here hx rfl (hb hby d_jdk_42_method_139_code_3) rfl ((if0 _ _).trans (feq (n_cs : ¬ (zc = (0 : Int32)))).1) k) ?_
  show Go p e below _ (T_9.setTop (mkF m 6 #[.val (.int p1)] []))
  refine Go.step (fun _ k => XS.iloadN X_9.here hx rfl (hb hby d_jdk_42_method_139_code_6) rfl  k) ?_
  show Go p e below _ (T_9.setTop (mkF m 7 #[.val (.int p1)] [(.int p1)]))
  obtain ⟨v_10, T_10, L_10, X_10, hQ_10, st_10⟩ := goS X_9 hx hZ (y := ({ cls := "java/lang/StringLatin1", name := "canEncode", desc := "(C)Z" } : Jvm.MethodName)) hown (wd_8 hw) (wd_9 hw) (wd_10 hw) (wd_11 hw) (by decide) (backOf (W := 0) (rm_canEncode l Z a0 hw ep mc sm ea be cz zc (p1) h0 n0 (Nat.le_trans Z0 KP0.1) hp1 hSt hO) hZ (wd_11 hw) (wd_10 hw) (by decide) (by decide)) e_9 (g := (mkF m 7 #[.val (.int p1)] [(.int p1)])) rfl (by rw [hml]; rfl) (argsL := [(.int p1)]) (rest := []) rfl (lenOf pd_0 rfl) rfl (by show 2 * 0 + _ ≤ _; exact Nat.le_of_eq rfl) (hb hby d_jdk_42_method_139_code_7) (by decide) (by decide)
  obtain ⟨rfl, Nq_10, e_10⟩ := hQ_10
  have N_10 := Fr.app N0 Nq_10
  refine Go.step st_10 ?_
  show Go p e below _ (T_10.setTop (mkF m 10 #[.val (.int p1)] [(.int (1 : Int32))]))
  refine Go.step (fun _ k => XS.ifNo X_10.here hx rfl (hb hby d_jdk_42_method_139_code_10) rfl ((if0 _ _).trans (feq ((by decide) : ¬ ((1 : Int32) = (0 : Int32)))).1) k) ?_
  show Go p e below _ (T_10.setTop (mkF m 13 #[.val (.int p1)] []))
  obtain ⟨T_11, h_11, X_11, e_11, E_11, A_11, D_11, -, st_11⟩ := newO X_10 hx hZ hown (wd_12 hw) (wd_13 hw) (wd_5 hw) e_10 (g := (mkF m 13 #[.val (.int p1)] [])) rfl (hb hby d_jdk_42_method_139_code_13) (by decide) (by decide)
  obtain ⟨b11, q_11⟩ : ∃ z, z = h0.size := ⟨_, rfl⟩
  rw [← q_11] at A_11 D_11 st_11
  refine Go.step st_11 ?_
  have le_11 : h0.size ≤ h_11.size := E_11.1
  have KP_11 := KP0.ext E_11
  have O_11 := hO.ext E_11
  have ge_11 : h0.size ≤ b11 := Nat.le_of_eq q_11.symm
  have sz_b11 : h0.size ≤ b11 := Nat.le_trans (Nat.le_refl _) ge_11
  have g_b11 : n0 ≤ b11 := Nat.le_trans Z0 sz_b11
  have F_11_26 : Fld Z h_11 b11 "java/lang/String" "value" "[B" .null := D_11 (Or.inr (wd_26 hw)) (ty := (.array .byte)) pf_0
  have F_11_28 : Fld Z h_11 b11 "java/lang/String" "coder" "B" (.int (0 : Int32)) := D_11 (Or.inr (wd_28 hw)) (ty := .byte) pf_1
  show Go p e below _ (T_11.setTop (mkF m 16 #[.val (.int p1)] [(.ref b11)]))
  refine Go.step (fun _ k => XS.dup X_11.here hx rfl (hb hby d_jdk_42_method_139_code_16) rfl rfl k) ?_
  show Go p e below _ (T_11.setTop (mkF m 17 #[.val (.int p1)] [(.ref b11), (.ref b11)]))
  refine Go.step (fun _ k => XS.iloadN X_11.here hx rfl (hb hby d_jdk_42_method_139_code_17) rfl  k) ?_
  show Go p e below _ (T_11.setTop (mkF m 18 #[.val (.int p1)] [(.int p1), (.ref b11), (.ref b11)]))
  obtain ⟨v_12, T_12, L_12, X_12, hQ_12, st_12⟩ := goS X_11 hx hZ (y := ({ cls := "java/lang/StringLatin1", name := "toBytes", desc := "(C)[B" } : Jvm.MethodName)) hown (wd_14 hw) (wd_15 hw) (wd_10 hw) (wd_16 hw) (by decide) (backOf (W := 2) (rm_toBytes l Z a0 hw ep mc sm ea be cz zc (p1) h_11 n0 (Nat.le_trans Z0 KP_11.1) hSt O_11) hZ (wd_16 hw) (wd_10 hw) (by decide) (by decide)) e_11 (g := (mkF m 18 #[.val (.int p1)] [(.int p1), (.ref b11), (.ref b11)])) rfl (by rw [hml]; rfl) (argsL := [(.int p1)]) (rest := [(.ref b11), (.ref b11)]) rfl (lenOf pd_1 rfl) rfl (by show 2 * 0 + _ ≤ _; exact Nat.le_of_eq rfl) (hb hby d_jdk_42_method_139_code_18) (by decide) (by decide)
  obtain ⟨r_12, kr_12, rfl, Nq_12, K_12, u0_12, u1_12⟩ := hQ_12
  have N_12 := Fr.app N_10 Nq_12
  have le_12 : h_11.size ≤ T_12.heap.size := K_12.1
  have KP_12 := KP_11.trans K_12 all0
  have O_12 := O_11.keep K_12 all0
  have sz_r_12 : h0.size ≤ r_12 := Nat.le_trans le_11 u0_12
  have g_r_12 : n0 ≤ r_12 := Nat.le_trans Z0 sz_r_12
  refine Go.step st_12 ?_
  show Go p e below _ (T_12.setTop (mkF m 21 #[.val (.int p1)] [(.ref r_12), (.ref b11), (.ref b11)]))
  refine Go.step (fun _ k => XS.iconst X_12.here hx rfl (hb hby d_jdk_42_method_139_code_21) k) ?_
  show Go p e below _ (T_12.setTop (mkF m 22 #[.val (.int p1)] [(.int (0 : Int32)), (.ref r_12), (.ref b11), (.ref b11)]))
  have f13 : Exa Z T_12.heap b11 "java/lang/String" := (A_11.keep K_12)
  have f14 : Fld Z T_12.heap b11 "java/lang/String" "value" "[B" .null := (F_11_26.keep K_12 nin0)
  have f15 : Fld Z T_12.heap b11 "java/lang/String" "coder" "B" (.int (0 : Int32)) := (F_11_28.keep K_12 nin0)
  obtain ⟨v_16, T_16, L_16, X_16, hQ_16, st_16⟩ := goC X_12 hx hZ (y := ({ cls := "java/lang/String", name := "<init>", desc := "([BB)V" } : Jvm.MethodName)) hown rfl (wd_18 hw) (wd_19 hw) (wd_21 hw) (by decide) (backOf (W := 1) (rm_initBB l Z a0 hw ep mc sm ea be cz zc (b11) (r_12) T_12.heap n0 (Nat.le_trans Z0 KP_12.1) f13 f14 f15 g_b11 hSt O_12) hZ (wd_21 hw) (wd_5 hw) (by decide) (by decide)) rfl (g := (mkF m 22 #[.val (.int p1)] [(.int (0 : Int32)), (.ref r_12), (.ref b11), (.ref b11)])) rfl (by rw [hml]; rfl) (a := b11) (argsL := [(.ref r_12), (.int (0 : Int32))]) (rest := [(.ref b11)]) rfl (lenOf pd_2 rfl) rfl (by show 2 * 0 + _ ≤ _; exact Nat.le_of_eq rfl) (hb hby d_jdk_42_method_139_code_22) (by decide) (by decide)
  obtain ⟨rfl, Nq_16, K_16, u0_16, u1_16⟩ := hQ_16
  have N_16 := Fr.app N_12 Nq_16
  have le_16 : T_12.heap.size ≤ T_16.heap.size := K_16.1
  have KP_16 := KP_12.trans K_16 (allS (Or.inr sz_b11) all0)
  have O_16 := O_12.keep K_16 (allS g_b11 all0)
  refine Go.step st_16 ?_
  show Go p e below _ (T_16.setTop (mkF m 25 #[.val (.int p1)] [(.ref b11)]))
  exact Go.retV X_16 hx hlk hret rfl (Or.inr (Or.inr (Or.inr (Or.inr ⟨rfl, rfl, rfl⟩)))) (hb hby d_jdk_42_method_139_code_25) (by decide) (by decide) (by exact ⟨b11, rfl, N_16, KP_16, sz_b11⟩)
def Q_ordinal (Z : State) (ep : Addr) (mc : Addr) (sm : Addr) (ea : Addr) (be : Addr) (cz : Cell) (zc : Int32) (h0 : Heap) (n0 : Nat) (v : Option Value) (h : Heap) (L : List Loc) : Prop := v = some (.int (1 : Int32)) ∧ Fr n0 L ∧ h = h0
set_option maxRecDepth 65536 in
set_option maxHeartbeats 40000000 in
theorem rm_ordinal (l : Launch) (Z : State) (a0 : Array Value) (hw : ∀ d ∈ tables_1, d.before a0 Z = true) (ep : Addr) (mc : Addr) (sm : Addr) (ea : Addr) (be : Addr) (cz : Cell) (zc : Int32) (h0 : Heap) (n0 : Nat) (Z0 : n0 ≤ h0.size) (hSt : St Z ep mc sm ea be cz zc) (hO : Old Z n0 h0) :
    CN l Z ({ cls := "java/lang/Enum", name := "ordinal", desc := "()I" } : Jvm.MethodName) [(Jvm.Cond.code ({ cls := "java/lang/Enum", name := "ordinal", desc := "()I" } : Jvm.MethodName) jdk_37_method_2_code (1 : Nat) (Option.some Jvm.ClassFile.FieldType.int))] ({ frames := 0, cells := 0, slots := 0, locals := 0 } : Room) #[(.ref mc)] h0 (Q_ordinal Z ep mc sm ea be cz zc h0 n0) := by
  refine CN.of (L0 := #[.val (.ref mc)]) (plainFor_of_name pn_2) (fun m => by first | rfl | (simp [entryFrame, mkF, argsToLocals, Value.category]; done)) ?_
  intro p e s m below meth c s₁ hx hby hml hret hlk hZ hown hnm X0 e0
  have N0 := Fr.nil n0
  have KP0 := Keep.refl h0 []
  have hSt_ := hSt
  obtain ⟨S_cs, n_cs, S_ep, E_ep, Fs_ep, Fn_ep, S_mc, E_mc, F_mc, S_sm, A_sm, n_sm, v_sm, S_ea, E_ea, Fs_ea, Fn_ea, S_be, E_be, Fs_be⟩ := hSt_
  show Go p e below _ (s₁.setTop (mkF m 0 #[.val (.ref mc)] []))
  refine Go.step (fun _ k => XS.aloadN X0.here hx rfl (hb hby d_jdk_37_method_2_code_0) rfl rfl k) ?_
  show Go p e below _ (s₁.setTop (mkF m 1 #[.val (.ref mc)] [(.ref mc)]))
  obtain ⟨T_17, X_17, e_17, st_17⟩ := getF X0 hx hZ hown (host := "") (Or.inl (wd_53 hw)) Via.refl e0 (F_mc.ext hO.2) (g := (mkF m 1 #[.val (.ref mc)] [(.ref mc)])) rfl rfl (hb hby d_jdk_37_method_2_code_1)
  refine Go.step st_17 ?_
  show Go p e below _ (T_17.setTop (mkF m 4 #[.val (.ref mc)] [(.int (1 : Int32))]))
  exact Go.retV X_17 hx hlk hret rfl (Or.inl ⟨rfl, Or.inl rfl, _, rfl⟩) (hb hby d_jdk_37_method_2_code_4) (by decide) (by decide) (by rw [e_17]; exact ⟨rfl, N0, rfl⟩)
def Q_addExact (Z : State) (ep : Addr) (mc : Addr) (sm : Addr) (ea : Addr) (be : Addr) (cz : Cell) (zc : Int32) (x1 : Int64) (y1 : Int64) (h0 : Heap) (n0 : Nat) (v : Option Value) (h : Heap) (L : List Loc) : Prop := v = some (.long (x1 + y1)) ∧ Fr n0 L ∧ h = h0
set_option maxRecDepth 65536 in
set_option maxHeartbeats 40000000 in
theorem rm_addExact (l : Launch) (Z : State) (a0 : Array Value) (hw : ∀ d ∈ tables_1, d.before a0 Z = true) (ep : Addr) (mc : Addr) (sm : Addr) (ea : Addr) (be : Addr) (cz : Cell) (zc : Int32) (x1 : Int64) (y1 : Int64) (h0 : Heap) (n0 : Nat) (Z0 : n0 ≤ h0.size) (hov : ¬ ((x1 ^^^ (x1 + y1)) &&& (y1 ^^^ (x1 + y1))) < 0) (hSt : St Z ep mc sm ea be cz zc) (hO : Old Z n0 h0) :
    CN l Z ({ cls := "java/lang/Math", name := "addExact", desc := "(JJ)J" } : Jvm.MethodName) [(Jvm.Cond.code ({ cls := "java/lang/Math", name := "addExact", desc := "(JJ)J" } : Jvm.MethodName) jdk_29_method_25_code (6 : Nat) (Option.some Jvm.ClassFile.FieldType.long))] ({ frames := 0, cells := 0, slots := 0, locals := 0 } : Room) #[(.long x1), (.long y1)] h0 (Q_addExact Z ep mc sm ea be cz zc x1 y1 h0 n0) := by
  refine CN.of (L0 := #[.val (.long x1), .second, .val (.long y1), .second, .unset, .unset]) (Jvm.Free.JP.mathPlain rfl (by decide +kernel)) (fun m => by first | rfl | (simp [entryFrame, mkF, argsToLocals, Value.category]; done)) ?_
  intro p e s m below meth c s₁ hx hby hml hret hlk hZ hown hnm X0 e0
  have N0 := Fr.nil n0
  have KP0 := Keep.refl h0 []
  have hSt_ := hSt
  obtain ⟨S_cs, n_cs, S_ep, E_ep, Fs_ep, Fn_ep, S_mc, E_mc, F_mc, S_sm, A_sm, n_sm, v_sm, S_ea, E_ea, Fs_ea, Fn_ea, S_be, E_be, Fs_be⟩ := hSt_
  show Go p e below _ (s₁.setTop (mkF m 0 #[.val (.long x1), .second, .val (.long y1), .second, .unset, .unset] []))
  refine Go.step (fun _ k => XS.lloadN X0.here hx rfl (hb hby d_jdk_29_method_25_code_0) rfl  k) ?_
  show Go p e below _ (s₁.setTop (mkF m 1 #[.val (.long x1), .second, .val (.long y1), .second, .unset, .unset] [(.long x1)]))
  refine Go.step (fun _ k => XS.lloadN X0.here hx rfl (hb hby d_jdk_29_method_25_code_1) rfl  k) ?_
  show Go p e below _ (s₁.setTop (mkF m 2 #[.val (.long x1), .second, .val (.long y1), .second, .unset, .unset] [(.long y1), (.long x1)]))
  refine Go.step (fun _ k => XS.ladd X0.here hx rfl (hb hby d_jdk_29_method_25_code_2) rfl k) ?_
  show Go p e below _ (s₁.setTop (mkF m 3 #[.val (.long x1), .second, .val (.long y1), .second, .unset, .unset] [(.long (x1 + y1))]))
  refine Go.step (fun _ k => XS.lstore X0.here hx rfl (hb hby d_jdk_29_method_25_code_3) rfl (l' := #[.val (.long x1), .second, .val (.long y1), .second, .val (.long (x1 + y1)), .second]) rfl k) ?_
  show Go p e below _ (s₁.setTop (mkF m 5 #[.val (.long x1), .second, .val (.long y1), .second, .val (.long (x1 + y1)), .second] []))
  refine Go.step (fun _ k => XS.lloadN X0.here hx rfl (hb hby d_jdk_29_method_25_code_5) rfl  k) ?_
  show Go p e below _ (s₁.setTop (mkF m 6 #[.val (.long x1), .second, .val (.long y1), .second, .val (.long (x1 + y1)), .second] [(.long x1)]))
  refine Go.step (fun _ k => XS.lload X0.here hx rfl (hb hby d_jdk_29_method_25_code_6) rfl  k) ?_
  show Go p e below _ (s₁.setTop (mkF m 8 #[.val (.long x1), .second, .val (.long y1), .second, .val (.long (x1 + y1)), .second] [(.long (x1 + y1)), (.long x1)]))
  refine Go.step (fun _ k => XS.lxor X0.here hx rfl (hb hby d_jdk_29_method_25_code_8) rfl k) ?_
  show Go p e below _ (s₁.setTop (mkF m 9 #[.val (.long x1), .second, .val (.long y1), .second, .val (.long (x1 + y1)), .second] [(.long (x1 ^^^ (x1 + y1)))]))
  refine Go.step (fun _ k => XS.lloadN X0.here hx rfl (hb hby d_jdk_29_method_25_code_9) rfl  k) ?_
  show Go p e below _ (s₁.setTop (mkF m 10 #[.val (.long x1), .second, .val (.long y1), .second, .val (.long (x1 + y1)), .second] [(.long y1), (.long (x1 ^^^ (x1 + y1)))]))
  refine Go.step (fun _ k => XS.lload X0.here hx rfl (hb hby d_jdk_29_method_25_code_10) rfl  k) ?_
  show Go p e below _ (s₁.setTop (mkF m 12 #[.val (.long x1), .second, .val (.long y1), .second, .val (.long (x1 + y1)), .second] [(.long (x1 + y1)), (.long y1), (.long (x1 ^^^ (x1 + y1)))]))
  refine Go.step (fun _ k => XS.lxor X0.here hx rfl (hb hby d_jdk_29_method_25_code_12) rfl k) ?_
  show Go p e below _ (s₁.setTop (mkF m 13 #[.val (.long x1), .second, .val (.long y1), .second, .val (.long (x1 + y1)), .second] [(.long (y1 ^^^ (x1 + y1))), (.long (x1 ^^^ (x1 + y1)))]))
  refine Go.step (fun _ k => XS.land X0.here hx rfl (hb hby d_jdk_29_method_25_code_13) rfl k) ?_
  show Go p e below _ (s₁.setTop (mkF m 14 #[.val (.long x1), .second, .val (.long y1), .second, .val (.long (x1 + y1)), .second] [(.long ((x1 ^^^ (x1 + y1)) &&& (y1 ^^^ (x1 + y1))))]))
  refine Go.step (fun _ k => XS.lconst X0.here hx rfl (hb hby d_jdk_29_method_25_code_14) k) ?_
  show Go p e below _ (s₁.setTop (mkF m 15 #[.val (.long x1), .second, .val (.long y1), .second, .val (.long (x1 + y1)), .second] [(.long (0 : Int64)), (.long ((x1 ^^^ (x1 + y1)) &&& (y1 ^^^ (x1 + y1))))]))
  refine Go.step (fun _ k => XS.lcmp X0.here hx rfl (hb hby d_jdk_29_method_25_code_15) rfl k) ?_
  show Go p e below _ (s₁.setTop (mkF m 16 #[.val (.long x1), .second, .val (.long y1), .second, .val (.long (x1 + y1)), .second] [(.int (lcmpW ((x1 ^^^ (x1 + y1)) &&& (y1 ^^^ (x1 + y1))) (0 : Int64)))]))
  refine Go.step (fun _ k => XS.ifYes X0.here hx rfl (pc0 := 16) (pc' := 29) rfl (hb hby d_jdk_29_method_25_code_16) rfl ((if0 _ _).trans (flt (fun q => (hov : ¬ (((x1 ^^^ (x1 + y1)) &&& (y1 ^^^ (x1 + y1))) < (0 : Int64))) ((lw_lt _ _).mp q))).2.1) (by decide) (by decide) k) ?_
  show Go p e below _ (s₁.setTop (mkF m 29 #[.val (.long x1), .second, .val (.long y1), .second, .val (.long (x1 + y1)), .second] []))
  refine Go.step (fun _ k => XS.lload X0.here hx rfl (hb hby d_jdk_29_method_25_code_29) rfl  k) ?_
  show Go p e below _ (s₁.setTop (mkF m 31 #[.val (.long x1), .second, .val (.long y1), .second, .val (.long (x1 + y1)), .second] [(.long (x1 + y1))]))
  exact Go.retV X0 hx hlk hret rfl (Or.inr (Or.inl ⟨rfl, rfl, _, rfl⟩)) (hb hby d_jdk_29_method_25_code_31) (by decide) (by decide) (by rw [e0]; exact ⟨rfl, N0, rfl⟩)
def Q_floorDiv (Z : State) (ep : Addr) (mc : Addr) (sm : Addr) (ea : Addr) (be : Addr) (cz : Cell) (zc : Int32) (x1 : Int64) (y1 : Int64) (h0 : Heap) (n0 : Nat) (v : Option Value) (h : Heap) (L : List Loc) : Prop := v = some (.long (fdivJ x1 y1)) ∧ Fr n0 L ∧ h = h0
set_option maxRecDepth 65536 in
set_option maxHeartbeats 40000000 in
theorem rm_floorDiv (l : Launch) (Z : State) (a0 : Array Value) (hw : ∀ d ∈ tables_1, d.before a0 Z = true) (ep : Addr) (mc : Addr) (sm : Addr) (ea : Addr) (be : Addr) (cz : Cell) (zc : Int32) (x1 : Int64) (y1 : Int64) (h0 : Heap) (n0 : Nat) (Z0 : n0 ≤ h0.size) (hy : y1 ≠ 0) (hSt : St Z ep mc sm ea be cz zc) (hO : Old Z n0 h0) :
    CN l Z ({ cls := "java/lang/Math", name := "floorDiv", desc := "(JJ)J" } : Jvm.MethodName) [(Jvm.Cond.code ({ cls := "java/lang/Math", name := "floorDiv", desc := "(JJ)J" } : Jvm.MethodName) jdk_29_method_49_code (6 : Nat) (Option.some Jvm.ClassFile.FieldType.long))] ({ frames := 0, cells := 0, slots := 0, locals := 0 } : Room) #[(.long x1), (.long y1)] h0 (Q_floorDiv Z ep mc sm ea be cz zc x1 y1 h0 n0) := by
  refine CN.of (L0 := #[.val (.long x1), .second, .val (.long y1), .second, .unset, .unset]) (Jvm.Free.JP.mathPlain rfl (by decide +kernel)) (fun m => by first | rfl | (simp [entryFrame, mkF, argsToLocals, Value.category]; done)) ?_
  intro p e s m below meth c s₁ hx hby hml hret hlk hZ hown hnm X0 e0
  have N0 := Fr.nil n0
  have KP0 := Keep.refl h0 []
  have hSt_ := hSt
  obtain ⟨S_cs, n_cs, S_ep, E_ep, Fs_ep, Fn_ep, S_mc, E_mc, F_mc, S_sm, A_sm, n_sm, v_sm, S_ea, E_ea, Fs_ea, Fn_ea, S_be, E_be, Fs_be⟩ := hSt_
  show Go p e below _ (s₁.setTop (mkF m 0 #[.val (.long x1), .second, .val (.long y1), .second, .unset, .unset] []))
  refine Go.step (fun _ k => XS.lloadN X0.here hx rfl (hb hby d_jdk_29_method_49_code_0) rfl  k) ?_
  show Go p e below _ (s₁.setTop (mkF m 1 #[.val (.long x1), .second, .val (.long y1), .second, .unset, .unset] [(.long x1)]))
  refine Go.step (fun _ k => XS.lloadN X0.here hx rfl (hb hby d_jdk_29_method_49_code_1) rfl  k) ?_
  show Go p e below _ (s₁.setTop (mkF m 2 #[.val (.long x1), .second, .val (.long y1), .second, .unset, .unset] [(.long y1), (.long x1)]))
  refine Go.step (fun _ k => XS.ldiv X0.here hx rfl (hb hby d_jdk_29_method_49_code_2) rfl hy k) ?_
  show Go p e below _ (s₁.setTop (mkF m 3 #[.val (.long x1), .second, .val (.long y1), .second, .unset, .unset] [(.long (x1 / y1))]))
  refine Go.step (fun _ k => XS.lstore X0.here hx rfl (hb hby d_jdk_29_method_49_code_3) rfl (l' := #[.val (.long x1), .second, .val (.long y1), .second, .val (.long (x1 / y1)), .second]) rfl k) ?_
  show Go p e below _ (s₁.setTop (mkF m 5 #[.val (.long x1), .second, .val (.long y1), .second, .val (.long (x1 / y1)), .second] []))
  refine Go.step (fun _ k => XS.lloadN X0.here hx rfl (hb hby d_jdk_29_method_49_code_5) rfl  k) ?_
  show Go p e below _ (s₁.setTop (mkF m 6 #[.val (.long x1), .second, .val (.long y1), .second, .val (.long (x1 / y1)), .second] [(.long x1)]))
  refine Go.step (fun _ k => XS.lloadN X0.here hx rfl (hb hby d_jdk_29_method_49_code_6) rfl  k) ?_
  show Go p e below _ (s₁.setTop (mkF m 7 #[.val (.long x1), .second, .val (.long y1), .second, .val (.long (x1 / y1)), .second] [(.long y1), (.long x1)]))
  refine Go.step (fun _ k => XS.lxor X0.here hx rfl (hb hby d_jdk_29_method_49_code_7) rfl k) ?_
  show Go p e below _ (s₁.setTop (mkF m 8 #[.val (.long x1), .second, .val (.long y1), .second, .val (.long (x1 / y1)), .second] [(.long (x1 ^^^ y1))]))
  refine Go.step (fun _ k => XS.lconst X0.here hx rfl (hb hby d_jdk_29_method_49_code_8) k) ?_
  show Go p e below _ (s₁.setTop (mkF m 9 #[.val (.long x1), .second, .val (.long y1), .second, .val (.long (x1 / y1)), .second] [(.long (0 : Int64)), (.long (x1 ^^^ y1))]))
  refine Go.step (fun _ k => XS.lcmp X0.here hx rfl (hb hby d_jdk_29_method_49_code_9) rfl k) ?_
  show Go p e below _ (s₁.setTop (mkF m 10 #[.val (.long x1), .second, .val (.long y1), .second, .val (.long (x1 / y1)), .second] [(.int (lcmpW (x1 ^^^ y1) (0 : Int64)))]))
  by_cases h1 : (x1 ^^^ y1) < (0 : Int64)
  · skip
    refine Go.step (fun _ k => XS.ifNo X0.here hx rfl (hb hby d_jdk_29_method_49_code_10) rfl ((if0 _ _).trans (tlt ((lw_lt _ _).mpr h1)).2.1) k) ?_
    show Go p e below _ (s₁.setTop (mkF m 13 #[.val (.long x1), .second, .val (.long y1), .second, .val (.long (x1 / y1)), .second] []))
    refine Go.step (fun _ k => XS.lload X0.here hx rfl (hb hby d_jdk_29_method_49_code_13) rfl  k) ?_
    show Go p e below _ (s₁.setTop (mkF m 15 #[.val (.long x1), .second, .val (.long y1), .second, .val (.long (x1 / y1)), .second] [(.long (x1 / y1))]))
    refine Go.step (fun _ k => XS.lloadN X0.here hx rfl (hb hby d_jdk_29_method_49_code_15) rfl  k) ?_
    show Go p e below _ (s₁.setTop (mkF m 16 #[.val (.long x1), .second, .val (.long y1), .second, .val (.long (x1 / y1)), .second] [(.long y1), (.long (x1 / y1))]))
    refine Go.step (fun _ k => XS.lmul X0.here hx rfl (hb hby d_jdk_29_method_49_code_16) rfl k) ?_
    show Go p e below _ (s₁.setTop (mkF m 17 #[.val (.long x1), .second, .val (.long y1), .second, .val (.long (x1 / y1)), .second] [(.long ((x1 / y1) * y1))]))
    refine Go.step (fun _ k => XS.lloadN X0.here hx rfl (hb hby d_jdk_29_method_49_code_17) rfl  k) ?_
    show Go p e below _ (s₁.setTop (mkF m 18 #[.val (.long x1), .second, .val (.long y1), .second, .val (.long (x1 / y1)), .second] [(.long x1), (.long ((x1 / y1) * y1))]))
    refine Go.step (fun _ k => XS.lcmp X0.here hx rfl (hb hby d_jdk_29_method_49_code_18) rfl k) ?_
    show Go p e below _ (s₁.setTop (mkF m 19 #[.val (.long x1), .second, .val (.long y1), .second, .val (.long (x1 / y1)), .second] [(.int (lcmpW ((x1 / y1) * y1) x1))]))
    by_cases h2 : ((x1 / y1) * y1) = x1
    · skip
      refine Go.step (fun _ k => XS.ifYes X0.here hx rfl (pc0 := 19) (pc' := 27) rfl (hb hby d_jdk_29_method_49_code_19) rfl ((if0 _ _).trans (teq ((lw_eq _ _).mpr h2)).1) (by decide) (by decide) k) ?_
      show Go p e below _ (s₁.setTop (mkF m 27 #[.val (.long x1), .second, .val (.long y1), .second, .val (.long (x1 / y1)), .second] []))
      refine Go.step (fun _ k => XS.lload X0.here hx rfl (hb hby d_jdk_29_method_49_code_27) rfl  k) ?_
      show Go p e below _ (s₁.setTop (mkF m 29 #[.val (.long x1), .second, .val (.long y1), .second, .val (.long (x1 / y1)), .second] [(.long (x1 / y1))]))
      exact Go.retV X0 hx hlk hret rfl (Or.inr (Or.inl ⟨rfl, rfl, _, rfl⟩)) (hb hby d_jdk_29_method_49_code_29) (by decide) (by decide) (by rw [e0]; exact ⟨(by rw [fdivJ, if_pos h1, if_pos h2]), N0, rfl⟩)
    · skip
      refine Go.step (fun _ k => XS.ifNo X0.here hx rfl (hb hby d_jdk_29_method_49_code_19) rfl ((if0 _ _).trans (feq (fun q => h2 ((lw_eq _ _).mp q))).1) k) ?_
      show Go p e below _ (s₁.setTop (mkF m 22 #[.val (.long x1), .second, .val (.long y1), .second, .val (.long (x1 / y1)), .second] []))
      refine Go.step (fun _ k => XS.lload X0.here hx rfl (hb hby d_jdk_29_method_49_code_22) rfl  k) ?_
      show Go p e below _ (s₁.setTop (mkF m 24 #[.val (.long x1), .second, .val (.long y1), .second, .val (.long (x1 / y1)), .second] [(.long (x1 / y1))]))
      refine Go.step (fun _ k => XS.lconst X0.here hx rfl (hb hby d_jdk_29_method_49_code_24) k) ?_
      show Go p e below _ (s₁.setTop (mkF m 25 #[.val (.long x1), .second, .val (.long y1), .second, .val (.long (x1 / y1)), .second] [(.long (1 : Int64)), (.long (x1 / y1))]))
      refine Go.step (fun _ k => XS.lsub X0.here hx rfl (hb hby d_jdk_29_method_49_code_25) rfl k) ?_
      show Go p e below _ (s₁.setTop (mkF m 26 #[.val (.long x1), .second, .val (.long y1), .second, .val (.long (x1 / y1)), .second] [(.long ((x1 / y1) - (1 : Int64)))]))
      exact Go.retV X0 hx hlk hret rfl (Or.inr (Or.inl ⟨rfl, rfl, _, rfl⟩)) (hb hby d_jdk_29_method_49_code_26) (by decide) (by decide) (by rw [e0]; exact ⟨(by rw [fdivJ, if_pos h1, if_neg h2]), N0, rfl⟩)
  · skip
    refine Go.step (fun _ k => XS.ifYes X0.here hx rfl (pc0 := 10) (pc' := 27) rfl (hb hby d_jdk_29_method_49_code_10) rfl ((if0 _ _).trans (flt (fun q => h1 ((lw_lt _ _).mp q))).2.1) (by decide) (by decide) k) ?_
    show Go p e below _ (s₁.setTop (mkF m 27 #[.val (.long x1), .second, .val (.long y1), .second, .val (.long (x1 / y1)), .second] []))
    refine Go.step (fun _ k => XS.lload X0.here hx rfl (hb hby d_jdk_29_method_49_code_27) rfl  k) ?_
    show Go p e below _ (s₁.setTop (mkF m 29 #[.val (.long x1), .second, .val (.long y1), .second, .val (.long (x1 / y1)), .second] [(.long (x1 / y1))]))
    exact Go.retV X0 hx hlk hret rfl (Or.inr (Or.inl ⟨rfl, rfl, _, rfl⟩)) (hb hby d_jdk_29_method_49_code_29) (by decide) (by decide) (by rw [e0]; exact ⟨(by rw [fdivJ, if_neg h1]), N0, rfl⟩)
def Q_floorMod (Z : State) (ep : Addr) (mc : Addr) (sm : Addr) (ea : Addr) (be : Addr) (cz : Cell) (zc : Int32) (x1 : Int64) (y1 : Int64) (h0 : Heap) (n0 : Nat) (v : Option Value) (h : Heap) (L : List Loc) : Prop := v = some (.long (fmodJ x1 y1)) ∧ Fr n0 L ∧ h = h0
set_option maxRecDepth 65536 in
set_option maxHeartbeats 40000000 in
theorem rm_floorMod (l : Launch) (Z : State) (a0 : Array Value) (hw : ∀ d ∈ tables_1, d.before a0 Z = true) (ep : Addr) (mc : Addr) (sm : Addr) (ea : Addr) (be : Addr) (cz : Cell) (zc : Int32) (x1 : Int64) (y1 : Int64) (h0 : Heap) (n0 : Nat) (Z0 : n0 ≤ h0.size) (hy : y1 ≠ 0) (hSt : St Z ep mc sm ea be cz zc) (hO : Old Z n0 h0) :
    CN l Z ({ cls := "java/lang/Math", name := "floorMod", desc := "(JJ)J" } : Jvm.MethodName) [(Jvm.Cond.code ({ cls := "java/lang/Math", name := "floorMod", desc := "(JJ)J" } : Jvm.MethodName) jdk_29_method_52_code (6 : Nat) (Option.some Jvm.ClassFile.FieldType.long))] ({ frames := 0, cells := 0, slots := 0, locals := 0 } : Room) #[(.long x1), (.long y1)] h0 (Q_floorMod Z ep mc sm ea be cz zc x1 y1 h0 n0) := by
  refine CN.of (L0 := #[.val (.long x1), .second, .val (.long y1), .second, .unset, .unset]) (Jvm.Free.JP.mathPlain rfl (by decide +kernel)) (fun m => by first | rfl | (simp [entryFrame, mkF, argsToLocals, Value.category]; done)) ?_
  intro p e s m below meth c s₁ hx hby hml hret hlk hZ hown hnm X0 e0
  have N0 := Fr.nil n0
  have KP0 := Keep.refl h0 []
  have hSt_ := hSt
  obtain ⟨S_cs, n_cs, S_ep, E_ep, Fs_ep, Fn_ep, S_mc, E_mc, F_mc, S_sm, A_sm, n_sm, v_sm, S_ea, E_ea, Fs_ea, Fn_ea, S_be, E_be, Fs_be⟩ := hSt_
  show Go p e below _ (s₁.setTop (mkF m 0 #[.val (.long x1), .second, .val (.long y1), .second, .unset, .unset] []))
  refine Go.step (fun _ k => XS.lloadN X0.here hx rfl (hb hby d_jdk_29_method_52_code_0) rfl  k) ?_
  show Go p e below _ (s₁.setTop (mkF m 1 #[.val (.long x1), .second, .val (.long y1), .second, .unset, .unset] [(.long x1)]))
  refine Go.step (fun _ k => XS.lloadN X0.here hx rfl (hb hby d_jdk_29_method_52_code_1) rfl  k) ?_
  show Go p e below _ (s₁.setTop (mkF m 2 #[.val (.long x1), .second, .val (.long y1), .second, .unset, .unset] [(.long y1), (.long x1)]))
  refine Go.step (fun _ k => lremM X0 hx rfl (hb hby d_jdk_29_method_52_code_2) rfl hy k) ?_
  show Go p e below _ (s₁.setTop (mkF m 3 #[.val (.long x1), .second, .val (.long y1), .second, .unset, .unset] [(.long (x1 % y1))]))
  refine Go.step (fun _ k => XS.lstore X0.here hx rfl (hb hby d_jdk_29_method_52_code_3) rfl (l' := #[.val (.long x1), .second, .val (.long y1), .second, .val (.long (x1 % y1)), .second]) rfl k) ?_
  show Go p e below _ (s₁.setTop (mkF m 5 #[.val (.long x1), .second, .val (.long y1), .second, .val (.long (x1 % y1)), .second] []))
  refine Go.step (fun _ k => XS.lloadN X0.here hx rfl (hb hby d_jdk_29_method_52_code_5) rfl  k) ?_
  show Go p e below _ (s₁.setTop (mkF m 6 #[.val (.long x1), .second, .val (.long y1), .second, .val (.long (x1 % y1)), .second] [(.long x1)]))
  refine Go.step (fun _ k => XS.lloadN X0.here hx rfl (hb hby d_jdk_29_method_52_code_6) rfl  k) ?_
  show Go p e below _ (s₁.setTop (mkF m 7 #[.val (.long x1), .second, .val (.long y1), .second, .val (.long (x1 % y1)), .second] [(.long y1), (.long x1)]))
  refine Go.step (fun _ k => XS.lxor X0.here hx rfl (hb hby d_jdk_29_method_52_code_7) rfl k) ?_
  show Go p e below _ (s₁.setTop (mkF m 8 #[.val (.long x1), .second, .val (.long y1), .second, .val (.long (x1 % y1)), .second] [(.long (x1 ^^^ y1))]))
  refine Go.step (fun _ k => XS.lconst X0.here hx rfl (hb hby d_jdk_29_method_52_code_8) k) ?_
  show Go p e below _ (s₁.setTop (mkF m 9 #[.val (.long x1), .second, .val (.long y1), .second, .val (.long (x1 % y1)), .second] [(.long (0 : Int64)), (.long (x1 ^^^ y1))]))
  refine Go.step (fun _ k => XS.lcmp X0.here hx rfl (hb hby d_jdk_29_method_52_code_9) rfl k) ?_
  show Go p e below _ (s₁.setTop (mkF m 10 #[.val (.long x1), .second, .val (.long y1), .second, .val (.long (x1 % y1)), .second] [(.int (lcmpW (x1 ^^^ y1) (0 : Int64)))]))
  by_cases h1 : (x1 ^^^ y1) < (0 : Int64)
  · skip
    refine Go.step (fun _ k => XS.ifNo X0.here hx rfl (hb hby d_jdk_29_method_52_code_10) rfl ((if0 _ _).trans (tlt ((lw_lt _ _).mpr h1)).2.1) k) ?_
    show Go p e below _ (s₁.setTop (mkF m 13 #[.val (.long x1), .second, .val (.long y1), .second, .val (.long (x1 % y1)), .second] []))
    refine Go.step (fun _ k => XS.lload X0.here hx rfl (hb hby d_jdk_29_method_52_code_13) rfl  k) ?_
    show Go p e below _ (s₁.setTop (mkF m 15 #[.val (.long x1), .second, .val (.long y1), .second, .val (.long (x1 % y1)), .second] [(.long (x1 % y1))]))
    refine Go.step (fun _ k => XS.lconst X0.here hx rfl (hb hby d_jdk_29_method_52_code_15) k) ?_
    show Go p e below _ (s₁.setTop (mkF m 16 #[.val (.long x1), .second, .val (.long y1), .second, .val (.long (x1 % y1)), .second] [(.long (0 : Int64)), (.long (x1 % y1))]))
    refine Go.step (fun _ k => XS.lcmp X0.here hx rfl (hb hby d_jdk_29_method_52_code_16) rfl k) ?_
    show Go p e below _ (s₁.setTop (mkF m 17 #[.val (.long x1), .second, .val (.long y1), .second, .val (.long (x1 % y1)), .second] [(.int (lcmpW (x1 % y1) (0 : Int64)))]))
    by_cases h2 : (x1 % y1) = (0 : Int64)
    · skip
      refine Go.step (fun _ k => XS.ifYes X0.here hx rfl (pc0 := 17) (pc' := 25) rfl (hb hby d_jdk_29_method_52_code_17) rfl ((if0 _ _).trans (teq ((lw_eq _ _).mpr h2)).1) (by decide) (by decide) k) ?_
      show Go p e below _ (s₁.setTop (mkF m 25 #[.val (.long x1), .second, .val (.long y1), .second, .val (.long (x1 % y1)), .second] []))
      refine Go.step (fun _ k => XS.lload X0.here hx rfl (hb hby d_jdk_29_method_52_code_25) rfl  k) ?_
      show Go p e below _ (s₁.setTop (mkF m 27 #[.val (.long x1), .second, .val (.long y1), .second, .val (.long (x1 % y1)), .second] [(.long (x1 % y1))]))
      exact Go.retV X0 hx hlk hret rfl (Or.inr (Or.inl ⟨rfl, rfl, _, rfl⟩)) (hb hby d_jdk_29_method_52_code_27) (by decide) (by decide) (by rw [e0]; exact ⟨(by rw [fmodJ, if_pos h1, if_pos h2]), N0, rfl⟩)
    · skip
      refine Go.step (fun _ k => XS.ifNo X0.here hx rfl (hb hby d_jdk_29_method_52_code_17) rfl ((if0 _ _).trans (feq (fun q => h2 ((lw_eq _ _).mp q))).1) k) ?_
      show Go p e below _ (s₁.setTop (mkF m 20 #[.val (.long x1), .second, .val (.long y1), .second, .val (.long (x1 % y1)), .second] []))
      refine Go.step (fun _ k => XS.lload X0.here hx rfl (hb hby d_jdk_29_method_52_code_20) rfl  k) ?_
      show Go p e below _ (s₁.setTop (mkF m 22 #[.val (.long x1), .second, .val (.long y1), .second, .val (.long (x1 % y1)), .second] [(.long (x1 % y1))]))
      refine Go.step (fun _ k => XS.lloadN X0.here hx rfl (hb hby d_jdk_29_method_52_code_22) rfl  k) ?_
      show Go p e below _ (s₁.setTop (mkF m 23 #[.val (.long x1), .second, .val (.long y1), .second, .val (.long (x1 % y1)), .second] [(.long y1), (.long (x1 % y1))]))
      refine Go.step (fun _ k => XS.ladd X0.here hx rfl (hb hby d_jdk_29_method_52_code_23) rfl k) ?_
      show Go p e below _ (s₁.setTop (mkF m 24 #[.val (.long x1), .second, .val (.long y1), .second, .val (.long (x1 % y1)), .second] [(.long ((x1 % y1) + y1))]))
      exact Go.retV X0 hx hlk hret rfl (Or.inr (Or.inl ⟨rfl, rfl, _, rfl⟩)) (hb hby d_jdk_29_method_52_code_24) (by decide) (by decide) (by rw [e0]; exact ⟨(by rw [fmodJ, if_pos h1, if_neg h2]), N0, rfl⟩)
  · skip
    refine Go.step (fun _ k => XS.ifYes X0.here hx rfl (pc0 := 10) (pc' := 25) rfl (hb hby d_jdk_29_method_52_code_10) rfl ((if0 _ _).trans (flt (fun q => h1 ((lw_lt _ _).mp q))).2.1) (by decide) (by decide) k) ?_
    show Go p e below _ (s₁.setTop (mkF m 25 #[.val (.long x1), .second, .val (.long y1), .second, .val (.long (x1 % y1)), .second] []))
    refine Go.step (fun _ k => XS.lload X0.here hx rfl (hb hby d_jdk_29_method_52_code_25) rfl  k) ?_
    show Go p e below _ (s₁.setTop (mkF m 27 #[.val (.long x1), .second, .val (.long y1), .second, .val (.long (x1 % y1)), .second] [(.long (x1 % y1))]))
    exact Go.retV X0 hx hlk hret rfl (Or.inr (Or.inl ⟨rfl, rfl, _, rfl⟩)) (hb hby d_jdk_29_method_52_code_27) (by decide) (by decide) (by rw [e0]; exact ⟨(by rw [fmodJ, if_neg h1]), N0, rfl⟩)
def Q_lcompare (Z : State) (ep : Addr) (mc : Addr) (sm : Addr) (ea : Addr) (be : Addr) (cz : Cell) (zc : Int32) (x1 : Int64) (y1 : Int64) (h0 : Heap) (n0 : Nat) (v : Option Value) (h : Heap) (L : List Loc) : Prop := v = some (.int (cmpJ x1 y1)) ∧ Fr n0 L ∧ h = h0
set_option maxRecDepth 65536 in
set_option maxHeartbeats 40000000 in
theorem rm_lcompare (l : Launch) (Z : State) (a0 : Array Value) (hw : ∀ d ∈ tables_1, d.before a0 Z = true) (ep : Addr) (mc : Addr) (sm : Addr) (ea : Addr) (be : Addr) (cz : Cell) (zc : Int32) (x1 : Int64) (y1 : Int64) (h0 : Heap) (n0 : Nat) (Z0 : n0 ≤ h0.size) (hSt : St Z ep mc sm ea be cz zc) (hO : Old Z n0 h0) :
    CN l Z ({ cls := "java/lang/Long", name := "compare", desc := "(JJ)I" } : Jvm.MethodName) [(Jvm.Cond.code ({ cls := "java/lang/Long", name := "compare", desc := "(JJ)I" } : Jvm.MethodName) jdk_35_method_42_code (4 : Nat) (Option.some Jvm.ClassFile.FieldType.int))] ({ frames := 0, cells := 0, slots := 0, locals := 0 } : Room) #[(.long x1), (.long y1)] h0 (Q_lcompare Z ep mc sm ea be cz zc x1 y1 h0 n0) := by
  refine CN.of (L0 := #[.val (.long x1), .second, .val (.long y1), .second]) (plainFor_of_name pn_3) (fun m => by first | rfl | (simp [entryFrame, mkF, argsToLocals, Value.category]; done)) ?_
  intro p e s m below meth c s₁ hx hby hml hret hlk hZ hown hnm X0 e0
  have N0 := Fr.nil n0
  have KP0 := Keep.refl h0 []
  have hSt_ := hSt
  obtain ⟨S_cs, n_cs, S_ep, E_ep, Fs_ep, Fn_ep, S_mc, E_mc, F_mc, S_sm, A_sm, n_sm, v_sm, S_ea, E_ea, Fs_ea, Fn_ea, S_be, E_be, Fs_be⟩ := hSt_
  show Go p e below _ (s₁.setTop (mkF m 0 #[.val (.long x1), .second, .val (.long y1), .second] []))
  refine Go.step (fun _ k => XS.lloadN X0.here hx rfl (hb hby d_jdk_35_method_42_code_0) rfl  k) ?_
  show Go p e below _ (s₁.setTop (mkF m 1 #[.val (.long x1), .second, .val (.long y1), .second] [(.long x1)]))
  refine Go.step (fun _ k => XS.lloadN X0.here hx rfl (hb hby d_jdk_35_method_42_code_1) rfl  k) ?_
  show Go p e below _ (s₁.setTop (mkF m 2 #[.val (.long x1), .second, .val (.long y1), .second] [(.long y1), (.long x1)]))
  refine Go.step (fun _ k => XS.lcmp X0.here hx rfl (hb hby d_jdk_35_method_42_code_2) rfl k) ?_
  show Go p e below _ (s₁.setTop (mkF m 3 #[.val (.long x1), .second, .val (.long y1), .second] [(.int (lcmpW x1 y1))]))
  by_cases h1 : x1 < y1
  · skip
    refine Go.step (fun _ k => XS.ifNo X0.here hx rfl (hb hby d_jdk_35_method_42_code_3) rfl ((if0 _ _).trans (tlt ((lw_lt _ _).mpr h1)).2.1) k) ?_
    show Go p e below _ (s₁.setTop (mkF m 6 #[.val (.long x1), .second, .val (.long y1), .second] []))
    refine Go.step (fun _ k => XS.iconst X0.here hx rfl (hb hby d_jdk_35_method_42_code_6) k) ?_
    show Go p e below _ (s₁.setTop (mkF m 7 #[.val (.long x1), .second, .val (.long y1), .second] [(.int (-1 : Int32))]))
    refine Go.step (fun _ k => XS.goto X0.here hx rfl (pc0 := 7) (pc' := 21) rfl (hb hby d_jdk_35_method_42_code_7) (by decide) (by decide) k) ?_
    show Go p e below _ (s₁.setTop (mkF m 21 #[.val (.long x1), .second, .val (.long y1), .second] [(.int (-1 : Int32))]))
    exact Go.retV X0 hx hlk hret rfl (Or.inl ⟨rfl, Or.inl rfl, _, rfl⟩) (hb hby d_jdk_35_method_42_code_21) (by decide) (by decide) (by rw [e0]; exact ⟨(by rw [cmpJ, if_pos h1]), N0, rfl⟩)
  · skip
    refine Go.step (fun _ k => XS.ifYes X0.here hx rfl (pc0 := 3) (pc' := 10) rfl (hb hby d_jdk_35_method_42_code_3) rfl ((if0 _ _).trans (flt (fun q => h1 ((lw_lt _ _).mp q))).2.1) (by decide) (by decide) k) ?_
    show Go p e below _ (s₁.setTop (mkF m 10 #[.val (.long x1), .second, .val (.long y1), .second] []))
    refine Go.step (fun _ k => XS.lloadN X0.here hx rfl (hb hby d_jdk_35_method_42_code_10) rfl  k) ?_
    show Go p e below _ (s₁.setTop (mkF m 11 #[.val (.long x1), .second, .val (.long y1), .second] [(.long x1)]))
    refine Go.step (fun _ k => XS.lloadN X0.here hx rfl (hb hby d_jdk_35_method_42_code_11) rfl  k) ?_
    show Go p e below _ (s₁.setTop (mkF m 12 #[.val (.long x1), .second, .val (.long y1), .second] [(.long y1), (.long x1)]))
    refine Go.step (fun _ k => XS.lcmp X0.here hx rfl (hb hby d_jdk_35_method_42_code_12) rfl k) ?_
    show Go p e below _ (s₁.setTop (mkF m 13 #[.val (.long x1), .second, .val (.long y1), .second] [(.int (lcmpW x1 y1))]))
    by_cases h2 : x1 = y1
    · skip
      refine Go.step (fun _ k => XS.ifNo X0.here hx rfl (hb hby d_jdk_35_method_42_code_13) rfl ((if0 _ _).trans (teq ((lw_eq _ _).mpr h2)).2) k) ?_
      show Go p e below _ (s₁.setTop (mkF m 16 #[.val (.long x1), .second, .val (.long y1), .second] []))
      refine Go.step (fun _ k => XS.iconst X0.here hx rfl (hb hby d_jdk_35_method_42_code_16) k) ?_
      show Go p e below _ (s₁.setTop (mkF m 17 #[.val (.long x1), .second, .val (.long y1), .second] [(.int (0 : Int32))]))
      refine Go.step (fun _ k => XS.goto X0.here hx rfl (pc0 := 17) (pc' := 21) rfl (hb hby d_jdk_35_method_42_code_17) (by decide) (by decide) k) ?_
      show Go p e below _ (s₁.setTop (mkF m 21 #[.val (.long x1), .second, .val (.long y1), .second] [(.int (0 : Int32))]))
      exact Go.retV X0 hx hlk hret rfl (Or.inl ⟨rfl, Or.inl rfl, _, rfl⟩) (hb hby d_jdk_35_method_42_code_21) (by decide) (by decide) (by rw [e0]; exact ⟨(by rw [cmpJ, if_neg h1, if_pos h2]), N0, rfl⟩)
    · skip
      refine Go.step (fun _ k => XS.ifYes X0.here hx rfl (pc0 := 13) (pc' := 20) rfl (hb hby d_jdk_35_method_42_code_13) rfl ((if0 _ _).trans (feq (fun q => h2 ((lw_eq _ _).mp q))).2) (by decide) (by decide) k) ?_
      show Go p e below _ (s₁.setTop (mkF m 20 #[.val (.long x1), .second, .val (.long y1), .second] []))
      refine Go.step (fun _ k => XS.iconst X0.here hx rfl (hb hby d_jdk_35_method_42_code_20) k) ?_
      show Go p e below _ (s₁.setTop (mkF m 21 #[.val (.long x1), .second, .val (.long y1), .second] [(.int (1 : Int32))]))
      exact Go.retV X0 hx hlk hret rfl (Or.inl ⟨rfl, Or.inl rfl, _, rfl⟩) (hb hby d_jdk_35_method_42_code_21) (by decide) (by decide) (by rw [e0]; exact ⟨(by rw [cmpJ, if_neg h1, if_neg h2]), N0, rfl⟩)
def Q_initI (Z : State) (ep : Addr) (mc : Addr) (sm : Addr) (ea : Addr) (be : Addr) (cz : Cell) (zc : Int32) (a1 : Addr) (x1 : Int64) (p1 : Int32) (h0 : Heap) (n0 : Nat) (v : Option Value) (h : Heap) (L : List Loc) : Prop := v = none ∧ Fr n0 L ∧ Keep h0 h [a1] ∧ Fld Z h a1 "java/time/Instant" "seconds" "J" (.long x1) ∧ Fld Z h a1 "java/time/Instant" "nanos" "I" (.int p1)
set_option maxRecDepth 65536 in
set_option maxHeartbeats 40000000 in
theorem rm_initI (l : Launch) (Z : State) (a0 : Array Value) (hw : ∀ d ∈ tables_1, d.before a0 Z = true) (ep : Addr) (mc : Addr) (sm : Addr) (ea : Addr) (be : Addr) (cz : Cell) (zc : Int32) (a1 : Addr) (x1 : Int64) (p1 : Int32) (h0 : Heap) (n0 : Nat) (Z0 : n0 ≤ h0.size) (E_a1 : Exa Z h0 a1 "java/time/Instant") (Fs_a1 : Fld Z h0 a1 "java/time/Instant" "seconds" "J" (.long (0 : Int64))) (Fn_a1 : Fld Z h0 a1 "java/time/Instant" "nanos" "I" (.int (0 : Int32))) (g_a1 : n0 ≤ a1) (hSt : St Z ep mc sm ea be cz zc) (hO : Old Z n0 h0) :
    CN l Z ({ cls := "java/time/Instant", name := "<init>", desc := "(JI)V" } : Jvm.MethodName) [(Jvm.Cond.code ({ cls := "java/time/Instant", name := "<init>", desc := "(JI)V" } : Jvm.MethodName) jdk_2320_method_9_code (4 : Nat) (Option.none : Option Jvm.ClassFile.FieldType))] ({ frames := 1, cells := 0, slots := 0, locals := 12 } : Room) #[(.ref a1), (.long x1), (.int p1)] h0 (Q_initI Z ep mc sm ea be cz zc a1 x1 p1 h0 n0) := by
  refine CN.of (L0 := #[.val (.ref a1), .val (.long x1), .second, .val (.int p1)]) (plainFor_of_name pn_4) (fun m => by first | rfl | (simp [entryFrame, mkF, argsToLocals, Value.category]; done)) ?_
  intro p e s m below meth c s₁ hx hby hml hret hlk hZ hown hnm X0 e0
  have N0 := Fr.nil n0
  have KP0 := Keep.refl h0 [a1]
  have hSt_ := hSt
  obtain ⟨S_cs, n_cs, S_ep, E_ep, Fs_ep, Fn_ep, S_mc, E_mc, F_mc, S_sm, A_sm, n_sm, v_sm, S_ea, E_ea, Fs_ea, Fn_ea, S_be, E_be, Fs_be⟩ := hSt_
  show Go p e below _ (s₁.setTop (mkF m 0 #[.val (.ref a1), .val (.long x1), .second, .val (.int p1)] []))
  refine Go.step (fun _ k => XS.aloadN X0.here hx rfl (hb hby d_jdk_2320_method_9_code_0) rfl rfl k) ?_
  show Go p e below _ (s₁.setTop (mkF m 1 #[.val (.ref a1), .val (.long x1), .second, .val (.int p1)] [(.ref a1)]))
  obtain ⟨T_18, X_18, e_18, st_18⟩ := initO X0 hx hZ hown (wd_91 hw) (wd_23 hw) (wd_24 hw) e0 (g := (mkF m 1 #[.val (.ref a1), .val (.long x1), .second, .val (.int p1)] [(.ref a1)])) rfl (by rw [hml]; rfl) rfl (hb hby d_jdk_2320_method_9_code_1) (by decide) (W := 0) (by show 2 * 0 + _ ≤ _; exact Nat.le_of_eq rfl) (by decide)
  refine Go.step st_18 ?_
  show Go p e below _ (T_18.setTop (mkF m 4 #[.val (.ref a1), .val (.long x1), .second, .val (.int p1)] []))
  refine Go.step (fun _ k => XS.aloadN X_18.here hx rfl (hb hby d_jdk_2320_method_9_code_4) rfl rfl k) ?_
  show Go p e below _ (T_18.setTop (mkF m 5 #[.val (.ref a1), .val (.long x1), .second, .val (.int p1)] [(.ref a1)]))
  refine Go.step (fun _ k => XS.lloadN X_18.here hx rfl (hb hby d_jdk_2320_method_9_code_5) rfl  k) ?_
  show Go p e below _ (T_18.setTop (mkF m 6 #[.val (.ref a1), .val (.long x1), .second, .val (.int p1)] [(.long x1), (.ref a1)]))
  obtain ⟨T_19, h_19, X_19, e_19, W_19, st_19⟩ := putF X_18 hx hZ hown (host := "") (Or.inl (wd_62 hw)) Via.refl e_18 Fs_a1 E_a1 (Or.inr ⟨(wd_63 hw), rfl, hnm⟩) (wd_86 hw) (ty := .long) pf_2 rfl rfl (g := (mkF m 6 #[.val (.ref a1), .val (.long x1), .second, .val (.int p1)] [(.long x1), (.ref a1)])) rfl rfl (hb hby d_jdk_2320_method_9_code_6)
  refine Go.step st_19 ?_
  have N_19 := Fr.snoc X_19 N0 g_a1
  have le_19 : h0.size ≤ h_19.size := Nat.le_of_eq W_19.size.symm
  have KP_19 := KP0.wr W_19 (Or.inl (List.mem_of_getElem? (i := 0) rfl))
  have O_19 := hO.wr W_19 g_a1
  have F_19 : Fld Z h_19 a1 "java/time/Instant" "seconds" "J" (.long x1) := Fs_a1.same W_19
  show Go p e below _ (T_19.setTop (mkF m 9 #[.val (.ref a1), .val (.long x1), .second, .val (.int p1)] []))
  refine Go.step (fun _ k => XS.aloadN X_19.here hx rfl (hb hby d_jdk_2320_method_9_code_9) rfl rfl k) ?_
  show Go p e below _ (T_19.setTop (mkF m 10 #[.val (.ref a1), .val (.long x1), .second, .val (.int p1)] [(.ref a1)]))
  refine Go.step (fun _ k => XS.iloadN X_19.here hx rfl (hb hby d_jdk_2320_method_9_code_10) rfl  k) ?_
  show Go p e below _ (T_19.setTop (mkF m 11 #[.val (.ref a1), .val (.long x1), .second, .val (.int p1)] [(.int p1), (.ref a1)]))
  have f20 : Exa Z h_19 a1 "java/time/Instant" := (E_a1.wr W_19)
  have f21 : Fld Z h_19 a1 "java/time/Instant" "nanos" "I" (.int (0 : Int32)) := (Fn_a1.other W_19 (Or.inr (sn_2 hw)))
  obtain ⟨T_22, h_22, X_22, e_22, W_22, st_22⟩ := putF X_19 hx hZ hown (host := "") (Or.inl (wd_69 hw)) Via.refl e_19 f21 f20 (Or.inr ⟨(wd_70 hw), rfl, hnm⟩) (wd_86 hw) (ty := .int) pf_3 rfl rfl (g := (mkF m 11 #[.val (.ref a1), .val (.long x1), .second, .val (.int p1)] [(.int p1), (.ref a1)])) rfl rfl (hb hby d_jdk_2320_method_9_code_11)
  refine Go.step st_22 ?_
  have N_22 := Fr.snoc X_22 N_19 g_a1
  have le_22 : h_19.size ≤ h_22.size := Nat.le_of_eq W_22.size.symm
  have KP_22 := KP_19.wr W_22 (Or.inl (List.mem_of_getElem? (i := 0) rfl))
  have O_22 := O_19.wr W_22 g_a1
  have F_22 : Fld Z h_22 a1 "java/time/Instant" "nanos" "I" (.int p1) := f21.same W_22
  show Go p e below _ (T_22.setTop (mkF m 14 #[.val (.ref a1), .val (.long x1), .second, .val (.int p1)] []))
  have f23 : Fld Z h_22 a1 "java/time/Instant" "seconds" "J" (.long x1) := (F_19.other W_22 (Or.inr (sn_3 hw)))
  exact Go.ret0 X_22 hx hlk hret (hb hby d_jdk_2320_method_9_code_14) (by decide) (by decide) (by rw [e_22]; exact ⟨rfl, N_22, KP_22, f23, F_22⟩)
def Q_create (Z : State) (ep : Addr) (mc : Addr) (sm : Addr) (ea : Addr) (be : Addr) (cz : Cell) (zc : Int32) (x1 : Int64) (p1 : Int32) (h0 : Heap) (n0 : Nat) (v : Option Value) (h : Heap) (L : List Loc) : Prop := ∃ (r : Addr), v = some (.ref r) ∧ Fr n0 L ∧ Keep h0 h [] ∧ h0.size ≤ r ∧ Exa Z h r "java/time/Instant" ∧ Fld Z h r "java/time/Instant" "seconds" "J" (.long x1) ∧ Fld Z h r "java/time/Instant" "nanos" "I" (.int p1)
set_option maxRecDepth 65536 in
set_option maxHeartbeats 40000000 in
theorem rm_create (l : Launch) (Z : State) (a0 : Array Value) (hw : ∀ d ∈ tables_1, d.before a0 Z = true) (ep : Addr) (mc : Addr) (sm : Addr) (ea : Addr) (be : Addr) (cz : Cell) (zc : Int32) (x1 : Int64) (p1 : Int32) (h0 : Heap) (n0 : Nat) (Z0 : n0 ≤ h0.size) (h1 : ¬ (x1 ||| p1.toInt64) = 0) (h2 : ¬ x1 < -31557014167219200) (h3 : ¬ 31556889864403199 < x1) (hSt : St Z ep mc sm ea be cz zc) (hO : Old Z n0 h0) :
    CN l Z ({ cls := "java/time/Instant", name := "create", desc := "(JI)Ljava/time/Instant;" } : Jvm.MethodName) [(Jvm.Cond.code ({ cls := "java/time/Instant", name := "create", desc := "(JI)Ljava/time/Instant;" } : Jvm.MethodName) jdk_2320_method_8_code (3 : Nat) (Option.some (Jvm.ClassFile.FieldType.object "java/time/Instant")))] ({ frames := 2, cells := 1, slots := 2, locals := 28 } : Room) #[(.long x1), (.int p1)] h0 (Q_create Z ep mc sm ea be cz zc x1 p1 h0 n0) := by
  refine CN.of (L0 := #[.val (.long x1), .second, .val (.int p1)]) (plainFor_of_name pn_4) (fun m => by first | rfl | (simp [entryFrame, mkF, argsToLocals, Value.category]; done)) ?_
  intro p e s m below meth c s₁ hx hby hml hret hlk hZ hown hnm X0 e0
  have N0 := Fr.nil n0
  have KP0 := Keep.refl h0 []
  have hSt_ := hSt
  obtain ⟨S_cs, n_cs, S_ep, E_ep, Fs_ep, Fn_ep, S_mc, E_mc, F_mc, S_sm, A_sm, n_sm, v_sm, S_ea, E_ea, Fs_ea, Fn_ea, S_be, E_be, Fs_be⟩ := hSt_
  show Go p e below _ (s₁.setTop (mkF m 0 #[.val (.long x1), .second, .val (.int p1)] []))
  refine Go.step (fun _ k => XS.lloadN X0.here hx rfl (hb hby d_jdk_2320_method_8_code_0) rfl  k) ?_
  show Go p e below _ (s₁.setTop (mkF m 1 #[.val (.long x1), .second, .val (.int p1)] [(.long x1)]))
  refine Go.step (fun _ k => XS.iloadN X0.here hx rfl (hb hby d_jdk_2320_method_8_code_1) rfl  k) ?_
  show Go p e below _ (s₁.setTop (mkF m 2 #[.val (.long x1), .second, .val (.int p1)] [(.int p1), (.long x1)]))
  refine Go.step (fun _ k => XS.i2l X0.here hx rfl (hb hby d_jdk_2320_method_8_code_2) rfl k) ?_
  show Go p e below _ (s₁.setTop (mkF m 3 #[.val (.long x1), .second, .val (.int p1)] [(.long p1.toInt64), (.long x1)]))
  refine Go.step (fun _ k => XS.lor X0.here hx rfl (hb hby d_jdk_2320_method_8_code_3) rfl k) ?_
  show Go p e below _ (s₁.setTop (mkF m 4 #[.val (.long x1), .second, .val (.int p1)] [(.long (x1 ||| p1.toInt64))]))
  refine Go.step (fun _ k => XS.lconst X0.here hx rfl (hb hby d_jdk_2320_method_8_code_4) k) ?_
  show Go p e below _ (s₁.setTop (mkF m 5 #[.val (.long x1), .second, .val (.int p1)] [(.long (0 : Int64)), (.long (x1 ||| p1.toInt64))]))
  refine Go.step (fun _ k => XS.lcmp X0.here hx rfl (hb hby d_jdk_2320_method_8_code_5) rfl k) ?_
  show Go p e below _ (s₁.setTop (mkF m 6 #[.val (.long x1), .second, .val (.int p1)] [(.int (lcmpW (x1 ||| p1.toInt64) (0 : Int64)))]))
  refine Go.step (fun _ k => XS.ifYes X0.here hx rfl (pc0 := 6) (pc' := 13) rfl (hb hby d_jdk_2320_method_8_code_6) rfl ((if0 _ _).trans (feq (fun q => (h1 : ¬ ((x1 ||| p1.toInt64) = (0 : Int64))) ((lw_eq _ _).mp q))).2) (by decide) (by decide) k) ?_
  show Go p e below _ (s₁.setTop (mkF m 13 #[.val (.long x1), .second, .val (.int p1)] []))
  refine Go.step (fun _ k => XS.lloadN X0.here hx rfl (hb hby d_jdk_2320_method_8_code_13) rfl  k) ?_
  show Go p e below _ (s₁.setTop (mkF m 14 #[.val (.long x1), .second, .val (.int p1)] [(.long x1)]))
  refine Go.step (fun _ k => X0.ldc2Long hx hown (mvT hZ (wd_83 hw)) (g := (mkF m 14 #[.val (.long x1), .second, .val (.int p1)] [(.long x1)])) rfl (hb hby d_jdk_2320_method_8_code_14) _ k) ?_
  show Go p e below _ (s₁.setTop (mkF m 17 #[.val (.long x1), .second, .val (.int p1)] [(.long (-31557014167219200 : Int64)), (.long x1)]))
  refine Go.step (fun _ k => XS.lcmp X0.here hx rfl (hb hby d_jdk_2320_method_8_code_17) rfl k) ?_
  show Go p e below _ (s₁.setTop (mkF m 18 #[.val (.long x1), .second, .val (.int p1)] [(.int (lcmpW x1 (-31557014167219200 : Int64)))]))
  refine Go.step (fun _ k => XS.ifNo X0.here hx rfl (hb hby d_jdk_2320_method_8_code_18) rfl ((if0 _ _).trans (flt (fun q => (h2 : ¬ (x1 < (-31557014167219200 : Int64))) ((lw_lt _ _).mp q))).1) k) ?_
  show Go p e below _ (s₁.setTop (mkF m 21 #[.val (.long x1), .second, .val (.int p1)] []))
  refine Go.step (fun _ k => XS.lloadN X0.here hx rfl (hb hby d_jdk_2320_method_8_code_21) rfl  k) ?_
  show Go p e below _ (s₁.setTop (mkF m 22 #[.val (.long x1), .second, .val (.int p1)] [(.long x1)]))
  refine Go.step (fun _ k => X0.ldc2Long hx hown (mvT hZ (wd_84 hw)) (g := (mkF m 22 #[.val (.long x1), .second, .val (.int p1)] [(.long x1)])) rfl (hb hby d_jdk_2320_method_8_code_22) _ k) ?_
  show Go p e below _ (s₁.setTop (mkF m 25 #[.val (.long x1), .second, .val (.int p1)] [(.long (31556889864403199 : Int64)), (.long x1)]))
  refine Go.step (fun _ k => XS.lcmp X0.here hx rfl (hb hby d_jdk_2320_method_8_code_25) rfl k) ?_
  show Go p e below _ (s₁.setTop (mkF m 26 #[.val (.long x1), .second, .val (.int p1)] [(.int (lcmpW x1 (31556889864403199 : Int64)))]))
  refine Go.step (fun _ k => XS.ifYes X0.here hx rfl (pc0 := 26) (pc' := 39) rfl (hb hby d_jdk_2320_method_8_code_26) rfl ((if0 _ _).trans (flt (fun q => (h3 : ¬ ((31556889864403199 : Int64) < x1)) ((lw_gt _ _).mp q))).2.2.2) (by decide) (by decide) k) ?_
  show Go p e below _ (s₁.setTop (mkF m 39 #[.val (.long x1), .second, .val (.int p1)] []))
  obtain ⟨T_24, h_24, X_24, e_24, E_24, A_24, D_24, -, st_24⟩ := newO X0 hx hZ hown (wd_85 hw) (wd_86 hw) (wd_34 hw) e0 (g := (mkF m 39 #[.val (.long x1), .second, .val (.int p1)] [])) rfl (hb hby d_jdk_2320_method_8_code_39) (by decide) (by decide)
  obtain ⟨b24, q_24⟩ : ∃ z, z = h0.size := ⟨_, rfl⟩
  rw [← q_24] at A_24 D_24 st_24
  refine Go.step st_24 ?_
  have le_24 : h0.size ≤ h_24.size := E_24.1
  have KP_24 := KP0.ext E_24
  have O_24 := hO.ext E_24
  have ge_24 : h0.size ≤ b24 := Nat.le_of_eq q_24.symm
  have sz_b24 : h0.size ≤ b24 := Nat.le_trans (Nat.le_refl _) ge_24
  have g_b24 : n0 ≤ b24 := Nat.le_trans Z0 sz_b24
  have F_24_63 : Fld Z h_24 b24 "java/time/Instant" "seconds" "J" (.long (0 : Int64)) := D_24 (Or.inr (wd_63 hw)) (ty := .long) pf_2
  have F_24_70 : Fld Z h_24 b24 "java/time/Instant" "nanos" "I" (.int (0 : Int32)) := D_24 (Or.inr (wd_70 hw)) (ty := .int) pf_3
  show Go p e below _ (T_24.setTop (mkF m 42 #[.val (.long x1), .second, .val (.int p1)] [(.ref b24)]))
  refine Go.step (fun _ k => XS.dup X_24.here hx rfl (hb hby d_jdk_2320_method_8_code_42) rfl rfl k) ?_
  show Go p e below _ (T_24.setTop (mkF m 43 #[.val (.long x1), .second, .val (.int p1)] [(.ref b24), (.ref b24)]))
  refine Go.step (fun _ k => XS.lloadN X_24.here hx rfl (hb hby d_jdk_2320_method_8_code_43) rfl  k) ?_
  show Go p e below _ (T_24.setTop (mkF m 44 #[.val (.long x1), .second, .val (.int p1)] [(.long x1), (.ref b24), (.ref b24)]))
  refine Go.step (fun _ k => XS.iloadN X_24.here hx rfl (hb hby d_jdk_2320_method_8_code_44) rfl  k) ?_
  show Go p e below _ (T_24.setTop (mkF m 45 #[.val (.long x1), .second, .val (.int p1)] [(.int p1), (.long x1), (.ref b24), (.ref b24)]))
  obtain ⟨v_25, T_25, L_25, X_25, hQ_25, st_25⟩ := goC X_24 hx hZ (y := ({ cls := "java/time/Instant", name := "<init>", desc := "(JI)V" } : Jvm.MethodName)) hown rfl (wd_87 hw) (wd_88 hw) (wd_90 hw) (by decide) (backOf (W := 1) (rm_initI l Z a0 hw ep mc sm ea be cz zc (b24) (x1) (p1) h_24 n0 (Nat.le_trans Z0 KP_24.1) A_24 F_24_63 F_24_70 g_b24 hSt O_24) hZ (wd_90 hw) (wd_34 hw) (by decide) (by decide)) e_24 (g := (mkF m 45 #[.val (.long x1), .second, .val (.int p1)] [(.int p1), (.long x1), (.ref b24), (.ref b24)])) rfl (by rw [hml]; rfl) (a := b24) (argsL := [(.long x1), (.int p1)]) (rest := [(.ref b24)]) rfl (lenOf pd_3 rfl) rfl (by show 2 * 0 + _ ≤ _; exact Nat.le_of_eq rfl) (hb hby d_jdk_2320_method_8_code_45) (by decide) (by decide)
  obtain ⟨rfl, Nq_25, K_25, u0_25, u1_25⟩ := hQ_25
  have N_25 := Fr.app N0 Nq_25
  have le_25 : h_24.size ≤ T_25.heap.size := K_25.1
  have KP_25 := KP_24.trans K_25 (allS (Or.inr sz_b24) all0)
  have O_25 := O_24.keep K_25 (allS g_b24 all0)
  refine Go.step st_25 ?_
  show Go p e below _ (T_25.setTop (mkF m 48 #[.val (.long x1), .second, .val (.int p1)] [(.ref b24)]))
  have f26 : Exa Z T_25.heap b24 "java/time/Instant" := (A_24.keep K_25)
  exact Go.retV X_25 hx hlk hret rfl (Or.inr (Or.inr (Or.inr (Or.inr ⟨rfl, rfl, rfl⟩)))) (hb hby d_jdk_2320_method_8_code_48) (by decide) (by decide) (by exact ⟨b24, rfl, N_25, KP_25, sz_b24, f26, u0_25, u1_25⟩)
def Q_ofEpoch (Z : State) (ep : Addr) (mc : Addr) (sm : Addr) (ea : Addr) (be : Addr) (cz : Cell) (zc : Int32) (x1 : Int64) (y1 : Int64) (h0 : Heap) (n0 : Nat) (v : Option Value) (h : Heap) (L : List Loc) : Prop := ∃ (r : Addr) (se : Int64) (na : Int32), v = some (.ref r) ∧ Fr n0 L ∧ Keep h0 h [] ∧ Exa Z h r "java/time/Instant" ∧ Fld Z h r "java/time/Instant" "seconds" "J" (.long se) ∧ Fld Z h r "java/time/Instant" "nanos" "I" (.int na) ∧ se.toInt * 1000000000 + na.toInt = x1.toInt * 1000000000 + y1.toInt ∧ 0 ≤ na.toInt ∧ na.toInt < 1000000000
set_option maxRecDepth 65536 in
set_option maxHeartbeats 40000000 in
theorem rm_ofEpoch (l : Launch) (Z : State) (a0 : Array Value) (hw : ∀ d ∈ tables_1, d.before a0 Z = true) (ep : Addr) (mc : Addr) (sm : Addr) (ea : Addr) (be : Addr) (cz : Cell) (zc : Int32) (x1 : Int64) (y1 : Int64) (h0 : Heap) (n0 : Nat) (Z0 : n0 ≤ h0.size) (hb1 : -62167219200 ≤ x1.toInt ∧ x1.toInt ≤ 253402300800 ∧ -1000000000 < y1.toInt ∧ y1.toInt < 1000000000) (hnz : ¬ x1.toInt * 1000000000 + y1.toInt = 0) (hSt : St Z ep mc sm ea be cz zc) (hO : Old Z n0 h0) :
    CN l Z ({ cls := "java/time/Instant", name := "ofEpochSecond", desc := "(JJ)Ljava/time/Instant;" } : Jvm.MethodName) [(Jvm.Cond.code ({ cls := "java/time/Instant", name := "ofEpochSecond", desc := "(JJ)Ljava/time/Instant;" } : Jvm.MethodName) jdk_2320_method_4_code (7 : Nat) (Option.some (Jvm.ClassFile.FieldType.object "java/time/Instant")))] ({ frames := 3, cells := 1, slots := 2, locals := 42 } : Room) #[(.long x1), (.long y1)] h0 (Q_ofEpoch Z ep mc sm ea be cz zc x1 y1 h0 n0) := by
  refine CN.of (L0 := #[.val (.long x1), .second, .val (.long y1), .second, .unset, .unset, .unset]) (plainFor_of_name pn_4) (fun m => by first | rfl | (simp [entryFrame, mkF, argsToLocals, Value.category]; done)) ?_
  intro p e s m below meth c s₁ hx hby hml hret hlk hZ hown hnm X0 e0
  have N0 := Fr.nil n0
  have KP0 := Keep.refl h0 []
  have hSt_ := hSt
  obtain ⟨S_cs, n_cs, S_ep, E_ep, Fs_ep, Fn_ep, S_mc, E_mc, F_mc, S_sm, A_sm, n_sm, v_sm, S_ea, E_ea, Fs_ea, Fn_ea, S_be, E_be, Fs_be⟩ := hSt_
  show Go p e below _ (s₁.setTop (mkF m 0 #[.val (.long x1), .second, .val (.long y1), .second, .unset, .unset, .unset] []))
  refine Go.step (fun _ k => XS.lloadN X0.here hx rfl (hb hby d_jdk_2320_method_4_code_0) rfl  k) ?_
  show Go p e below _ (s₁.setTop (mkF m 1 #[.val (.long x1), .second, .val (.long y1), .second, .unset, .unset, .unset] [(.long x1)]))
  refine Go.step (fun _ k => XS.lloadN X0.here hx rfl (hb hby d_jdk_2320_method_4_code_1) rfl  k) ?_
  show Go p e below _ (s₁.setTop (mkF m 2 #[.val (.long x1), .second, .val (.long y1), .second, .unset, .unset, .unset] [(.long y1), (.long x1)]))
  refine Go.step (fun _ k => X0.ldc2Long hx hown (mvT hZ (wd_68 hw)) (g := (mkF m 2 #[.val (.long x1), .second, .val (.long y1), .second, .unset, .unset, .unset] [(.long y1), (.long x1)])) rfl (hb hby d_jdk_2320_method_4_code_2) _ k) ?_
  show Go p e below _ (s₁.setTop (mkF m 5 #[.val (.long x1), .second, .val (.long y1), .second, .unset, .unset, .unset] [(.long (1000000000 : Int64)), (.long y1), (.long x1)]))
  obtain ⟨v_27, T_27, L_27, X_27, hQ_27, st_27⟩ := goS X0 hx hZ (y := ({ cls := "java/lang/Math", name := "floorDiv", desc := "(JJ)J" } : Jvm.MethodName)) hown (wd_74 hw) (wd_75 hw) (wd_66 hw) (wd_76 hw) (by decide) (backOf (W := 2) (rm_floorDiv l Z a0 hw ep mc sm ea be cz zc (y1) ((1000000000 : Int64)) h0 n0 (Nat.le_trans Z0 KP0.1) (by decide) hSt hO) hZ (wd_76 hw) (wd_66 hw) (by decide) (by decide)) e0 (g := (mkF m 5 #[.val (.long x1), .second, .val (.long y1), .second, .unset, .unset, .unset] [(.long (1000000000 : Int64)), (.long y1), (.long x1)])) rfl (by rw [hml]; rfl) (argsL := [(.long y1), (.long (1000000000 : Int64))]) (rest := [(.long x1)]) rfl (lenOf pd_4 rfl) rfl (by show 2 * 0 + _ ≤ _; exact Nat.le_of_eq rfl) (hb hby d_jdk_2320_method_4_code_5) (by decide) (by decide)
  obtain ⟨rfl, Nq_27, e_27⟩ := hQ_27
  have N_27 := Fr.app N0 Nq_27
  refine Go.step st_27 ?_
  show Go p e below _ (T_27.setTop (mkF m 8 #[.val (.long x1), .second, .val (.long y1), .second, .unset, .unset, .unset] [(.long (fdivJ y1 (1000000000 : Int64))), (.long x1)]))
  obtain ⟨v_28, T_28, L_28, X_28, hQ_28, st_28⟩ := goS X_27 hx hZ (y := ({ cls := "java/lang/Math", name := "addExact", desc := "(JJ)J" } : Jvm.MethodName)) hown (wd_64 hw) (wd_65 hw) (wd_66 hw) (wd_67 hw) (by decide) (backOf (W := 0) (rm_addExact l Z a0 hw ep mc sm ea be cz zc (x1) ((fdivJ y1 (1000000000 : Int64))) h0 n0 (Nat.le_trans Z0 KP0.1) (oe_ov hb1) hSt hO) hZ (wd_67 hw) (wd_66 hw) (by decide) (by decide)) e_27 (g := (mkF m 8 #[.val (.long x1), .second, .val (.long y1), .second, .unset, .unset, .unset] [(.long (fdivJ y1 (1000000000 : Int64))), (.long x1)])) rfl (by rw [hml]; rfl) (argsL := [(.long x1), (.long (fdivJ y1 (1000000000 : Int64)))]) (rest := []) rfl (lenOf pd_4 rfl) rfl (by show 2 * 0 + _ ≤ _; exact Nat.le_of_eq rfl) (hb hby d_jdk_2320_method_4_code_8) (by decide) (by decide)
  obtain ⟨rfl, Nq_28, e_28⟩ := hQ_28
  have N_28 := Fr.app N_27 Nq_28
  refine Go.step st_28 ?_
  show Go p e below _ (T_28.setTop (mkF m 11 #[.val (.long x1), .second, .val (.long y1), .second, .unset, .unset, .unset] [(.long (x1 + (fdivJ y1 (1000000000 : Int64))))]))
  refine Go.step (fun _ k => XS.lstore X_28.here hx rfl (hb hby d_jdk_2320_method_4_code_11) rfl (l' := #[.val (.long x1), .second, .val (.long y1), .second, .val (.long (x1 + (fdivJ y1 (1000000000 : Int64)))), .second, .unset]) rfl k) ?_
  show Go p e below _ (T_28.setTop (mkF m 13 #[.val (.long x1), .second, .val (.long y1), .second, .val (.long (x1 + (fdivJ y1 (1000000000 : Int64)))), .second, .unset] []))
  refine Go.step (fun _ k => XS.lloadN X_28.here hx rfl (hb hby d_jdk_2320_method_4_code_13) rfl  k) ?_
  show Go p e below _ (T_28.setTop (mkF m 14 #[.val (.long x1), .second, .val (.long y1), .second, .val (.long (x1 + (fdivJ y1 (1000000000 : Int64)))), .second, .unset] [(.long y1)]))
  refine Go.step (fun _ k => X_28.ldc2Long hx hown (mvT hZ (wd_68 hw)) (g := (mkF m 14 #[.val (.long x1), .second, .val (.long y1), .second, .val (.long (x1 + (fdivJ y1 (1000000000 : Int64)))), .second, .unset] [(.long y1)])) rfl (hb hby d_jdk_2320_method_4_code_14) _ k) ?_
  show Go p e below _ (T_28.setTop (mkF m 17 #[.val (.long x1), .second, .val (.long y1), .second, .val (.long (x1 + (fdivJ y1 (1000000000 : Int64)))), .second, .unset] [(.long (1000000000 : Int64)), (.long y1)]))
  obtain ⟨v_29, T_29, L_29, X_29, hQ_29, st_29⟩ := goS X_28 hx hZ (y := ({ cls := "java/lang/Math", name := "floorMod", desc := "(JJ)J" } : Jvm.MethodName)) hown (wd_77 hw) (wd_78 hw) (wd_66 hw) (wd_79 hw) (by decide) (backOf (W := 0) (rm_floorMod l Z a0 hw ep mc sm ea be cz zc (y1) ((1000000000 : Int64)) h0 n0 (Nat.le_trans Z0 KP0.1) (by decide) hSt hO) hZ (wd_79 hw) (wd_66 hw) (by decide) (by decide)) e_28 (g := (mkF m 17 #[.val (.long x1), .second, .val (.long y1), .second, .val (.long (x1 + (fdivJ y1 (1000000000 : Int64)))), .second, .unset] [(.long (1000000000 : Int64)), (.long y1)])) rfl (by rw [hml]; rfl) (argsL := [(.long y1), (.long (1000000000 : Int64))]) (rest := []) rfl (lenOf pd_4 rfl) rfl (by show 2 * 0 + _ ≤ _; exact Nat.le_of_eq rfl) (hb hby d_jdk_2320_method_4_code_17) (by decide) (by decide)
  obtain ⟨rfl, Nq_29, e_29⟩ := hQ_29
  have N_29 := Fr.app N_28 Nq_29
  refine Go.step st_29 ?_
  show Go p e below _ (T_29.setTop (mkF m 20 #[.val (.long x1), .second, .val (.long y1), .second, .val (.long (x1 + (fdivJ y1 (1000000000 : Int64)))), .second, .unset] [(.long (fmodJ y1 (1000000000 : Int64)))]))
  refine Go.step (fun _ k => XS.l2i X_29.here hx rfl (hb hby d_jdk_2320_method_4_code_20) rfl k) ?_
  show Go p e below _ (T_29.setTop (mkF m 21 #[.val (.long x1), .second, .val (.long y1), .second, .val (.long (x1 + (fdivJ y1 (1000000000 : Int64)))), .second, .unset] [(.int (fmodJ y1 (1000000000 : Int64)).toInt32)]))
  refine Go.step (fun _ k => XS.istore X_29.here hx rfl (hb hby d_jdk_2320_method_4_code_21) rfl (l' := #[.val (.long x1), .second, .val (.long y1), .second, .val (.long (x1 + (fdivJ y1 (1000000000 : Int64)))), .second, .val (.int (fmodJ y1 (1000000000 : Int64)).toInt32)]) rfl k) ?_
  show Go p e below _ (T_29.setTop (mkF m 23 #[.val (.long x1), .second, .val (.long y1), .second, .val (.long (x1 + (fdivJ y1 (1000000000 : Int64)))), .second, .val (.int (fmodJ y1 (1000000000 : Int64)).toInt32)] []))
  refine Go.step (fun _ k => XS.lload X_29.here hx rfl (hb hby d_jdk_2320_method_4_code_23) rfl  k) ?_
  show Go p e below _ (T_29.setTop (mkF m 25 #[.val (.long x1), .second, .val (.long y1), .second, .val (.long (x1 + (fdivJ y1 (1000000000 : Int64)))), .second, .val (.int (fmodJ y1 (1000000000 : Int64)).toInt32)] [(.long (x1 + (fdivJ y1 (1000000000 : Int64))))]))
  refine Go.step (fun _ k => XS.iload X_29.here hx rfl (hb hby d_jdk_2320_method_4_code_25) rfl  k) ?_
  show Go p e below _ (T_29.setTop (mkF m 27 #[.val (.long x1), .second, .val (.long y1), .second, .val (.long (x1 + (fdivJ y1 (1000000000 : Int64)))), .second, .val (.int (fmodJ y1 (1000000000 : Int64)).toInt32)] [(.int (fmodJ y1 (1000000000 : Int64)).toInt32), (.long (x1 + (fdivJ y1 (1000000000 : Int64))))]))
  obtain ⟨v_30, T_30, L_30, X_30, hQ_30, st_30⟩ := goS X_29 hx hZ (y := ({ cls := "java/time/Instant", name := "create", desc := "(JI)Ljava/time/Instant;" } : Jvm.MethodName)) hown (wd_80 hw) (wd_81 hw) (wd_34 hw) (wd_82 hw) (by decide) (backOf (W := 0) (rm_create l Z a0 hw ep mc sm ea be cz zc ((x1 + (fdivJ y1 (1000000000 : Int64)))) ((fmodJ y1 (1000000000 : Int64)).toInt32) h0 n0 (Nat.le_trans Z0 KP0.1) (oe_nz hb1 hnz) (oe_lo hb1) (oe_hi hb1) hSt hO) hZ (wd_82 hw) (wd_34 hw) (by decide) (by decide)) e_29 (g := (mkF m 27 #[.val (.long x1), .second, .val (.long y1), .second, .val (.long (x1 + (fdivJ y1 (1000000000 : Int64)))), .second, .val (.int (fmodJ y1 (1000000000 : Int64)).toInt32)] [(.int (fmodJ y1 (1000000000 : Int64)).toInt32), (.long (x1 + (fdivJ y1 (1000000000 : Int64))))])) rfl (by rw [hml]; rfl) (argsL := [(.long (x1 + (fdivJ y1 (1000000000 : Int64)))), (.int (fmodJ y1 (1000000000 : Int64)).toInt32)]) (rest := []) rfl (lenOf pd_5 rfl) rfl (by show 2 * 0 + _ ≤ _; exact Nat.le_of_eq rfl) (hb hby d_jdk_2320_method_4_code_27) (by decide) (by decide)
  obtain ⟨r_30, rfl, Nq_30, K_30, u0_30, u1_30, u2_30, u3_30⟩ := hQ_30
  have N_30 := Fr.app N_29 Nq_30
  have le_30 : h0.size ≤ T_30.heap.size := K_30.1
  have KP_30 := KP0.trans K_30 all0
  have O_30 := hO.keep K_30 all0
  have sz_r_30 : h0.size ≤ r_30 := Nat.le_trans (Nat.le_refl _) u0_30
  have g_r_30 : n0 ≤ r_30 := Nat.le_trans Z0 sz_r_30
  refine Go.step st_30 ?_
  show Go p e below _ (T_30.setTop (mkF m 30 #[.val (.long x1), .second, .val (.long y1), .second, .val (.long (x1 + (fdivJ y1 (1000000000 : Int64)))), .second, .val (.int (fmodJ y1 (1000000000 : Int64)).toInt32)] [(.ref r_30)]))
  exact Go.retV X_30 hx hlk hret rfl (Or.inr (Or.inr (Or.inr (Or.inr ⟨rfl, rfl, rfl⟩)))) (hb hby d_jdk_2320_method_4_code_30) (by decide) (by decide) (by exact ⟨r_30, (x1 + (fdivJ y1 (1000000000 : Int64))), (fmodJ y1 (1000000000 : Int64)).toInt32, rfl, N_30, KP_30, u1_30, u2_30, u3_30, (oe_res hb1)⟩)
def Q_plusJJ (Z : State) (ep : Addr) (mc : Addr) (sm : Addr) (ea : Addr) (be : Addr) (cz : Cell) (zc : Int32) (x1 : Int64) (y1 : Int64) (h0 : Heap) (n0 : Nat) (v : Option Value) (h : Heap) (L : List Loc) : Prop := ∃ (r : Addr) (se : Int64) (na : Int32), v = some (.ref r) ∧ Fr n0 L ∧ Keep h0 h [] ∧ Exa Z h r "java/time/Instant" ∧ Fld Z h r "java/time/Instant" "seconds" "J" (.long se) ∧ Fld Z h r "java/time/Instant" "nanos" "I" (.int na) ∧ se.toInt * 1000000000 + na.toInt = x1.toInt * 1000000000 + y1.toInt ∧ 0 ≤ na.toInt ∧ na.toInt < 1000000000
set_option maxRecDepth 65536 in
set_option maxHeartbeats 40000000 in
theorem rm_plusJJ (l : Launch) (Z : State) (a0 : Array Value) (hw : ∀ d ∈ tables_1, d.before a0 Z = true) (ep : Addr) (mc : Addr) (sm : Addr) (ea : Addr) (be : Addr) (cz : Cell) (zc : Int32) (x1 : Int64) (y1 : Int64) (h0 : Heap) (n0 : Nat) (Z0 : n0 ≤ h0.size) (hb1 : -62167219200 ≤ x1.toInt ∧ x1.toInt ≤ 253402300800 ∧ -1000000000 < y1.toInt ∧ y1.toInt < 1000000000) (hSt : St Z ep mc sm ea be cz zc) (hO : Old Z n0 h0) :
    CN l Z ({ cls := "java/time/Instant", name := "plus", desc := "(JJ)Ljava/time/Instant;" } : Jvm.MethodName) [(Jvm.Cond.code ({ cls := "java/time/Instant", name := "plus", desc := "(JJ)Ljava/time/Instant;" } : Jvm.MethodName) jdk_2320_method_25_code (9 : Nat) (Option.some (Jvm.ClassFile.FieldType.object "java/time/Instant")))] ({ frames := 4, cells := 1, slots := 2, locals := 60 } : Room) #[(.ref ep), (.long x1), (.long y1)] h0 (Q_plusJJ Z ep mc sm ea be cz zc x1 y1 h0 n0) := by
  refine CN.of (L0 := #[.val (.ref ep), .val (.long x1), .second, .val (.long y1), .second, .unset, .unset, .unset, .unset]) (plainFor_of_name pn_4) (fun m => by first | rfl | (simp [entryFrame, mkF, argsToLocals, Value.category]; done)) ?_
  intro p e s m below meth c s₁ hx hby hml hret hlk hZ hown hnm X0 e0
  have N0 := Fr.nil n0
  have KP0 := Keep.refl h0 []
  have hSt_ := hSt
  obtain ⟨S_cs, n_cs, S_ep, E_ep, Fs_ep, Fn_ep, S_mc, E_mc, F_mc, S_sm, A_sm, n_sm, v_sm, S_ea, E_ea, Fs_ea, Fn_ea, S_be, E_be, Fs_be⟩ := hSt_
  show Go p e below _ (s₁.setTop (mkF m 0 #[.val (.ref ep), .val (.long x1), .second, .val (.long y1), .second, .unset, .unset, .unset, .unset] []))
  refine Go.step (fun _ k => XS.lloadN X0.here hx rfl (hb hby d_jdk_2320_method_25_code_0) rfl  k) ?_
  show Go p e below _ (s₁.setTop (mkF m 1 #[.val (.ref ep), .val (.long x1), .second, .val (.long y1), .second, .unset, .unset, .unset, .unset] [(.long x1)]))
  refine Go.step (fun _ k => XS.lloadN X0.here hx rfl (hb hby d_jdk_2320_method_25_code_1) rfl  k) ?_
  show Go p e below _ (s₁.setTop (mkF m 2 #[.val (.ref ep), .val (.long x1), .second, .val (.long y1), .second, .unset, .unset, .unset, .unset] [(.long y1), (.long x1)]))
  refine Go.step (fun _ k => XS.lor X0.here hx rfl (hb hby d_jdk_2320_method_25_code_2) rfl k) ?_
  show Go p e below _ (s₁.setTop (mkF m 3 #[.val (.ref ep), .val (.long x1), .second, .val (.long y1), .second, .unset, .unset, .unset, .unset] [(.long (x1 ||| y1))]))
  refine Go.step (fun _ k => XS.lconst X0.here hx rfl (hb hby d_jdk_2320_method_25_code_3) k) ?_
  show Go p e below _ (s₁.setTop (mkF m 4 #[.val (.ref ep), .val (.long x1), .second, .val (.long y1), .second, .unset, .unset, .unset, .unset] [(.long (0 : Int64)), (.long (x1 ||| y1))]))
  refine Go.step (fun _ k => XS.lcmp X0.here hx rfl (hb hby d_jdk_2320_method_25_code_4) rfl k) ?_
  show Go p e below _ (s₁.setTop (mkF m 5 #[.val (.ref ep), .val (.long x1), .second, .val (.long y1), .second, .unset, .unset, .unset, .unset] [(.int (lcmpW (x1 ||| y1) (0 : Int64)))]))
  by_cases h1 : (x1 ||| y1) = (0 : Int64)
  · skip
    refine Go.step (fun _ k => XS.ifNo X0.here hx rfl (hb hby d_jdk_2320_method_25_code_5) rfl ((if0 _ _).trans (teq ((lw_eq _ _).mpr h1)).2) k) ?_
    show Go p e below _ (s₁.setTop (mkF m 8 #[.val (.ref ep), .val (.long x1), .second, .val (.long y1), .second, .unset, .unset, .unset, .unset] []))
    refine Go.step (fun _ k => XS.aloadN X0.here hx rfl (hb hby d_jdk_2320_method_25_code_8) rfl rfl k) ?_
    show Go p e below _ (s₁.setTop (mkF m 9 #[.val (.ref ep), .val (.long x1), .second, .val (.long y1), .second, .unset, .unset, .unset, .unset] [(.ref ep)]))
    exact Go.retV X0 hx hlk hret rfl (Or.inr (Or.inr (Or.inr (Or.inr ⟨rfl, rfl, rfl⟩)))) (hb hby d_jdk_2320_method_25_code_9) (by decide) (by decide) (by rw [e0]; exact ⟨ep, (0 : Int64), (0 : Int32), rfl, N0, KP0, (E_ep.ext hO.2), (Fs_ep.ext hO.2), (Fn_ep.ext hO.2), (pj_zero h1)⟩)
  · skip
    refine Go.step (fun _ k => XS.ifYes X0.here hx rfl (pc0 := 5) (pc' := 10) rfl (hb hby d_jdk_2320_method_25_code_5) rfl ((if0 _ _).trans (feq (fun q => h1 ((lw_eq _ _).mp q))).2) (by decide) (by decide) k) ?_
    show Go p e below _ (s₁.setTop (mkF m 10 #[.val (.ref ep), .val (.long x1), .second, .val (.long y1), .second, .unset, .unset, .unset, .unset] []))
    refine Go.step (fun _ k => XS.aloadN X0.here hx rfl (hb hby d_jdk_2320_method_25_code_10) rfl rfl k) ?_
    show Go p e below _ (s₁.setTop (mkF m 11 #[.val (.ref ep), .val (.long x1), .second, .val (.long y1), .second, .unset, .unset, .unset, .unset] [(.ref ep)]))
    obtain ⟨T_31, X_31, e_31, st_31⟩ := getF X0 hx hZ hown (host := "") (Or.inl (wd_62 hw)) Via.refl e0 (Fs_ep.ext hO.2) (g := (mkF m 11 #[.val (.ref ep), .val (.long x1), .second, .val (.long y1), .second, .unset, .unset, .unset, .unset] [(.ref ep)])) rfl rfl (hb hby d_jdk_2320_method_25_code_11)
    refine Go.step st_31 ?_
    show Go p e below _ (T_31.setTop (mkF m 14 #[.val (.ref ep), .val (.long x1), .second, .val (.long y1), .second, .unset, .unset, .unset, .unset] [(.long (0 : Int64))]))
    refine Go.step (fun _ k => XS.lloadN X_31.here hx rfl (hb hby d_jdk_2320_method_25_code_14) rfl  k) ?_
    show Go p e below _ (T_31.setTop (mkF m 15 #[.val (.ref ep), .val (.long x1), .second, .val (.long y1), .second, .unset, .unset, .unset, .unset] [(.long x1), (.long (0 : Int64))]))
    obtain ⟨v_32, T_32, L_32, X_32, hQ_32, st_32⟩ := goS X_31 hx hZ (y := ({ cls := "java/lang/Math", name := "addExact", desc := "(JJ)J" } : Jvm.MethodName)) hown (wd_64 hw) (wd_65 hw) (wd_66 hw) (wd_67 hw) (by decide) (backOf (W := 0) (rm_addExact l Z a0 hw ep mc sm ea be cz zc ((0 : Int64)) (x1) h0 n0 (Nat.le_trans Z0 KP0.1) (pj_ov1 hb1) hSt hO) hZ (wd_67 hw) (wd_66 hw) (by decide) (by decide)) e_31 (g := (mkF m 15 #[.val (.ref ep), .val (.long x1), .second, .val (.long y1), .second, .unset, .unset, .unset, .unset] [(.long x1), (.long (0 : Int64))])) rfl (by rw [hml]; rfl) (argsL := [(.long (0 : Int64)), (.long x1)]) (rest := []) rfl (lenOf pd_4 rfl) rfl (by show 2 * 0 + _ ≤ _; exact Nat.le_of_eq rfl) (hb hby d_jdk_2320_method_25_code_15) (by decide) (by decide)
    obtain ⟨rfl, Nq_32, e_32⟩ := hQ_32
    have N_32 := Fr.app N0 Nq_32
    refine Go.step st_32 ?_
    show Go p e below _ (T_32.setTop (mkF m 18 #[.val (.ref ep), .val (.long x1), .second, .val (.long y1), .second, .unset, .unset, .unset, .unset] [(.long ((0 : Int64) + x1))]))
    refine Go.step (fun _ k => XS.lstore X_32.here hx rfl (hb hby d_jdk_2320_method_25_code_18) rfl (l' := #[.val (.ref ep), .val (.long x1), .second, .val (.long y1), .second, .val (.long ((0 : Int64) + x1)), .second, .unset, .unset]) rfl k) ?_
    show Go p e below _ (T_32.setTop (mkF m 20 #[.val (.ref ep), .val (.long x1), .second, .val (.long y1), .second, .val (.long ((0 : Int64) + x1)), .second, .unset, .unset] []))
    refine Go.step (fun _ k => XS.lload X_32.here hx rfl (hb hby d_jdk_2320_method_25_code_20) rfl  k) ?_
    show Go p e below _ (T_32.setTop (mkF m 22 #[.val (.ref ep), .val (.long x1), .second, .val (.long y1), .second, .val (.long ((0 : Int64) + x1)), .second, .unset, .unset] [(.long ((0 : Int64) + x1))]))
    refine Go.step (fun _ k => XS.lloadN X_32.here hx rfl (hb hby d_jdk_2320_method_25_code_22) rfl  k) ?_
    show Go p e below _ (T_32.setTop (mkF m 23 #[.val (.ref ep), .val (.long x1), .second, .val (.long y1), .second, .val (.long ((0 : Int64) + x1)), .second, .unset, .unset] [(.long y1), (.long ((0 : Int64) + x1))]))
    refine Go.step (fun _ k => X_32.ldc2Long hx hown (mvT hZ (wd_68 hw)) (g := (mkF m 23 #[.val (.ref ep), .val (.long x1), .second, .val (.long y1), .second, .val (.long ((0 : Int64) + x1)), .second, .unset, .unset] [(.long y1), (.long ((0 : Int64) + x1))])) rfl (hb hby d_jdk_2320_method_25_code_23) _ k) ?_
    show Go p e below _ (T_32.setTop (mkF m 26 #[.val (.ref ep), .val (.long x1), .second, .val (.long y1), .second, .val (.long ((0 : Int64) + x1)), .second, .unset, .unset] [(.long (1000000000 : Int64)), (.long y1), (.long ((0 : Int64) + x1))]))
    refine Go.step (fun _ k => XS.ldiv X_32.here hx rfl (hb hby d_jdk_2320_method_25_code_26) rfl (by decide) k) ?_
    show Go p e below _ (T_32.setTop (mkF m 27 #[.val (.ref ep), .val (.long x1), .second, .val (.long y1), .second, .val (.long ((0 : Int64) + x1)), .second, .unset, .unset] [(.long (y1 / (1000000000 : Int64))), (.long ((0 : Int64) + x1))]))
    obtain ⟨v_33, T_33, L_33, X_33, hQ_33, st_33⟩ := goS X_32 hx hZ (y := ({ cls := "java/lang/Math", name := "addExact", desc := "(JJ)J" } : Jvm.MethodName)) hown (wd_64 hw) (wd_65 hw) (wd_66 hw) (wd_67 hw) (by decide) (backOf (W := 0) (rm_addExact l Z a0 hw ep mc sm ea be cz zc (((0 : Int64) + x1)) ((y1 / (1000000000 : Int64))) h0 n0 (Nat.le_trans Z0 KP0.1) (pj_ov2 hb1) hSt hO) hZ (wd_67 hw) (wd_66 hw) (by decide) (by decide)) e_32 (g := (mkF m 27 #[.val (.ref ep), .val (.long x1), .second, .val (.long y1), .second, .val (.long ((0 : Int64) + x1)), .second, .unset, .unset] [(.long (y1 / (1000000000 : Int64))), (.long ((0 : Int64) + x1))])) rfl (by rw [hml]; rfl) (argsL := [(.long ((0 : Int64) + x1)), (.long (y1 / (1000000000 : Int64)))]) (rest := []) rfl (lenOf pd_4 rfl) rfl (by show 2 * 0 + _ ≤ _; exact Nat.le_of_eq rfl) (hb hby d_jdk_2320_method_25_code_27) (by decide) (by decide)
    obtain ⟨rfl, Nq_33, e_33⟩ := hQ_33
    have N_33 := Fr.app N_32 Nq_33
    refine Go.step st_33 ?_
    show Go p e below _ (T_33.setTop (mkF m 30 #[.val (.ref ep), .val (.long x1), .second, .val (.long y1), .second, .val (.long ((0 : Int64) + x1)), .second, .unset, .unset] [(.long (((0 : Int64) + x1) + (y1 / (1000000000 : Int64))))]))
    refine Go.step (fun _ k => XS.lstore X_33.here hx rfl (hb hby d_jdk_2320_method_25_code_30) rfl (l' := #[.val (.ref ep), .val (.long x1), .second, .val (.long y1), .second, .val (.long (((0 : Int64) + x1) + (y1 / (1000000000 : Int64)))), .second, .unset, .unset]) rfl k) ?_
    show Go p e below _ (T_33.setTop (mkF m 32 #[.val (.ref ep), .val (.long x1), .second, .val (.long y1), .second, .val (.long (((0 : Int64) + x1) + (y1 / (1000000000 : Int64)))), .second, .unset, .unset] []))
    refine Go.step (fun _ k => XS.lloadN X_33.here hx rfl (hb hby d_jdk_2320_method_25_code_32) rfl  k) ?_
    show Go p e below _ (T_33.setTop (mkF m 33 #[.val (.ref ep), .val (.long x1), .second, .val (.long y1), .second, .val (.long (((0 : Int64) + x1) + (y1 / (1000000000 : Int64)))), .second, .unset, .unset] [(.long y1)]))
    refine Go.step (fun _ k => X_33.ldc2Long hx hown (mvT hZ (wd_68 hw)) (g := (mkF m 33 #[.val (.ref ep), .val (.long x1), .second, .val (.long y1), .second, .val (.long (((0 : Int64) + x1) + (y1 / (1000000000 : Int64)))), .second, .unset, .unset] [(.long y1)])) rfl (hb hby d_jdk_2320_method_25_code_33) _ k) ?_
    show Go p e below _ (T_33.setTop (mkF m 36 #[.val (.ref ep), .val (.long x1), .second, .val (.long y1), .second, .val (.long (((0 : Int64) + x1) + (y1 / (1000000000 : Int64)))), .second, .unset, .unset] [(.long (1000000000 : Int64)), (.long y1)]))
    refine Go.step (fun _ k => lremM X_33 hx rfl (hb hby d_jdk_2320_method_25_code_36) rfl (by decide) k) ?_
    show Go p e below _ (T_33.setTop (mkF m 37 #[.val (.ref ep), .val (.long x1), .second, .val (.long y1), .second, .val (.long (((0 : Int64) + x1) + (y1 / (1000000000 : Int64)))), .second, .unset, .unset] [(.long (y1 % (1000000000 : Int64)))]))
    refine Go.step (fun _ k => XS.lstoreN X_33.here hx rfl (hb hby d_jdk_2320_method_25_code_37) rfl (l' := #[.val (.ref ep), .val (.long x1), .second, .val (.long (y1 % (1000000000 : Int64))), .second, .val (.long (((0 : Int64) + x1) + (y1 / (1000000000 : Int64)))), .second, .unset, .unset]) rfl k) ?_
    show Go p e below _ (T_33.setTop (mkF m 38 #[.val (.ref ep), .val (.long x1), .second, .val (.long (y1 % (1000000000 : Int64))), .second, .val (.long (((0 : Int64) + x1) + (y1 / (1000000000 : Int64)))), .second, .unset, .unset] []))
    refine Go.step (fun _ k => XS.aloadN X_33.here hx rfl (hb hby d_jdk_2320_method_25_code_38) rfl rfl k) ?_
    show Go p e below _ (T_33.setTop (mkF m 39 #[.val (.ref ep), .val (.long x1), .second, .val (.long (y1 % (1000000000 : Int64))), .second, .val (.long (((0 : Int64) + x1) + (y1 / (1000000000 : Int64)))), .second, .unset, .unset] [(.ref ep)]))
    obtain ⟨T_34, X_34, e_34, st_34⟩ := getF X_33 hx hZ hown (host := "") (Or.inl (wd_69 hw)) Via.refl e_33 (Fn_ep.ext hO.2) (g := (mkF m 39 #[.val (.ref ep), .val (.long x1), .second, .val (.long (y1 % (1000000000 : Int64))), .second, .val (.long (((0 : Int64) + x1) + (y1 / (1000000000 : Int64)))), .second, .unset, .unset] [(.ref ep)])) rfl rfl (hb hby d_jdk_2320_method_25_code_39)
    refine Go.step st_34 ?_
    show Go p e below _ (T_34.setTop (mkF m 42 #[.val (.ref ep), .val (.long x1), .second, .val (.long (y1 % (1000000000 : Int64))), .second, .val (.long (((0 : Int64) + x1) + (y1 / (1000000000 : Int64)))), .second, .unset, .unset] [(.int (0 : Int32))]))
    refine Go.step (fun _ k => XS.i2l X_34.here hx rfl (hb hby d_jdk_2320_method_25_code_42) rfl k) ?_
    show Go p e below _ (T_34.setTop (mkF m 43 #[.val (.ref ep), .val (.long x1), .second, .val (.long (y1 % (1000000000 : Int64))), .second, .val (.long (((0 : Int64) + x1) + (y1 / (1000000000 : Int64)))), .second, .unset, .unset] [(.long (0 : Int32).toInt64)]))
    refine Go.step (fun _ k => XS.lloadN X_34.here hx rfl (hb hby d_jdk_2320_method_25_code_43) rfl  k) ?_
    show Go p e below _ (T_34.setTop (mkF m 44 #[.val (.ref ep), .val (.long x1), .second, .val (.long (y1 % (1000000000 : Int64))), .second, .val (.long (((0 : Int64) + x1) + (y1 / (1000000000 : Int64)))), .second, .unset, .unset] [(.long (y1 % (1000000000 : Int64))), (.long (0 : Int32).toInt64)]))
    refine Go.step (fun _ k => XS.ladd X_34.here hx rfl (hb hby d_jdk_2320_method_25_code_44) rfl k) ?_
    show Go p e below _ (T_34.setTop (mkF m 45 #[.val (.ref ep), .val (.long x1), .second, .val (.long (y1 % (1000000000 : Int64))), .second, .val (.long (((0 : Int64) + x1) + (y1 / (1000000000 : Int64)))), .second, .unset, .unset] [(.long ((0 : Int32).toInt64 + (y1 % (1000000000 : Int64))))]))
    refine Go.step (fun _ k => XS.lstore X_34.here hx rfl (hb hby d_jdk_2320_method_25_code_45) rfl (l' := #[.val (.ref ep), .val (.long x1), .second, .val (.long (y1 % (1000000000 : Int64))), .second, .val (.long (((0 : Int64) + x1) + (y1 / (1000000000 : Int64)))), .second, .val (.long ((0 : Int32).toInt64 + (y1 % (1000000000 : Int64)))), .second]) rfl k) ?_
    show Go p e below _ (T_34.setTop (mkF m 47 #[.val (.ref ep), .val (.long x1), .second, .val (.long (y1 % (1000000000 : Int64))), .second, .val (.long (((0 : Int64) + x1) + (y1 / (1000000000 : Int64)))), .second, .val (.long ((0 : Int32).toInt64 + (y1 % (1000000000 : Int64)))), .second] []))
    refine Go.step (fun _ k => XS.lload X_34.here hx rfl (hb hby d_jdk_2320_method_25_code_47) rfl  k) ?_
    show Go p e below _ (T_34.setTop (mkF m 49 #[.val (.ref ep), .val (.long x1), .second, .val (.long (y1 % (1000000000 : Int64))), .second, .val (.long (((0 : Int64) + x1) + (y1 / (1000000000 : Int64)))), .second, .val (.long ((0 : Int32).toInt64 + (y1 % (1000000000 : Int64)))), .second] [(.long (((0 : Int64) + x1) + (y1 / (1000000000 : Int64))))]))
    refine Go.step (fun _ k => XS.lload X_34.here hx rfl (hb hby d_jdk_2320_method_25_code_49) rfl  k) ?_
    show Go p e below _ (T_34.setTop (mkF m 51 #[.val (.ref ep), .val (.long x1), .second, .val (.long (y1 % (1000000000 : Int64))), .second, .val (.long (((0 : Int64) + x1) + (y1 / (1000000000 : Int64)))), .second, .val (.long ((0 : Int32).toInt64 + (y1 % (1000000000 : Int64)))), .second] [(.long ((0 : Int32).toInt64 + (y1 % (1000000000 : Int64)))), (.long (((0 : Int64) + x1) + (y1 / (1000000000 : Int64))))]))
    obtain ⟨v_35, T_35, L_35, X_35, hQ_35, st_35⟩ := goS X_34 hx hZ (y := ({ cls := "java/time/Instant", name := "ofEpochSecond", desc := "(JJ)Ljava/time/Instant;" } : Jvm.MethodName)) hown (wd_71 hw) (wd_72 hw) (wd_34 hw) (wd_73 hw) (by decide) (backOf (W := 0) (rm_ofEpoch l Z a0 hw ep mc sm ea be cz zc ((((0 : Int64) + x1) + (y1 / (1000000000 : Int64)))) (((0 : Int32).toInt64 + (y1 % (1000000000 : Int64)))) h0 n0 (Nat.le_trans Z0 KP0.1) (pj_bnd hb1) (pj_nz hb1 h1) hSt hO) hZ (wd_73 hw) (wd_34 hw) (by decide) (by decide)) e_34 (g := (mkF m 51 #[.val (.ref ep), .val (.long x1), .second, .val (.long (y1 % (1000000000 : Int64))), .second, .val (.long (((0 : Int64) + x1) + (y1 / (1000000000 : Int64)))), .second, .val (.long ((0 : Int32).toInt64 + (y1 % (1000000000 : Int64)))), .second] [(.long ((0 : Int32).toInt64 + (y1 % (1000000000 : Int64)))), (.long (((0 : Int64) + x1) + (y1 / (1000000000 : Int64))))])) rfl (by rw [hml]; rfl) (argsL := [(.long (((0 : Int64) + x1) + (y1 / (1000000000 : Int64)))), (.long ((0 : Int32).toInt64 + (y1 % (1000000000 : Int64))))]) (rest := []) rfl (lenOf pd_6 rfl) rfl (by show 2 * 0 + _ ≤ _; exact Nat.le_of_eq rfl) (hb hby d_jdk_2320_method_25_code_51) (by decide) (by decide)
    obtain ⟨r_35, se_35, na_35, rfl, Nq_35, K_35, u0_35, u1_35, u2_35, u3_35⟩ := hQ_35
    have N_35 := Fr.app N_33 Nq_35
    have le_35 : h0.size ≤ T_35.heap.size := K_35.1
    have KP_35 := KP0.trans K_35 all0
    have O_35 := hO.keep K_35 all0
    have hres_35 := u3_35
    refine Go.step st_35 ?_
    show Go p e below _ (T_35.setTop (mkF m 54 #[.val (.ref ep), .val (.long x1), .second, .val (.long (y1 % (1000000000 : Int64))), .second, .val (.long (((0 : Int64) + x1) + (y1 / (1000000000 : Int64)))), .second, .val (.long ((0 : Int32).toInt64 + (y1 % (1000000000 : Int64)))), .second] [(.ref r_35)]))
    exact Go.retV X_35 hx hlk hret rfl (Or.inr (Or.inr (Or.inr (Or.inr ⟨rfl, rfl, rfl⟩)))) (hb hby d_jdk_2320_method_25_code_54) (by decide) (by decide) (by exact ⟨r_35, se_35, na_35, rfl, N_35, KP_35, u0_35, u1_35, u2_35, (pj_res hb1 hres_35)⟩)
def Q_plusU (Z : State) (ep : Addr) (mc : Addr) (sm : Addr) (ea : Addr) (be : Addr) (cz : Cell) (zc : Int32) (m1 : Int64) (h0 : Heap) (n0 : Nat) (v : Option Value) (h : Heap) (L : List Loc) : Prop := ∃ (r : Addr) (se : Int64) (na : Int32), v = some (.ref r) ∧ Fr n0 L ∧ Keep h0 h [] ∧ Exa Z h r "java/time/Instant" ∧ Fld Z h r "java/time/Instant" "seconds" "J" (.long se) ∧ Fld Z h r "java/time/Instant" "nanos" "I" (.int na) ∧ se.toInt * 1000000 + na.toInt / 1000 = m1.toInt ∧ 0 ≤ na.toInt ∧ na.toInt < 1000000000
set_option maxRecDepth 65536 in
set_option maxHeartbeats 40000000 in
theorem rm_plusU (l : Launch) (Z : State) (a0 : Array Value) (hw : ∀ d ∈ tables_1, d.before a0 Z = true) (ep : Addr) (mc : Addr) (sm : Addr) (ea : Addr) (be : Addr) (cz : Cell) (zc : Int32) (m1 : Int64) (h0 : Heap) (n0 : Nat) (Z0 : n0 ≤ h0.size) (hm1 : -62167219200000000 ≤ m1.toInt ∧ m1.toInt < 253402300800000000) (hSt : St Z ep mc sm ea be cz zc) (hO : Old Z n0 h0) :
    CN l Z ({ cls := "java/time/Instant", name := "plus", desc := "(JLjava/time/temporal/TemporalUnit;)Ljava/time/Instant;" } : Jvm.MethodName) [(Jvm.Cond.code ({ cls := "java/time/Instant", name := "plus", desc := "(JLjava/time/temporal/TemporalUnit;)Ljava/time/Instant;" } : Jvm.MethodName) jdk_2320_method_21_code (5 : Nat) (Option.some (Jvm.ClassFile.FieldType.object "java/time/Instant")))] ({ frames := 5, cells := 1, slots := 2, locals := 80 } : Room) #[(.ref ep), (.long m1), (.ref mc)] h0 (Q_plusU Z ep mc sm ea be cz zc m1 h0 n0) := by
  refine CN.of (L0 := #[.val (.ref ep), .val (.long m1), .second, .val (.ref mc), .unset]) (plainFor_of_name pn_4) (fun m => by first | rfl | (simp [entryFrame, mkF, argsToLocals, Value.category]; done)) ?_
  intro p e s m below meth c s₁ hx hby hml hret hlk hZ hown hnm X0 e0
  have N0 := Fr.nil n0
  have KP0 := Keep.refl h0 []
  have hSt_ := hSt
  obtain ⟨S_cs, n_cs, S_ep, E_ep, Fs_ep, Fn_ep, S_mc, E_mc, F_mc, S_sm, A_sm, n_sm, v_sm, S_ea, E_ea, Fs_ea, Fn_ea, S_be, E_be, Fs_be⟩ := hSt_
  show Go p e below _ (s₁.setTop (mkF m 0 #[.val (.ref ep), .val (.long m1), .second, .val (.ref mc), .unset] []))
  refine Go.step (fun _ k => XS.aloadN X0.here hx rfl (hb hby d_jdk_2320_method_21_code_0) rfl rfl k) ?_
  show Go p e below _ (s₁.setTop (mkF m 1 #[.val (.ref ep), .val (.long m1), .second, .val (.ref mc), .unset] [(.ref mc)]))
  obtain ⟨T_36, X_36, e_36, st_36⟩ := instY X0 hx hZ hown (wd_42 hw) e0 (Ins.self (E_mc.ext hO.2)) (g := (mkF m 1 #[.val (.ref ep), .val (.long m1), .second, .val (.ref mc), .unset] [(.ref mc)])) rfl rfl (hb hby d_jdk_2320_method_21_code_1)
  refine Go.step st_36 ?_
  show Go p e below _ (T_36.setTop (mkF m 4 #[.val (.ref ep), .val (.long m1), .second, .val (.ref mc), .unset] [(.int (1 : Int32))]))
  refine Go.step (fun _ k => XS.ifNo X_36.here hx rfl (hb hby d_jdk_2320_method_21_code_4) rfl ((if0 _ _).trans (feq ((by decide) : ¬ ((1 : Int32) = (0 : Int32)))).1) k) ?_
  show Go p e below _ (T_36.setTop (mkF m 7 #[.val (.ref ep), .val (.long m1), .second, .val (.ref mc), .unset] []))
  refine Go.step (fun _ k => XS.aloadN X_36.here hx rfl (hb hby d_jdk_2320_method_21_code_7) rfl rfl k) ?_
  show Go p e below _ (T_36.setTop (mkF m 8 #[.val (.ref ep), .val (.long m1), .second, .val (.ref mc), .unset] [(.ref mc)]))
  obtain ⟨T_37, X_37, e_37, st_37⟩ := castY X_36 hx hZ hown (wd_42 hw) e_36 (Ins.self (E_mc.ext hO.2)) (g := (mkF m 8 #[.val (.ref ep), .val (.long m1), .second, .val (.ref mc), .unset] [(.ref mc)])) rfl rfl (hb hby d_jdk_2320_method_21_code_8)
  refine Go.step st_37 ?_
  show Go p e below _ (T_37.setTop (mkF m 11 #[.val (.ref ep), .val (.long m1), .second, .val (.ref mc), .unset] [(.ref mc)]))
  refine Go.step (fun _ k => XS.astore X_37.here hx rfl (hb hby d_jdk_2320_method_21_code_11) rfl rfl (l' := #[.val (.ref ep), .val (.long m1), .second, .val (.ref mc), .val (.ref mc)]) rfl k) ?_
  show Go p e below _ (T_37.setTop (mkF m 13 #[.val (.ref ep), .val (.long m1), .second, .val (.ref mc), .val (.ref mc)] []))
  obtain ⟨T_38, X_38, e_38, st_38⟩ := getS2 X_37 hx hZ hown (host := "") (Or.inl (wd_44 hw)) Via.refl e_37 (S_sm.ext hO.2) (g := (mkF m 13 #[.val (.ref ep), .val (.long m1), .second, .val (.ref mc), .val (.ref mc)] [])) rfl (hb hby d_jdk_2320_method_21_code_13)
  refine Go.step st_38 ?_
  show Go p e below _ (T_38.setTop (mkF m 16 #[.val (.ref ep), .val (.long m1), .second, .val (.ref mc), .val (.ref mc)] [(.ref sm)]))
  refine Go.step (fun _ k => XS.aload X_38.here hx rfl (hb hby d_jdk_2320_method_21_code_16) rfl rfl k) ?_
  show Go p e below _ (T_38.setTop (mkF m 18 #[.val (.ref ep), .val (.long m1), .second, .val (.ref mc), .val (.ref mc)] [(.ref mc), (.ref sm)]))
  obtain ⟨v_39, T_39, L_39, X_39, hQ_39, st_39⟩ := goU X_38 hx hZ (y := ({ cls := "java/time/temporal/ChronoUnit", name := "ordinal", desc := "()I" } : Jvm.MethodName)) (z := ({ cls := "java/lang/Enum", name := "ordinal", desc := "()I" } : Jvm.MethodName)) hown (wd_46 hw) (wd_47 hw) (wd_48 hw) (wd_50 hw) (wd_49 hw) (by decide) (backOf (W := 1) (rm_ordinal l Z a0 hw ep (mc) sm ea be cz zc h0 n0 (Nat.le_trans Z0 KP0.1) hSt hO) hZ (wd_52 hw) (wd_51 hw) (by decide) (by decide)) e_38 (E_mc.ext hO.2) (g := (mkF m 18 #[.val (.ref ep), .val (.long m1), .second, .val (.ref mc), .val (.ref mc)] [(.ref mc), (.ref sm)])) rfl (by rw [hml]; rfl) (argsL := []) (rest := [(.ref sm)]) rfl (lenOf pd_7 rfl) rfl (by show 2 * 0 + _ ≤ _; exact Nat.le_of_eq rfl) (hb hby d_jdk_2320_method_21_code_18) (by decide) (by decide)
  obtain ⟨rfl, Nq_39, e_39⟩ := hQ_39
  have N_39 := Fr.app N0 Nq_39
  refine Go.step st_39 ?_
  show Go p e below _ (T_39.setTop (mkF m 21 #[.val (.ref ep), .val (.long m1), .second, .val (.ref mc), .val (.ref mc)] [(.int (1 : Int32)), (.ref sm)]))
  refine Go.step (fun _ k => X_39.iaload hx (j := (1 : Int32)) (v := (.int (2 : Int32))) (by rw [e_39]; exact (A_sm.ext hO.2).1) (State.isArrayOf_alike hZ.alike (A_sm.ext hO.2).2.1) (A_sm.ext hO.2).2.2 n_sm v_sm (g := (mkF m 21 #[.val (.ref ep), .val (.long m1), .second, .val (.ref mc), .val (.ref mc)] [(.int (1 : Int32)), (.ref sm)])) rfl rfl (hb hby d_jdk_2320_method_21_code_21) _ k) ?_
  show Go p e below _ (T_39.setTop (mkF m 22 #[.val (.ref ep), .val (.long m1), .second, .val (.ref mc), .val (.ref mc)] [(.int (2 : Int32))]))
  refine Go.step (fun _ k => XS.tswIn X_39.here hx rfl (pc0 := 22) (pc' := 76) (o := 54) rfl (hb hby d_jdk_2320_method_21_code_22) (i := (2 : Int32)) rfl (by decide) (by decide) (by decide) (by decide) k) ?_
  show Go p e below _ (T_39.setTop (mkF m 76 #[.val (.ref ep), .val (.long m1), .second, .val (.ref mc), .val (.ref mc)] []))
  refine Go.step (fun _ k => XS.aloadN X_39.here hx rfl (hb hby d_jdk_2320_method_21_code_76) rfl rfl k) ?_
  show Go p e below _ (T_39.setTop (mkF m 77 #[.val (.ref ep), .val (.long m1), .second, .val (.ref mc), .val (.ref mc)] [(.ref ep)]))
  refine Go.step (fun _ k => XS.lloadN X_39.here hx rfl (hb hby d_jdk_2320_method_21_code_77) rfl  k) ?_
  show Go p e below _ (T_39.setTop (mkF m 78 #[.val (.ref ep), .val (.long m1), .second, .val (.ref mc), .val (.ref mc)] [(.long m1), (.ref ep)]))
  refine Go.step (fun _ k => X_39.ldc2Long hx hown (mvT hZ (wd_55 hw)) (g := (mkF m 78 #[.val (.ref ep), .val (.long m1), .second, .val (.ref mc), .val (.ref mc)] [(.long m1), (.ref ep)])) rfl (hb hby d_jdk_2320_method_21_code_78) _ k) ?_
  show Go p e below _ (T_39.setTop (mkF m 81 #[.val (.ref ep), .val (.long m1), .second, .val (.ref mc), .val (.ref mc)] [(.long (1000000 : Int64)), (.long m1), (.ref ep)]))
  refine Go.step (fun _ k => XS.ldiv X_39.here hx rfl (hb hby d_jdk_2320_method_21_code_81) rfl (by decide) k) ?_
  show Go p e below _ (T_39.setTop (mkF m 82 #[.val (.ref ep), .val (.long m1), .second, .val (.ref mc), .val (.ref mc)] [(.long (m1 / (1000000 : Int64))), (.ref ep)]))
  refine Go.step (fun _ k => XS.lloadN X_39.here hx rfl (hb hby d_jdk_2320_method_21_code_82) rfl  k) ?_
  show Go p e below _ (T_39.setTop (mkF m 83 #[.val (.ref ep), .val (.long m1), .second, .val (.ref mc), .val (.ref mc)] [(.long m1), (.long (m1 / (1000000 : Int64))), (.ref ep)]))
  refine Go.step (fun _ k => X_39.ldc2Long hx hown (mvT hZ (wd_55 hw)) (g := (mkF m 83 #[.val (.ref ep), .val (.long m1), .second, .val (.ref mc), .val (.ref mc)] [(.long m1), (.long (m1 / (1000000 : Int64))), (.ref ep)])) rfl (hb hby d_jdk_2320_method_21_code_83) _ k) ?_
  show Go p e below _ (T_39.setTop (mkF m 86 #[.val (.ref ep), .val (.long m1), .second, .val (.ref mc), .val (.ref mc)] [(.long (1000000 : Int64)), (.long m1), (.long (m1 / (1000000 : Int64))), (.ref ep)]))
  refine Go.step (fun _ k => lremM X_39 hx rfl (hb hby d_jdk_2320_method_21_code_86) rfl (by decide) k) ?_
  show Go p e below _ (T_39.setTop (mkF m 87 #[.val (.ref ep), .val (.long m1), .second, .val (.ref mc), .val (.ref mc)] [(.long (m1 % (1000000 : Int64))), (.long (m1 / (1000000 : Int64))), (.ref ep)]))
  refine Go.step (fun _ k => X_39.ldc2Long hx hown (mvT hZ (wd_56 hw)) (g := (mkF m 87 #[.val (.ref ep), .val (.long m1), .second, .val (.ref mc), .val (.ref mc)] [(.long (m1 % (1000000 : Int64))), (.long (m1 / (1000000 : Int64))), (.ref ep)])) rfl (hb hby d_jdk_2320_method_21_code_87) _ k) ?_
  show Go p e below _ (T_39.setTop (mkF m 90 #[.val (.ref ep), .val (.long m1), .second, .val (.ref mc), .val (.ref mc)] [(.long (1000 : Int64)), (.long (m1 % (1000000 : Int64))), (.long (m1 / (1000000 : Int64))), (.ref ep)]))
  refine Go.step (fun _ k => XS.lmul X_39.here hx rfl (hb hby d_jdk_2320_method_21_code_90) rfl k) ?_
  show Go p e below _ (T_39.setTop (mkF m 91 #[.val (.ref ep), .val (.long m1), .second, .val (.ref mc), .val (.ref mc)] [(.long ((m1 % (1000000 : Int64)) * (1000 : Int64))), (.long (m1 / (1000000 : Int64))), (.ref ep)]))
  obtain ⟨v_41, T_41, L_41, X_41, hQ_41, st_41⟩ := goP X_39 hx hZ (y := ({ cls := "java/time/Instant", name := "plus", desc := "(JJ)Ljava/time/Instant;" } : Jvm.MethodName)) hown (wd_57 hw) (wd_58 hw) (wd_60 hw) (wd_59 hw) (wd_61 hw) (by decide) (backOf (W := 0) (rm_plusJJ l Z a0 hw (ep) mc sm ea be cz zc ((m1 / (1000000 : Int64))) (((m1 % (1000000 : Int64)) * (1000 : Int64))) h0 n0 (Nat.le_trans Z0 KP0.1) (pu_bnd hm1) hSt hO) hZ (wd_61 hw) (wd_34 hw) (by decide) (by decide)) e_39 (E_ep.ext hO.2) (g := (mkF m 91 #[.val (.ref ep), .val (.long m1), .second, .val (.ref mc), .val (.ref mc)] [(.long ((m1 % (1000000 : Int64)) * (1000 : Int64))), (.long (m1 / (1000000 : Int64))), (.ref ep)])) rfl (by rw [hml]; rfl) (argsL := [(.long (m1 / (1000000 : Int64))), (.long ((m1 % (1000000 : Int64)) * (1000 : Int64)))]) (rest := []) rfl (lenOf pd_6 rfl) rfl (by show 2 * 0 + _ ≤ _; exact Nat.le_of_eq rfl) (hb hby d_jdk_2320_method_21_code_91) (by decide) (by decide)
  obtain ⟨r_41, se_41, na_41, rfl, Nq_41, K_41, u0_41, u1_41, u2_41, u3_41⟩ := hQ_41
  have N_41 := Fr.app N_39 Nq_41
  have le_41 : h0.size ≤ T_41.heap.size := K_41.1
  have KP_41 := KP0.trans K_41 all0
  have O_41 := hO.keep K_41 all0
  have hres_41 := u3_41
  refine Go.step st_41 ?_
  show Go p e below _ (T_41.setTop (mkF m 94 #[.val (.ref ep), .val (.long m1), .second, .val (.ref mc), .val (.ref mc)] [(.ref r_41)]))
  refine Go.step (fun _ k => XS.goto X_41.here hx rfl (pc0 := 94) (pc' := 196) rfl (hb hby d_jdk_2320_method_21_code_94) (by decide) (by decide) k) ?_
  show Go p e below _ (T_41.setTop (mkF m 196 #[.val (.ref ep), .val (.long m1), .second, .val (.ref mc), .val (.ref mc)] [(.ref r_41)]))
  exact Go.retV X_41 hx hlk hret rfl (Or.inr (Or.inr (Or.inr (Or.inr ⟨rfl, rfl, rfl⟩)))) (hb hby d_jdk_2320_method_21_code_196) (by decide) (by decide) (by exact ⟨r_41, se_41, na_41, rfl, N_41, KP_41, u0_41, u1_41, u2_41, (pu_res hm1 hres_41)⟩)
def Q_cmpEa (Z : State) (ep : Addr) (mc : Addr) (sm : Addr) (ea : Addr) (be : Addr) (cz : Cell) (zc : Int32) (a1 : Addr) (se : Int64) (na : Int32) (h0 : Heap) (n0 : Nat) (v : Option Value) (h : Heap) (L : List Loc) : Prop := ∃ (cv : Int32), v = some (.int cv) ∧ Fr n0 L ∧ h = h0 ∧ ¬ cv < 0
set_option maxRecDepth 65536 in
set_option maxHeartbeats 40000000 in
theorem rm_cmpEa (l : Launch) (Z : State) (a0 : Array Value) (hw : ∀ d ∈ tables_1, d.before a0 Z = true) (ep : Addr) (mc : Addr) (sm : Addr) (ea : Addr) (be : Addr) (cz : Cell) (zc : Int32) (a1 : Addr) (se : Int64) (na : Int32) (h0 : Heap) (n0 : Nat) (Z0 : n0 ≤ h0.size) (Fs_a1 : Fld Z h0 a1 "java/time/Instant" "seconds" "J" (.long se)) (Fn_a1 : Fld Z h0 a1 "java/time/Instant" "nanos" "I" (.int na)) (hge : -62167219200 ≤ se.toInt ∧ 0 ≤ na.toInt) (hSt : St Z ep mc sm ea be cz zc) (hO : Old Z n0 h0) :
    CN l Z ({ cls := "java/time/Instant", name := "compareTo", desc := "(Ljava/time/Instant;)I" } : Jvm.MethodName) [(Jvm.Cond.code ({ cls := "java/time/Instant", name := "compareTo", desc := "(Ljava/time/Instant;)I" } : Jvm.MethodName) jdk_2320_method_41_code (3 : Nat) (Option.some Jvm.ClassFile.FieldType.int))] ({ frames := 1, cells := 0, slots := 0, locals := 15 } : Room) #[(.ref a1), (.ref ea)] h0 (Q_cmpEa Z ep mc sm ea be cz zc a1 se na h0 n0) := by
  refine CN.of (L0 := #[.val (.ref a1), .val (.ref ea), .unset]) (plainFor_of_name pn_4) (fun m => by first | rfl | (simp [entryFrame, mkF, argsToLocals, Value.category]; done)) ?_
  intro p e s m below meth c s₁ hx hby hml hret hlk hZ hown hnm X0 e0
  have N0 := Fr.nil n0
  have KP0 := Keep.refl h0 []
  have hSt_ := hSt
  obtain ⟨S_cs, n_cs, S_ep, E_ep, Fs_ep, Fn_ep, S_mc, E_mc, F_mc, S_sm, A_sm, n_sm, v_sm, S_ea, E_ea, Fs_ea, Fn_ea, S_be, E_be, Fs_be⟩ := hSt_
  show Go p e below _ (s₁.setTop (mkF m 0 #[.val (.ref a1), .val (.ref ea), .unset] []))
  refine Go.step (fun _ k => XS.aloadN X0.here hx rfl (hb hby d_jdk_2320_method_41_code_0) rfl rfl k) ?_
  show Go p e below _ (s₁.setTop (mkF m 1 #[.val (.ref a1), .val (.ref ea), .unset] [(.ref a1)]))
  obtain ⟨T_42, X_42, e_42, st_42⟩ := getF X0 hx hZ hown (host := "") (Or.inl (wd_62 hw)) Via.refl e0 Fs_a1 (g := (mkF m 1 #[.val (.ref a1), .val (.ref ea), .unset] [(.ref a1)])) rfl rfl (hb hby d_jdk_2320_method_41_code_1)
  refine Go.step st_42 ?_
  show Go p e below _ (T_42.setTop (mkF m 4 #[.val (.ref a1), .val (.ref ea), .unset] [(.long se)]))
  refine Go.step (fun _ k => XS.aloadN X_42.here hx rfl (hb hby d_jdk_2320_method_41_code_4) rfl rfl k) ?_
  show Go p e below _ (T_42.setTop (mkF m 5 #[.val (.ref a1), .val (.ref ea), .unset] [(.ref ea), (.long se)]))
  obtain ⟨T_43, X_43, e_43, st_43⟩ := getF X_42 hx hZ hown (host := "") (Or.inl (wd_62 hw)) Via.refl e_42 (Fs_ea.ext hO.2) (g := (mkF m 5 #[.val (.ref a1), .val (.ref ea), .unset] [(.ref ea), (.long se)])) rfl rfl (hb hby d_jdk_2320_method_41_code_5)
  refine Go.step st_43 ?_
  show Go p e below _ (T_43.setTop (mkF m 8 #[.val (.ref a1), .val (.ref ea), .unset] [(.long (-62167219200 : Int64)), (.long se)]))
  obtain ⟨v_44, T_44, L_44, X_44, hQ_44, st_44⟩ := goS X_43 hx hZ (y := ({ cls := "java/lang/Long", name := "compare", desc := "(JJ)I" } : Jvm.MethodName)) hown (wd_107 hw) (wd_108 hw) (wd_109 hw) (wd_110 hw) (by decide) (backOf (W := 0) (rm_lcompare l Z a0 hw ep mc sm ea be cz zc (se) ((-62167219200 : Int64)) h0 n0 (Nat.le_trans Z0 KP0.1) hSt hO) hZ (wd_110 hw) (wd_109 hw) (by decide) (by decide)) e_43 (g := (mkF m 8 #[.val (.ref a1), .val (.ref ea), .unset] [(.long (-62167219200 : Int64)), (.long se)])) rfl (by rw [hml]; rfl) (argsL := [(.long se), (.long (-62167219200 : Int64))]) (rest := []) rfl (lenOf pd_8 rfl) rfl (by show 2 * 0 + _ ≤ _; exact Nat.le_of_eq rfl) (hb hby d_jdk_2320_method_41_code_8) (by decide) (by decide)
  obtain ⟨rfl, Nq_44, e_44⟩ := hQ_44
  have N_44 := Fr.app N0 Nq_44
  refine Go.step st_44 ?_
  show Go p e below _ (T_44.setTop (mkF m 11 #[.val (.ref a1), .val (.ref ea), .unset] [(.int (cmpJ se (-62167219200 : Int64)))]))
  refine Go.step (fun _ k => XS.istoreN X_44.here hx rfl (hb hby d_jdk_2320_method_41_code_11) rfl (l' := #[.val (.ref a1), .val (.ref ea), .val (.int (cmpJ se (-62167219200 : Int64)))]) rfl k) ?_
  show Go p e below _ (T_44.setTop (mkF m 12 #[.val (.ref a1), .val (.ref ea), .val (.int (cmpJ se (-62167219200 : Int64)))] []))
  refine Go.step (fun _ k => XS.iloadN X_44.here hx rfl (hb hby d_jdk_2320_method_41_code_12) rfl  k) ?_
  show Go p e below _ (T_44.setTop (mkF m 13 #[.val (.ref a1), .val (.ref ea), .val (.int (cmpJ se (-62167219200 : Int64)))] [(.int (cmpJ se (-62167219200 : Int64)))]))
  by_cases h1 : (cmpJ se (-62167219200 : Int64)) = (0 : Int32)
  · skip
    refine Go.step (fun _ k => XS.ifYes X_44.here hx rfl (pc0 := 13) (pc' := 18) rfl (hb hby d_jdk_2320_method_41_code_13) rfl ((if0 _ _).trans (teq h1).1) (by decide) (by decide) k) ?_
    show Go p e below _ (T_44.setTop (mkF m 18 #[.val (.ref a1), .val (.ref ea), .val (.int (cmpJ se (-62167219200 : Int64)))] []))
    refine Go.step (fun _ k => XS.aloadN X_44.here hx rfl (hb hby d_jdk_2320_method_41_code_18) rfl rfl k) ?_
    show Go p e below _ (T_44.setTop (mkF m 19 #[.val (.ref a1), .val (.ref ea), .val (.int (cmpJ se (-62167219200 : Int64)))] [(.ref a1)]))
    obtain ⟨T_45, X_45, e_45, st_45⟩ := getF X_44 hx hZ hown (host := "") (Or.inl (wd_69 hw)) Via.refl e_44 Fn_a1 (g := (mkF m 19 #[.val (.ref a1), .val (.ref ea), .val (.int (cmpJ se (-62167219200 : Int64)))] [(.ref a1)])) rfl rfl (hb hby d_jdk_2320_method_41_code_19)
    refine Go.step st_45 ?_
    show Go p e below _ (T_45.setTop (mkF m 22 #[.val (.ref a1), .val (.ref ea), .val (.int (cmpJ se (-62167219200 : Int64)))] [(.int na)]))
    refine Go.step (fun _ k => XS.aloadN X_45.here hx rfl (hb hby d_jdk_2320_method_41_code_22) rfl rfl k) ?_
    show Go p e below _ (T_45.setTop (mkF m 23 #[.val (.ref a1), .val (.ref ea), .val (.int (cmpJ se (-62167219200 : Int64)))] [(.ref ea), (.int na)]))
    obtain ⟨T_46, X_46, e_46, st_46⟩ := getF X_45 hx hZ hown (host := "") (Or.inl (wd_69 hw)) Via.refl e_45 (Fn_ea.ext hO.2) (g := (mkF m 23 #[.val (.ref a1), .val (.ref ea), .val (.int (cmpJ se (-62167219200 : Int64)))] [(.ref ea), (.int na)])) rfl rfl (hb hby d_jdk_2320_method_41_code_23)
    refine Go.step st_46 ?_
    show Go p e below _ (T_46.setTop (mkF m 26 #[.val (.ref a1), .val (.ref ea), .val (.int (cmpJ se (-62167219200 : Int64)))] [(.int (0 : Int32)), (.int na)]))
    refine Go.step (fun _ k => XS.isub X_46.here hx rfl (hb hby d_jdk_2320_method_41_code_26) rfl k) ?_
    show Go p e below _ (T_46.setTop (mkF m 27 #[.val (.ref a1), .val (.ref ea), .val (.int (cmpJ se (-62167219200 : Int64)))] [(.int (na - (0 : Int32)))]))
    exact Go.retV X_46 hx hlk hret rfl (Or.inl ⟨rfl, Or.inl rfl, _, rfl⟩) (hb hby d_jdk_2320_method_41_code_27) (by decide) (by decide) (by rw [e_46]; exact ⟨(na - (0 : Int32)), rfl, N_44, rfl, (ce_eq hge)⟩)
  · skip
    refine Go.step (fun _ k => XS.ifNo X_44.here hx rfl (hb hby d_jdk_2320_method_41_code_13) rfl ((if0 _ _).trans (feq h1).1) k) ?_
    show Go p e below _ (T_44.setTop (mkF m 16 #[.val (.ref a1), .val (.ref ea), .val (.int (cmpJ se (-62167219200 : Int64)))] []))
    refine Go.step (fun _ k => XS.iloadN X_44.here hx rfl (hb hby d_jdk_2320_method_41_code_16) rfl  k) ?_
    show Go p e below _ (T_44.setTop (mkF m 17 #[.val (.ref a1), .val (.ref ea), .val (.int (cmpJ se (-62167219200 : Int64)))] [(.int (cmpJ se (-62167219200 : Int64)))]))
    exact Go.retV X_44 hx hlk hret rfl (Or.inl ⟨rfl, Or.inl rfl, _, rfl⟩) (hb hby d_jdk_2320_method_41_code_17) (by decide) (by decide) (by rw [e_44]; exact ⟨(cmpJ se (-62167219200 : Int64)), rfl, N_44, rfl, (ce_ne hge)⟩)
def Q_cmpBe (Z : State) (ep : Addr) (mc : Addr) (sm : Addr) (ea : Addr) (be : Addr) (cz : Cell) (zc : Int32) (a1 : Addr) (se : Int64) (h0 : Heap) (n0 : Nat) (v : Option Value) (h : Heap) (L : List Loc) : Prop := ∃ (cv : Int32), v = some (.int cv) ∧ Fr n0 L ∧ h = h0 ∧ cv < 0
set_option maxRecDepth 65536 in
set_option maxHeartbeats 40000000 in
theorem rm_cmpBe (l : Launch) (Z : State) (a0 : Array Value) (hw : ∀ d ∈ tables_1, d.before a0 Z = true) (ep : Addr) (mc : Addr) (sm : Addr) (ea : Addr) (be : Addr) (cz : Cell) (zc : Int32) (a1 : Addr) (se : Int64) (h0 : Heap) (n0 : Nat) (Z0 : n0 ≤ h0.size) (Fs_a1 : Fld Z h0 a1 "java/time/Instant" "seconds" "J" (.long se)) (hlt : se.toInt < 253402300800) (hSt : St Z ep mc sm ea be cz zc) (hO : Old Z n0 h0) :
    CN l Z ({ cls := "java/time/Instant", name := "compareTo", desc := "(Ljava/time/Instant;)I" } : Jvm.MethodName) [(Jvm.Cond.code ({ cls := "java/time/Instant", name := "compareTo", desc := "(Ljava/time/Instant;)I" } : Jvm.MethodName) jdk_2320_method_41_code (3 : Nat) (Option.some Jvm.ClassFile.FieldType.int))] ({ frames := 1, cells := 0, slots := 0, locals := 15 } : Room) #[(.ref a1), (.ref be)] h0 (Q_cmpBe Z ep mc sm ea be cz zc a1 se h0 n0) := by
  refine CN.of (L0 := #[.val (.ref a1), .val (.ref be), .unset]) (plainFor_of_name pn_4) (fun m => by first | rfl | (simp [entryFrame, mkF, argsToLocals, Value.category]; done)) ?_
  intro p e s m below meth c s₁ hx hby hml hret hlk hZ hown hnm X0 e0
  have N0 := Fr.nil n0
  have KP0 := Keep.refl h0 []
  have hSt_ := hSt
  obtain ⟨S_cs, n_cs, S_ep, E_ep, Fs_ep, Fn_ep, S_mc, E_mc, F_mc, S_sm, A_sm, n_sm, v_sm, S_ea, E_ea, Fs_ea, Fn_ea, S_be, E_be, Fs_be⟩ := hSt_
  show Go p e below _ (s₁.setTop (mkF m 0 #[.val (.ref a1), .val (.ref be), .unset] []))
  refine Go.step (fun _ k => XS.aloadN X0.here hx rfl (hb hby d_jdk_2320_method_41_code_0) rfl rfl k) ?_
  show Go p e below _ (s₁.setTop (mkF m 1 #[.val (.ref a1), .val (.ref be), .unset] [(.ref a1)]))
  obtain ⟨T_47, X_47, e_47, st_47⟩ := getF X0 hx hZ hown (host := "") (Or.inl (wd_62 hw)) Via.refl e0 Fs_a1 (g := (mkF m 1 #[.val (.ref a1), .val (.ref be), .unset] [(.ref a1)])) rfl rfl (hb hby d_jdk_2320_method_41_code_1)
  refine Go.step st_47 ?_
  show Go p e below _ (T_47.setTop (mkF m 4 #[.val (.ref a1), .val (.ref be), .unset] [(.long se)]))
  refine Go.step (fun _ k => XS.aloadN X_47.here hx rfl (hb hby d_jdk_2320_method_41_code_4) rfl rfl k) ?_
  show Go p e below _ (T_47.setTop (mkF m 5 #[.val (.ref a1), .val (.ref be), .unset] [(.ref be), (.long se)]))
  obtain ⟨T_48, X_48, e_48, st_48⟩ := getF X_47 hx hZ hown (host := "") (Or.inl (wd_62 hw)) Via.refl e_47 (Fs_be.ext hO.2) (g := (mkF m 5 #[.val (.ref a1), .val (.ref be), .unset] [(.ref be), (.long se)])) rfl rfl (hb hby d_jdk_2320_method_41_code_5)
  refine Go.step st_48 ?_
  show Go p e below _ (T_48.setTop (mkF m 8 #[.val (.ref a1), .val (.ref be), .unset] [(.long (253402300800 : Int64)), (.long se)]))
  obtain ⟨v_49, T_49, L_49, X_49, hQ_49, st_49⟩ := goS X_48 hx hZ (y := ({ cls := "java/lang/Long", name := "compare", desc := "(JJ)I" } : Jvm.MethodName)) hown (wd_107 hw) (wd_108 hw) (wd_109 hw) (wd_110 hw) (by decide) (backOf (W := 0) (rm_lcompare l Z a0 hw ep mc sm ea be cz zc (se) ((253402300800 : Int64)) h0 n0 (Nat.le_trans Z0 KP0.1) hSt hO) hZ (wd_110 hw) (wd_109 hw) (by decide) (by decide)) e_48 (g := (mkF m 8 #[.val (.ref a1), .val (.ref be), .unset] [(.long (253402300800 : Int64)), (.long se)])) rfl (by rw [hml]; rfl) (argsL := [(.long se), (.long (253402300800 : Int64))]) (rest := []) rfl (lenOf pd_8 rfl) rfl (by show 2 * 0 + _ ≤ _; exact Nat.le_of_eq rfl) (hb hby d_jdk_2320_method_41_code_8) (by decide) (by decide)
  obtain ⟨rfl, Nq_49, e_49⟩ := hQ_49
  have N_49 := Fr.app N0 Nq_49
  refine Go.step st_49 ?_
  show Go p e below _ (T_49.setTop (mkF m 11 #[.val (.ref a1), .val (.ref be), .unset] [(.int (cmpJ se (253402300800 : Int64)))]))
  refine Go.step (fun _ k => XS.istoreN X_49.here hx rfl (hb hby d_jdk_2320_method_41_code_11) rfl (l' := #[.val (.ref a1), .val (.ref be), .val (.int (cmpJ se (253402300800 : Int64)))]) rfl k) ?_
  show Go p e below _ (T_49.setTop (mkF m 12 #[.val (.ref a1), .val (.ref be), .val (.int (cmpJ se (253402300800 : Int64)))] []))
  refine Go.step (fun _ k => XS.iloadN X_49.here hx rfl (hb hby d_jdk_2320_method_41_code_12) rfl  k) ?_
  show Go p e below _ (T_49.setTop (mkF m 13 #[.val (.ref a1), .val (.ref be), .val (.int (cmpJ se (253402300800 : Int64)))] [(.int (cmpJ se (253402300800 : Int64)))]))
  refine Go.step (fun _ k => XS.ifNo X_49.here hx rfl (hb hby d_jdk_2320_method_41_code_13) rfl ((if0 _ _).trans (feq ((cb_ne hlt) : ¬ ((cmpJ se (253402300800 : Int64)) = (0 : Int32)))).1) k) ?_
  show Go p e below _ (T_49.setTop (mkF m 16 #[.val (.ref a1), .val (.ref be), .val (.int (cmpJ se (253402300800 : Int64)))] []))
  refine Go.step (fun _ k => XS.iloadN X_49.here hx rfl (hb hby d_jdk_2320_method_41_code_16) rfl  k) ?_
  show Go p e below _ (T_49.setTop (mkF m 17 #[.val (.ref a1), .val (.ref be), .val (.int (cmpJ se (253402300800 : Int64)))] [(.int (cmpJ se (253402300800 : Int64)))]))
  exact Go.retV X_49 hx hlk hret rfl (Or.inl ⟨rfl, Or.inl rfl, _, rfl⟩) (hb hby d_jdk_2320_method_41_code_17) (by decide) (by decide) (by rw [e_49]; exact ⟨(cmpJ se (253402300800 : Int64)), rfl, N_49, rfl, (cb_lt hlt)⟩)
def Q_isbEa (Z : State) (ep : Addr) (mc : Addr) (sm : Addr) (ea : Addr) (be : Addr) (cz : Cell) (zc : Int32) (a1 : Addr) (se : Int64) (na : Int32) (h0 : Heap) (n0 : Nat) (v : Option Value) (h : Heap) (L : List Loc) : Prop := v = some (.int (0 : Int32)) ∧ Fr n0 L ∧ h = h0
set_option maxRecDepth 65536 in
set_option maxHeartbeats 40000000 in
theorem rm_isbEa (l : Launch) (Z : State) (a0 : Array Value) (hw : ∀ d ∈ tables_1, d.before a0 Z = true) (ep : Addr) (mc : Addr) (sm : Addr) (ea : Addr) (be : Addr) (cz : Cell) (zc : Int32) (a1 : Addr) (se : Int64) (na : Int32) (h0 : Heap) (n0 : Nat) (Z0 : n0 ≤ h0.size) (E_a1 : Exa Z h0 a1 "java/time/Instant") (Fs_a1 : Fld Z h0 a1 "java/time/Instant" "seconds" "J" (.long se)) (Fn_a1 : Fld Z h0 a1 "java/time/Instant" "nanos" "I" (.int na)) (hge : -62167219200 ≤ se.toInt ∧ 0 ≤ na.toInt) (hSt : St Z ep mc sm ea be cz zc) (hO : Old Z n0 h0) :
    CN l Z ({ cls := "java/time/Instant", name := "isBefore", desc := "(Ljava/time/Instant;)Z" } : Jvm.MethodName) [(Jvm.Cond.code ({ cls := "java/time/Instant", name := "isBefore", desc := "(Ljava/time/Instant;)Z" } : Jvm.MethodName) jdk_2320_method_43_code (2 : Nat) (Option.some Jvm.ClassFile.FieldType.boolean))] ({ frames := 2, cells := 0, slots := 0, locals := 29 } : Room) #[(.ref a1), (.ref ea)] h0 (Q_isbEa Z ep mc sm ea be cz zc a1 se na h0 n0) := by
  refine CN.of (L0 := #[.val (.ref a1), .val (.ref ea)]) (plainFor_of_name pn_4) (fun m => by first | rfl | (simp [entryFrame, mkF, argsToLocals, Value.category]; done)) ?_
  intro p e s m below meth c s₁ hx hby hml hret hlk hZ hown hnm X0 e0
  have N0 := Fr.nil n0
  have KP0 := Keep.refl h0 []
  have hSt_ := hSt
  obtain ⟨S_cs, n_cs, S_ep, E_ep, Fs_ep, Fn_ep, S_mc, E_mc, F_mc, S_sm, A_sm, n_sm, v_sm, S_ea, E_ea, Fs_ea, Fn_ea, S_be, E_be, Fs_be⟩ := hSt_
  show Go p e below _ (s₁.setTop (mkF m 0 #[.val (.ref a1), .val (.ref ea)] []))
  refine Go.step (fun _ k => XS.aloadN X0.here hx rfl (hb hby d_jdk_2320_method_43_code_0) rfl rfl k) ?_
  show Go p e below _ (s₁.setTop (mkF m 1 #[.val (.ref a1), .val (.ref ea)] [(.ref a1)]))
  refine Go.step (fun _ k => XS.aloadN X0.here hx rfl (hb hby d_jdk_2320_method_43_code_1) rfl rfl k) ?_
  show Go p e below _ (s₁.setTop (mkF m 2 #[.val (.ref a1), .val (.ref ea)] [(.ref ea), (.ref a1)]))
  obtain ⟨v_50, T_50, L_50, X_50, hQ_50, st_50⟩ := goV X0 hx hZ (y := ({ cls := "java/time/Instant", name := "compareTo", desc := "(Ljava/time/Instant;)I" } : Jvm.MethodName)) (z := ({ cls := "java/time/Instant", name := "compareTo", desc := "(Ljava/time/Instant;)I" } : Jvm.MethodName)) hown (wd_102 hw) (wd_103 hw) (notFace_of_selects (args := #[]) (mvT hZ (wd_105 hw))) (wd_105 hw) (wd_104 hw) (by decide) (backOf (W := 0) (rm_cmpEa l Z a0 hw ep mc sm (ea) be cz zc (a1) (se) (na) h0 n0 (Nat.le_trans Z0 KP0.1) Fs_a1 Fn_a1 hge hSt hO) hZ (wd_106 hw) (wd_34 hw) (by decide) (by decide)) e0 E_a1 (g := (mkF m 2 #[.val (.ref a1), .val (.ref ea)] [(.ref ea), (.ref a1)])) rfl (by rw [hml]; rfl) (argsL := [(.ref ea)]) (rest := []) rfl (lenOf pd_9 rfl) rfl (by show 2 * 0 + _ ≤ _; exact Nat.le_of_eq rfl) (hb hby d_jdk_2320_method_43_code_2) (by decide) (by decide)
  obtain ⟨cv_50, rfl, Nq_50, e_50, u0_50⟩ := hQ_50
  have N_50 := Fr.app N0 Nq_50
  have hcv_50 := u0_50
  refine Go.step st_50 ?_
  show Go p e below _ (T_50.setTop (mkF m 5 #[.val (.ref a1), .val (.ref ea)] [(.int cv_50)]))
  refine Go.step (fun _ k => XS.ifYes X_50.here hx rfl (pc0 := 5) (pc' := 12) rfl (hb hby d_jdk_2320_method_43_code_5) rfl ((if0 _ _).trans (flt (hcv_50 : ¬ (cv_50 < (0 : Int32)))).2.1) (by decide) (by decide) k) ?_
  show Go p e below _ (T_50.setTop (mkF m 12 #[.val (.ref a1), .val (.ref ea)] []))
  refine Go.step (fun _ k => XS.iconst X_50.here hx rfl (hb hby d_jdk_2320_method_43_code_12) k) ?_
  show Go p e below _ (T_50.setTop (mkF m 13 #[.val (.ref a1), .val (.ref ea)] [(.int (0 : Int32))]))
  exact Go.retV X_50 hx hlk hret rfl (Or.inl ⟨rfl, Or.inr (Or.inl rfl), _, rfl⟩) (hb hby d_jdk_2320_method_43_code_13) (by decide) (by decide) (by rw [e_50]; exact ⟨rfl, N_50, rfl⟩)
def Q_isbBe (Z : State) (ep : Addr) (mc : Addr) (sm : Addr) (ea : Addr) (be : Addr) (cz : Cell) (zc : Int32) (a1 : Addr) (se : Int64) (h0 : Heap) (n0 : Nat) (v : Option Value) (h : Heap) (L : List Loc) : Prop := v = some (.int (1 : Int32)) ∧ Fr n0 L ∧ h = h0
set_option maxRecDepth 65536 in
set_option maxHeartbeats 40000000 in
theorem rm_isbBe (l : Launch) (Z : State) (a0 : Array Value) (hw : ∀ d ∈ tables_1, d.before a0 Z = true) (ep : Addr) (mc : Addr) (sm : Addr) (ea : Addr) (be : Addr) (cz : Cell) (zc : Int32) (a1 : Addr) (se : Int64) (h0 : Heap) (n0 : Nat) (Z0 : n0 ≤ h0.size) (E_a1 : Exa Z h0 a1 "java/time/Instant") (Fs_a1 : Fld Z h0 a1 "java/time/Instant" "seconds" "J" (.long se)) (hlt : se.toInt < 253402300800) (hSt : St Z ep mc sm ea be cz zc) (hO : Old Z n0 h0) :
    CN l Z ({ cls := "java/time/Instant", name := "isBefore", desc := "(Ljava/time/Instant;)Z" } : Jvm.MethodName) [(Jvm.Cond.code ({ cls := "java/time/Instant", name := "isBefore", desc := "(Ljava/time/Instant;)Z" } : Jvm.MethodName) jdk_2320_method_43_code (2 : Nat) (Option.some Jvm.ClassFile.FieldType.boolean))] ({ frames := 2, cells := 0, slots := 0, locals := 29 } : Room) #[(.ref a1), (.ref be)] h0 (Q_isbBe Z ep mc sm ea be cz zc a1 se h0 n0) := by
  refine CN.of (L0 := #[.val (.ref a1), .val (.ref be)]) (plainFor_of_name pn_4) (fun m => by first | rfl | (simp [entryFrame, mkF, argsToLocals, Value.category]; done)) ?_
  intro p e s m below meth c s₁ hx hby hml hret hlk hZ hown hnm X0 e0
  have N0 := Fr.nil n0
  have KP0 := Keep.refl h0 []
  have hSt_ := hSt
  obtain ⟨S_cs, n_cs, S_ep, E_ep, Fs_ep, Fn_ep, S_mc, E_mc, F_mc, S_sm, A_sm, n_sm, v_sm, S_ea, E_ea, Fs_ea, Fn_ea, S_be, E_be, Fs_be⟩ := hSt_
  show Go p e below _ (s₁.setTop (mkF m 0 #[.val (.ref a1), .val (.ref be)] []))
  refine Go.step (fun _ k => XS.aloadN X0.here hx rfl (hb hby d_jdk_2320_method_43_code_0) rfl rfl k) ?_
  show Go p e below _ (s₁.setTop (mkF m 1 #[.val (.ref a1), .val (.ref be)] [(.ref a1)]))
  refine Go.step (fun _ k => XS.aloadN X0.here hx rfl (hb hby d_jdk_2320_method_43_code_1) rfl rfl k) ?_
  show Go p e below _ (s₁.setTop (mkF m 2 #[.val (.ref a1), .val (.ref be)] [(.ref be), (.ref a1)]))
  obtain ⟨v_51, T_51, L_51, X_51, hQ_51, st_51⟩ := goV X0 hx hZ (y := ({ cls := "java/time/Instant", name := "compareTo", desc := "(Ljava/time/Instant;)I" } : Jvm.MethodName)) (z := ({ cls := "java/time/Instant", name := "compareTo", desc := "(Ljava/time/Instant;)I" } : Jvm.MethodName)) hown (wd_102 hw) (wd_103 hw) (notFace_of_selects (args := #[]) (mvT hZ (wd_105 hw))) (wd_105 hw) (wd_104 hw) (by decide) (backOf (W := 0) (rm_cmpBe l Z a0 hw ep mc sm ea (be) cz zc (a1) (se) h0 n0 (Nat.le_trans Z0 KP0.1) Fs_a1 hlt hSt hO) hZ (wd_106 hw) (wd_34 hw) (by decide) (by decide)) e0 E_a1 (g := (mkF m 2 #[.val (.ref a1), .val (.ref be)] [(.ref be), (.ref a1)])) rfl (by rw [hml]; rfl) (argsL := [(.ref be)]) (rest := []) rfl (lenOf pd_9 rfl) rfl (by show 2 * 0 + _ ≤ _; exact Nat.le_of_eq rfl) (hb hby d_jdk_2320_method_43_code_2) (by decide) (by decide)
  obtain ⟨cv_51, rfl, Nq_51, e_51, u0_51⟩ := hQ_51
  have N_51 := Fr.app N0 Nq_51
  have hcv_51 := u0_51
  refine Go.step st_51 ?_
  show Go p e below _ (T_51.setTop (mkF m 5 #[.val (.ref a1), .val (.ref be)] [(.int cv_51)]))
  refine Go.step (fun _ k => XS.ifNo X_51.here hx rfl (hb hby d_jdk_2320_method_43_code_5) rfl ((if0 _ _).trans (tlt (hcv_51 : cv_51 < (0 : Int32))).2.1) k) ?_
  show Go p e below _ (T_51.setTop (mkF m 8 #[.val (.ref a1), .val (.ref be)] []))
  refine Go.step (fun _ k => XS.iconst X_51.here hx rfl (hb hby d_jdk_2320_method_43_code_8) k) ?_
  show Go p e below _ (T_51.setTop (mkF m 9 #[.val (.ref a1), .val (.ref be)] [(.int (1 : Int32))]))
  refine Go.step (fun _ k => XS.goto X_51.here hx rfl (pc0 := 9) (pc' := 13) rfl (hb hby d_jdk_2320_method_43_code_9) (by decide) (by decide) k) ?_
  show Go p e below _ (T_51.setTop (mkF m 13 #[.val (.ref a1), .val (.ref be)] [(.int (1 : Int32))]))
  exact Go.retV X_51 hx hlk hret rfl (Or.inl ⟨rfl, Or.inr (Or.inl rfl), _, rfl⟩) (hb hby d_jdk_2320_method_43_code_13) (by decide) (by decide) (by rw [e_51]; exact ⟨rfl, N_51, rfl⟩)
def Q_inRange (Z : State) (ep : Addr) (mc : Addr) (sm : Addr) (ea : Addr) (be : Addr) (cz : Cell) (zc : Int32) (a1 : Addr) (se : Int64) (na : Int32) (h0 : Heap) (n0 : Nat) (v : Option Value) (h : Heap) (L : List Loc) : Prop := v = some (.int (1 : Int32)) ∧ Fr n0 L ∧ h = h0
set_option maxRecDepth 65536 in
set_option maxHeartbeats 40000000 in
theorem rm_inRange (l : Launch) (Z : State) (a0 : Array Value) (hw : ∀ d ∈ tables_1, d.before a0 Z = true) (ep : Addr) (mc : Addr) (sm : Addr) (ea : Addr) (be : Addr) (cz : Cell) (zc : Int32) (a1 : Addr) (se : Int64) (na : Int32) (h0 : Heap) (n0 : Nat) (Z0 : n0 ≤ h0.size) (E_a1 : Exa Z h0 a1 "java/time/Instant") (Fs_a1 : Fld Z h0 a1 "java/time/Instant" "seconds" "J" (.long se)) (Fn_a1 : Fld Z h0 a1 "java/time/Instant" "nanos" "I" (.int na)) (hge : -62167219200 ≤ se.toInt ∧ 0 ≤ na.toInt) (hlt : se.toInt < 253402300800) (hSt : St Z ep mc sm ea be cz zc) (hO : Old Z n0 h0) :
    CN l Z ({ cls := "com/example/hallstatt/hallstatt/api/ListingParameters", name := "inRange", desc := "(Ljava/time/Instant;)Z" } : Jvm.MethodName) [(Jvm.Cond.code ({ cls := "com/example/hallstatt/hallstatt/api/ListingParameters", name := "inRange", desc := "(Ljava/time/Instant;)Z" } : Jvm.MethodName) prog_12_method_8_code (1 : Nat) (Option.some Jvm.ClassFile.FieldType.boolean))] ({ frames := 3, cells := 0, slots := 0, locals := 42 } : Room) #[(.ref a1)] h0 (Q_inRange Z ep mc sm ea be cz zc a1 se na h0 n0) := by
  refine CN.of (L0 := #[.val (.ref a1)]) (plainFor_of_name pn_5) (fun m => by first | rfl | (simp [entryFrame, mkF, argsToLocals, Value.category]; done)) ?_
  intro p e s m below meth c s₁ hx hby hml hret hlk hZ hown hnm X0 e0
  have N0 := Fr.nil n0
  have KP0 := Keep.refl h0 []
  have hSt_ := hSt
  obtain ⟨S_cs, n_cs, S_ep, E_ep, Fs_ep, Fn_ep, S_mc, E_mc, F_mc, S_sm, A_sm, n_sm, v_sm, S_ea, E_ea, Fs_ea, Fn_ea, S_be, E_be, Fs_be⟩ := hSt_
  show Go p e below _ (s₁.setTop (mkF m 0 #[.val (.ref a1)] []))
  refine Go.step (fun _ k => XS.aloadN X0.here hx rfl (hb hby d_prog_12_method_8_code_0) rfl rfl k) ?_
  show Go p e below _ (s₁.setTop (mkF m 1 #[.val (.ref a1)] [(.ref a1)]))
  obtain ⟨T_52, X_52, e_52, st_52⟩ := getS2 X0 hx hZ hown (host := "") (Or.inl (wd_95 hw)) Via.refl e0 (S_ea.ext hO.2) (g := (mkF m 1 #[.val (.ref a1)] [(.ref a1)])) rfl (hb hby d_prog_12_method_8_code_1)
  refine Go.step st_52 ?_
  show Go p e below _ (T_52.setTop (mkF m 4 #[.val (.ref a1)] [(.ref ea), (.ref a1)]))
  obtain ⟨v_53, T_53, L_53, X_53, hQ_53, st_53⟩ := goV X_52 hx hZ (y := ({ cls := "java/time/Instant", name := "isBefore", desc := "(Ljava/time/Instant;)Z" } : Jvm.MethodName)) (z := ({ cls := "java/time/Instant", name := "isBefore", desc := "(Ljava/time/Instant;)Z" } : Jvm.MethodName)) hown (wd_97 hw) (wd_98 hw) (notFace_of_selects (args := #[]) (mvT hZ (wd_100 hw))) (wd_100 hw) (wd_99 hw) (by decide) (backOf (W := 0) (rm_isbEa l Z a0 hw ep mc sm (ea) be cz zc (a1) (se) (na) h0 n0 (Nat.le_trans Z0 KP0.1) E_a1 Fs_a1 Fn_a1 hge hSt hO) hZ (wd_101 hw) (wd_34 hw) (by decide) (by decide)) e_52 E_a1 (g := (mkF m 4 #[.val (.ref a1)] [(.ref ea), (.ref a1)])) rfl (by rw [hml]; rfl) (argsL := [(.ref ea)]) (rest := []) rfl (lenOf pd_10 rfl) rfl (by show 2 * 0 + _ ≤ _; exact Nat.le_of_eq rfl) (hb hby d_prog_12_method_8_code_4) (by decide) (by decide)
  obtain ⟨rfl, Nq_53, e_53⟩ := hQ_53
  have N_53 := Fr.app N0 Nq_53
  refine Go.step st_53 ?_
  show Go p e below _ (T_53.setTop (mkF m 7 #[.val (.ref a1)] [(.int (0 : Int32))]))
  refine Go.step (fun _ k => XS.ifNo X_53.here hx rfl (hb hby d_prog_12_method_8_code_7) rfl ((if0 _ _).trans (teq ((by decide) : (0 : Int32) = (0 : Int32))).2) k) ?_
  show Go p e below _ (T_53.setTop (mkF m 10 #[.val (.ref a1)] []))
  refine Go.step (fun _ k => XS.aloadN X_53.here hx rfl (hb hby d_prog_12_method_8_code_10) rfl rfl k) ?_
  show Go p e below _ (T_53.setTop (mkF m 11 #[.val (.ref a1)] [(.ref a1)]))
  obtain ⟨T_54, X_54, e_54, st_54⟩ := getS2 X_53 hx hZ hown (host := "") (Or.inl (wd_111 hw)) Via.refl e_53 (S_be.ext hO.2) (g := (mkF m 11 #[.val (.ref a1)] [(.ref a1)])) rfl (hb hby d_prog_12_method_8_code_11)
  refine Go.step st_54 ?_
  show Go p e below _ (T_54.setTop (mkF m 14 #[.val (.ref a1)] [(.ref be), (.ref a1)]))
  obtain ⟨v_55, T_55, L_55, X_55, hQ_55, st_55⟩ := goV X_54 hx hZ (y := ({ cls := "java/time/Instant", name := "isBefore", desc := "(Ljava/time/Instant;)Z" } : Jvm.MethodName)) (z := ({ cls := "java/time/Instant", name := "isBefore", desc := "(Ljava/time/Instant;)Z" } : Jvm.MethodName)) hown (wd_97 hw) (wd_98 hw) (notFace_of_selects (args := #[]) (mvT hZ (wd_100 hw))) (wd_100 hw) (wd_99 hw) (by decide) (backOf (W := 0) (rm_isbBe l Z a0 hw ep mc sm ea (be) cz zc (a1) (se) h0 n0 (Nat.le_trans Z0 KP0.1) E_a1 Fs_a1 hlt hSt hO) hZ (wd_101 hw) (wd_34 hw) (by decide) (by decide)) e_54 E_a1 (g := (mkF m 14 #[.val (.ref a1)] [(.ref be), (.ref a1)])) rfl (by rw [hml]; rfl) (argsL := [(.ref be)]) (rest := []) rfl (lenOf pd_10 rfl) rfl (by show 2 * 0 + _ ≤ _; exact Nat.le_of_eq rfl) (hb hby d_prog_12_method_8_code_14) (by decide) (by decide)
  obtain ⟨rfl, Nq_55, e_55⟩ := hQ_55
  have N_55 := Fr.app N_53 Nq_55
  refine Go.step st_55 ?_
  show Go p e below _ (T_55.setTop (mkF m 17 #[.val (.ref a1)] [(.int (1 : Int32))]))
  refine Go.step (fun _ k => XS.ifNo X_55.here hx rfl (hb hby d_prog_12_method_8_code_17) rfl ((if0 _ _).trans (feq ((by decide) : ¬ ((1 : Int32) = (0 : Int32)))).1) k) ?_
  show Go p e below _ (T_55.setTop (mkF m 20 #[.val (.ref a1)] []))
  refine Go.step (fun _ k => XS.iconst X_55.here hx rfl (hb hby d_prog_12_method_8_code_20) k) ?_
  show Go p e below _ (T_55.setTop (mkF m 21 #[.val (.ref a1)] [(.int (1 : Int32))]))
  refine Go.step (fun _ k => XS.goto X_55.here hx rfl (pc0 := 21) (pc' := 25) rfl (hb hby d_prog_12_method_8_code_21) (by decide) (by decide) k) ?_
  show Go p e below _ (T_55.setTop (mkF m 25 #[.val (.ref a1)] [(.int (1 : Int32))]))
  exact Go.retV X_55 hx hlk hret rfl (Or.inl ⟨rfl, Or.inr (Or.inl rfl), _, rfl⟩) (hb hby d_prog_12_method_8_code_25) (by decide) (by decide) (by rw [e_55]; exact ⟨rfl, N_55, rfl⟩)
def Q_posTime (Z : State) (ep : Addr) (mc : Addr) (sm : Addr) (ea : Addr) (be : Addr) (cz : Cell) (zc : Int32) (s1 : Addr) (m1 : Int64) (h0 : Heap) (n0 : Nat) (v : Option Value) (h : Heap) (L : List Loc) : Prop := ∃ (r : Addr) (se : Int64) (na : Int32), v = some (.ref r) ∧ Fr n0 L ∧ Keep h0 h [] ∧ Exa Z h r "java/time/Instant" ∧ Fld Z h r "java/time/Instant" "seconds" "J" (.long se) ∧ Fld Z h r "java/time/Instant" "nanos" "I" (.int na) ∧ se.toInt * 1000000 + na.toInt / 1000 = m1.toInt ∧ 0 ≤ na.toInt ∧ na.toInt < 1000000000
set_option maxRecDepth 65536 in
set_option maxHeartbeats 40000000 in
theorem rm_posTime (l : Launch) (Z : State) (a0 : Array Value) (hw : ∀ d ∈ tables_1, d.before a0 Z = true) (ep : Addr) (mc : Addr) (sm : Addr) (ea : Addr) (be : Addr) (cz : Cell) (zc : Int32) (s1 : Addr) (m1 : Int64) (h0 : Heap) (n0 : Nat) (Z0 : n0 ≤ h0.size) (hm1 : -62167219200000000 ≤ m1.toInt ∧ m1.toInt < 253402300800000000) (hSt : St Z ep mc sm ea be cz zc) (hO : Old Z n0 h0) :
    CN l Z ({ cls := "com/example/hallstatt/hallstatt/api/ListingParameters", name := "positionTime", desc := "(Ljava/lang/String;J)Ljava/time/Instant;" } : Jvm.MethodName) [(Jvm.Cond.code ({ cls := "com/example/hallstatt/hallstatt/api/ListingParameters", name := "positionTime", desc := "(Ljava/lang/String;J)Ljava/time/Instant;" } : Jvm.MethodName) prog_12_method_7_code (4 : Nat) (Option.some (Jvm.ClassFile.FieldType.object "java/time/Instant")))] ({ frames := 6, cells := 1, slots := 2, locals := 96 } : Room) #[(.ref s1), (.long m1)] h0 (Q_posTime Z ep mc sm ea be cz zc s1 m1 h0 n0) := by
  refine CN.of (L0 := #[.val (.ref s1), .val (.long m1), .second, .unset]) (plainFor_of_name pn_5) (fun m => by first | rfl | (simp [entryFrame, mkF, argsToLocals, Value.category]; done)) ?_
  intro p e s m below meth c s₁ hx hby hml hret hlk hZ hown hnm X0 e0
  have N0 := Fr.nil n0
  have KP0 := Keep.refl h0 []
  have hSt_ := hSt
  obtain ⟨S_cs, n_cs, S_ep, E_ep, Fs_ep, Fn_ep, S_mc, E_mc, F_mc, S_sm, A_sm, n_sm, v_sm, S_ea, E_ea, Fs_ea, Fn_ea, S_be, E_be, Fs_be⟩ := hSt_
  show Go p e below _ (s₁.setTop (mkF m 0 #[.val (.ref s1), .val (.long m1), .second, .unset] []))
  obtain ⟨T_56, X_56, e_56, st_56⟩ := getS2 X0 hx hZ hown (host := "") (Or.inl (wd_33 hw)) Via.refl e0 (S_ep.ext hO.2) (g := (mkF m 0 #[.val (.ref s1), .val (.long m1), .second, .unset] [])) rfl (hb hby d_prog_12_method_7_code_0)
  refine Go.step st_56 ?_
  show Go p e below _ (T_56.setTop (mkF m 3 #[.val (.ref s1), .val (.long m1), .second, .unset] [(.ref ep)]))
  refine Go.step (fun _ k => XS.lloadN X_56.here hx rfl (hb hby d_prog_12_method_7_code_3) rfl  k) ?_
  show Go p e below _ (T_56.setTop (mkF m 4 #[.val (.ref s1), .val (.long m1), .second, .unset] [(.long m1), (.ref ep)]))
  obtain ⟨T_57, X_57, e_57, st_57⟩ := getS2 X_56 hx hZ hown (host := "") (Or.inl (wd_35 hw)) Via.refl e_56 (S_mc.ext hO.2) (g := (mkF m 4 #[.val (.ref s1), .val (.long m1), .second, .unset] [(.long m1), (.ref ep)])) rfl (hb hby d_prog_12_method_7_code_4)
  refine Go.step st_57 ?_
  show Go p e below _ (T_57.setTop (mkF m 7 #[.val (.ref s1), .val (.long m1), .second, .unset] [(.ref mc), (.long m1), (.ref ep)]))
  obtain ⟨v_58, T_58, L_58, X_58, hQ_58, st_58⟩ := goV X_57 hx hZ (y := ({ cls := "java/time/Instant", name := "plus", desc := "(JLjava/time/temporal/TemporalUnit;)Ljava/time/Instant;" } : Jvm.MethodName)) (z := ({ cls := "java/time/Instant", name := "plus", desc := "(JLjava/time/temporal/TemporalUnit;)Ljava/time/Instant;" } : Jvm.MethodName)) hown (wd_37 hw) (wd_38 hw) (notFace_of_selects (args := #[]) (mvT hZ (wd_40 hw))) (wd_40 hw) (wd_39 hw) (by decide) (backOf (W := 0) (rm_plusU l Z a0 hw (ep) (mc) sm ea be cz zc (m1) h0 n0 (Nat.le_trans Z0 KP0.1) hm1 hSt hO) hZ (wd_41 hw) (wd_34 hw) (by decide) (by decide)) e_57 (E_ep.ext hO.2) (g := (mkF m 7 #[.val (.ref s1), .val (.long m1), .second, .unset] [(.ref mc), (.long m1), (.ref ep)])) rfl (by rw [hml]; rfl) (argsL := [(.long m1), (.ref mc)]) (rest := []) rfl (lenOf pd_11 rfl) rfl (by show 2 * 0 + _ ≤ _; exact Nat.le_of_eq rfl) (hb hby d_prog_12_method_7_code_7) (by decide) (by decide)
  obtain ⟨r_58, se_58, na_58, rfl, Nq_58, K_58, u0_58, u1_58, u2_58, u3_58⟩ := hQ_58
  have N_58 := Fr.app N0 Nq_58
  have le_58 : h0.size ≤ T_58.heap.size := K_58.1
  have KP_58 := KP0.trans K_58 all0
  have O_58 := hO.keep K_58 all0
  have hres_58 := u3_58
  refine Go.step st_58 ?_
  show Go p e below _ (T_58.setTop (mkF m 10 #[.val (.ref s1), .val (.long m1), .second, .unset] [(.ref r_58)]))
  refine Go.step (fun _ k => XS.astoreN X_58.here hx rfl (hb hby d_prog_12_method_7_code_10) rfl rfl (l' := #[.val (.ref s1), .val (.long m1), .second, .val (.ref r_58)]) rfl k) ?_
  show Go p e below _ (T_58.setTop (mkF m 11 #[.val (.ref s1), .val (.long m1), .second, .val (.ref r_58)] []))
  refine Go.step (fun _ k => XS.aloadN X_58.here hx rfl (hb hby d_prog_12_method_7_code_11) rfl rfl k) ?_
  show Go p e below _ (T_58.setTop (mkF m 12 #[.val (.ref s1), .val (.long m1), .second, .val (.ref r_58)] [(.ref r_58)]))
  obtain ⟨v_59, T_59, L_59, X_59, hQ_59, st_59⟩ := goS X_58 hx hZ (y := ({ cls := "com/example/hallstatt/hallstatt/api/ListingParameters", name := "inRange", desc := "(Ljava/time/Instant;)Z" } : Jvm.MethodName)) hown (wd_92 hw) (wd_93 hw) (wd_31 hw) (wd_94 hw) (by decide) (backOf (W := 0) (rm_inRange l Z a0 hw ep mc sm ea be cz zc (r_58) (se_58) (na_58) T_58.heap n0 (Nat.le_trans Z0 KP_58.1) u0_58 u1_58 u2_58 (pt_ge hm1 hres_58) (pt_lt hm1 hres_58) hSt O_58) hZ (wd_94 hw) (wd_31 hw) (by decide) (by decide)) rfl (g := (mkF m 12 #[.val (.ref s1), .val (.long m1), .second, .val (.ref r_58)] [(.ref r_58)])) rfl (by rw [hml]; rfl) (argsL := [(.ref r_58)]) (rest := []) rfl (lenOf pd_10 rfl) rfl (by show 2 * 0 + _ ≤ _; exact Nat.le_of_eq rfl) (hb hby d_prog_12_method_7_code_12) (by decide) (by decide)
  obtain ⟨rfl, Nq_59, e_59⟩ := hQ_59
  have N_59 := Fr.app N_58 Nq_59
  refine Go.step st_59 ?_
  show Go p e below _ (T_59.setTop (mkF m 15 #[.val (.ref s1), .val (.long m1), .second, .val (.ref r_58)] [(.int (1 : Int32))]))
  refine Go.step (fun _ k => XS.ifYes X_59.here hx rfl (pc0 := 15) (pc' := 23) rfl (hb hby d_prog_12_method_7_code_15) rfl ((if0 _ _).trans (feq ((by decide) : ¬ ((1 : Int32) = (0 : Int32)))).2) (by decide) (by decide) k) ?_
  show Go p e below _ (T_59.setTop (mkF m 23 #[.val (.ref s1), .val (.long m1), .second, .val (.ref r_58)] []))
  refine Go.step (fun _ k => XS.aloadN X_59.here hx rfl (hb hby d_prog_12_method_7_code_23) rfl rfl k) ?_
  show Go p e below _ (T_59.setTop (mkF m 24 #[.val (.ref s1), .val (.long m1), .second, .val (.ref r_58)] [(.ref r_58)]))
  exact Go.retV X_59 hx hlk hret rfl (Or.inr (Or.inr (Or.inr (Or.inr ⟨rfl, rfl, rfl⟩)))) (hb hby d_prog_12_method_7_code_24) (by decide) (by decide) (by rw [e_59]; exact ⟨r_58, se_58, na_58, rfl, N_59, KP_58, u0_58, u1_58, u2_58, hres_58⟩)
def Q_getSec (Z : State) (ep : Addr) (mc : Addr) (sm : Addr) (ea : Addr) (be : Addr) (cz : Cell) (zc : Int32) (a1 : Addr) (se : Int64) (h0 : Heap) (n0 : Nat) (v : Option Value) (h : Heap) (L : List Loc) : Prop := v = some (.long se) ∧ Fr n0 L ∧ h = h0
set_option maxRecDepth 65536 in
set_option maxHeartbeats 40000000 in
theorem rm_getSec (l : Launch) (Z : State) (a0 : Array Value) (hw : ∀ d ∈ tables_1, d.before a0 Z = true) (ep : Addr) (mc : Addr) (sm : Addr) (ea : Addr) (be : Addr) (cz : Cell) (zc : Int32) (a1 : Addr) (se : Int64) (h0 : Heap) (n0 : Nat) (Z0 : n0 ≤ h0.size) (Fs_a1 : Fld Z h0 a1 "java/time/Instant" "seconds" "J" (.long se)) (hSt : St Z ep mc sm ea be cz zc) (hO : Old Z n0 h0) :
    CN l Z ({ cls := "java/time/Instant", name := "getEpochSecond", desc := "()J" } : Jvm.MethodName) [(Jvm.Cond.code ({ cls := "java/time/Instant", name := "getEpochSecond", desc := "()J" } : Jvm.MethodName) jdk_2320_method_15_code (1 : Nat) (Option.some Jvm.ClassFile.FieldType.long))] ({ frames := 0, cells := 0, slots := 0, locals := 0 } : Room) #[(.ref a1)] h0 (Q_getSec Z ep mc sm ea be cz zc a1 se h0 n0) := by
  refine CN.of (L0 := #[.val (.ref a1)]) (plainFor_of_name pn_4) (fun m => by first | rfl | (simp [entryFrame, mkF, argsToLocals, Value.category]; done)) ?_
  intro p e s m below meth c s₁ hx hby hml hret hlk hZ hown hnm X0 e0
  have N0 := Fr.nil n0
  have KP0 := Keep.refl h0 []
  have hSt_ := hSt
  obtain ⟨S_cs, n_cs, S_ep, E_ep, Fs_ep, Fn_ep, S_mc, E_mc, F_mc, S_sm, A_sm, n_sm, v_sm, S_ea, E_ea, Fs_ea, Fn_ea, S_be, E_be, Fs_be⟩ := hSt_
  show Go p e below _ (s₁.setTop (mkF m 0 #[.val (.ref a1)] []))
  refine Go.step (fun _ k => XS.aloadN X0.here hx rfl (hb hby d_jdk_2320_method_15_code_0) rfl rfl k) ?_
  show Go p e below _ (s₁.setTop (mkF m 1 #[.val (.ref a1)] [(.ref a1)]))
  obtain ⟨T_60, X_60, e_60, st_60⟩ := getF X0 hx hZ hown (host := "") (Or.inl (wd_62 hw)) Via.refl e0 Fs_a1 (g := (mkF m 1 #[.val (.ref a1)] [(.ref a1)])) rfl rfl (hb hby d_jdk_2320_method_15_code_1)
  refine Go.step st_60 ?_
  show Go p e below _ (T_60.setTop (mkF m 4 #[.val (.ref a1)] [(.long se)]))
  exact Go.retV X_60 hx hlk hret rfl (Or.inr (Or.inl ⟨rfl, rfl, _, rfl⟩)) (hb hby d_jdk_2320_method_15_code_4) (by decide) (by decide) (by rw [e_60]; exact ⟨rfl, N0, rfl⟩)
def Q_getNano (Z : State) (ep : Addr) (mc : Addr) (sm : Addr) (ea : Addr) (be : Addr) (cz : Cell) (zc : Int32) (a1 : Addr) (na : Int32) (h0 : Heap) (n0 : Nat) (v : Option Value) (h : Heap) (L : List Loc) : Prop := v = some (.int na) ∧ Fr n0 L ∧ h = h0
set_option maxRecDepth 65536 in
set_option maxHeartbeats 40000000 in
theorem rm_getNano (l : Launch) (Z : State) (a0 : Array Value) (hw : ∀ d ∈ tables_1, d.before a0 Z = true) (ep : Addr) (mc : Addr) (sm : Addr) (ea : Addr) (be : Addr) (cz : Cell) (zc : Int32) (a1 : Addr) (na : Int32) (h0 : Heap) (n0 : Nat) (Z0 : n0 ≤ h0.size) (Fn_a1 : Fld Z h0 a1 "java/time/Instant" "nanos" "I" (.int na)) (hSt : St Z ep mc sm ea be cz zc) (hO : Old Z n0 h0) :
    CN l Z ({ cls := "java/time/Instant", name := "getNano", desc := "()I" } : Jvm.MethodName) [(Jvm.Cond.code ({ cls := "java/time/Instant", name := "getNano", desc := "()I" } : Jvm.MethodName) jdk_2320_method_16_code (1 : Nat) (Option.some Jvm.ClassFile.FieldType.int))] ({ frames := 0, cells := 0, slots := 0, locals := 0 } : Room) #[(.ref a1)] h0 (Q_getNano Z ep mc sm ea be cz zc a1 na h0 n0) := by
  refine CN.of (L0 := #[.val (.ref a1)]) (plainFor_of_name pn_4) (fun m => by first | rfl | (simp [entryFrame, mkF, argsToLocals, Value.category]; done)) ?_
  intro p e s m below meth c s₁ hx hby hml hret hlk hZ hown hnm X0 e0
  have N0 := Fr.nil n0
  have KP0 := Keep.refl h0 []
  have hSt_ := hSt
  obtain ⟨S_cs, n_cs, S_ep, E_ep, Fs_ep, Fn_ep, S_mc, E_mc, F_mc, S_sm, A_sm, n_sm, v_sm, S_ea, E_ea, Fs_ea, Fn_ea, S_be, E_be, Fs_be⟩ := hSt_
  show Go p e below _ (s₁.setTop (mkF m 0 #[.val (.ref a1)] []))
  refine Go.step (fun _ k => XS.aloadN X0.here hx rfl (hb hby d_jdk_2320_method_16_code_0) rfl rfl k) ?_
  show Go p e below _ (s₁.setTop (mkF m 1 #[.val (.ref a1)] [(.ref a1)]))
  obtain ⟨T_61, X_61, e_61, st_61⟩ := getF X0 hx hZ hown (host := "") (Or.inl (wd_69 hw)) Via.refl e0 Fn_a1 (g := (mkF m 1 #[.val (.ref a1)] [(.ref a1)])) rfl rfl (hb hby d_jdk_2320_method_16_code_1)
  refine Go.step st_61 ?_
  show Go p e below _ (T_61.setTop (mkF m 4 #[.val (.ref a1)] [(.int na)]))
  exact Go.retV X_61 hx hlk hret rfl (Or.inl ⟨rfl, Or.inl rfl, _, rfl⟩) (hb hby d_jdk_2320_method_16_code_4) (by decide) (by decide) (by rw [e_61]; exact ⟨rfl, N0, rfl⟩)
def Q_micros (Z : State) (ep : Addr) (mc : Addr) (sm : Addr) (ea : Addr) (be : Addr) (cz : Cell) (zc : Int32) (a1 : Addr) (se : Int64) (na : Int32) (m1 : Int64) (h0 : Heap) (n0 : Nat) (v : Option Value) (h : Heap) (L : List Loc) : Prop := v = some (.long m1) ∧ Fr n0 L ∧ h = h0
set_option maxRecDepth 65536 in
set_option maxHeartbeats 40000000 in
theorem rm_micros (l : Launch) (Z : State) (a0 : Array Value) (hw : ∀ d ∈ tables_1, d.before a0 Z = true) (ep : Addr) (mc : Addr) (sm : Addr) (ea : Addr) (be : Addr) (cz : Cell) (zc : Int32) (a1 : Addr) (se : Int64) (na : Int32) (m1 : Int64) (h0 : Heap) (n0 : Nat) (Z0 : n0 ≤ h0.size) (E_a1 : Exa Z h0 a1 "java/time/Instant") (Fs_a1 : Fld Z h0 a1 "java/time/Instant" "seconds" "J" (.long se)) (Fn_a1 : Fld Z h0 a1 "java/time/Instant" "nanos" "I" (.int na)) (hm1 : -62167219200000000 ≤ m1.toInt ∧ m1.toInt < 253402300800000000) (hres : se.toInt * 1000000 + na.toInt / 1000 = m1.toInt ∧ 0 ≤ na.toInt ∧ na.toInt < 1000000000) (hSt : St Z ep mc sm ea be cz zc) (hO : Old Z n0 h0) :
    CN l Z ({ cls := "com/example/hallstatt/hallstatt/api/ListingParameters", name := "micros", desc := "(Ljava/time/Instant;)J" } : Jvm.MethodName) [(Jvm.Cond.code ({ cls := "com/example/hallstatt/hallstatt/api/ListingParameters", name := "micros", desc := "(Ljava/time/Instant;)J" } : Jvm.MethodName) prog_12_method_6_code (1 : Nat) (Option.some Jvm.ClassFile.FieldType.long))] ({ frames := 1, cells := 0, slots := 0, locals := 14 } : Room) #[(.ref a1)] h0 (Q_micros Z ep mc sm ea be cz zc a1 se na m1 h0 n0) := by
  refine CN.of (L0 := #[.val (.ref a1)]) (plainFor_of_name pn_5) (fun m => by first | rfl | (simp [entryFrame, mkF, argsToLocals, Value.category]; done)) ?_
  intro p e s m below meth c s₁ hx hby hml hret hlk hZ hown hnm X0 e0
  have N0 := Fr.nil n0
  have KP0 := Keep.refl h0 []
  have hSt_ := hSt
  obtain ⟨S_cs, n_cs, S_ep, E_ep, Fs_ep, Fn_ep, S_mc, E_mc, F_mc, S_sm, A_sm, n_sm, v_sm, S_ea, E_ea, Fs_ea, Fn_ea, S_be, E_be, Fs_be⟩ := hSt_
  show Go p e below _ (s₁.setTop (mkF m 0 #[.val (.ref a1)] []))
  refine Go.step (fun _ k => XS.aloadN X0.here hx rfl (hb hby d_prog_12_method_6_code_0) rfl rfl k) ?_
  show Go p e below _ (s₁.setTop (mkF m 1 #[.val (.ref a1)] [(.ref a1)]))
  obtain ⟨v_62, T_62, L_62, X_62, hQ_62, st_62⟩ := goV X0 hx hZ (y := ({ cls := "java/time/Instant", name := "getEpochSecond", desc := "()J" } : Jvm.MethodName)) (z := ({ cls := "java/time/Instant", name := "getEpochSecond", desc := "()J" } : Jvm.MethodName)) hown (wd_116 hw) (wd_117 hw) (notFace_of_selects (args := #[]) (mvT hZ (wd_119 hw))) (wd_119 hw) (wd_118 hw) (by decide) (backOf (W := 0) (rm_getSec l Z a0 hw ep mc sm ea be cz zc (a1) (se) h0 n0 (Nat.le_trans Z0 KP0.1) Fs_a1 hSt hO) hZ (wd_120 hw) (wd_34 hw) (by decide) (by decide)) e0 E_a1 (g := (mkF m 1 #[.val (.ref a1)] [(.ref a1)])) rfl (by rw [hml]; rfl) (argsL := []) (rest := []) rfl (lenOf pd_12 rfl) rfl (by show 2 * 0 + _ ≤ _; exact Nat.le_of_eq rfl) (hb hby d_prog_12_method_6_code_1) (by decide) (by decide)
  obtain ⟨rfl, Nq_62, e_62⟩ := hQ_62
  have N_62 := Fr.app N0 Nq_62
  refine Go.step st_62 ?_
  show Go p e below _ (T_62.setTop (mkF m 4 #[.val (.ref a1)] [(.long se)]))
  refine Go.step (fun _ k => X_62.ldc2Long hx hown (mvT hZ (wd_121 hw)) (g := (mkF m 4 #[.val (.ref a1)] [(.long se)])) rfl (hb hby d_prog_12_method_6_code_4) _ k) ?_
  show Go p e below _ (T_62.setTop (mkF m 7 #[.val (.ref a1)] [(.long (1000000 : Int64)), (.long se)]))
  refine Go.step (fun _ k => XS.lmul X_62.here hx rfl (hb hby d_prog_12_method_6_code_7) rfl k) ?_
  show Go p e below _ (T_62.setTop (mkF m 8 #[.val (.ref a1)] [(.long (se * (1000000 : Int64)))]))
  refine Go.step (fun _ k => XS.aloadN X_62.here hx rfl (hb hby d_prog_12_method_6_code_8) rfl rfl k) ?_
  show Go p e below _ (T_62.setTop (mkF m 9 #[.val (.ref a1)] [(.ref a1), (.long (se * (1000000 : Int64)))]))
  obtain ⟨v_63, T_63, L_63, X_63, hQ_63, st_63⟩ := goV X_62 hx hZ (y := ({ cls := "java/time/Instant", name := "getNano", desc := "()I" } : Jvm.MethodName)) (z := ({ cls := "java/time/Instant", name := "getNano", desc := "()I" } : Jvm.MethodName)) hown (wd_122 hw) (wd_123 hw) (notFace_of_selects (args := #[]) (mvT hZ (wd_125 hw))) (wd_125 hw) (wd_124 hw) (by decide) (backOf (W := 2) (rm_getNano l Z a0 hw ep mc sm ea be cz zc (a1) (na) h0 n0 (Nat.le_trans Z0 KP0.1) Fn_a1 hSt hO) hZ (wd_126 hw) (wd_34 hw) (by decide) (by decide)) e_62 E_a1 (g := (mkF m 9 #[.val (.ref a1)] [(.ref a1), (.long (se * (1000000 : Int64)))])) rfl (by rw [hml]; rfl) (argsL := []) (rest := [(.long (se * (1000000 : Int64)))]) rfl (lenOf pd_7 rfl) rfl (by show 2 * 0 + _ ≤ _; exact Nat.le_of_eq rfl) (hb hby d_prog_12_method_6_code_9) (by decide) (by decide)
  obtain ⟨rfl, Nq_63, e_63⟩ := hQ_63
  have N_63 := Fr.app N_62 Nq_63
  refine Go.step st_63 ?_
  show Go p e below _ (T_63.setTop (mkF m 12 #[.val (.ref a1)] [(.int na), (.long (se * (1000000 : Int64)))]))
  refine Go.step (fun _ k => XS.sipush X_63.here hx rfl (hb hby d_prog_12_method_6_code_12) k) ?_
  show Go p e below _ (T_63.setTop (mkF m 15 #[.val (.ref a1)] [(.int (1000 : Int32)), (.int na), (.long (se * (1000000 : Int64)))]))
  refine Go.step (fun _ k => XS.idiv X_63.here hx rfl (hb hby d_prog_12_method_6_code_15) rfl (by decide) k) ?_
  show Go p e below _ (T_63.setTop (mkF m 16 #[.val (.ref a1)] [(.int (na / (1000 : Int32))), (.long (se * (1000000 : Int64)))]))
  refine Go.step (fun _ k => XS.i2l X_63.here hx rfl (hb hby d_prog_12_method_6_code_16) rfl k) ?_
  show Go p e below _ (T_63.setTop (mkF m 17 #[.val (.ref a1)] [(.long (na / (1000 : Int32)).toInt64), (.long (se * (1000000 : Int64)))]))
  refine Go.step (fun _ k => XS.ladd X_63.here hx rfl (hb hby d_prog_12_method_6_code_17) rfl k) ?_
  show Go p e below _ (T_63.setTop (mkF m 18 #[.val (.ref a1)] [(.long ((se * (1000000 : Int64)) + (na / (1000 : Int32)).toInt64))]))
  exact Go.retV X_63 hx hlk hret rfl (Or.inr (Or.inl ⟨rfl, rfl, _, rfl⟩)) (hb hby d_prog_12_method_6_code_18) (by decide) (by decide) (by rw [e_63]; exact ⟨(by rw [mi_eq hm1 hres]), N_63, rfl⟩)
def Q_law (Z : State) (ep : Addr) (mc : Addr) (sm : Addr) (ea : Addr) (be : Addr) (cz : Cell) (zc : Int32) (x1 : Int64) (p1 : Int32) (p2 : Int32) (h0 : Heap) (n0 : Nat) (v : Option Value) (h : Heap) (L : List Loc) : Prop := v = some (.int (1 : Int32)) ∧ Fr n0 L
set_option maxRecDepth 65536 in
set_option maxHeartbeats 40000000 in
theorem rm_law (l : Launch) (Z : State) (a0 : Array Value) (hw : ∀ d ∈ tables_1, d.before a0 Z = true) (ep : Addr) (mc : Addr) (sm : Addr) (ea : Addr) (be : Addr) (cz : Cell) (zc : Int32) (x1 : Int64) (p1 : Int32) (p2 : Int32) (h0 : Heap) (n0 : Nat) (Z0 : n0 ≤ h0.size) (hSt : St Z ep mc sm ea be cz zc) (hO : Old Z n0 h0) :
    CN l Z x (Jvm.Cond.code x code maxLocals ret :: tables_1) room_1 #[(.long x1), (.int p1), (.int p2)] h0 (Q_law Z ep mc sm ea be cz zc x1 p1 p2 h0 n0) := by
  refine CN.of (L0 := #[.val (.long x1), .second, .val (.int p1), .val (.int p2), .unset, .unset, .unset, .unset, .unset, .unset, .unset, .unset, .unset, .unset, .unset, .unset]) (plainFor_of_name pn_6) (fun m => by first | rfl | (simp [entryFrame, mkF, argsToLocals, Value.category]; done)) ?_
  intro p e s m below meth c s₁ hx hby hml hret hlk hZ hown hnm X0 e0
  have N0 := Fr.nil n0
  have KP0 := Keep.refl h0 []
  have hSt_ := hSt
  obtain ⟨S_cs, n_cs, S_ep, E_ep, Fs_ep, Fn_ep, S_mc, E_mc, F_mc, S_sm, A_sm, n_sm, v_sm, S_ea, E_ea, Fs_ea, Fn_ea, S_be, E_be, Fs_be⟩ := hSt_
  show Go p e below _ (s₁.setTop (mkF m 0 #[.val (.long x1), .second, .val (.int p1), .val (.int p2), .unset, .unset, .unset, .unset, .unset, .unset, .unset, .unset, .unset, .unset, .unset, .unset] []))
  refine Go.step (fun _ k => X0.ldc2Long hx hown (mvT hZ (wd_0 hw)) (g := (mkF m 0 #[.val (.long x1), .second, .val (.int p1), .val (.int p2), .unset, .unset, .unset, .unset, .unset, .unset, .unset, .unset, .unset, .unset, .unset, .unset] [])) rfl (hb hby at_0) _ k) ?_
  show Go p e below _ (s₁.setTop (mkF m 3 #[.val (.long x1), .second, .val (.int p1), .val (.int p2), .unset, .unset, .unset, .unset, .unset, .unset, .unset, .unset, .unset, .unset, .unset, .unset] [(.long (-62167219200000000 : Int64))]))
  refine Go.step (fun _ k => XS.lstore X0.here hx rfl (hb hby at_3) rfl (l' := #[.val (.long x1), .second, .val (.int p1), .val (.int p2), .val (.long (-62167219200000000 : Int64)), .second, .unset, .unset, .unset, .unset, .unset, .unset, .unset, .unset, .unset, .unset]) rfl k) ?_
  show Go p e below _ (s₁.setTop (mkF m 5 #[.val (.long x1), .second, .val (.int p1), .val (.int p2), .val (.long (-62167219200000000 : Int64)), .second, .unset, .unset, .unset, .unset, .unset, .unset, .unset, .unset, .unset, .unset] []))
  refine Go.step (fun _ k => X0.ldc2Long hx hown (mvT hZ (wd_1 hw)) (g := (mkF m 5 #[.val (.long x1), .second, .val (.int p1), .val (.int p2), .val (.long (-62167219200000000 : Int64)), .second, .unset, .unset, .unset, .unset, .unset, .unset, .unset, .unset, .unset, .unset] [])) rfl (hb hby at_5) _ k) ?_
  show Go p e below _ (s₁.setTop (mkF m 8 #[.val (.long x1), .second, .val (.int p1), .val (.int p2), .val (.long (-62167219200000000 : Int64)), .second, .unset, .unset, .unset, .unset, .unset, .unset, .unset, .unset, .unset, .unset] [(.long (253402300800000000 : Int64))]))
  refine Go.step (fun _ k => XS.lstore X0.here hx rfl (hb hby at_8) rfl (l' := #[.val (.long x1), .second, .val (.int p1), .val (.int p2), .val (.long (-62167219200000000 : Int64)), .second, .val (.long (253402300800000000 : Int64)), .second, .unset, .unset, .unset, .unset, .unset, .unset, .unset, .unset]) rfl k) ?_
  show Go p e below _ (s₁.setTop (mkF m 10 #[.val (.long x1), .second, .val (.int p1), .val (.int p2), .val (.long (-62167219200000000 : Int64)), .second, .val (.long (253402300800000000 : Int64)), .second, .unset, .unset, .unset, .unset, .unset, .unset, .unset, .unset] []))
  refine Go.step (fun _ k => XS.lload X0.here hx rfl (hb hby at_10) rfl  k) ?_
  show Go p e below _ (s₁.setTop (mkF m 12 #[.val (.long x1), .second, .val (.int p1), .val (.int p2), .val (.long (-62167219200000000 : Int64)), .second, .val (.long (253402300800000000 : Int64)), .second, .unset, .unset, .unset, .unset, .unset, .unset, .unset, .unset] [(.long (253402300800000000 : Int64))]))
  refine Go.step (fun _ k => XS.lload X0.here hx rfl (hb hby at_12) rfl  k) ?_
  show Go p e below _ (s₁.setTop (mkF m 14 #[.val (.long x1), .second, .val (.int p1), .val (.int p2), .val (.long (-62167219200000000 : Int64)), .second, .val (.long (253402300800000000 : Int64)), .second, .unset, .unset, .unset, .unset, .unset, .unset, .unset, .unset] [(.long (-62167219200000000 : Int64)), (.long (253402300800000000 : Int64))]))
  refine Go.step (fun _ k => XS.lsub X0.here hx rfl (hb hby at_14) rfl k) ?_
  show Go p e below _ (s₁.setTop (mkF m 15 #[.val (.long x1), .second, .val (.int p1), .val (.int p2), .val (.long (-62167219200000000 : Int64)), .second, .val (.long (253402300800000000 : Int64)), .second, .unset, .unset, .unset, .unset, .unset, .unset, .unset, .unset] [(.long ((253402300800000000 : Int64) - (-62167219200000000 : Int64)))]))
  rw [show ((253402300800000000 : Int64) - (-62167219200000000 : Int64)) = (315569520000000000 : Int64) from by decide]
  show Go p e below _ (s₁.setTop (mkF m 15 #[.val (.long x1), .second, .val (.int p1), .val (.int p2), .val (.long (-62167219200000000 : Int64)), .second, .val (.long (253402300800000000 : Int64)), .second, .unset, .unset, .unset, .unset, .unset, .unset, .unset, .unset] [(.long (315569520000000000 : Int64))]))
  refine Go.step (fun _ k => XS.lstore X0.here hx rfl (hb hby at_15) rfl (l' := #[.val (.long x1), .second, .val (.int p1), .val (.int p2), .val (.long (-62167219200000000 : Int64)), .second, .val (.long (253402300800000000 : Int64)), .second, .val (.long (315569520000000000 : Int64)), .second, .unset, .unset, .unset, .unset, .unset, .unset]) rfl k) ?_
  show Go p e below _ (s₁.setTop (mkF m 17 #[.val (.long x1), .second, .val (.int p1), .val (.int p2), .val (.long (-62167219200000000 : Int64)), .second, .val (.long (253402300800000000 : Int64)), .second, .val (.long (315569520000000000 : Int64)), .second, .unset, .unset, .unset, .unset, .unset, .unset] []))
  refine Go.step (fun _ k => XS.iloadN X0.here hx rfl (hb hby at_17) rfl  k) ?_
  show Go p e below _ (s₁.setTop (mkF m 18 #[.val (.long x1), .second, .val (.int p1), .val (.int p2), .val (.long (-62167219200000000 : Int64)), .second, .val (.long (253402300800000000 : Int64)), .second, .val (.long (315569520000000000 : Int64)), .second, .unset, .unset, .unset, .unset, .unset, .unset] [(.int p1)]))
  refine Go.step (fun _ k => XS.iconst X0.here hx rfl (hb hby at_18) k) ?_
  show Go p e below _ (s₁.setTop (mkF m 19 #[.val (.long x1), .second, .val (.int p1), .val (.int p2), .val (.long (-62167219200000000 : Int64)), .second, .val (.long (253402300800000000 : Int64)), .second, .val (.long (315569520000000000 : Int64)), .second, .unset, .unset, .unset, .unset, .unset, .unset] [(.int (3 : Int32)), (.int p1)]))
  refine Go.step (fun _ k => XS.iand X0.here hx rfl (hb hby at_19) rfl k) ?_
  show Go p e below _ (s₁.setTop (mkF m 20 #[.val (.long x1), .second, .val (.int p1), .val (.int p2), .val (.long (-62167219200000000 : Int64)), .second, .val (.long (253402300800000000 : Int64)), .second, .val (.long (315569520000000000 : Int64)), .second, .unset, .unset, .unset, .unset, .unset, .unset] [(.int (p1 &&& (3 : Int32)))]))
  refine Go.step (fun _ k => XS.istore X0.here hx rfl (hb hby at_20) rfl (l' := #[.val (.long x1), .second, .val (.int p1), .val (.int p2), .val (.long (-62167219200000000 : Int64)), .second, .val (.long (253402300800000000 : Int64)), .second, .val (.long (315569520000000000 : Int64)), .second, .val (.int (p1 &&& (3 : Int32))), .unset, .unset, .unset, .unset, .unset]) rfl k) ?_
  show Go p e below _ (s₁.setTop (mkF m 22 #[.val (.long x1), .second, .val (.int p1), .val (.int p2), .val (.long (-62167219200000000 : Int64)), .second, .val (.long (253402300800000000 : Int64)), .second, .val (.long (315569520000000000 : Int64)), .second, .val (.int (p1 &&& (3 : Int32))), .unset, .unset, .unset, .unset, .unset] []))
  refine Go.step (fun _ k => XS.iload X0.here hx rfl (hb hby at_22) rfl  k) ?_
  show Go p e below _ (s₁.setTop (mkF m 24 #[.val (.long x1), .second, .val (.int p1), .val (.int p2), .val (.long (-62167219200000000 : Int64)), .second, .val (.long (253402300800000000 : Int64)), .second, .val (.long (315569520000000000 : Int64)), .second, .val (.int (p1 &&& (3 : Int32))), .unset, .unset, .unset, .unset, .unset] [(.int (p1 &&& (3 : Int32)))]))
  by_cases k0 : (p1 &&& (3 : Int32)) = (0 : Int32)
  · skip
    refine Go.step (fun _ k => XS.ifNo X0.here hx rfl (hb hby at_24) rfl ((if0 _ _).trans (teq k0).2) k) ?_
    show Go p e below _ (s₁.setTop (mkF m 27 #[.val (.long x1), .second, .val (.int p1), .val (.int p2), .val (.long (-62167219200000000 : Int64)), .second, .val (.long (253402300800000000 : Int64)), .second, .val (.long (315569520000000000 : Int64)), .second, .val (.int (p1 &&& (3 : Int32))), .unset, .unset, .unset, .unset, .unset] []))
    refine Go.step (fun _ k => XS.lload X0.here hx rfl (hb hby at_27) rfl  k) ?_
    show Go p e below _ (s₁.setTop (mkF m 29 #[.val (.long x1), .second, .val (.int p1), .val (.int p2), .val (.long (-62167219200000000 : Int64)), .second, .val (.long (253402300800000000 : Int64)), .second, .val (.long (315569520000000000 : Int64)), .second, .val (.int (p1 &&& (3 : Int32))), .unset, .unset, .unset, .unset, .unset] [(.long (-62167219200000000 : Int64))]))
    refine Go.step (fun _ k => XS.lloadN X0.here hx rfl (hb hby at_29) rfl  k) ?_
    show Go p e below _ (s₁.setTop (mkF m 30 #[.val (.long x1), .second, .val (.int p1), .val (.int p2), .val (.long (-62167219200000000 : Int64)), .second, .val (.long (253402300800000000 : Int64)), .second, .val (.long (315569520000000000 : Int64)), .second, .val (.int (p1 &&& (3 : Int32))), .unset, .unset, .unset, .unset, .unset] [(.long x1), (.long (-62167219200000000 : Int64))]))
    refine Go.step (fun _ k => X0.ldc2Long hx hown (mvT hZ (wd_127 hw)) (g := (mkF m 30 #[.val (.long x1), .second, .val (.int p1), .val (.int p2), .val (.long (-62167219200000000 : Int64)), .second, .val (.long (253402300800000000 : Int64)), .second, .val (.long (315569520000000000 : Int64)), .second, .val (.int (p1 &&& (3 : Int32))), .unset, .unset, .unset, .unset, .unset] [(.long x1), (.long (-62167219200000000 : Int64))])) rfl (hb hby at_30) _ k) ?_
    show Go p e below _ (s₁.setTop (mkF m 33 #[.val (.long x1), .second, .val (.int p1), .val (.int p2), .val (.long (-62167219200000000 : Int64)), .second, .val (.long (253402300800000000 : Int64)), .second, .val (.long (315569520000000000 : Int64)), .second, .val (.int (p1 &&& (3 : Int32))), .unset, .unset, .unset, .unset, .unset] [(.long (9223372036854775807 : Int64)), (.long x1), (.long (-62167219200000000 : Int64))]))
    refine Go.step (fun _ k => XS.land X0.here hx rfl (hb hby at_33) rfl k) ?_
    show Go p e below _ (s₁.setTop (mkF m 34 #[.val (.long x1), .second, .val (.int p1), .val (.int p2), .val (.long (-62167219200000000 : Int64)), .second, .val (.long (253402300800000000 : Int64)), .second, .val (.long (315569520000000000 : Int64)), .second, .val (.int (p1 &&& (3 : Int32))), .unset, .unset, .unset, .unset, .unset] [(.long (x1 &&& (9223372036854775807 : Int64))), (.long (-62167219200000000 : Int64))]))
    refine Go.step (fun _ k => XS.lload X0.here hx rfl (hb hby at_34) rfl  k) ?_
    show Go p e below _ (s₁.setTop (mkF m 36 #[.val (.long x1), .second, .val (.int p1), .val (.int p2), .val (.long (-62167219200000000 : Int64)), .second, .val (.long (253402300800000000 : Int64)), .second, .val (.long (315569520000000000 : Int64)), .second, .val (.int (p1 &&& (3 : Int32))), .unset, .unset, .unset, .unset, .unset] [(.long (315569520000000000 : Int64)), (.long (x1 &&& (9223372036854775807 : Int64))), (.long (-62167219200000000 : Int64))]))
    refine Go.step (fun _ k => lremM X0 hx rfl (hb hby at_36) rfl (by decide) k) ?_
    show Go p e below _ (s₁.setTop (mkF m 37 #[.val (.long x1), .second, .val (.int p1), .val (.int p2), .val (.long (-62167219200000000 : Int64)), .second, .val (.long (253402300800000000 : Int64)), .second, .val (.long (315569520000000000 : Int64)), .second, .val (.int (p1 &&& (3 : Int32))), .unset, .unset, .unset, .unset, .unset] [(.long ((x1 &&& (9223372036854775807 : Int64)) % (315569520000000000 : Int64))), (.long (-62167219200000000 : Int64))]))
    refine Go.step (fun _ k => XS.ladd X0.here hx rfl (hb hby at_37) rfl k) ?_
    show Go p e below _ (s₁.setTop (mkF m 38 #[.val (.long x1), .second, .val (.int p1), .val (.int p2), .val (.long (-62167219200000000 : Int64)), .second, .val (.long (253402300800000000 : Int64)), .second, .val (.long (315569520000000000 : Int64)), .second, .val (.int (p1 &&& (3 : Int32))), .unset, .unset, .unset, .unset, .unset] [(.long ((-62167219200000000 : Int64) + ((x1 &&& (9223372036854775807 : Int64)) % (315569520000000000 : Int64))))]))
    refine Go.step (fun _ k => XS.lstore X0.here hx rfl (hb hby at_38) rfl (l' := #[.val (.long x1), .second, .val (.int p1), .val (.int p2), .val (.long (-62167219200000000 : Int64)), .second, .val (.long (253402300800000000 : Int64)), .second, .val (.long (315569520000000000 : Int64)), .second, .val (.int (p1 &&& (3 : Int32))), .val (.long ((-62167219200000000 : Int64) + ((x1 &&& (9223372036854775807 : Int64)) % (315569520000000000 : Int64)))), .second, .unset, .unset, .unset]) rfl k) ?_
    show Go p e below _ (s₁.setTop (mkF m 40 #[.val (.long x1), .second, .val (.int p1), .val (.int p2), .val (.long (-62167219200000000 : Int64)), .second, .val (.long (253402300800000000 : Int64)), .second, .val (.long (315569520000000000 : Int64)), .second, .val (.int (p1 &&& (3 : Int32))), .val (.long ((-62167219200000000 : Int64) + ((x1 &&& (9223372036854775807 : Int64)) % (315569520000000000 : Int64)))), .second, .unset, .unset, .unset] []))
    obtain ⟨m1, h_m1⟩ : ∃ z, z = ((-62167219200000000 : Int64) + ((x1 &&& (9223372036854775807 : Int64)) % (315569520000000000 : Int64))) := ⟨_, rfl⟩
    rw [← h_m1]
    show Go p e below _ (s₁.setTop (mkF m 40 #[.val (.long x1), .second, .val (.int p1), .val (.int p2), .val (.long (-62167219200000000 : Int64)), .second, .val (.long (253402300800000000 : Int64)), .second, .val (.long (315569520000000000 : Int64)), .second, .val (.int (p1 &&& (3 : Int32))), .val (.long m1), .second, .unset, .unset, .unset] []))
    have hm1 : -62167219200000000 ≤ m1.toInt ∧ m1.toInt < 253402300800000000 := by rw [h_m1]; exact lw0 x1
    show Go p e below _ (s₁.setTop (mkF m 40 #[.val (.long x1), .second, .val (.int p1), .val (.int p2), .val (.long (-62167219200000000 : Int64)), .second, .val (.long (253402300800000000 : Int64)), .second, .val (.long (315569520000000000 : Int64)), .second, .val (.int (p1 &&& (3 : Int32))), .val (.long m1), .second, .unset, .unset, .unset] []))
    refine Go.step (fun _ k => XS.goto X0.here hx rfl (pc0 := 40) (pc' := 90) rfl (hb hby at_40) (by decide) (by decide) k) ?_
    show Go p e below _ (s₁.setTop (mkF m 90 #[.val (.long x1), .second, .val (.int p1), .val (.int p2), .val (.long (-62167219200000000 : Int64)), .second, .val (.long (253402300800000000 : Int64)), .second, .val (.long (315569520000000000 : Int64)), .second, .val (.int (p1 &&& (3 : Int32))), .val (.long m1), .second, .unset, .unset, .unset] []))
    refine Go.step (fun _ k => XS.iloadN X0.here hx rfl (hb hby at_90) rfl  k) ?_
    show Go p e below _ (s₁.setTop (mkF m 91 #[.val (.long x1), .second, .val (.int p1), .val (.int p2), .val (.long (-62167219200000000 : Int64)), .second, .val (.long (253402300800000000 : Int64)), .second, .val (.long (315569520000000000 : Int64)), .second, .val (.int (p1 &&& (3 : Int32))), .val (.long m1), .second, .unset, .unset, .unset] [(.int p2)]))
    refine Go.step (fun _ k => XS.sipush X0.here hx rfl (hb hby at_91) k) ?_
    show Go p e below _ (s₁.setTop (mkF m 94 #[.val (.long x1), .second, .val (.int p1), .val (.int p2), .val (.long (-62167219200000000 : Int64)), .second, .val (.long (253402300800000000 : Int64)), .second, .val (.long (315569520000000000 : Int64)), .second, .val (.int (p1 &&& (3 : Int32))), .val (.long m1), .second, .unset, .unset, .unset] [(.int (255 : Int32)), (.int p2)]))
    refine Go.step (fun _ k => XS.iand X0.here hx rfl (hb hby at_94) rfl k) ?_
    show Go p e below _ (s₁.setTop (mkF m 95 #[.val (.long x1), .second, .val (.int p1), .val (.int p2), .val (.long (-62167219200000000 : Int64)), .second, .val (.long (253402300800000000 : Int64)), .second, .val (.long (315569520000000000 : Int64)), .second, .val (.int (p1 &&& (3 : Int32))), .val (.long m1), .second, .unset, .unset, .unset] [(.int (p2 &&& (255 : Int32)))]))
    refine Go.step (fun _ k => XS.i2c X0.here hx rfl (hb hby at_95) rfl k) ?_
    show Go p e below _ (s₁.setTop (mkF m 96 #[.val (.long x1), .second, .val (.int p1), .val (.int p2), .val (.long (-62167219200000000 : Int64)), .second, .val (.long (253402300800000000 : Int64)), .second, .val (.long (315569520000000000 : Int64)), .second, .val (.int (p1 &&& (3 : Int32))), .val (.long m1), .second, .unset, .unset, .unset] [(.int (nar .char (p2 &&& (255 : Int32))))]))
    rw [show (nar .char (p2 &&& (255 : Int32))) = (p2 &&& (255 : Int32)) from i2c_mask p2]
    show Go p e below _ (s₁.setTop (mkF m 96 #[.val (.long x1), .second, .val (.int p1), .val (.int p2), .val (.long (-62167219200000000 : Int64)), .second, .val (.long (253402300800000000 : Int64)), .second, .val (.long (315569520000000000 : Int64)), .second, .val (.int (p1 &&& (3 : Int32))), .val (.long m1), .second, .unset, .unset, .unset] [(.int (p2 &&& (255 : Int32)))]))
    obtain ⟨v_64, T_64, L_64, X_64, hQ_64, st_64⟩ := goS X0 hx hZ (y := ({ cls := "java/lang/String", name := "valueOf", desc := "(C)Ljava/lang/String;" } : Jvm.MethodName)) hown (wd_3 hw) (wd_4 hw) (wd_5 hw) (wd_6 hw) (by decide) (backOf (W := 0) (rm_valueOf l Z a0 hw ep mc sm ea be cz zc ((p2 &&& (255 : Int32))) h0 n0 (Nat.le_trans Z0 KP0.1) (m255 p2) hSt hO) hZ (wd_6 hw) (wd_5 hw) (by decide) (by decide)) e0 (g := (mkF m 96 #[.val (.long x1), .second, .val (.int p1), .val (.int p2), .val (.long (-62167219200000000 : Int64)), .second, .val (.long (253402300800000000 : Int64)), .second, .val (.long (315569520000000000 : Int64)), .second, .val (.int (p1 &&& (3 : Int32))), .val (.long m1), .second, .unset, .unset, .unset] [(.int (p2 &&& (255 : Int32)))])) rfl (by rw [hml]; rfl) (argsL := [(.int (p2 &&& (255 : Int32)))]) (rest := []) rfl (lenOf pd_13 rfl) rfl (by show 2 * 0 + _ ≤ _; exact Nat.le_of_eq rfl) (hb hby at_96) (by decide) (by decide)
    obtain ⟨r_64, rfl, Nq_64, K_64, u0_64⟩ := hQ_64
    have N_64 := Fr.app N0 Nq_64
    have le_64 : h0.size ≤ T_64.heap.size := K_64.1
    have KP_64 := KP0.trans K_64 all0
    have O_64 := hO.keep K_64 all0
    have sz_r_64 : h0.size ≤ r_64 := Nat.le_trans (Nat.le_refl _) u0_64
    have g_r_64 : n0 ≤ r_64 := Nat.le_trans Z0 sz_r_64
    refine Go.step st_64 ?_
    show Go p e below _ (T_64.setTop (mkF m 99 #[.val (.long x1), .second, .val (.int p1), .val (.int p2), .val (.long (-62167219200000000 : Int64)), .second, .val (.long (253402300800000000 : Int64)), .second, .val (.long (315569520000000000 : Int64)), .second, .val (.int (p1 &&& (3 : Int32))), .val (.long m1), .second, .unset, .unset, .unset] [(.ref r_64)]))
    refine Go.step (fun _ k => XS.astore X_64.here hx rfl (hb hby at_99) rfl rfl (l' := #[.val (.long x1), .second, .val (.int p1), .val (.int p2), .val (.long (-62167219200000000 : Int64)), .second, .val (.long (253402300800000000 : Int64)), .second, .val (.long (315569520000000000 : Int64)), .second, .val (.int (p1 &&& (3 : Int32))), .val (.long m1), .second, .val (.ref r_64), .unset, .unset]) rfl k) ?_
    show Go p e below _ (T_64.setTop (mkF m 101 #[.val (.long x1), .second, .val (.int p1), .val (.int p2), .val (.long (-62167219200000000 : Int64)), .second, .val (.long (253402300800000000 : Int64)), .second, .val (.long (315569520000000000 : Int64)), .second, .val (.int (p1 &&& (3 : Int32))), .val (.long m1), .second, .val (.ref r_64), .unset, .unset] []))
    refine Go.step (fun _ k => XS.aload X_64.here hx rfl (hb hby at_101) rfl rfl k) ?_
    show Go p e below _ (T_64.setTop (mkF m 103 #[.val (.long x1), .second, .val (.int p1), .val (.int p2), .val (.long (-62167219200000000 : Int64)), .second, .val (.long (253402300800000000 : Int64)), .second, .val (.long (315569520000000000 : Int64)), .second, .val (.int (p1 &&& (3 : Int32))), .val (.long m1), .second, .val (.ref r_64), .unset, .unset] [(.ref r_64)]))
    refine Go.step (fun _ k => XS.lload X_64.here hx rfl (hb hby at_103) rfl  k) ?_
    show Go p e below _ (T_64.setTop (mkF m 105 #[.val (.long x1), .second, .val (.int p1), .val (.int p2), .val (.long (-62167219200000000 : Int64)), .second, .val (.long (253402300800000000 : Int64)), .second, .val (.long (315569520000000000 : Int64)), .second, .val (.int (p1 &&& (3 : Int32))), .val (.long m1), .second, .val (.ref r_64), .unset, .unset] [(.long m1), (.ref r_64)]))
    obtain ⟨v_65, T_65, L_65, X_65, hQ_65, st_65⟩ := goS X_64 hx hZ (y := ({ cls := "com/example/hallstatt/hallstatt/api/ListingParameters", name := "positionTime", desc := "(Ljava/lang/String;J)Ljava/time/Instant;" } : Jvm.MethodName)) hown (wd_29 hw) (wd_30 hw) (wd_31 hw) (wd_32 hw) (by decide) (backOf (W := 0) (rm_posTime l Z a0 hw ep mc sm ea be cz zc (r_64) (m1) T_64.heap n0 (Nat.le_trans Z0 KP_64.1) hm1 hSt O_64) hZ (wd_32 hw) (wd_31 hw) (by decide) (by decide)) rfl (g := (mkF m 105 #[.val (.long x1), .second, .val (.int p1), .val (.int p2), .val (.long (-62167219200000000 : Int64)), .second, .val (.long (253402300800000000 : Int64)), .second, .val (.long (315569520000000000 : Int64)), .second, .val (.int (p1 &&& (3 : Int32))), .val (.long m1), .second, .val (.ref r_64), .unset, .unset] [(.long m1), (.ref r_64)])) rfl (by rw [hml]; rfl) (argsL := [(.ref r_64), (.long m1)]) (rest := []) rfl (lenOf pd_14 rfl) rfl (by show 2 * 0 + _ ≤ _; exact Nat.le_of_eq rfl) (hb hby at_105) (by decide) (by decide)
    obtain ⟨r_65, se_65, na_65, rfl, Nq_65, K_65, u0_65, u1_65, u2_65, u3_65⟩ := hQ_65
    have N_65 := Fr.app N_64 Nq_65
    have le_65 : T_64.heap.size ≤ T_65.heap.size := K_65.1
    have KP_65 := KP_64.trans K_65 all0
    have O_65 := O_64.keep K_65 all0
    have hres_65 := u3_65
    refine Go.step st_65 ?_
    show Go p e below _ (T_65.setTop (mkF m 108 #[.val (.long x1), .second, .val (.int p1), .val (.int p2), .val (.long (-62167219200000000 : Int64)), .second, .val (.long (253402300800000000 : Int64)), .second, .val (.long (315569520000000000 : Int64)), .second, .val (.int (p1 &&& (3 : Int32))), .val (.long m1), .second, .val (.ref r_64), .unset, .unset] [(.ref r_65)]))
    obtain ⟨v_66, T_66, L_66, X_66, hQ_66, st_66⟩ := goS X_65 hx hZ (y := ({ cls := "com/example/hallstatt/hallstatt/api/ListingParameters", name := "micros", desc := "(Ljava/time/Instant;)J" } : Jvm.MethodName)) hown (wd_113 hw) (wd_114 hw) (wd_31 hw) (wd_115 hw) (by decide) (backOf (W := 0) (rm_micros l Z a0 hw ep mc sm ea be cz zc (r_65) (se_65) (na_65) (m1) T_65.heap n0 (Nat.le_trans Z0 KP_65.1) u0_65 u1_65 u2_65 hm1 hres_65 hSt O_65) hZ (wd_115 hw) (wd_31 hw) (by decide) (by decide)) rfl (g := (mkF m 108 #[.val (.long x1), .second, .val (.int p1), .val (.int p2), .val (.long (-62167219200000000 : Int64)), .second, .val (.long (253402300800000000 : Int64)), .second, .val (.long (315569520000000000 : Int64)), .second, .val (.int (p1 &&& (3 : Int32))), .val (.long m1), .second, .val (.ref r_64), .unset, .unset] [(.ref r_65)])) rfl (by rw [hml]; rfl) (argsL := [(.ref r_65)]) (rest := []) rfl (lenOf pd_15 rfl) rfl (by show 2 * 0 + _ ≤ _; exact Nat.le_of_eq rfl) (hb hby at_108) (by decide) (by decide)
    obtain ⟨rfl, Nq_66, e_66⟩ := hQ_66
    have N_66 := Fr.app N_65 Nq_66
    refine Go.step st_66 ?_
    show Go p e below _ (T_66.setTop (mkF m 111 #[.val (.long x1), .second, .val (.int p1), .val (.int p2), .val (.long (-62167219200000000 : Int64)), .second, .val (.long (253402300800000000 : Int64)), .second, .val (.long (315569520000000000 : Int64)), .second, .val (.int (p1 &&& (3 : Int32))), .val (.long m1), .second, .val (.ref r_64), .unset, .unset] [(.long m1)]))
    refine Go.step (fun _ k => XS.lstore X_66.here hx rfl (hb hby at_111) rfl (l' := #[.val (.long x1), .second, .val (.int p1), .val (.int p2), .val (.long (-62167219200000000 : Int64)), .second, .val (.long (253402300800000000 : Int64)), .second, .val (.long (315569520000000000 : Int64)), .second, .val (.int (p1 &&& (3 : Int32))), .val (.long m1), .second, .val (.ref r_64), .val (.long m1), .second]) rfl k) ?_
    show Go p e below _ (T_66.setTop (mkF m 113 #[.val (.long x1), .second, .val (.int p1), .val (.int p2), .val (.long (-62167219200000000 : Int64)), .second, .val (.long (253402300800000000 : Int64)), .second, .val (.long (315569520000000000 : Int64)), .second, .val (.int (p1 &&& (3 : Int32))), .val (.long m1), .second, .val (.ref r_64), .val (.long m1), .second] []))
    refine Go.step (fun _ k => XS.lload X_66.here hx rfl (hb hby at_113) rfl  k) ?_
    show Go p e below _ (T_66.setTop (mkF m 115 #[.val (.long x1), .second, .val (.int p1), .val (.int p2), .val (.long (-62167219200000000 : Int64)), .second, .val (.long (253402300800000000 : Int64)), .second, .val (.long (315569520000000000 : Int64)), .second, .val (.int (p1 &&& (3 : Int32))), .val (.long m1), .second, .val (.ref r_64), .val (.long m1), .second] [(.long m1)]))
    refine Go.step (fun _ k => XS.lload X_66.here hx rfl (hb hby at_115) rfl  k) ?_
    show Go p e below _ (T_66.setTop (mkF m 117 #[.val (.long x1), .second, .val (.int p1), .val (.int p2), .val (.long (-62167219200000000 : Int64)), .second, .val (.long (253402300800000000 : Int64)), .second, .val (.long (315569520000000000 : Int64)), .second, .val (.int (p1 &&& (3 : Int32))), .val (.long m1), .second, .val (.ref r_64), .val (.long m1), .second] [(.long m1), (.long m1)]))
    refine Go.step (fun _ k => XS.lcmp X_66.here hx rfl (hb hby at_117) rfl k) ?_
    show Go p e below _ (T_66.setTop (mkF m 118 #[.val (.long x1), .second, .val (.int p1), .val (.int p2), .val (.long (-62167219200000000 : Int64)), .second, .val (.long (253402300800000000 : Int64)), .second, .val (.long (315569520000000000 : Int64)), .second, .val (.int (p1 &&& (3 : Int32))), .val (.long m1), .second, .val (.ref r_64), .val (.long m1), .second] [(.int (lcmpW m1 m1))]))
    refine Go.step (fun _ k => XS.ifNo X_66.here hx rfl (hb hby at_118) rfl ((if0 _ _).trans (teq ((lw_eq _ _).mpr (rfl : m1 = m1))).2) k) ?_
    show Go p e below _ (T_66.setTop (mkF m 121 #[.val (.long x1), .second, .val (.int p1), .val (.int p2), .val (.long (-62167219200000000 : Int64)), .second, .val (.long (253402300800000000 : Int64)), .second, .val (.long (315569520000000000 : Int64)), .second, .val (.int (p1 &&& (3 : Int32))), .val (.long m1), .second, .val (.ref r_64), .val (.long m1), .second] []))
    refine Go.step (fun _ k => XS.iconst X_66.here hx rfl (hb hby at_121) k) ?_
    show Go p e below _ (T_66.setTop (mkF m 122 #[.val (.long x1), .second, .val (.int p1), .val (.int p2), .val (.long (-62167219200000000 : Int64)), .second, .val (.long (253402300800000000 : Int64)), .second, .val (.long (315569520000000000 : Int64)), .second, .val (.int (p1 &&& (3 : Int32))), .val (.long m1), .second, .val (.ref r_64), .val (.long m1), .second] [(.int (1 : Int32))]))
    refine Go.step (fun _ k => XS.goto X_66.here hx rfl (pc0 := 122) (pc' := 126) rfl (hb hby at_122) (by decide) (by decide) k) ?_
    show Go p e below _ (T_66.setTop (mkF m 126 #[.val (.long x1), .second, .val (.int p1), .val (.int p2), .val (.long (-62167219200000000 : Int64)), .second, .val (.long (253402300800000000 : Int64)), .second, .val (.long (315569520000000000 : Int64)), .second, .val (.int (p1 &&& (3 : Int32))), .val (.long m1), .second, .val (.ref r_64), .val (.long m1), .second] [(.int (1 : Int32))]))
    exact Go.retV X_66 hx hlk hret rfl (Or.inl ⟨rfl, Or.inr (Or.inl rfl), _, rfl⟩) (hb hby at_126) (by decide) (by decide) (by rw [e_66]; exact ⟨rfl, N_66⟩)
  · skip
    refine Go.step (fun _ k => XS.ifYes X0.here hx rfl (pc0 := 24) (pc' := 43) rfl (hb hby at_24) rfl ((if0 _ _).trans (feq k0).2) (by decide) (by decide) k) ?_
    show Go p e below _ (s₁.setTop (mkF m 43 #[.val (.long x1), .second, .val (.int p1), .val (.int p2), .val (.long (-62167219200000000 : Int64)), .second, .val (.long (253402300800000000 : Int64)), .second, .val (.long (315569520000000000 : Int64)), .second, .val (.int (p1 &&& (3 : Int32))), .unset, .unset, .unset, .unset, .unset] []))
    refine Go.step (fun _ k => XS.iload X0.here hx rfl (hb hby at_43) rfl  k) ?_
    show Go p e below _ (s₁.setTop (mkF m 45 #[.val (.long x1), .second, .val (.int p1), .val (.int p2), .val (.long (-62167219200000000 : Int64)), .second, .val (.long (253402300800000000 : Int64)), .second, .val (.long (315569520000000000 : Int64)), .second, .val (.int (p1 &&& (3 : Int32))), .unset, .unset, .unset, .unset, .unset] [(.int (p1 &&& (3 : Int32)))]))
    refine Go.step (fun _ k => XS.iconst X0.here hx rfl (hb hby at_45) k) ?_
    show Go p e below _ (s₁.setTop (mkF m 46 #[.val (.long x1), .second, .val (.int p1), .val (.int p2), .val (.long (-62167219200000000 : Int64)), .second, .val (.long (253402300800000000 : Int64)), .second, .val (.long (315569520000000000 : Int64)), .second, .val (.int (p1 &&& (3 : Int32))), .unset, .unset, .unset, .unset, .unset] [(.int (1 : Int32)), (.int (p1 &&& (3 : Int32)))]))
    by_cases k1 : (p1 &&& (3 : Int32)) = (1 : Int32)
    · skip
      refine Go.step (fun _ k => XS.icmpNo X0.here hx rfl (hb hby at_46) rfl (teq k1).2 k) ?_
      show Go p e below _ (s₁.setTop (mkF m 49 #[.val (.long x1), .second, .val (.int p1), .val (.int p2), .val (.long (-62167219200000000 : Int64)), .second, .val (.long (253402300800000000 : Int64)), .second, .val (.long (315569520000000000 : Int64)), .second, .val (.int (p1 &&& (3 : Int32))), .unset, .unset, .unset, .unset, .unset] []))
      refine Go.step (fun _ k => XS.lload X0.here hx rfl (hb hby at_49) rfl  k) ?_
      show Go p e below _ (s₁.setTop (mkF m 51 #[.val (.long x1), .second, .val (.int p1), .val (.int p2), .val (.long (-62167219200000000 : Int64)), .second, .val (.long (253402300800000000 : Int64)), .second, .val (.long (315569520000000000 : Int64)), .second, .val (.int (p1 &&& (3 : Int32))), .unset, .unset, .unset, .unset, .unset] [(.long (-62167219200000000 : Int64))]))
      refine Go.step (fun _ k => XS.lloadN X0.here hx rfl (hb hby at_51) rfl  k) ?_
      show Go p e below _ (s₁.setTop (mkF m 52 #[.val (.long x1), .second, .val (.int p1), .val (.int p2), .val (.long (-62167219200000000 : Int64)), .second, .val (.long (253402300800000000 : Int64)), .second, .val (.long (315569520000000000 : Int64)), .second, .val (.int (p1 &&& (3 : Int32))), .unset, .unset, .unset, .unset, .unset] [(.long x1), (.long (-62167219200000000 : Int64))]))
      refine Go.step (fun _ k => X0.ldc2Long hx hown (mvT hZ (wd_2 hw)) (g := (mkF m 52 #[.val (.long x1), .second, .val (.int p1), .val (.int p2), .val (.long (-62167219200000000 : Int64)), .second, .val (.long (253402300800000000 : Int64)), .second, .val (.long (315569520000000000 : Int64)), .second, .val (.int (p1 &&& (3 : Int32))), .unset, .unset, .unset, .unset, .unset] [(.long x1), (.long (-62167219200000000 : Int64))])) rfl (hb hby at_52) _ k) ?_
      show Go p e below _ (s₁.setTop (mkF m 55 #[.val (.long x1), .second, .val (.int p1), .val (.int p2), .val (.long (-62167219200000000 : Int64)), .second, .val (.long (253402300800000000 : Int64)), .second, .val (.long (315569520000000000 : Int64)), .second, .val (.int (p1 &&& (3 : Int32))), .unset, .unset, .unset, .unset, .unset] [(.long (1023 : Int64)), (.long x1), (.long (-62167219200000000 : Int64))]))
      refine Go.step (fun _ k => XS.land X0.here hx rfl (hb hby at_55) rfl k) ?_
      show Go p e below _ (s₁.setTop (mkF m 56 #[.val (.long x1), .second, .val (.int p1), .val (.int p2), .val (.long (-62167219200000000 : Int64)), .second, .val (.long (253402300800000000 : Int64)), .second, .val (.long (315569520000000000 : Int64)), .second, .val (.int (p1 &&& (3 : Int32))), .unset, .unset, .unset, .unset, .unset] [(.long (x1 &&& (1023 : Int64))), (.long (-62167219200000000 : Int64))]))
      refine Go.step (fun _ k => XS.ladd X0.here hx rfl (hb hby at_56) rfl k) ?_
      show Go p e below _ (s₁.setTop (mkF m 57 #[.val (.long x1), .second, .val (.int p1), .val (.int p2), .val (.long (-62167219200000000 : Int64)), .second, .val (.long (253402300800000000 : Int64)), .second, .val (.long (315569520000000000 : Int64)), .second, .val (.int (p1 &&& (3 : Int32))), .unset, .unset, .unset, .unset, .unset] [(.long ((-62167219200000000 : Int64) + (x1 &&& (1023 : Int64))))]))
      refine Go.step (fun _ k => XS.lstore X0.here hx rfl (hb hby at_57) rfl (l' := #[.val (.long x1), .second, .val (.int p1), .val (.int p2), .val (.long (-62167219200000000 : Int64)), .second, .val (.long (253402300800000000 : Int64)), .second, .val (.long (315569520000000000 : Int64)), .second, .val (.int (p1 &&& (3 : Int32))), .val (.long ((-62167219200000000 : Int64) + (x1 &&& (1023 : Int64)))), .second, .unset, .unset, .unset]) rfl k) ?_
      show Go p e below _ (s₁.setTop (mkF m 59 #[.val (.long x1), .second, .val (.int p1), .val (.int p2), .val (.long (-62167219200000000 : Int64)), .second, .val (.long (253402300800000000 : Int64)), .second, .val (.long (315569520000000000 : Int64)), .second, .val (.int (p1 &&& (3 : Int32))), .val (.long ((-62167219200000000 : Int64) + (x1 &&& (1023 : Int64)))), .second, .unset, .unset, .unset] []))
      obtain ⟨m1, h_m1⟩ : ∃ z, z = ((-62167219200000000 : Int64) + (x1 &&& (1023 : Int64))) := ⟨_, rfl⟩
      rw [← h_m1]
      show Go p e below _ (s₁.setTop (mkF m 59 #[.val (.long x1), .second, .val (.int p1), .val (.int p2), .val (.long (-62167219200000000 : Int64)), .second, .val (.long (253402300800000000 : Int64)), .second, .val (.long (315569520000000000 : Int64)), .second, .val (.int (p1 &&& (3 : Int32))), .val (.long m1), .second, .unset, .unset, .unset] []))
      have hm1 : -62167219200000000 ≤ m1.toInt ∧ m1.toInt < 253402300800000000 := by rw [h_m1]; exact lw1 x1
      show Go p e below _ (s₁.setTop (mkF m 59 #[.val (.long x1), .second, .val (.int p1), .val (.int p2), .val (.long (-62167219200000000 : Int64)), .second, .val (.long (253402300800000000 : Int64)), .second, .val (.long (315569520000000000 : Int64)), .second, .val (.int (p1 &&& (3 : Int32))), .val (.long m1), .second, .unset, .unset, .unset] []))
      refine Go.step (fun _ k => XS.goto X0.here hx rfl (pc0 := 59) (pc' := 90) rfl (hb hby at_59) (by decide) (by decide) k) ?_
      show Go p e below _ (s₁.setTop (mkF m 90 #[.val (.long x1), .second, .val (.int p1), .val (.int p2), .val (.long (-62167219200000000 : Int64)), .second, .val (.long (253402300800000000 : Int64)), .second, .val (.long (315569520000000000 : Int64)), .second, .val (.int (p1 &&& (3 : Int32))), .val (.long m1), .second, .unset, .unset, .unset] []))
      refine Go.step (fun _ k => XS.iloadN X0.here hx rfl (hb hby at_90) rfl  k) ?_
      show Go p e below _ (s₁.setTop (mkF m 91 #[.val (.long x1), .second, .val (.int p1), .val (.int p2), .val (.long (-62167219200000000 : Int64)), .second, .val (.long (253402300800000000 : Int64)), .second, .val (.long (315569520000000000 : Int64)), .second, .val (.int (p1 &&& (3 : Int32))), .val (.long m1), .second, .unset, .unset, .unset] [(.int p2)]))
      refine Go.step (fun _ k => XS.sipush X0.here hx rfl (hb hby at_91) k) ?_
      show Go p e below _ (s₁.setTop (mkF m 94 #[.val (.long x1), .second, .val (.int p1), .val (.int p2), .val (.long (-62167219200000000 : Int64)), .second, .val (.long (253402300800000000 : Int64)), .second, .val (.long (315569520000000000 : Int64)), .second, .val (.int (p1 &&& (3 : Int32))), .val (.long m1), .second, .unset, .unset, .unset] [(.int (255 : Int32)), (.int p2)]))
      refine Go.step (fun _ k => XS.iand X0.here hx rfl (hb hby at_94) rfl k) ?_
      show Go p e below _ (s₁.setTop (mkF m 95 #[.val (.long x1), .second, .val (.int p1), .val (.int p2), .val (.long (-62167219200000000 : Int64)), .second, .val (.long (253402300800000000 : Int64)), .second, .val (.long (315569520000000000 : Int64)), .second, .val (.int (p1 &&& (3 : Int32))), .val (.long m1), .second, .unset, .unset, .unset] [(.int (p2 &&& (255 : Int32)))]))
      refine Go.step (fun _ k => XS.i2c X0.here hx rfl (hb hby at_95) rfl k) ?_
      show Go p e below _ (s₁.setTop (mkF m 96 #[.val (.long x1), .second, .val (.int p1), .val (.int p2), .val (.long (-62167219200000000 : Int64)), .second, .val (.long (253402300800000000 : Int64)), .second, .val (.long (315569520000000000 : Int64)), .second, .val (.int (p1 &&& (3 : Int32))), .val (.long m1), .second, .unset, .unset, .unset] [(.int (nar .char (p2 &&& (255 : Int32))))]))
      rw [show (nar .char (p2 &&& (255 : Int32))) = (p2 &&& (255 : Int32)) from i2c_mask p2]
      show Go p e below _ (s₁.setTop (mkF m 96 #[.val (.long x1), .second, .val (.int p1), .val (.int p2), .val (.long (-62167219200000000 : Int64)), .second, .val (.long (253402300800000000 : Int64)), .second, .val (.long (315569520000000000 : Int64)), .second, .val (.int (p1 &&& (3 : Int32))), .val (.long m1), .second, .unset, .unset, .unset] [(.int (p2 &&& (255 : Int32)))]))
      obtain ⟨v_67, T_67, L_67, X_67, hQ_67, st_67⟩ := goS X0 hx hZ (y := ({ cls := "java/lang/String", name := "valueOf", desc := "(C)Ljava/lang/String;" } : Jvm.MethodName)) hown (wd_3 hw) (wd_4 hw) (wd_5 hw) (wd_6 hw) (by decide) (backOf (W := 0) (rm_valueOf l Z a0 hw ep mc sm ea be cz zc ((p2 &&& (255 : Int32))) h0 n0 (Nat.le_trans Z0 KP0.1) (m255 p2) hSt hO) hZ (wd_6 hw) (wd_5 hw) (by decide) (by decide)) e0 (g := (mkF m 96 #[.val (.long x1), .second, .val (.int p1), .val (.int p2), .val (.long (-62167219200000000 : Int64)), .second, .val (.long (253402300800000000 : Int64)), .second, .val (.long (315569520000000000 : Int64)), .second, .val (.int (p1 &&& (3 : Int32))), .val (.long m1), .second, .unset, .unset, .unset] [(.int (p2 &&& (255 : Int32)))])) rfl (by rw [hml]; rfl) (argsL := [(.int (p2 &&& (255 : Int32)))]) (rest := []) rfl (lenOf pd_13 rfl) rfl (by show 2 * 0 + _ ≤ _; exact Nat.le_of_eq rfl) (hb hby at_96) (by decide) (by decide)
      obtain ⟨r_67, rfl, Nq_67, K_67, u0_67⟩ := hQ_67
      have N_67 := Fr.app N0 Nq_67
      have le_67 : h0.size ≤ T_67.heap.size := K_67.1
      have KP_67 := KP0.trans K_67 all0
      have O_67 := hO.keep K_67 all0
      have sz_r_67 : h0.size ≤ r_67 := Nat.le_trans (Nat.le_refl _) u0_67
      have g_r_67 : n0 ≤ r_67 := Nat.le_trans Z0 sz_r_67
      refine Go.step st_67 ?_
      show Go p e below _ (T_67.setTop (mkF m 99 #[.val (.long x1), .second, .val (.int p1), .val (.int p2), .val (.long (-62167219200000000 : Int64)), .second, .val (.long (253402300800000000 : Int64)), .second, .val (.long (315569520000000000 : Int64)), .second, .val (.int (p1 &&& (3 : Int32))), .val (.long m1), .second, .unset, .unset, .unset] [(.ref r_67)]))
      refine Go.step (fun _ k => XS.astore X_67.here hx rfl (hb hby at_99) rfl rfl (l' := #[.val (.long x1), .second, .val (.int p1), .val (.int p2), .val (.long (-62167219200000000 : Int64)), .second, .val (.long (253402300800000000 : Int64)), .second, .val (.long (315569520000000000 : Int64)), .second, .val (.int (p1 &&& (3 : Int32))), .val (.long m1), .second, .val (.ref r_67), .unset, .unset]) rfl k) ?_
      show Go p e below _ (T_67.setTop (mkF m 101 #[.val (.long x1), .second, .val (.int p1), .val (.int p2), .val (.long (-62167219200000000 : Int64)), .second, .val (.long (253402300800000000 : Int64)), .second, .val (.long (315569520000000000 : Int64)), .second, .val (.int (p1 &&& (3 : Int32))), .val (.long m1), .second, .val (.ref r_67), .unset, .unset] []))
      refine Go.step (fun _ k => XS.aload X_67.here hx rfl (hb hby at_101) rfl rfl k) ?_
      show Go p e below _ (T_67.setTop (mkF m 103 #[.val (.long x1), .second, .val (.int p1), .val (.int p2), .val (.long (-62167219200000000 : Int64)), .second, .val (.long (253402300800000000 : Int64)), .second, .val (.long (315569520000000000 : Int64)), .second, .val (.int (p1 &&& (3 : Int32))), .val (.long m1), .second, .val (.ref r_67), .unset, .unset] [(.ref r_67)]))
      refine Go.step (fun _ k => XS.lload X_67.here hx rfl (hb hby at_103) rfl  k) ?_
      show Go p e below _ (T_67.setTop (mkF m 105 #[.val (.long x1), .second, .val (.int p1), .val (.int p2), .val (.long (-62167219200000000 : Int64)), .second, .val (.long (253402300800000000 : Int64)), .second, .val (.long (315569520000000000 : Int64)), .second, .val (.int (p1 &&& (3 : Int32))), .val (.long m1), .second, .val (.ref r_67), .unset, .unset] [(.long m1), (.ref r_67)]))
      obtain ⟨v_68, T_68, L_68, X_68, hQ_68, st_68⟩ := goS X_67 hx hZ (y := ({ cls := "com/example/hallstatt/hallstatt/api/ListingParameters", name := "positionTime", desc := "(Ljava/lang/String;J)Ljava/time/Instant;" } : Jvm.MethodName)) hown (wd_29 hw) (wd_30 hw) (wd_31 hw) (wd_32 hw) (by decide) (backOf (W := 0) (rm_posTime l Z a0 hw ep mc sm ea be cz zc (r_67) (m1) T_67.heap n0 (Nat.le_trans Z0 KP_67.1) hm1 hSt O_67) hZ (wd_32 hw) (wd_31 hw) (by decide) (by decide)) rfl (g := (mkF m 105 #[.val (.long x1), .second, .val (.int p1), .val (.int p2), .val (.long (-62167219200000000 : Int64)), .second, .val (.long (253402300800000000 : Int64)), .second, .val (.long (315569520000000000 : Int64)), .second, .val (.int (p1 &&& (3 : Int32))), .val (.long m1), .second, .val (.ref r_67), .unset, .unset] [(.long m1), (.ref r_67)])) rfl (by rw [hml]; rfl) (argsL := [(.ref r_67), (.long m1)]) (rest := []) rfl (lenOf pd_14 rfl) rfl (by show 2 * 0 + _ ≤ _; exact Nat.le_of_eq rfl) (hb hby at_105) (by decide) (by decide)
      obtain ⟨r_68, se_68, na_68, rfl, Nq_68, K_68, u0_68, u1_68, u2_68, u3_68⟩ := hQ_68
      have N_68 := Fr.app N_67 Nq_68
      have le_68 : T_67.heap.size ≤ T_68.heap.size := K_68.1
      have KP_68 := KP_67.trans K_68 all0
      have O_68 := O_67.keep K_68 all0
      have hres_68 := u3_68
      refine Go.step st_68 ?_
      show Go p e below _ (T_68.setTop (mkF m 108 #[.val (.long x1), .second, .val (.int p1), .val (.int p2), .val (.long (-62167219200000000 : Int64)), .second, .val (.long (253402300800000000 : Int64)), .second, .val (.long (315569520000000000 : Int64)), .second, .val (.int (p1 &&& (3 : Int32))), .val (.long m1), .second, .val (.ref r_67), .unset, .unset] [(.ref r_68)]))
      obtain ⟨v_69, T_69, L_69, X_69, hQ_69, st_69⟩ := goS X_68 hx hZ (y := ({ cls := "com/example/hallstatt/hallstatt/api/ListingParameters", name := "micros", desc := "(Ljava/time/Instant;)J" } : Jvm.MethodName)) hown (wd_113 hw) (wd_114 hw) (wd_31 hw) (wd_115 hw) (by decide) (backOf (W := 0) (rm_micros l Z a0 hw ep mc sm ea be cz zc (r_68) (se_68) (na_68) (m1) T_68.heap n0 (Nat.le_trans Z0 KP_68.1) u0_68 u1_68 u2_68 hm1 hres_68 hSt O_68) hZ (wd_115 hw) (wd_31 hw) (by decide) (by decide)) rfl (g := (mkF m 108 #[.val (.long x1), .second, .val (.int p1), .val (.int p2), .val (.long (-62167219200000000 : Int64)), .second, .val (.long (253402300800000000 : Int64)), .second, .val (.long (315569520000000000 : Int64)), .second, .val (.int (p1 &&& (3 : Int32))), .val (.long m1), .second, .val (.ref r_67), .unset, .unset] [(.ref r_68)])) rfl (by rw [hml]; rfl) (argsL := [(.ref r_68)]) (rest := []) rfl (lenOf pd_15 rfl) rfl (by show 2 * 0 + _ ≤ _; exact Nat.le_of_eq rfl) (hb hby at_108) (by decide) (by decide)
      obtain ⟨rfl, Nq_69, e_69⟩ := hQ_69
      have N_69 := Fr.app N_68 Nq_69
      refine Go.step st_69 ?_
      show Go p e below _ (T_69.setTop (mkF m 111 #[.val (.long x1), .second, .val (.int p1), .val (.int p2), .val (.long (-62167219200000000 : Int64)), .second, .val (.long (253402300800000000 : Int64)), .second, .val (.long (315569520000000000 : Int64)), .second, .val (.int (p1 &&& (3 : Int32))), .val (.long m1), .second, .val (.ref r_67), .unset, .unset] [(.long m1)]))
      refine Go.step (fun _ k => XS.lstore X_69.here hx rfl (hb hby at_111) rfl (l' := #[.val (.long x1), .second, .val (.int p1), .val (.int p2), .val (.long (-62167219200000000 : Int64)), .second, .val (.long (253402300800000000 : Int64)), .second, .val (.long (315569520000000000 : Int64)), .second, .val (.int (p1 &&& (3 : Int32))), .val (.long m1), .second, .val (.ref r_67), .val (.long m1), .second]) rfl k) ?_
      show Go p e below _ (T_69.setTop (mkF m 113 #[.val (.long x1), .second, .val (.int p1), .val (.int p2), .val (.long (-62167219200000000 : Int64)), .second, .val (.long (253402300800000000 : Int64)), .second, .val (.long (315569520000000000 : Int64)), .second, .val (.int (p1 &&& (3 : Int32))), .val (.long m1), .second, .val (.ref r_67), .val (.long m1), .second] []))
      refine Go.step (fun _ k => XS.lload X_69.here hx rfl (hb hby at_113) rfl  k) ?_
      show Go p e below _ (T_69.setTop (mkF m 115 #[.val (.long x1), .second, .val (.int p1), .val (.int p2), .val (.long (-62167219200000000 : Int64)), .second, .val (.long (253402300800000000 : Int64)), .second, .val (.long (315569520000000000 : Int64)), .second, .val (.int (p1 &&& (3 : Int32))), .val (.long m1), .second, .val (.ref r_67), .val (.long m1), .second] [(.long m1)]))
      refine Go.step (fun _ k => XS.lload X_69.here hx rfl (hb hby at_115) rfl  k) ?_
      show Go p e below _ (T_69.setTop (mkF m 117 #[.val (.long x1), .second, .val (.int p1), .val (.int p2), .val (.long (-62167219200000000 : Int64)), .second, .val (.long (253402300800000000 : Int64)), .second, .val (.long (315569520000000000 : Int64)), .second, .val (.int (p1 &&& (3 : Int32))), .val (.long m1), .second, .val (.ref r_67), .val (.long m1), .second] [(.long m1), (.long m1)]))
      refine Go.step (fun _ k => XS.lcmp X_69.here hx rfl (hb hby at_117) rfl k) ?_
      show Go p e below _ (T_69.setTop (mkF m 118 #[.val (.long x1), .second, .val (.int p1), .val (.int p2), .val (.long (-62167219200000000 : Int64)), .second, .val (.long (253402300800000000 : Int64)), .second, .val (.long (315569520000000000 : Int64)), .second, .val (.int (p1 &&& (3 : Int32))), .val (.long m1), .second, .val (.ref r_67), .val (.long m1), .second] [(.int (lcmpW m1 m1))]))
      refine Go.step (fun _ k => XS.ifNo X_69.here hx rfl (hb hby at_118) rfl ((if0 _ _).trans (teq ((lw_eq _ _).mpr (rfl : m1 = m1))).2) k) ?_
      show Go p e below _ (T_69.setTop (mkF m 121 #[.val (.long x1), .second, .val (.int p1), .val (.int p2), .val (.long (-62167219200000000 : Int64)), .second, .val (.long (253402300800000000 : Int64)), .second, .val (.long (315569520000000000 : Int64)), .second, .val (.int (p1 &&& (3 : Int32))), .val (.long m1), .second, .val (.ref r_67), .val (.long m1), .second] []))
      refine Go.step (fun _ k => XS.iconst X_69.here hx rfl (hb hby at_121) k) ?_
      show Go p e below _ (T_69.setTop (mkF m 122 #[.val (.long x1), .second, .val (.int p1), .val (.int p2), .val (.long (-62167219200000000 : Int64)), .second, .val (.long (253402300800000000 : Int64)), .second, .val (.long (315569520000000000 : Int64)), .second, .val (.int (p1 &&& (3 : Int32))), .val (.long m1), .second, .val (.ref r_67), .val (.long m1), .second] [(.int (1 : Int32))]))
      refine Go.step (fun _ k => XS.goto X_69.here hx rfl (pc0 := 122) (pc' := 126) rfl (hb hby at_122) (by decide) (by decide) k) ?_
      show Go p e below _ (T_69.setTop (mkF m 126 #[.val (.long x1), .second, .val (.int p1), .val (.int p2), .val (.long (-62167219200000000 : Int64)), .second, .val (.long (253402300800000000 : Int64)), .second, .val (.long (315569520000000000 : Int64)), .second, .val (.int (p1 &&& (3 : Int32))), .val (.long m1), .second, .val (.ref r_67), .val (.long m1), .second] [(.int (1 : Int32))]))
      exact Go.retV X_69 hx hlk hret rfl (Or.inl ⟨rfl, Or.inr (Or.inl rfl), _, rfl⟩) (hb hby at_126) (by decide) (by decide) (by rw [e_69]; exact ⟨rfl, N_69⟩)
    · skip
      refine Go.step (fun _ k => XS.icmpYes X0.here hx rfl (pc0 := 46) (pc' := 62) rfl (hb hby at_46) rfl (feq k1).2 (by decide) (by decide) k) ?_
      show Go p e below _ (s₁.setTop (mkF m 62 #[.val (.long x1), .second, .val (.int p1), .val (.int p2), .val (.long (-62167219200000000 : Int64)), .second, .val (.long (253402300800000000 : Int64)), .second, .val (.long (315569520000000000 : Int64)), .second, .val (.int (p1 &&& (3 : Int32))), .unset, .unset, .unset, .unset, .unset] []))
      refine Go.step (fun _ k => XS.iload X0.here hx rfl (hb hby at_62) rfl  k) ?_
      show Go p e below _ (s₁.setTop (mkF m 64 #[.val (.long x1), .second, .val (.int p1), .val (.int p2), .val (.long (-62167219200000000 : Int64)), .second, .val (.long (253402300800000000 : Int64)), .second, .val (.long (315569520000000000 : Int64)), .second, .val (.int (p1 &&& (3 : Int32))), .unset, .unset, .unset, .unset, .unset] [(.int (p1 &&& (3 : Int32)))]))
      refine Go.step (fun _ k => XS.iconst X0.here hx rfl (hb hby at_64) k) ?_
      show Go p e below _ (s₁.setTop (mkF m 65 #[.val (.long x1), .second, .val (.int p1), .val (.int p2), .val (.long (-62167219200000000 : Int64)), .second, .val (.long (253402300800000000 : Int64)), .second, .val (.long (315569520000000000 : Int64)), .second, .val (.int (p1 &&& (3 : Int32))), .unset, .unset, .unset, .unset, .unset] [(.int (2 : Int32)), (.int (p1 &&& (3 : Int32)))]))
      by_cases k2 : (p1 &&& (3 : Int32)) = (2 : Int32)
      · skip
        refine Go.step (fun _ k => XS.icmpNo X0.here hx rfl (hb hby at_65) rfl (teq k2).2 k) ?_
        show Go p e below _ (s₁.setTop (mkF m 68 #[.val (.long x1), .second, .val (.int p1), .val (.int p2), .val (.long (-62167219200000000 : Int64)), .second, .val (.long (253402300800000000 : Int64)), .second, .val (.long (315569520000000000 : Int64)), .second, .val (.int (p1 &&& (3 : Int32))), .unset, .unset, .unset, .unset, .unset] []))
        refine Go.step (fun _ k => XS.lload X0.here hx rfl (hb hby at_68) rfl  k) ?_
        show Go p e below _ (s₁.setTop (mkF m 70 #[.val (.long x1), .second, .val (.int p1), .val (.int p2), .val (.long (-62167219200000000 : Int64)), .second, .val (.long (253402300800000000 : Int64)), .second, .val (.long (315569520000000000 : Int64)), .second, .val (.int (p1 &&& (3 : Int32))), .unset, .unset, .unset, .unset, .unset] [(.long (253402300800000000 : Int64))]))
        refine Go.step (fun _ k => XS.lconst X0.here hx rfl (hb hby at_70) k) ?_
        show Go p e below _ (s₁.setTop (mkF m 71 #[.val (.long x1), .second, .val (.int p1), .val (.int p2), .val (.long (-62167219200000000 : Int64)), .second, .val (.long (253402300800000000 : Int64)), .second, .val (.long (315569520000000000 : Int64)), .second, .val (.int (p1 &&& (3 : Int32))), .unset, .unset, .unset, .unset, .unset] [(.long (1 : Int64)), (.long (253402300800000000 : Int64))]))
        refine Go.step (fun _ k => XS.lsub X0.here hx rfl (hb hby at_71) rfl k) ?_
        show Go p e below _ (s₁.setTop (mkF m 72 #[.val (.long x1), .second, .val (.int p1), .val (.int p2), .val (.long (-62167219200000000 : Int64)), .second, .val (.long (253402300800000000 : Int64)), .second, .val (.long (315569520000000000 : Int64)), .second, .val (.int (p1 &&& (3 : Int32))), .unset, .unset, .unset, .unset, .unset] [(.long ((253402300800000000 : Int64) - (1 : Int64)))]))
        rw [show ((253402300800000000 : Int64) - (1 : Int64)) = (253402300799999999 : Int64) from by decide]
        show Go p e below _ (s₁.setTop (mkF m 72 #[.val (.long x1), .second, .val (.int p1), .val (.int p2), .val (.long (-62167219200000000 : Int64)), .second, .val (.long (253402300800000000 : Int64)), .second, .val (.long (315569520000000000 : Int64)), .second, .val (.int (p1 &&& (3 : Int32))), .unset, .unset, .unset, .unset, .unset] [(.long (253402300799999999 : Int64))]))
        refine Go.step (fun _ k => XS.lloadN X0.here hx rfl (hb hby at_72) rfl  k) ?_
        show Go p e below _ (s₁.setTop (mkF m 73 #[.val (.long x1), .second, .val (.int p1), .val (.int p2), .val (.long (-62167219200000000 : Int64)), .second, .val (.long (253402300800000000 : Int64)), .second, .val (.long (315569520000000000 : Int64)), .second, .val (.int (p1 &&& (3 : Int32))), .unset, .unset, .unset, .unset, .unset] [(.long x1), (.long (253402300799999999 : Int64))]))
        refine Go.step (fun _ k => X0.ldc2Long hx hown (mvT hZ (wd_2 hw)) (g := (mkF m 73 #[.val (.long x1), .second, .val (.int p1), .val (.int p2), .val (.long (-62167219200000000 : Int64)), .second, .val (.long (253402300800000000 : Int64)), .second, .val (.long (315569520000000000 : Int64)), .second, .val (.int (p1 &&& (3 : Int32))), .unset, .unset, .unset, .unset, .unset] [(.long x1), (.long (253402300799999999 : Int64))])) rfl (hb hby at_73) _ k) ?_
        show Go p e below _ (s₁.setTop (mkF m 76 #[.val (.long x1), .second, .val (.int p1), .val (.int p2), .val (.long (-62167219200000000 : Int64)), .second, .val (.long (253402300800000000 : Int64)), .second, .val (.long (315569520000000000 : Int64)), .second, .val (.int (p1 &&& (3 : Int32))), .unset, .unset, .unset, .unset, .unset] [(.long (1023 : Int64)), (.long x1), (.long (253402300799999999 : Int64))]))
        refine Go.step (fun _ k => XS.land X0.here hx rfl (hb hby at_76) rfl k) ?_
        show Go p e below _ (s₁.setTop (mkF m 77 #[.val (.long x1), .second, .val (.int p1), .val (.int p2), .val (.long (-62167219200000000 : Int64)), .second, .val (.long (253402300800000000 : Int64)), .second, .val (.long (315569520000000000 : Int64)), .second, .val (.int (p1 &&& (3 : Int32))), .unset, .unset, .unset, .unset, .unset] [(.long (x1 &&& (1023 : Int64))), (.long (253402300799999999 : Int64))]))
        refine Go.step (fun _ k => XS.lsub X0.here hx rfl (hb hby at_77) rfl k) ?_
        show Go p e below _ (s₁.setTop (mkF m 78 #[.val (.long x1), .second, .val (.int p1), .val (.int p2), .val (.long (-62167219200000000 : Int64)), .second, .val (.long (253402300800000000 : Int64)), .second, .val (.long (315569520000000000 : Int64)), .second, .val (.int (p1 &&& (3 : Int32))), .unset, .unset, .unset, .unset, .unset] [(.long ((253402300799999999 : Int64) - (x1 &&& (1023 : Int64))))]))
        refine Go.step (fun _ k => XS.lstore X0.here hx rfl (hb hby at_78) rfl (l' := #[.val (.long x1), .second, .val (.int p1), .val (.int p2), .val (.long (-62167219200000000 : Int64)), .second, .val (.long (253402300800000000 : Int64)), .second, .val (.long (315569520000000000 : Int64)), .second, .val (.int (p1 &&& (3 : Int32))), .val (.long ((253402300799999999 : Int64) - (x1 &&& (1023 : Int64)))), .second, .unset, .unset, .unset]) rfl k) ?_
        show Go p e below _ (s₁.setTop (mkF m 80 #[.val (.long x1), .second, .val (.int p1), .val (.int p2), .val (.long (-62167219200000000 : Int64)), .second, .val (.long (253402300800000000 : Int64)), .second, .val (.long (315569520000000000 : Int64)), .second, .val (.int (p1 &&& (3 : Int32))), .val (.long ((253402300799999999 : Int64) - (x1 &&& (1023 : Int64)))), .second, .unset, .unset, .unset] []))
        obtain ⟨m1, h_m1⟩ : ∃ z, z = ((253402300799999999 : Int64) - (x1 &&& (1023 : Int64))) := ⟨_, rfl⟩
        rw [← h_m1]
        show Go p e below _ (s₁.setTop (mkF m 80 #[.val (.long x1), .second, .val (.int p1), .val (.int p2), .val (.long (-62167219200000000 : Int64)), .second, .val (.long (253402300800000000 : Int64)), .second, .val (.long (315569520000000000 : Int64)), .second, .val (.int (p1 &&& (3 : Int32))), .val (.long m1), .second, .unset, .unset, .unset] []))
        have hm1 : -62167219200000000 ≤ m1.toInt ∧ m1.toInt < 253402300800000000 := by rw [h_m1]; exact lw2 x1
        show Go p e below _ (s₁.setTop (mkF m 80 #[.val (.long x1), .second, .val (.int p1), .val (.int p2), .val (.long (-62167219200000000 : Int64)), .second, .val (.long (253402300800000000 : Int64)), .second, .val (.long (315569520000000000 : Int64)), .second, .val (.int (p1 &&& (3 : Int32))), .val (.long m1), .second, .unset, .unset, .unset] []))
        refine Go.step (fun _ k => XS.goto X0.here hx rfl (pc0 := 80) (pc' := 90) rfl (hb hby at_80) (by decide) (by decide) k) ?_
        show Go p e below _ (s₁.setTop (mkF m 90 #[.val (.long x1), .second, .val (.int p1), .val (.int p2), .val (.long (-62167219200000000 : Int64)), .second, .val (.long (253402300800000000 : Int64)), .second, .val (.long (315569520000000000 : Int64)), .second, .val (.int (p1 &&& (3 : Int32))), .val (.long m1), .second, .unset, .unset, .unset] []))
        refine Go.step (fun _ k => XS.iloadN X0.here hx rfl (hb hby at_90) rfl  k) ?_
        show Go p e below _ (s₁.setTop (mkF m 91 #[.val (.long x1), .second, .val (.int p1), .val (.int p2), .val (.long (-62167219200000000 : Int64)), .second, .val (.long (253402300800000000 : Int64)), .second, .val (.long (315569520000000000 : Int64)), .second, .val (.int (p1 &&& (3 : Int32))), .val (.long m1), .second, .unset, .unset, .unset] [(.int p2)]))
        refine Go.step (fun _ k => XS.sipush X0.here hx rfl (hb hby at_91) k) ?_
        show Go p e below _ (s₁.setTop (mkF m 94 #[.val (.long x1), .second, .val (.int p1), .val (.int p2), .val (.long (-62167219200000000 : Int64)), .second, .val (.long (253402300800000000 : Int64)), .second, .val (.long (315569520000000000 : Int64)), .second, .val (.int (p1 &&& (3 : Int32))), .val (.long m1), .second, .unset, .unset, .unset] [(.int (255 : Int32)), (.int p2)]))
        refine Go.step (fun _ k => XS.iand X0.here hx rfl (hb hby at_94) rfl k) ?_
        show Go p e below _ (s₁.setTop (mkF m 95 #[.val (.long x1), .second, .val (.int p1), .val (.int p2), .val (.long (-62167219200000000 : Int64)), .second, .val (.long (253402300800000000 : Int64)), .second, .val (.long (315569520000000000 : Int64)), .second, .val (.int (p1 &&& (3 : Int32))), .val (.long m1), .second, .unset, .unset, .unset] [(.int (p2 &&& (255 : Int32)))]))
        refine Go.step (fun _ k => XS.i2c X0.here hx rfl (hb hby at_95) rfl k) ?_
        show Go p e below _ (s₁.setTop (mkF m 96 #[.val (.long x1), .second, .val (.int p1), .val (.int p2), .val (.long (-62167219200000000 : Int64)), .second, .val (.long (253402300800000000 : Int64)), .second, .val (.long (315569520000000000 : Int64)), .second, .val (.int (p1 &&& (3 : Int32))), .val (.long m1), .second, .unset, .unset, .unset] [(.int (nar .char (p2 &&& (255 : Int32))))]))
        rw [show (nar .char (p2 &&& (255 : Int32))) = (p2 &&& (255 : Int32)) from i2c_mask p2]
        show Go p e below _ (s₁.setTop (mkF m 96 #[.val (.long x1), .second, .val (.int p1), .val (.int p2), .val (.long (-62167219200000000 : Int64)), .second, .val (.long (253402300800000000 : Int64)), .second, .val (.long (315569520000000000 : Int64)), .second, .val (.int (p1 &&& (3 : Int32))), .val (.long m1), .second, .unset, .unset, .unset] [(.int (p2 &&& (255 : Int32)))]))
        obtain ⟨v_70, T_70, L_70, X_70, hQ_70, st_70⟩ := goS X0 hx hZ (y := ({ cls := "java/lang/String", name := "valueOf", desc := "(C)Ljava/lang/String;" } : Jvm.MethodName)) hown (wd_3 hw) (wd_4 hw) (wd_5 hw) (wd_6 hw) (by decide) (backOf (W := 0) (rm_valueOf l Z a0 hw ep mc sm ea be cz zc ((p2 &&& (255 : Int32))) h0 n0 (Nat.le_trans Z0 KP0.1) (m255 p2) hSt hO) hZ (wd_6 hw) (wd_5 hw) (by decide) (by decide)) e0 (g := (mkF m 96 #[.val (.long x1), .second, .val (.int p1), .val (.int p2), .val (.long (-62167219200000000 : Int64)), .second, .val (.long (253402300800000000 : Int64)), .second, .val (.long (315569520000000000 : Int64)), .second, .val (.int (p1 &&& (3 : Int32))), .val (.long m1), .second, .unset, .unset, .unset] [(.int (p2 &&& (255 : Int32)))])) rfl (by rw [hml]; rfl) (argsL := [(.int (p2 &&& (255 : Int32)))]) (rest := []) rfl (lenOf pd_13 rfl) rfl (by show 2 * 0 + _ ≤ _; exact Nat.le_of_eq rfl) (hb hby at_96) (by decide) (by decide)
        obtain ⟨r_70, rfl, Nq_70, K_70, u0_70⟩ := hQ_70
        have N_70 := Fr.app N0 Nq_70
        have le_70 : h0.size ≤ T_70.heap.size := K_70.1
        have KP_70 := KP0.trans K_70 all0
        have O_70 := hO.keep K_70 all0
        have sz_r_70 : h0.size ≤ r_70 := Nat.le_trans (Nat.le_refl _) u0_70
        have g_r_70 : n0 ≤ r_70 := Nat.le_trans Z0 sz_r_70
        refine Go.step st_70 ?_
        show Go p e below _ (T_70.setTop (mkF m 99 #[.val (.long x1), .second, .val (.int p1), .val (.int p2), .val (.long (-62167219200000000 : Int64)), .second, .val (.long (253402300800000000 : Int64)), .second, .val (.long (315569520000000000 : Int64)), .second, .val (.int (p1 &&& (3 : Int32))), .val (.long m1), .second, .unset, .unset, .unset] [(.ref r_70)]))
        refine Go.step (fun _ k => XS.astore X_70.here hx rfl (hb hby at_99) rfl rfl (l' := #[.val (.long x1), .second, .val (.int p1), .val (.int p2), .val (.long (-62167219200000000 : Int64)), .second, .val (.long (253402300800000000 : Int64)), .second, .val (.long (315569520000000000 : Int64)), .second, .val (.int (p1 &&& (3 : Int32))), .val (.long m1), .second, .val (.ref r_70), .unset, .unset]) rfl k) ?_
        show Go p e below _ (T_70.setTop (mkF m 101 #[.val (.long x1), .second, .val (.int p1), .val (.int p2), .val (.long (-62167219200000000 : Int64)), .second, .val (.long (253402300800000000 : Int64)), .second, .val (.long (315569520000000000 : Int64)), .second, .val (.int (p1 &&& (3 : Int32))), .val (.long m1), .second, .val (.ref r_70), .unset, .unset] []))
        refine Go.step (fun _ k => XS.aload X_70.here hx rfl (hb hby at_101) rfl rfl k) ?_
        show Go p e below _ (T_70.setTop (mkF m 103 #[.val (.long x1), .second, .val (.int p1), .val (.int p2), .val (.long (-62167219200000000 : Int64)), .second, .val (.long (253402300800000000 : Int64)), .second, .val (.long (315569520000000000 : Int64)), .second, .val (.int (p1 &&& (3 : Int32))), .val (.long m1), .second, .val (.ref r_70), .unset, .unset] [(.ref r_70)]))
        refine Go.step (fun _ k => XS.lload X_70.here hx rfl (hb hby at_103) rfl  k) ?_
        show Go p e below _ (T_70.setTop (mkF m 105 #[.val (.long x1), .second, .val (.int p1), .val (.int p2), .val (.long (-62167219200000000 : Int64)), .second, .val (.long (253402300800000000 : Int64)), .second, .val (.long (315569520000000000 : Int64)), .second, .val (.int (p1 &&& (3 : Int32))), .val (.long m1), .second, .val (.ref r_70), .unset, .unset] [(.long m1), (.ref r_70)]))
        obtain ⟨v_71, T_71, L_71, X_71, hQ_71, st_71⟩ := goS X_70 hx hZ (y := ({ cls := "com/example/hallstatt/hallstatt/api/ListingParameters", name := "positionTime", desc := "(Ljava/lang/String;J)Ljava/time/Instant;" } : Jvm.MethodName)) hown (wd_29 hw) (wd_30 hw) (wd_31 hw) (wd_32 hw) (by decide) (backOf (W := 0) (rm_posTime l Z a0 hw ep mc sm ea be cz zc (r_70) (m1) T_70.heap n0 (Nat.le_trans Z0 KP_70.1) hm1 hSt O_70) hZ (wd_32 hw) (wd_31 hw) (by decide) (by decide)) rfl (g := (mkF m 105 #[.val (.long x1), .second, .val (.int p1), .val (.int p2), .val (.long (-62167219200000000 : Int64)), .second, .val (.long (253402300800000000 : Int64)), .second, .val (.long (315569520000000000 : Int64)), .second, .val (.int (p1 &&& (3 : Int32))), .val (.long m1), .second, .val (.ref r_70), .unset, .unset] [(.long m1), (.ref r_70)])) rfl (by rw [hml]; rfl) (argsL := [(.ref r_70), (.long m1)]) (rest := []) rfl (lenOf pd_14 rfl) rfl (by show 2 * 0 + _ ≤ _; exact Nat.le_of_eq rfl) (hb hby at_105) (by decide) (by decide)
        obtain ⟨r_71, se_71, na_71, rfl, Nq_71, K_71, u0_71, u1_71, u2_71, u3_71⟩ := hQ_71
        have N_71 := Fr.app N_70 Nq_71
        have le_71 : T_70.heap.size ≤ T_71.heap.size := K_71.1
        have KP_71 := KP_70.trans K_71 all0
        have O_71 := O_70.keep K_71 all0
        have hres_71 := u3_71
        refine Go.step st_71 ?_
        show Go p e below _ (T_71.setTop (mkF m 108 #[.val (.long x1), .second, .val (.int p1), .val (.int p2), .val (.long (-62167219200000000 : Int64)), .second, .val (.long (253402300800000000 : Int64)), .second, .val (.long (315569520000000000 : Int64)), .second, .val (.int (p1 &&& (3 : Int32))), .val (.long m1), .second, .val (.ref r_70), .unset, .unset] [(.ref r_71)]))
        obtain ⟨v_72, T_72, L_72, X_72, hQ_72, st_72⟩ := goS X_71 hx hZ (y := ({ cls := "com/example/hallstatt/hallstatt/api/ListingParameters", name := "micros", desc := "(Ljava/time/Instant;)J" } : Jvm.MethodName)) hown (wd_113 hw) (wd_114 hw) (wd_31 hw) (wd_115 hw) (by decide) (backOf (W := 0) (rm_micros l Z a0 hw ep mc sm ea be cz zc (r_71) (se_71) (na_71) (m1) T_71.heap n0 (Nat.le_trans Z0 KP_71.1) u0_71 u1_71 u2_71 hm1 hres_71 hSt O_71) hZ (wd_115 hw) (wd_31 hw) (by decide) (by decide)) rfl (g := (mkF m 108 #[.val (.long x1), .second, .val (.int p1), .val (.int p2), .val (.long (-62167219200000000 : Int64)), .second, .val (.long (253402300800000000 : Int64)), .second, .val (.long (315569520000000000 : Int64)), .second, .val (.int (p1 &&& (3 : Int32))), .val (.long m1), .second, .val (.ref r_70), .unset, .unset] [(.ref r_71)])) rfl (by rw [hml]; rfl) (argsL := [(.ref r_71)]) (rest := []) rfl (lenOf pd_15 rfl) rfl (by show 2 * 0 + _ ≤ _; exact Nat.le_of_eq rfl) (hb hby at_108) (by decide) (by decide)
        obtain ⟨rfl, Nq_72, e_72⟩ := hQ_72
        have N_72 := Fr.app N_71 Nq_72
        refine Go.step st_72 ?_
        show Go p e below _ (T_72.setTop (mkF m 111 #[.val (.long x1), .second, .val (.int p1), .val (.int p2), .val (.long (-62167219200000000 : Int64)), .second, .val (.long (253402300800000000 : Int64)), .second, .val (.long (315569520000000000 : Int64)), .second, .val (.int (p1 &&& (3 : Int32))), .val (.long m1), .second, .val (.ref r_70), .unset, .unset] [(.long m1)]))
        refine Go.step (fun _ k => XS.lstore X_72.here hx rfl (hb hby at_111) rfl (l' := #[.val (.long x1), .second, .val (.int p1), .val (.int p2), .val (.long (-62167219200000000 : Int64)), .second, .val (.long (253402300800000000 : Int64)), .second, .val (.long (315569520000000000 : Int64)), .second, .val (.int (p1 &&& (3 : Int32))), .val (.long m1), .second, .val (.ref r_70), .val (.long m1), .second]) rfl k) ?_
        show Go p e below _ (T_72.setTop (mkF m 113 #[.val (.long x1), .second, .val (.int p1), .val (.int p2), .val (.long (-62167219200000000 : Int64)), .second, .val (.long (253402300800000000 : Int64)), .second, .val (.long (315569520000000000 : Int64)), .second, .val (.int (p1 &&& (3 : Int32))), .val (.long m1), .second, .val (.ref r_70), .val (.long m1), .second] []))
        refine Go.step (fun _ k => XS.lload X_72.here hx rfl (hb hby at_113) rfl  k) ?_
        show Go p e below _ (T_72.setTop (mkF m 115 #[.val (.long x1), .second, .val (.int p1), .val (.int p2), .val (.long (-62167219200000000 : Int64)), .second, .val (.long (253402300800000000 : Int64)), .second, .val (.long (315569520000000000 : Int64)), .second, .val (.int (p1 &&& (3 : Int32))), .val (.long m1), .second, .val (.ref r_70), .val (.long m1), .second] [(.long m1)]))
        refine Go.step (fun _ k => XS.lload X_72.here hx rfl (hb hby at_115) rfl  k) ?_
        show Go p e below _ (T_72.setTop (mkF m 117 #[.val (.long x1), .second, .val (.int p1), .val (.int p2), .val (.long (-62167219200000000 : Int64)), .second, .val (.long (253402300800000000 : Int64)), .second, .val (.long (315569520000000000 : Int64)), .second, .val (.int (p1 &&& (3 : Int32))), .val (.long m1), .second, .val (.ref r_70), .val (.long m1), .second] [(.long m1), (.long m1)]))
        refine Go.step (fun _ k => XS.lcmp X_72.here hx rfl (hb hby at_117) rfl k) ?_
        show Go p e below _ (T_72.setTop (mkF m 118 #[.val (.long x1), .second, .val (.int p1), .val (.int p2), .val (.long (-62167219200000000 : Int64)), .second, .val (.long (253402300800000000 : Int64)), .second, .val (.long (315569520000000000 : Int64)), .second, .val (.int (p1 &&& (3 : Int32))), .val (.long m1), .second, .val (.ref r_70), .val (.long m1), .second] [(.int (lcmpW m1 m1))]))
        refine Go.step (fun _ k => XS.ifNo X_72.here hx rfl (hb hby at_118) rfl ((if0 _ _).trans (teq ((lw_eq _ _).mpr (rfl : m1 = m1))).2) k) ?_
        show Go p e below _ (T_72.setTop (mkF m 121 #[.val (.long x1), .second, .val (.int p1), .val (.int p2), .val (.long (-62167219200000000 : Int64)), .second, .val (.long (253402300800000000 : Int64)), .second, .val (.long (315569520000000000 : Int64)), .second, .val (.int (p1 &&& (3 : Int32))), .val (.long m1), .second, .val (.ref r_70), .val (.long m1), .second] []))
        refine Go.step (fun _ k => XS.iconst X_72.here hx rfl (hb hby at_121) k) ?_
        show Go p e below _ (T_72.setTop (mkF m 122 #[.val (.long x1), .second, .val (.int p1), .val (.int p2), .val (.long (-62167219200000000 : Int64)), .second, .val (.long (253402300800000000 : Int64)), .second, .val (.long (315569520000000000 : Int64)), .second, .val (.int (p1 &&& (3 : Int32))), .val (.long m1), .second, .val (.ref r_70), .val (.long m1), .second] [(.int (1 : Int32))]))
        refine Go.step (fun _ k => XS.goto X_72.here hx rfl (pc0 := 122) (pc' := 126) rfl (hb hby at_122) (by decide) (by decide) k) ?_
        show Go p e below _ (T_72.setTop (mkF m 126 #[.val (.long x1), .second, .val (.int p1), .val (.int p2), .val (.long (-62167219200000000 : Int64)), .second, .val (.long (253402300800000000 : Int64)), .second, .val (.long (315569520000000000 : Int64)), .second, .val (.int (p1 &&& (3 : Int32))), .val (.long m1), .second, .val (.ref r_70), .val (.long m1), .second] [(.int (1 : Int32))]))
        exact Go.retV X_72 hx hlk hret rfl (Or.inl ⟨rfl, Or.inr (Or.inl rfl), _, rfl⟩) (hb hby at_126) (by decide) (by decide) (by rw [e_72]; exact ⟨rfl, N_72⟩)
      · skip
        refine Go.step (fun _ k => XS.icmpYes X0.here hx rfl (pc0 := 65) (pc' := 83) rfl (hb hby at_65) rfl (feq k2).2 (by decide) (by decide) k) ?_
        show Go p e below _ (s₁.setTop (mkF m 83 #[.val (.long x1), .second, .val (.int p1), .val (.int p2), .val (.long (-62167219200000000 : Int64)), .second, .val (.long (253402300800000000 : Int64)), .second, .val (.long (315569520000000000 : Int64)), .second, .val (.int (p1 &&& (3 : Int32))), .unset, .unset, .unset, .unset, .unset] []))
        refine Go.step (fun _ k => XS.lloadN X0.here hx rfl (hb hby at_83) rfl  k) ?_
        show Go p e below _ (s₁.setTop (mkF m 84 #[.val (.long x1), .second, .val (.int p1), .val (.int p2), .val (.long (-62167219200000000 : Int64)), .second, .val (.long (253402300800000000 : Int64)), .second, .val (.long (315569520000000000 : Int64)), .second, .val (.int (p1 &&& (3 : Int32))), .unset, .unset, .unset, .unset, .unset] [(.long x1)]))
        refine Go.step (fun _ k => X0.ldc2Long hx hown (mvT hZ (wd_128 hw)) (g := (mkF m 84 #[.val (.long x1), .second, .val (.int p1), .val (.int p2), .val (.long (-62167219200000000 : Int64)), .second, .val (.long (253402300800000000 : Int64)), .second, .val (.long (315569520000000000 : Int64)), .second, .val (.int (p1 &&& (3 : Int32))), .unset, .unset, .unset, .unset, .unset] [(.long x1)])) rfl (hb hby at_84) _ k) ?_
        show Go p e below _ (s₁.setTop (mkF m 87 #[.val (.long x1), .second, .val (.int p1), .val (.int p2), .val (.long (-62167219200000000 : Int64)), .second, .val (.long (253402300800000000 : Int64)), .second, .val (.long (315569520000000000 : Int64)), .second, .val (.int (p1 &&& (3 : Int32))), .unset, .unset, .unset, .unset, .unset] [(.long (1000000000 : Int64)), (.long x1)]))
        refine Go.step (fun _ k => lremM X0 hx rfl (hb hby at_87) rfl (by decide) k) ?_
        show Go p e below _ (s₁.setTop (mkF m 88 #[.val (.long x1), .second, .val (.int p1), .val (.int p2), .val (.long (-62167219200000000 : Int64)), .second, .val (.long (253402300800000000 : Int64)), .second, .val (.long (315569520000000000 : Int64)), .second, .val (.int (p1 &&& (3 : Int32))), .unset, .unset, .unset, .unset, .unset] [(.long (x1 % (1000000000 : Int64)))]))
        refine Go.step (fun _ k => XS.lstore X0.here hx rfl (hb hby at_88) rfl (l' := #[.val (.long x1), .second, .val (.int p1), .val (.int p2), .val (.long (-62167219200000000 : Int64)), .second, .val (.long (253402300800000000 : Int64)), .second, .val (.long (315569520000000000 : Int64)), .second, .val (.int (p1 &&& (3 : Int32))), .val (.long (x1 % (1000000000 : Int64))), .second, .unset, .unset, .unset]) rfl k) ?_
        show Go p e below _ (s₁.setTop (mkF m 90 #[.val (.long x1), .second, .val (.int p1), .val (.int p2), .val (.long (-62167219200000000 : Int64)), .second, .val (.long (253402300800000000 : Int64)), .second, .val (.long (315569520000000000 : Int64)), .second, .val (.int (p1 &&& (3 : Int32))), .val (.long (x1 % (1000000000 : Int64))), .second, .unset, .unset, .unset] []))
        obtain ⟨m1, h_m1⟩ : ∃ z, z = (x1 % (1000000000 : Int64)) := ⟨_, rfl⟩
        rw [← h_m1]
        show Go p e below _ (s₁.setTop (mkF m 90 #[.val (.long x1), .second, .val (.int p1), .val (.int p2), .val (.long (-62167219200000000 : Int64)), .second, .val (.long (253402300800000000 : Int64)), .second, .val (.long (315569520000000000 : Int64)), .second, .val (.int (p1 &&& (3 : Int32))), .val (.long m1), .second, .unset, .unset, .unset] []))
        have hm1 : -62167219200000000 ≤ m1.toInt ∧ m1.toInt < 253402300800000000 := by rw [h_m1]; exact lw3 x1
        show Go p e below _ (s₁.setTop (mkF m 90 #[.val (.long x1), .second, .val (.int p1), .val (.int p2), .val (.long (-62167219200000000 : Int64)), .second, .val (.long (253402300800000000 : Int64)), .second, .val (.long (315569520000000000 : Int64)), .second, .val (.int (p1 &&& (3 : Int32))), .val (.long m1), .second, .unset, .unset, .unset] []))
        refine Go.step (fun _ k => XS.iloadN X0.here hx rfl (hb hby at_90) rfl  k) ?_
        show Go p e below _ (s₁.setTop (mkF m 91 #[.val (.long x1), .second, .val (.int p1), .val (.int p2), .val (.long (-62167219200000000 : Int64)), .second, .val (.long (253402300800000000 : Int64)), .second, .val (.long (315569520000000000 : Int64)), .second, .val (.int (p1 &&& (3 : Int32))), .val (.long m1), .second, .unset, .unset, .unset] [(.int p2)]))
        refine Go.step (fun _ k => XS.sipush X0.here hx rfl (hb hby at_91) k) ?_
        show Go p e below _ (s₁.setTop (mkF m 94 #[.val (.long x1), .second, .val (.int p1), .val (.int p2), .val (.long (-62167219200000000 : Int64)), .second, .val (.long (253402300800000000 : Int64)), .second, .val (.long (315569520000000000 : Int64)), .second, .val (.int (p1 &&& (3 : Int32))), .val (.long m1), .second, .unset, .unset, .unset] [(.int (255 : Int32)), (.int p2)]))
        refine Go.step (fun _ k => XS.iand X0.here hx rfl (hb hby at_94) rfl k) ?_
        show Go p e below _ (s₁.setTop (mkF m 95 #[.val (.long x1), .second, .val (.int p1), .val (.int p2), .val (.long (-62167219200000000 : Int64)), .second, .val (.long (253402300800000000 : Int64)), .second, .val (.long (315569520000000000 : Int64)), .second, .val (.int (p1 &&& (3 : Int32))), .val (.long m1), .second, .unset, .unset, .unset] [(.int (p2 &&& (255 : Int32)))]))
        refine Go.step (fun _ k => XS.i2c X0.here hx rfl (hb hby at_95) rfl k) ?_
        show Go p e below _ (s₁.setTop (mkF m 96 #[.val (.long x1), .second, .val (.int p1), .val (.int p2), .val (.long (-62167219200000000 : Int64)), .second, .val (.long (253402300800000000 : Int64)), .second, .val (.long (315569520000000000 : Int64)), .second, .val (.int (p1 &&& (3 : Int32))), .val (.long m1), .second, .unset, .unset, .unset] [(.int (nar .char (p2 &&& (255 : Int32))))]))
        rw [show (nar .char (p2 &&& (255 : Int32))) = (p2 &&& (255 : Int32)) from i2c_mask p2]
        show Go p e below _ (s₁.setTop (mkF m 96 #[.val (.long x1), .second, .val (.int p1), .val (.int p2), .val (.long (-62167219200000000 : Int64)), .second, .val (.long (253402300800000000 : Int64)), .second, .val (.long (315569520000000000 : Int64)), .second, .val (.int (p1 &&& (3 : Int32))), .val (.long m1), .second, .unset, .unset, .unset] [(.int (p2 &&& (255 : Int32)))]))
        obtain ⟨v_73, T_73, L_73, X_73, hQ_73, st_73⟩ := goS X0 hx hZ (y := ({ cls := "java/lang/String", name := "valueOf", desc := "(C)Ljava/lang/String;" } : Jvm.MethodName)) hown (wd_3 hw) (wd_4 hw) (wd_5 hw) (wd_6 hw) (by decide) (backOf (W := 0) (rm_valueOf l Z a0 hw ep mc sm ea be cz zc ((p2 &&& (255 : Int32))) h0 n0 (Nat.le_trans Z0 KP0.1) (m255 p2) hSt hO) hZ (wd_6 hw) (wd_5 hw) (by decide) (by decide)) e0 (g := (mkF m 96 #[.val (.long x1), .second, .val (.int p1), .val (.int p2), .val (.long (-62167219200000000 : Int64)), .second, .val (.long (253402300800000000 : Int64)), .second, .val (.long (315569520000000000 : Int64)), .second, .val (.int (p1 &&& (3 : Int32))), .val (.long m1), .second, .unset, .unset, .unset] [(.int (p2 &&& (255 : Int32)))])) rfl (by rw [hml]; rfl) (argsL := [(.int (p2 &&& (255 : Int32)))]) (rest := []) rfl (lenOf pd_13 rfl) rfl (by show 2 * 0 + _ ≤ _; exact Nat.le_of_eq rfl) (hb hby at_96) (by decide) (by decide)
        obtain ⟨r_73, rfl, Nq_73, K_73, u0_73⟩ := hQ_73
        have N_73 := Fr.app N0 Nq_73
        have le_73 : h0.size ≤ T_73.heap.size := K_73.1
        have KP_73 := KP0.trans K_73 all0
        have O_73 := hO.keep K_73 all0
        have sz_r_73 : h0.size ≤ r_73 := Nat.le_trans (Nat.le_refl _) u0_73
        have g_r_73 : n0 ≤ r_73 := Nat.le_trans Z0 sz_r_73
        refine Go.step st_73 ?_
        show Go p e below _ (T_73.setTop (mkF m 99 #[.val (.long x1), .second, .val (.int p1), .val (.int p2), .val (.long (-62167219200000000 : Int64)), .second, .val (.long (253402300800000000 : Int64)), .second, .val (.long (315569520000000000 : Int64)), .second, .val (.int (p1 &&& (3 : Int32))), .val (.long m1), .second, .unset, .unset, .unset] [(.ref r_73)]))
        refine Go.step (fun _ k => XS.astore X_73.here hx rfl (hb hby at_99) rfl rfl (l' := #[.val (.long x1), .second, .val (.int p1), .val (.int p2), .val (.long (-62167219200000000 : Int64)), .second, .val (.long (253402300800000000 : Int64)), .second, .val (.long (315569520000000000 : Int64)), .second, .val (.int (p1 &&& (3 : Int32))), .val (.long m1), .second, .val (.ref r_73), .unset, .unset]) rfl k) ?_
        show Go p e below _ (T_73.setTop (mkF m 101 #[.val (.long x1), .second, .val (.int p1), .val (.int p2), .val (.long (-62167219200000000 : Int64)), .second, .val (.long (253402300800000000 : Int64)), .second, .val (.long (315569520000000000 : Int64)), .second, .val (.int (p1 &&& (3 : Int32))), .val (.long m1), .second, .val (.ref r_73), .unset, .unset] []))
        refine Go.step (fun _ k => XS.aload X_73.here hx rfl (hb hby at_101) rfl rfl k) ?_
        show Go p e below _ (T_73.setTop (mkF m 103 #[.val (.long x1), .second, .val (.int p1), .val (.int p2), .val (.long (-62167219200000000 : Int64)), .second, .val (.long (253402300800000000 : Int64)), .second, .val (.long (315569520000000000 : Int64)), .second, .val (.int (p1 &&& (3 : Int32))), .val (.long m1), .second, .val (.ref r_73), .unset, .unset] [(.ref r_73)]))
        refine Go.step (fun _ k => XS.lload X_73.here hx rfl (hb hby at_103) rfl  k) ?_
        show Go p e below _ (T_73.setTop (mkF m 105 #[.val (.long x1), .second, .val (.int p1), .val (.int p2), .val (.long (-62167219200000000 : Int64)), .second, .val (.long (253402300800000000 : Int64)), .second, .val (.long (315569520000000000 : Int64)), .second, .val (.int (p1 &&& (3 : Int32))), .val (.long m1), .second, .val (.ref r_73), .unset, .unset] [(.long m1), (.ref r_73)]))
        obtain ⟨v_74, T_74, L_74, X_74, hQ_74, st_74⟩ := goS X_73 hx hZ (y := ({ cls := "com/example/hallstatt/hallstatt/api/ListingParameters", name := "positionTime", desc := "(Ljava/lang/String;J)Ljava/time/Instant;" } : Jvm.MethodName)) hown (wd_29 hw) (wd_30 hw) (wd_31 hw) (wd_32 hw) (by decide) (backOf (W := 0) (rm_posTime l Z a0 hw ep mc sm ea be cz zc (r_73) (m1) T_73.heap n0 (Nat.le_trans Z0 KP_73.1) hm1 hSt O_73) hZ (wd_32 hw) (wd_31 hw) (by decide) (by decide)) rfl (g := (mkF m 105 #[.val (.long x1), .second, .val (.int p1), .val (.int p2), .val (.long (-62167219200000000 : Int64)), .second, .val (.long (253402300800000000 : Int64)), .second, .val (.long (315569520000000000 : Int64)), .second, .val (.int (p1 &&& (3 : Int32))), .val (.long m1), .second, .val (.ref r_73), .unset, .unset] [(.long m1), (.ref r_73)])) rfl (by rw [hml]; rfl) (argsL := [(.ref r_73), (.long m1)]) (rest := []) rfl (lenOf pd_14 rfl) rfl (by show 2 * 0 + _ ≤ _; exact Nat.le_of_eq rfl) (hb hby at_105) (by decide) (by decide)
        obtain ⟨r_74, se_74, na_74, rfl, Nq_74, K_74, u0_74, u1_74, u2_74, u3_74⟩ := hQ_74
        have N_74 := Fr.app N_73 Nq_74
        have le_74 : T_73.heap.size ≤ T_74.heap.size := K_74.1
        have KP_74 := KP_73.trans K_74 all0
        have O_74 := O_73.keep K_74 all0
        have hres_74 := u3_74
        refine Go.step st_74 ?_
        show Go p e below _ (T_74.setTop (mkF m 108 #[.val (.long x1), .second, .val (.int p1), .val (.int p2), .val (.long (-62167219200000000 : Int64)), .second, .val (.long (253402300800000000 : Int64)), .second, .val (.long (315569520000000000 : Int64)), .second, .val (.int (p1 &&& (3 : Int32))), .val (.long m1), .second, .val (.ref r_73), .unset, .unset] [(.ref r_74)]))
        obtain ⟨v_75, T_75, L_75, X_75, hQ_75, st_75⟩ := goS X_74 hx hZ (y := ({ cls := "com/example/hallstatt/hallstatt/api/ListingParameters", name := "micros", desc := "(Ljava/time/Instant;)J" } : Jvm.MethodName)) hown (wd_113 hw) (wd_114 hw) (wd_31 hw) (wd_115 hw) (by decide) (backOf (W := 0) (rm_micros l Z a0 hw ep mc sm ea be cz zc (r_74) (se_74) (na_74) (m1) T_74.heap n0 (Nat.le_trans Z0 KP_74.1) u0_74 u1_74 u2_74 hm1 hres_74 hSt O_74) hZ (wd_115 hw) (wd_31 hw) (by decide) (by decide)) rfl (g := (mkF m 108 #[.val (.long x1), .second, .val (.int p1), .val (.int p2), .val (.long (-62167219200000000 : Int64)), .second, .val (.long (253402300800000000 : Int64)), .second, .val (.long (315569520000000000 : Int64)), .second, .val (.int (p1 &&& (3 : Int32))), .val (.long m1), .second, .val (.ref r_73), .unset, .unset] [(.ref r_74)])) rfl (by rw [hml]; rfl) (argsL := [(.ref r_74)]) (rest := []) rfl (lenOf pd_15 rfl) rfl (by show 2 * 0 + _ ≤ _; exact Nat.le_of_eq rfl) (hb hby at_108) (by decide) (by decide)
        obtain ⟨rfl, Nq_75, e_75⟩ := hQ_75
        have N_75 := Fr.app N_74 Nq_75
        refine Go.step st_75 ?_
        show Go p e below _ (T_75.setTop (mkF m 111 #[.val (.long x1), .second, .val (.int p1), .val (.int p2), .val (.long (-62167219200000000 : Int64)), .second, .val (.long (253402300800000000 : Int64)), .second, .val (.long (315569520000000000 : Int64)), .second, .val (.int (p1 &&& (3 : Int32))), .val (.long m1), .second, .val (.ref r_73), .unset, .unset] [(.long m1)]))
        refine Go.step (fun _ k => XS.lstore X_75.here hx rfl (hb hby at_111) rfl (l' := #[.val (.long x1), .second, .val (.int p1), .val (.int p2), .val (.long (-62167219200000000 : Int64)), .second, .val (.long (253402300800000000 : Int64)), .second, .val (.long (315569520000000000 : Int64)), .second, .val (.int (p1 &&& (3 : Int32))), .val (.long m1), .second, .val (.ref r_73), .val (.long m1), .second]) rfl k) ?_
        show Go p e below _ (T_75.setTop (mkF m 113 #[.val (.long x1), .second, .val (.int p1), .val (.int p2), .val (.long (-62167219200000000 : Int64)), .second, .val (.long (253402300800000000 : Int64)), .second, .val (.long (315569520000000000 : Int64)), .second, .val (.int (p1 &&& (3 : Int32))), .val (.long m1), .second, .val (.ref r_73), .val (.long m1), .second] []))
        refine Go.step (fun _ k => XS.lload X_75.here hx rfl (hb hby at_113) rfl  k) ?_
        show Go p e below _ (T_75.setTop (mkF m 115 #[.val (.long x1), .second, .val (.int p1), .val (.int p2), .val (.long (-62167219200000000 : Int64)), .second, .val (.long (253402300800000000 : Int64)), .second, .val (.long (315569520000000000 : Int64)), .second, .val (.int (p1 &&& (3 : Int32))), .val (.long m1), .second, .val (.ref r_73), .val (.long m1), .second] [(.long m1)]))
        refine Go.step (fun _ k => XS.lload X_75.here hx rfl (hb hby at_115) rfl  k) ?_
        show Go p e below _ (T_75.setTop (mkF m 117 #[.val (.long x1), .second, .val (.int p1), .val (.int p2), .val (.long (-62167219200000000 : Int64)), .second, .val (.long (253402300800000000 : Int64)), .second, .val (.long (315569520000000000 : Int64)), .second, .val (.int (p1 &&& (3 : Int32))), .val (.long m1), .second, .val (.ref r_73), .val (.long m1), .second] [(.long m1), (.long m1)]))
        refine Go.step (fun _ k => XS.lcmp X_75.here hx rfl (hb hby at_117) rfl k) ?_
        show Go p e below _ (T_75.setTop (mkF m 118 #[.val (.long x1), .second, .val (.int p1), .val (.int p2), .val (.long (-62167219200000000 : Int64)), .second, .val (.long (253402300800000000 : Int64)), .second, .val (.long (315569520000000000 : Int64)), .second, .val (.int (p1 &&& (3 : Int32))), .val (.long m1), .second, .val (.ref r_73), .val (.long m1), .second] [(.int (lcmpW m1 m1))]))
        refine Go.step (fun _ k => XS.ifNo X_75.here hx rfl (hb hby at_118) rfl ((if0 _ _).trans (teq ((lw_eq _ _).mpr (rfl : m1 = m1))).2) k) ?_
        show Go p e below _ (T_75.setTop (mkF m 121 #[.val (.long x1), .second, .val (.int p1), .val (.int p2), .val (.long (-62167219200000000 : Int64)), .second, .val (.long (253402300800000000 : Int64)), .second, .val (.long (315569520000000000 : Int64)), .second, .val (.int (p1 &&& (3 : Int32))), .val (.long m1), .second, .val (.ref r_73), .val (.long m1), .second] []))
        refine Go.step (fun _ k => XS.iconst X_75.here hx rfl (hb hby at_121) k) ?_
        show Go p e below _ (T_75.setTop (mkF m 122 #[.val (.long x1), .second, .val (.int p1), .val (.int p2), .val (.long (-62167219200000000 : Int64)), .second, .val (.long (253402300800000000 : Int64)), .second, .val (.long (315569520000000000 : Int64)), .second, .val (.int (p1 &&& (3 : Int32))), .val (.long m1), .second, .val (.ref r_73), .val (.long m1), .second] [(.int (1 : Int32))]))
        refine Go.step (fun _ k => XS.goto X_75.here hx rfl (pc0 := 122) (pc' := 126) rfl (hb hby at_122) (by decide) (by decide) k) ?_
        show Go p e below _ (T_75.setTop (mkF m 126 #[.val (.long x1), .second, .val (.int p1), .val (.int p2), .val (.long (-62167219200000000 : Int64)), .second, .val (.long (253402300800000000 : Int64)), .second, .val (.long (315569520000000000 : Int64)), .second, .val (.int (p1 &&& (3 : Int32))), .val (.long m1), .second, .val (.ref r_73), .val (.long m1), .second] [(.int (1 : Int32))]))
        exact Go.retV X_75 hx hlk hret rfl (Or.inl ⟨rfl, Or.inr (Or.inl rfl), _, rfl⟩) (hb hby at_126) (by decide) (by decide) (by rw [e_75]; exact ⟨rfl, N_75⟩)
set_option maxRecDepth 65536 in
set_option maxHeartbeats 40000000 in
theorem comes_1 {Post : Tables → Env → Array Value → State → Outcome → State → Prop} (hpost : ∀ tb e args s v u, (limb_1_1.after args s (.returned v) u = true ∧ limb_1_2.after args s (.returned v) u = true ∧ True) → FrameEnd s (.returned v) u (Jvm.fieldLocs frame_1_writes args s ++ Jvm.arrayLocs frame_1_arrays args s ++ Jvm.staticLocs frame_1_statics s) 16 128 → Post tb e args s (.returned v) u) :
    ArmFor flags0 classFile x code maxLocals ret World_1 tables_1 room_1 Calls_1 rest_1 Pre_1 Post := by
  intro l hfl _ _ p e ha hc hk s m args below hf hA hF happ hP
  obtain ⟨hcalls, hrest, hpre⟩ := hP
  obtain ⟨-, -, -, hnamed, -, -, -, hat⟩ := (Spec.applies_iff hf).mp happ
  obtain ⟨hg, hn⟩ := and_e (Cond.before_iff.mp (show (Jvm.Cond.and given_1 narrow_1).before args s = true from hpre))
  obtain ⟨g1, g2⟩ := and_e hg
  obtain ⟨g3, g4⟩ := and_e g2
  obtain ⟨g5, g6⟩ := and_e g4
  obtain ⟨w0, w1, w2, rfl⟩ : ∃ w0 w1 w2 : Value, args = #[w0, w1, w2] := by
    have hs : args.size = 3 := by simpa [Cond.value, given_1] using g1
    obtain ⟨L⟩ := args
    match L, hs with
    | [w0, w1, w2], _ => exact ⟨w0, w1, w2, rfl⟩
  have hw := fun d (hd : d ∈ tables_1) => atoms_spec (ws := Jvm.Cond.code x code maxLocals ret :: tables_1) hat d (List.mem_cons_of_mem _ hd)
  obtain ⟨hsets, hown0⟩ := atoms_of _ (rest_1_c_eq ▸ (show rest_1_c.before _ s = true from hrest))
  obtain ⟨i0, ei0⟩ := isL_v g3
  obtain rfl : w0 = (.long i0) := Option.some.inj ei0
  obtain ⟨i1, ei1⟩ := is_v g5
  obtain rfl : w1 = (.int i1) := Option.some.inj ei1
  obtain ⟨i2, ei2⟩ := is_v g6
  obtain rfl : w2 = (.int i2) := Option.some.inj ei2
  obtain ⟨n1, n2⟩ := and_e hn
  obtain ⟨n3, n4⟩ := and_e n2
  obtain ⟨n5, n6⟩ := and_e n4
  obtain ⟨n7, n8⟩ := and_e n6
  have hs := fun (k : Nat) (d : Jvm.Cond) (h : jdkStatics_1[k]? = some d) => Cond.before_iff.mp (hsets d (List.mem_of_getElem? h))
  obtain ⟨ea, S_ea, E_ea, v_ea⟩ := sta_obj (Or.inr ⟨(wd_31 hw), (wd_96 hw)⟩) n1
  obtain ⟨be, S_be, E_be, v_be⟩ := sta_obj (Or.inr ⟨(wd_31 hw), (wd_112 hw)⟩) n5
  obtain ⟨ep, S_ep, E_ep, v_ep⟩ := sta_obj (Or.inl (hsets _ (List.mem_of_getElem? (i := 10) rfl))) (hs 11 _ rfl)
  obtain ⟨mc, S_mc, E_mc, v_mc⟩ := sta_obj (Or.inl (hsets _ (List.mem_of_getElem? (i := 15) rfl))) (hs 16 _ rfl)
  obtain ⟨sm, S_sm, E_sm, v_sm⟩ := sta_obj (Or.inl (hsets _ (List.mem_of_getElem? (i := 24) rfl))) (hs 26 _ rfl)
  obtain ⟨cz, A_sm⟩ := Arr.start v_sm (hs 25 _ rfl)
  obtain ⟨in_sm, at_sm⟩ := elem_in (eqv_i (Term.int_eval 2) (hs 29 _ rfl)) v_sm (Term.int_eval 1) A_sm.1
  obtain ⟨zc, ezc⟩ := is_v (hs 1 _ rfl)
  have S_cs : Sta s s.heap "java/lang/String" "COMPACT_STRINGS" "Z" (.int zc) := Sta.start ezc (Or.inl (hsets _ (List.mem_of_getElem? (i := 0) rfl)))
  have n_cs : ¬ (zc = (0 : Int32)) := gotF (Cond.eq_ints ezc (Term.int_eval (0))) (not_v (hs 2 _ rfl))
  have hSt : St s ep mc sm ea be cz zc := ⟨S_cs, n_cs, S_ep, E_ep, fld_l v_ep (hs 12 _ rfl), fld_i v_ep (hs 13 _ rfl), S_mc, E_mc, fld_i v_mc (hs 18 _ rfl), S_sm, A_sm, in_sm, at_sm, S_ea, E_ea, fld_l v_ea n3, fld_i v_ea n8, S_be, E_be, fld_l v_be n7⟩
  obtain ⟨n, o, h1, h2, h3, _, L, rfl, ⟨rfl, N⟩, hq⟩ := rm_law l s _ hw ep mc sm ea be cz zc i0 i1 i2 s.heap s.heap.size (Nat.le_refl _) hSt (Old.start s) p e ha hc hk s m _ below hf ((Spec.applies_iff_loose hf).mp happ).1 ⟨rfl, State.Warmed39.refl s, rfl⟩ trivial
  refine ⟨n, _, h1, h2, h3, hpost _ _ _ _ _ _ ⟨Cond.after_iff.mpr rfl, Cond.after_iff.mpr (eq_i res_at (Term.int_eval (1)) rfl), trivial⟩ ⟨hq.1, hq.2.1, (hq.2.2.sift fun y hy => Or.inr (N y hy)).mono (by decide) (by decide)⟩⟩
theorem main_1_1 : Claimed_1_1 := comes_1 fun _ _ _ _ _ _ h hF => ⟨h.1, hF⟩
theorem main_1_2 : Claimed_1_2 := comes_1 fun _ _ _ _ _ _ h hF => ⟨h.2.1, hF⟩
end Jvm.Pilot.@@N@@
namespace Jvm.Pilot.@@N@@
open Jvm Jvm.ClassFile Sem Op Lib Jvm.Free Jvm.Stand Jvm.Pilot.@@N@@.Jvm.D
/-! MADE BY PROGRAM (witnessworld.py) out of the Statement's table words and the real class files: 30 classes; the members and pool entries that the words name. The judged class is class 1, her method 1. -/
namespace start1
open Jvm.ClassFile
def u (s : String) : CpInfo := .utf8 (stringToUtf16 s)
/-- a pool by its gaps: so many unusable entries, then the entry; so many at the end -/
def gap : Nat → List CpInfo → List CpInfo
  | 0, r => r
  | n + 1, r => .unusable :: gap n r
def poolList (es : List (Nat × CpInfo)) (last : Nat) : List CpInfo := es.foldr (fun e r => gap e.1 (e.2 :: r)) (gap last [])
def pool (es : List (Nat × CpInfo)) (last : Nat) : Array CpInfo := ⟨poolList es last⟩
def fileOf (pool : Array CpInfo) (this : Nat) (attrs : Array Attribute := #[]) (ms : Array MethodInfo := #[]) (fl : Nat := 33) (sup : Nat := 0) (ifs : Array Nat := #[]) (fds : Array FieldInfo := #[]) : ClassFile where
  minorVersion := 0
  majorVersion := 65
  constantPool := pool
  accessFlags := fl
  thisClass := this
  superClass := sup
  interfaces := ifs
  fields := fds
  methods := ms
  attributes := attrs
def plain (name : String) (sup : Option ClassId) : Class where
  name := name
  kind := .ordinary
  loader := none
  accessFlags := 33
  super := sup
  interfaces := #[]
  cf := none
  fields := #[]
  methods := #[]
  instanceTypes := #[]
  staticTypes := #[]
  resolved := #[]
  callSites := []
  init := .initialized
  statics := none
  mirror := none

def pool0 : Array CpInfo := pool [(5, u "<init>"), (0, u "()V"), (1, .class_ 10), (1, u "java/lang/Object")] 113

def k0c0 : Code := { maxStack := 0, maxLocals := 1, code := object_method_1_code, exceptionTable := #[], attributes := #[] }
def k0m0 : Method := { name := "<init>", desc := "()V", sig := { parameters := [], returnType := none }, accessFlags := 1, code := some k0c0 }
/-- java/lang/Object -/
def k0 : Class := { plain "java/lang/Object" none with
  accessFlags := 33
  interfaces := #[]
  cf := some (fileOf pool0 8 #[] #[{ accessFlags := 1, nameIndex := 5, descriptorIndex := 6, attributes := #[] }] 33 0 #[] #[])
  fields := #[]
  methods := #[k0m0]
  instanceTypes := #[]
  staticTypes := #[]
  resolved := Array.replicate 124 none
  statics := none }

def pool1 : Array CpInfo := pool [(2, .class_ 4), (1, u "java/lang/Object"), (0, u "<init>"), (0, u "()V"), (0, .long 18384576854509551616), (1, .long 253402300800000000), (3, .long 9223372036854775807), (1, .long 1023), (1, .long 1000000000), (1, .methodref 20 21), (0, .class_ 22), (0, .nameAndType 23 24), (0, u "java/lang/String"), (0, u "valueOf"), (0, u "(C)Ljava/lang/String;"), (0, .methodref 26 27), (0, .class_ 28), (0, .nameAndType 29 30), (0, u "com/example/hallstatt/hallstatt/api/ListingParameters"), (0, u "positionTime"), (0, u "(Ljava/lang/String;J)Ljava/time/Instant;"), (0, .methodref 26 32), (0, .nameAndType 33 34), (0, u "micros"), (0, u "(Ljava/time/Instant;)J"), (0, .class_ 36), (0, u "com/example/hallstatt/hallstatt/api/ListingParametersPositionTimePinLaw"), (2, u "law"), (0, u "(JII)Z")] 3

def k1m0 : Method := { name := "<init>", desc := "()V", sig := { parameters := [], returnType := none }, accessFlags := 2, code := none }
def k1c1 : Code := { maxStack := 6, maxLocals := 16, code := code, exceptionTable := #[], attributes := #[] }
def k1m1 : Method := { name := "law", desc := "(JII)Z", sig := { parameters := [.long, .int, .int], returnType := some .boolean }, accessFlags := 9, code := some k1c1 }
/-- com/example/hallstatt/hallstatt/api/ListingParametersPositionTimePinLaw -/
def k1 : Class := { plain "com/example/hallstatt/hallstatt/api/ListingParametersPositionTimePinLaw" (some 0) with
  accessFlags := 49
  interfaces := #[]
  cf := some (fileOf pool1 35 #[] #[{ accessFlags := 2, nameIndex := 5, descriptorIndex := 6, attributes := #[] }, { accessFlags := 9, nameIndex := 39, descriptorIndex := 40, attributes := #[] }] 49 2 #[] #[])
  fields := #[]
  methods := #[k1m0, k1m1]
  instanceTypes := #[]
  staticTypes := #[]
  resolved := Array.replicate 44 none
  statics := none }

def pool2 : Array CpInfo := pool [(1, .class_ 2), (0, u "java/io/Serializable"), (0, .class_ 4), (0, u "java/lang/Object")] 2

/-- java/io/Serializable -/
def k2 : Class := { plain "java/io/Serializable" (some 0) with
  accessFlags := 1537
  interfaces := #[]
  cf := some (fileOf pool2 1 #[] #[] 1537 3 #[] #[])
  fields := #[]
  methods := #[]
  instanceTypes := #[]
  staticTypes := #[]
  resolved := Array.replicate 7 none
  statics := none }

def pool3 : Array CpInfo := pool [(1, .class_ 2), (0, u "java/lang/Comparable"), (0, .class_ 4), (0, u "java/lang/Object")] 7

/-- java/lang/Comparable -/
def k3 : Class := { plain "java/lang/Comparable" (some 0) with
  accessFlags := 1537
  interfaces := #[]
  cf := some (fileOf pool3 1 #[] #[] 1537 3 #[] #[])
  fields := #[]
  methods := #[]
  instanceTypes := #[]
  staticTypes := #[]
  resolved := Array.replicate 12 none
  statics := none }

def pool4 : Array CpInfo := pool [(2, .class_ 4), (1, u "java/lang/CharSequence"), (42, .class_ 48), (0, u "java/lang/CharSequence$1CodePointIterator"), (10, .class_ 60), (0, u "java/lang/CharSequence$1CharIterator"), (5, .class_ 67), (0, u "java/lang/Object")] 63

/-- java/lang/CharSequence -/
def k4 : Class := { plain "java/lang/CharSequence" (some 0) with
  accessFlags := 1537
  interfaces := #[]
  cf := some (fileOf pool4 2 #[.nestMembers #[47, 59]] #[] 1537 66 #[] #[])
  fields := #[]
  methods := #[]
  instanceTypes := #[]
  staticTypes := #[]
  resolved := Array.replicate 131 none
  statics := none }

def pool5 : Array CpInfo := pool [(1, .class_ 2), (0, u "java/lang/constant/Constable"), (0, .class_ 4), (0, u "java/lang/Object")] 6

/-- java/lang/constant/Constable -/
def k5 : Class := { plain "java/lang/constant/Constable" (some 0) with
  accessFlags := 1537
  interfaces := #[]
  cf := some (fileOf pool5 1 #[] #[] 1537 3 #[] #[])
  fields := #[]
  methods := #[]
  instanceTypes := #[]
  staticTypes := #[]
  resolved := Array.replicate 11 none
  statics := none }

def pool6 : Array CpInfo := pool [(1, .class_ 2), (0, u "java/lang/constant/ConstantDesc"), (0, .class_ 4), (0, u "java/lang/Object")] 32

/-- java/lang/constant/ConstantDesc -/
def k6 : Class := { plain "java/lang/constant/ConstantDesc" (some 0) with
  accessFlags := 1537
  interfaces := #[]
  cf := some (fileOf pool6 1 #[] #[] 1537 3 #[] #[])
  fields := #[]
  methods := #[]
  instanceTypes := #[]
  staticTypes := #[]
  resolved := Array.replicate 37 none
  statics := none }

def pool7 : Array CpInfo := pool [(1, .methodref 2 3), (0, .class_ 4), (0, .nameAndType 5 6), (0, u "java/lang/Object"), (0, u "<init>"), (0, u "()V"), (2, .fieldref 10 11), (0, .class_ 12), (0, .nameAndType 13 14), (0, u "java/lang/String"), (0, u "value"), (0, u "[B"), (0, .fieldref 10 16), (0, .nameAndType 17 18), (0, u "coder"), (0, u "B"), (2, u "hash"), (0, u "I"), (2, u "hashIsZero"), (0, u "Z"), (11, .fieldref 10 39), (0, .nameAndType 40 26), (0, u "COMPACT_STRINGS"), (12, u "toBytes"), (53, .class_ 109), (1, u "java/lang/StringLatin1"), (99, .methodref 10 210), (0, .nameAndType 5 211), (0, u "([BB)V"), (157, u "(C)Z"), (205, .class_ 576), (0, u "java/lang/CharSequence"), (22, u "CASE_INSENSITIVE_ORDER"), (0, u "Ljava/util/Comparator;"), (181, u "valueOf"), (0, u "(C)Ljava/lang/String;"), (231, .methodref 107 1016), (0, .nameAndType 1017 369), (0, u "canEncode"), (0, .methodref 107 1019), (0, .nameAndType 53 1020), (0, u "(C)[B"), (80, u "serialPersistentFields"), (0, u "[Ljava/io/ObjectStreamField;"), (0, .class_ 1104), (0, u "java/lang/String$CaseInsensitiveComparator"), (1, .class_ 1107), (0, u "java/io/Serializable"), (0, .class_ 1109), (0, u "java/lang/Comparable"), (0, .class_ 1111), (0, u "java/lang/constant/Constable"), (0, .class_ 1113), (0, u "java/lang/constant/ConstantDesc"), (2, u "serialVersionUID"), (0, u "J"), (3, u "REPL"), (0, u "C"), (2, u "LATIN1"), (1, u "UTF16")] 323

def k7m0 : Method := { name := "<init>", desc := "()V", sig := { parameters := [], returnType := none }, accessFlags := 1, code := none }
def k7c1 : Code := { maxStack := 4, maxLocals := 1, code := jdk_42_method_139_code, exceptionTable := #[], attributes := #[] }
def k7m1 : Method := { name := "valueOf", desc := "(C)Ljava/lang/String;", sig := { parameters := [.char], returnType := some (.object "java/lang/String") }, accessFlags := 9, code := some k7c1 }
def k7c2 : Code := { maxStack := 2, maxLocals := 3, code := jdk_42_method_151_code, exceptionTable := #[], attributes := #[] }
def k7m2 : Method := { name := "<init>", desc := "([BB)V", sig := { parameters := [(.array .byte), .byte], returnType := none }, accessFlags := 0, code := some k7c2 }
/-- java/lang/String -/
def k7 : Class := { plain "java/lang/String" (some 0) with
  accessFlags := 49
  interfaces := #[2, 3, 4, 5, 6]
  cf := some (fileOf pool7 10 #[.nestMembers #[1103]] #[{ accessFlags := 1, nameIndex := 5, descriptorIndex := 6, attributes := #[] }, { accessFlags := 9, nameIndex := 782, descriptorIndex := 783, attributes := #[] }, { accessFlags := 0, nameIndex := 5, descriptorIndex := 211, attributes := #[] }] 49 2 #[1106, 1108, 575, 1110, 1112] #[{ accessFlags := 18, nameIndex := 13, descriptorIndex := 14, attributes := #[] }, { accessFlags := 18, nameIndex := 17, descriptorIndex := 18, attributes := #[] }, { accessFlags := 2, nameIndex := 21, descriptorIndex := 22, attributes := #[] }, { accessFlags := 2, nameIndex := 25, descriptorIndex := 26, attributes := #[] }, { accessFlags := 26, nameIndex := 1116, descriptorIndex := 1117, attributes := #[] }, { accessFlags := 24, nameIndex := 40, descriptorIndex := 26, attributes := #[] }, { accessFlags := 26, nameIndex := 1101, descriptorIndex := 1102, attributes := #[] }, { accessFlags := 26, nameIndex := 1121, descriptorIndex := 1122, attributes := #[] }, { accessFlags := 25, nameIndex := 599, descriptorIndex := 600, attributes := #[] }, { accessFlags := 24, nameIndex := 1125, descriptorIndex := 18, attributes := #[] }, { accessFlags := 24, nameIndex := 1127, descriptorIndex := 18, attributes := #[] }])
  fields := #[{ name := "value", type := (.array .byte), accessFlags := 18, slot := 0, constantValue := 0 }, { name := "coder", type := .byte, accessFlags := 18, slot := 1, constantValue := 0 }, { name := "hash", type := .int, accessFlags := 2, slot := 2, constantValue := 0 }, { name := "hashIsZero", type := .boolean, accessFlags := 2, slot := 3, constantValue := 0 }, { name := "serialVersionUID", type := .long, accessFlags := 26, slot := 0, constantValue := 0 }, { name := "COMPACT_STRINGS", type := .boolean, accessFlags := 24, slot := 1, constantValue := 0 }, { name := "serialPersistentFields", type := (.array (.object "java/io/ObjectStreamField")), accessFlags := 26, slot := 2, constantValue := 0 }, { name := "REPL", type := .char, accessFlags := 26, slot := 3, constantValue := 0 }, { name := "CASE_INSENSITIVE_ORDER", type := (.object "java/util/Comparator"), accessFlags := 25, slot := 4, constantValue := 0 }, { name := "LATIN1", type := .byte, accessFlags := 24, slot := 5, constantValue := 0 }, { name := "UTF16", type := .byte, accessFlags := 24, slot := 6, constantValue := 0 }]
  methods := #[k7m0, k7m1, k7m2]
  instanceTypes := #[(.array .byte), .byte, .int, .boolean]
  staticTypes := #[.long, .boolean, (.array (.object "java/io/ObjectStreamField")), .char, (.object "java/util/Comparator"), .byte, .byte]
  resolved := Array.replicate 1451 none
  statics := some 0 }

def pool8 : Array CpInfo := pool [(4, .class_ 6), (1, u "java/lang/Object"), (0, u "<init>"), (0, u "()V"), (5, .class_ 16), (1, u "java/lang/StringLatin1"), (73, u "canEncode"), (14, u "(C)Z"), (15, u "$assertionsDisabled"), (0, u "Z"), (98, .class_ 223), (1, u "java/lang/StringLatin1$LinesSpliterator"), (156, u "toBytes"), (1, u "(C)[B"), (7, .class_ 391), (0, u "java/lang/StringLatin1$CharsSpliterator")] 3

def k8m0 : Method := { name := "<init>", desc := "()V", sig := { parameters := [], returnType := none }, accessFlags := 0, code := none }
def k8c1 : Code := { maxStack := 2, maxLocals := 1, code := jdk_43_method_3_code, exceptionTable := #[], attributes := #[] }
def k8m1 : Method := { name := "canEncode", desc := "(C)Z", sig := { parameters := [.char], returnType := some .boolean }, accessFlags := 9, code := some k8c1 }
def k8c2 : Code := { maxStack := 4, maxLocals := 1, code := jdk_43_method_46_code, exceptionTable := #[], attributes := #[] }
def k8m2 : Method := { name := "toBytes", desc := "(C)[B", sig := { parameters := [.char], returnType := some (.array .byte) }, accessFlags := 9, code := some k8c2 }
/-- java/lang/StringLatin1 -/
def k8 : Class := { plain "java/lang/StringLatin1" (some 0) with
  accessFlags := 48
  interfaces := #[]
  cf := some (fileOf pool8 14 #[.nestMembers #[390, 221]] #[{ accessFlags := 0, nameIndex := 7, descriptorIndex := 8, attributes := #[] }, { accessFlags := 9, nameIndex := 90, descriptorIndex := 105, attributes := #[] }, { accessFlags := 9, nameIndex := 380, descriptorIndex := 382, attributes := #[] }] 48 4 #[] #[{ accessFlags := 4120, nameIndex := 121, descriptorIndex := 122, attributes := #[] }])
  fields := #[{ name := "$assertionsDisabled", type := .boolean, accessFlags := 4120, slot := 0, constantValue := 0 }]
  methods := #[k8m0, k8m1, k8m2]
  instanceTypes := #[]
  staticTypes := #[.boolean]
  resolved := Array.replicate 395 none
  statics := none }

def pool9 : Array CpInfo := pool [(2, .class_ 4), (1, u "java/lang/Object"), (0, u "<init>"), (0, u "()V"), (0, .class_ 8), (0, u "com/example/hallstatt/hallstatt/api/ListingParameters"), (23, u "RFC_3339"), (0, u "Ljava/time/format/DateTimeFormatter;"), (10, .class_ 45), (0, u "java/time/Instant"), (6, .methodref 7 53), (0, .nameAndType 54 55), (0, u "inRange"), (0, u "(Ljava/time/Instant;)Z"), (19, u "CURSOR_TEXT"), (0, u "Ljava/util/Base64$Encoder;"), (55, .methodref 44 133), (0, .nameAndType 134 135), (0, u "getEpochSecond"), (0, u "()J"), (0, .long 1000000), (1, .methodref 44 139), (0, .nameAndType 140 141), (0, u "getNano"), (0, u "()I"), (0, .fieldref 44 143), (0, .nameAndType 144 145), (0, u "EPOCH"), (0, u "Ljava/time/Instant;"), (0, .fieldref 147 148), (0, .class_ 149), (0, .nameAndType 150 151), (0, u "java/time/temporal/ChronoUnit"), (0, u "MICROS"), (0, u "Ljava/time/temporal/ChronoUnit;"), (0, .methodref 44 153), (0, .nameAndType 154 155), (0, u "plus"), (0, u "(JLjava/time/temporal/TemporalUnit;)Ljava/time/Instant;"), (0, .fieldref 7 157), (0, .nameAndType 158 145), (0, u "EARLIEST"), (0, .methodref 44 160), (0, .nameAndType 161 55), (0, u "isBefore"), (0, .fieldref 7 163), (0, .nameAndType 164 145), (0, u "BEYOND_LATEST"), (105, u "DEFAULT_LIMIT"), (0, u "I"), (2, u "MAX_LIMIT"), (15, u "micros"), (0, u "(Ljava/time/Instant;)J"), (0, u "positionTime"), (0, u "(Ljava/lang/String;J)Ljava/time/Instant;")] 39

def k9m0 : Method := { name := "<init>", desc := "()V", sig := { parameters := [], returnType := none }, accessFlags := 2, code := none }
def k9c1 : Code := { maxStack := 4, maxLocals := 1, code := prog_12_method_6_code, exceptionTable := #[], attributes := #[] }
def k9m1 : Method := { name := "micros", desc := "(Ljava/time/Instant;)J", sig := { parameters := [(.object "java/time/Instant")], returnType := some .long }, accessFlags := 8, code := some k9c1 }
def k9c2 : Code := { maxStack := 4, maxLocals := 4, code := prog_12_method_7_code, exceptionTable := #[], attributes := #[] }
def k9m2 : Method := { name := "positionTime", desc := "(Ljava/lang/String;J)Ljava/time/Instant;", sig := { parameters := [(.object "java/lang/String"), .long], returnType := some (.object "java/time/Instant") }, accessFlags := 8, code := some k9c2 }
def k9c3 : Code := { maxStack := 2, maxLocals := 1, code := prog_12_method_8_code, exceptionTable := #[], attributes := #[] }
def k9m3 : Method := { name := "inRange", desc := "(Ljava/time/Instant;)Z", sig := { parameters := [(.object "java/time/Instant")], returnType := some .boolean }, accessFlags := 10, code := some k9c3 }
/-- com/example/hallstatt/hallstatt/api/ListingParameters -/
def k9 : Class := { plain "com/example/hallstatt/hallstatt/api/ListingParameters" (some 0) with
  accessFlags := 32
  interfaces := #[]
  cf := some (fileOf pool9 7 #[] #[{ accessFlags := 2, nameIndex := 5, descriptorIndex := 6, attributes := #[] }, { accessFlags := 8, nameIndex := 290, descriptorIndex := 291, attributes := #[] }, { accessFlags := 8, nameIndex := 292, descriptorIndex := 293, attributes := #[] }, { accessFlags := 10, nameIndex := 54, descriptorIndex := 55, attributes := #[] }] 32 2 #[] #[{ accessFlags := 26, nameIndex := 270, descriptorIndex := 271, attributes := #[] }, { accessFlags := 26, nameIndex := 274, descriptorIndex := 271, attributes := #[] }, { accessFlags := 26, nameIndex := 32, descriptorIndex := 33, attributes := #[] }, { accessFlags := 26, nameIndex := 158, descriptorIndex := 145, attributes := #[] }, { accessFlags := 26, nameIndex := 164, descriptorIndex := 145, attributes := #[] }, { accessFlags := 26, nameIndex := 75, descriptorIndex := 76, attributes := #[] }])
  fields := #[{ name := "DEFAULT_LIMIT", type := .int, accessFlags := 26, slot := 0, constantValue := 0 }, { name := "MAX_LIMIT", type := .int, accessFlags := 26, slot := 1, constantValue := 0 }, { name := "RFC_3339", type := (.object "java/time/format/DateTimeFormatter"), accessFlags := 26, slot := 2, constantValue := 0 }, { name := "EARLIEST", type := (.object "java/time/Instant"), accessFlags := 26, slot := 3, constantValue := 0 }, { name := "BEYOND_LATEST", type := (.object "java/time/Instant"), accessFlags := 26, slot := 4, constantValue := 0 }, { name := "CURSOR_TEXT", type := (.object "java/util/Base64$Encoder"), accessFlags := 26, slot := 5, constantValue := 0 }]
  methods := #[k9m0, k9m1, k9m2, k9m3]
  instanceTypes := #[]
  staticTypes := #[.int, .int, (.object "java/time/format/DateTimeFormatter"), (.object "java/time/Instant"), (.object "java/time/Instant"), (.object "java/util/Base64$Encoder")]
  resolved := Array.replicate 333 none
  statics := some 1 }

def pool10 : Array CpInfo := pool [(4, .class_ 6), (1, u "java/time/temporal/TemporalAccessor"), (95, .class_ 103), (0, u "java/lang/Object")] 21

/-- java/time/temporal/TemporalAccessor -/
def k10 : Class := { plain "java/time/temporal/TemporalAccessor" (some 0) with
  accessFlags := 1537
  interfaces := #[]
  cf := some (fileOf pool10 4 #[] #[] 1537 102 #[] #[])
  fields := #[]
  methods := #[]
  instanceTypes := #[]
  staticTypes := #[]
  resolved := Array.replicate 125 none
  statics := none }

def pool11 : Array CpInfo := pool [(22, .class_ 24), (1, u "java/time/temporal/Temporal"), (2, .class_ 28), (0, u "java/lang/Object"), (0, .class_ 30), (0, u "java/time/temporal/TemporalAccessor")] 25

/-- java/time/temporal/Temporal -/
def k11 : Class := { plain "java/time/temporal/Temporal" (some 0) with
  accessFlags := 1537
  interfaces := #[10]
  cf := some (fileOf pool11 22 #[] #[] 1537 27 #[29] #[])
  fields := #[]
  methods := #[]
  instanceTypes := #[]
  staticTypes := #[]
  resolved := Array.replicate 56 none
  statics := none }

def pool12 : Array CpInfo := pool [(1, .class_ 2), (0, u "java/time/temporal/TemporalAdjuster"), (0, .class_ 4), (0, u "java/lang/Object")] 6

/-- java/time/temporal/TemporalAdjuster -/
def k12 : Class := { plain "java/time/temporal/TemporalAdjuster" (some 0) with
  accessFlags := 1537
  interfaces := #[]
  cf := some (fileOf pool12 1 #[] #[] 1537 3 #[] #[])
  fields := #[]
  methods := #[]
  instanceTypes := #[]
  staticTypes := #[]
  resolved := Array.replicate 11 none
  statics := none }

def pool13 : Array CpInfo := pool [(20, .methodref 21 22), (0, .class_ 23), (0, .nameAndType 24 25), (0, u "java/time/Instant"), (0, u "create"), (0, u "(JI)Ljava/time/Instant;"), (0, .long 1000000000), (1, .methodref 29 30), (0, .class_ 31), (0, .nameAndType 32 33), (0, u "java/lang/Math"), (0, u "floorDiv"), (0, u "(JJ)J"), (0, .methodref 29 35), (0, .nameAndType 36 33), (0, u "addExact"), (0, .methodref 29 38), (0, .nameAndType 39 33), (0, u "floorMod"), (28, .methodref 21 69), (0, .nameAndType 70 71), (0, u "ofEpochSecond"), (0, u "(JJ)Ljava/time/Instant;"), (5, .nameAndType 78 79), (0, u "<init>"), (0, u "()V"), (43, u "EPOCH"), (0, u "Ljava/time/Instant;"), (0, .long 18415187059542332416), (1, .long 31556889864403199), (6, .methodref 21 135), (0, .nameAndType 78 136), (0, u "(JI)V"), (0, .methodref 138 77), (0, .class_ 139), (0, u "java/lang/Object"), (0, .fieldref 21 141), (0, .nameAndType 142 143), (0, u "seconds"), (0, u "J"), (0, .fieldref 21 145), (0, .nameAndType 146 147), (0, u "nanos"), (0, u "I"), (12, .class_ 161), (0, u "java/time/temporal/ChronoUnit"), (14, .class_ 178), (1, u "java/time/temporal/Temporal"), (3, .class_ 184), (1, u "java/time/Instant$1"), (1, u "[I"), (1, .nameAndType 189 190), (0, u "ordinal"), (0, u "()I"), (17, .class_ 210), (1, u "java/time/temporal/TemporalAdjuster"), (21, u "()J"), (20, .fieldref 182 254), (0, .nameAndType 255 186), (0, u "$SwitchMap$java$time$temporal$ChronoUnit"), (0, .methodref 160 188), (0, .long 1000000), (1, .long 1000), (1, .methodref 21 262), (0, .nameAndType 263 71), (0, u "plus"), (18, .class_ 283), (0, u "java/lang/Long"), (6, u "(JLjava/time/temporal/TemporalUnit;)Ljava/time/Instant;"), (76, .methodref 282 368), (0, .nameAndType 369 370), (0, u "compare"), (0, u "(JJ)I"), (0, .methodref 21 372), (0, .nameAndType 373 374), (0, u "compareTo"), (0, u "(Ljava/time/Instant;)I"), (48, u "MIN"), (4, u "MAX"), (0, .class_ 430), (0, u "java/lang/Comparable"), (0, .class_ 432), (0, u "java/io/Serializable"), (0, u "MIN_SECOND"), (1, u "MAX_SECOND"), (0, u "serialVersionUID"), (33, u "getEpochSecond"), (0, u "getNano"), (54, u "(Ljava/time/Instant;)Z"), (0, u "isBefore")] 51

def k13c0 : Code := { maxStack := 6, maxLocals := 7, code := jdk_2320_method_4_code, exceptionTable := #[], attributes := #[] }
def k13m0 : Method := { name := "ofEpochSecond", desc := "(JJ)Ljava/time/Instant;", sig := { parameters := [.long, .long], returnType := some (.object "java/time/Instant") }, accessFlags := 9, code := some k13c0 }
def k13c1 : Code := { maxStack := 5, maxLocals := 3, code := jdk_2320_method_8_code, exceptionTable := #[], attributes := #[] }
def k13m1 : Method := { name := "create", desc := "(JI)Ljava/time/Instant;", sig := { parameters := [.long, .int], returnType := some (.object "java/time/Instant") }, accessFlags := 10, code := some k13c1 }
def k13c2 : Code := { maxStack := 3, maxLocals := 4, code := jdk_2320_method_9_code, exceptionTable := #[], attributes := #[] }
def k13m2 : Method := { name := "<init>", desc := "(JI)V", sig := { parameters := [.long, .int], returnType := none }, accessFlags := 2, code := some k13c2 }
def k13c3 : Code := { maxStack := 2, maxLocals := 1, code := jdk_2320_method_15_code, exceptionTable := #[], attributes := #[] }
def k13m3 : Method := { name := "getEpochSecond", desc := "()J", sig := { parameters := [], returnType := some .long }, accessFlags := 1, code := some k13c3 }
def k13c4 : Code := { maxStack := 1, maxLocals := 1, code := jdk_2320_method_16_code, exceptionTable := #[], attributes := #[] }
def k13m4 : Method := { name := "getNano", desc := "()I", sig := { parameters := [], returnType := some .int }, accessFlags := 1, code := some k13c4 }
def k13c5 : Code := { maxStack := 7, maxLocals := 5, code := jdk_2320_method_21_code, exceptionTable := #[], attributes := #[] }
def k13m5 : Method := { name := "plus", desc := "(JLjava/time/temporal/TemporalUnit;)Ljava/time/Instant;", sig := { parameters := [.long, (.object "java/time/temporal/TemporalUnit")], returnType := some (.object "java/time/Instant") }, accessFlags := 1, code := some k13c5 }
def k13c6 : Code := { maxStack := 6, maxLocals := 9, code := jdk_2320_method_25_code, exceptionTable := #[], attributes := #[] }
def k13m6 : Method := { name := "plus", desc := "(JJ)Ljava/time/Instant;", sig := { parameters := [.long, .long], returnType := some (.object "java/time/Instant") }, accessFlags := 2, code := some k13c6 }
def k13c7 : Code := { maxStack := 4, maxLocals := 3, code := jdk_2320_method_41_code, exceptionTable := #[], attributes := #[] }
def k13m7 : Method := { name := "compareTo", desc := "(Ljava/time/Instant;)I", sig := { parameters := [(.object "java/time/Instant")], returnType := some .int }, accessFlags := 1, code := some k13c7 }
def k13c8 : Code := { maxStack := 2, maxLocals := 2, code := jdk_2320_method_43_code, exceptionTable := #[], attributes := #[] }
def k13m8 : Method := { name := "isBefore", desc := "(Ljava/time/Instant;)Z", sig := { parameters := [(.object "java/time/Instant")], returnType := some .boolean }, accessFlags := 1, code := some k13c8 }
/-- java/time/Instant -/
def k13 : Class := { plain "java/time/Instant" (some 0) with
  accessFlags := 49
  interfaces := #[11, 12, 3, 2]
  cf := some (fileOf pool13 21 #[.nestMembers #[182]] #[{ accessFlags := 9, nameIndex := 70, descriptorIndex := 71, attributes := #[] }, { accessFlags := 10, nameIndex := 24, descriptorIndex := 25, attributes := #[] }, { accessFlags := 2, nameIndex := 78, descriptorIndex := 136, attributes := #[] }, { accessFlags := 1, nameIndex := 470, descriptorIndex := 232, attributes := #[] }, { accessFlags := 1, nameIndex := 471, descriptorIndex := 190, attributes := #[] }, { accessFlags := 1, nameIndex := 263, descriptorIndex := 290, attributes := #[] }, { accessFlags := 2, nameIndex := 263, descriptorIndex := 71, attributes := #[] }, { accessFlags := 1, nameIndex := 373, descriptorIndex := 374, attributes := #[] }, { accessFlags := 1, nameIndex := 527, descriptorIndex := 526, attributes := #[] }] 49 138 #[176, 208, 429, 431] #[{ accessFlags := 25, nameIndex := 123, descriptorIndex := 124, attributes := #[] }, { accessFlags := 26, nameIndex := 433, descriptorIndex := 143, attributes := #[] }, { accessFlags := 26, nameIndex := 435, descriptorIndex := 143, attributes := #[] }, { accessFlags := 25, nameIndex := 423, descriptorIndex := 124, attributes := #[] }, { accessFlags := 25, nameIndex := 428, descriptorIndex := 124, attributes := #[] }, { accessFlags := 26, nameIndex := 436, descriptorIndex := 143, attributes := #[] }, { accessFlags := 18, nameIndex := 142, descriptorIndex := 143, attributes := #[] }, { accessFlags := 18, nameIndex := 146, descriptorIndex := 147, attributes := #[] }])
  fields := #[{ name := "EPOCH", type := (.object "java/time/Instant"), accessFlags := 25, slot := 0, constantValue := 0 }, { name := "MIN_SECOND", type := .long, accessFlags := 26, slot := 1, constantValue := 0 }, { name := "MAX_SECOND", type := .long, accessFlags := 26, slot := 2, constantValue := 0 }, { name := "MIN", type := (.object "java/time/Instant"), accessFlags := 25, slot := 3, constantValue := 0 }, { name := "MAX", type := (.object "java/time/Instant"), accessFlags := 25, slot := 4, constantValue := 0 }, { name := "serialVersionUID", type := .long, accessFlags := 26, slot := 5, constantValue := 0 }, { name := "seconds", type := .long, accessFlags := 18, slot := 0, constantValue := 0 }, { name := "nanos", type := .int, accessFlags := 18, slot := 1, constantValue := 0 }]
  methods := #[k13m0, k13m1, k13m2, k13m3, k13m4, k13m5, k13m6, k13m7, k13m8]
  instanceTypes := #[.long, .int]
  staticTypes := #[(.object "java/time/Instant"), .long, .long, (.object "java/time/Instant"), (.object "java/time/Instant"), .long]
  resolved := Array.replicate 579 none
  statics := some 2 }

def pool14 : Array CpInfo := pool [(2, .class_ 4), (1, u "java/lang/Enum"), (0, u "name"), (0, u "Ljava/lang/String;"), (0, .fieldref 2 8), (0, .nameAndType 9 10), (0, u "ordinal"), (0, u "I"), (1, .class_ 14), (1, u "java/lang/Object"), (4, u "hash"), (86, .class_ 108), (1, u "java/lang/Enum$EnumDesc"), (2, .class_ 112), (0, u "java/lang/constant/Constable"), (0, .class_ 114), (0, u "java/lang/Comparable"), (0, .class_ 116), (0, u "java/io/Serializable"), (9, u "()I")] 77

def k14c0 : Code := { maxStack := 1, maxLocals := 1, code := jdk_37_method_2_code, exceptionTable := #[], attributes := #[] }
def k14m0 : Method := { name := "ordinal", desc := "()I", sig := { parameters := [], returnType := some .int }, accessFlags := 17, code := some k14c0 }
/-- java/lang/Enum -/
def k14 : Class := { plain "java/lang/Enum" (some 0) with
  accessFlags := 1057
  interfaces := #[5, 3, 2]
  cf := some (fileOf pool14 2 #[.nestMembers #[106]] #[{ accessFlags := 17, nameIndex := 9, descriptorIndex := 126, attributes := #[] }] 1057 12 #[111, 113, 115] #[{ accessFlags := 18, nameIndex := 5, descriptorIndex := 6, attributes := #[] }, { accessFlags := 18, nameIndex := 9, descriptorIndex := 10, attributes := #[] }, { accessFlags := 2, nameIndex := 19, descriptorIndex := 10, attributes := #[] }])
  fields := #[{ name := "name", type := (.object "java/lang/String"), accessFlags := 18, slot := 0, constantValue := 0 }, { name := "ordinal", type := .int, accessFlags := 18, slot := 1, constantValue := 0 }, { name := "hash", type := .int, accessFlags := 2, slot := 2, constantValue := 0 }]
  methods := #[k14m0]
  instanceTypes := #[(.object "java/lang/String"), .int, .int]
  staticTypes := #[]
  resolved := Array.replicate 204 none
  statics := none }

def pool15 : Array CpInfo := pool [(4, .class_ 6), (1, u "java/time/temporal/TemporalUnit"), (23, .class_ 31), (0, u "java/lang/Object")] 27

/-- java/time/temporal/TemporalUnit -/
def k15 : Class := { plain "java/time/temporal/TemporalUnit" (some 0) with
  accessFlags := 1537
  interfaces := #[]
  cf := some (fileOf pool15 4 #[] #[] 1537 30 #[] #[])
  fields := #[]
  methods := #[]
  instanceTypes := #[]
  staticTypes := #[]
  resolved := Array.replicate 59 none
  statics := none }

def pool16 : Array CpInfo := pool [(1, .class_ 2), (0, u "java/time/temporal/ChronoUnit"), (2, u "NANOS"), (0, u "Ljava/time/temporal/ChronoUnit;"), (2, u "MICROS"), (2, u "MILLIS"), (2, u "SECONDS"), (2, u "MINUTES"), (2, u "HOURS"), (2, u "HALF_DAYS"), (2, u "DAYS"), (2, u "WEEKS"), (2, u "MONTHS"), (2, u "YEARS"), (2, u "DECADES"), (2, u "CENTURIES"), (2, u "MILLENNIA"), (2, u "ERAS"), (2, u "FOREVER"), (2, u "$VALUES"), (0, u "[Ljava/time/temporal/ChronoUnit;"), (6, .class_ 64), (1, u "java/lang/Enum"), (8, u "name"), (0, u "Ljava/lang/String;"), (2, u "duration"), (0, u "Ljava/time/Duration;"), (117, .class_ 197), (0, u "java/time/temporal/TemporalUnit")] 39

/-- java/time/temporal/ChronoUnit -/
def k16 : Class := { plain "java/time/temporal/ChronoUnit" (some 14) with
  accessFlags := 16433
  interfaces := #[15]
  cf := some (fileOf pool16 1 #[] #[] 16433 62 #[196] #[{ accessFlags := 16409, nameIndex := 5, descriptorIndex := 6, attributes := #[] }, { accessFlags := 16409, nameIndex := 9, descriptorIndex := 6, attributes := #[] }, { accessFlags := 16409, nameIndex := 12, descriptorIndex := 6, attributes := #[] }, { accessFlags := 16409, nameIndex := 15, descriptorIndex := 6, attributes := #[] }, { accessFlags := 16409, nameIndex := 18, descriptorIndex := 6, attributes := #[] }, { accessFlags := 16409, nameIndex := 21, descriptorIndex := 6, attributes := #[] }, { accessFlags := 16409, nameIndex := 24, descriptorIndex := 6, attributes := #[] }, { accessFlags := 16409, nameIndex := 27, descriptorIndex := 6, attributes := #[] }, { accessFlags := 16409, nameIndex := 30, descriptorIndex := 6, attributes := #[] }, { accessFlags := 16409, nameIndex := 33, descriptorIndex := 6, attributes := #[] }, { accessFlags := 16409, nameIndex := 36, descriptorIndex := 6, attributes := #[] }, { accessFlags := 16409, nameIndex := 39, descriptorIndex := 6, attributes := #[] }, { accessFlags := 16409, nameIndex := 42, descriptorIndex := 6, attributes := #[] }, { accessFlags := 16409, nameIndex := 45, descriptorIndex := 6, attributes := #[] }, { accessFlags := 16409, nameIndex := 48, descriptorIndex := 6, attributes := #[] }, { accessFlags := 16409, nameIndex := 51, descriptorIndex := 6, attributes := #[] }, { accessFlags := 18, nameIndex := 73, descriptorIndex := 74, attributes := #[] }, { accessFlags := 18, nameIndex := 77, descriptorIndex := 78, attributes := #[] }, { accessFlags := 4122, nameIndex := 54, descriptorIndex := 55, attributes := #[] }])
  fields := #[{ name := "NANOS", type := (.object "java/time/temporal/ChronoUnit"), accessFlags := 16409, slot := 0, constantValue := 0 }, { name := "MICROS", type := (.object "java/time/temporal/ChronoUnit"), accessFlags := 16409, slot := 1, constantValue := 0 }, { name := "MILLIS", type := (.object "java/time/temporal/ChronoUnit"), accessFlags := 16409, slot := 2, constantValue := 0 }, { name := "SECONDS", type := (.object "java/time/temporal/ChronoUnit"), accessFlags := 16409, slot := 3, constantValue := 0 }, { name := "MINUTES", type := (.object "java/time/temporal/ChronoUnit"), accessFlags := 16409, slot := 4, constantValue := 0 }, { name := "HOURS", type := (.object "java/time/temporal/ChronoUnit"), accessFlags := 16409, slot := 5, constantValue := 0 }, { name := "HALF_DAYS", type := (.object "java/time/temporal/ChronoUnit"), accessFlags := 16409, slot := 6, constantValue := 0 }, { name := "DAYS", type := (.object "java/time/temporal/ChronoUnit"), accessFlags := 16409, slot := 7, constantValue := 0 }, { name := "WEEKS", type := (.object "java/time/temporal/ChronoUnit"), accessFlags := 16409, slot := 8, constantValue := 0 }, { name := "MONTHS", type := (.object "java/time/temporal/ChronoUnit"), accessFlags := 16409, slot := 9, constantValue := 0 }, { name := "YEARS", type := (.object "java/time/temporal/ChronoUnit"), accessFlags := 16409, slot := 10, constantValue := 0 }, { name := "DECADES", type := (.object "java/time/temporal/ChronoUnit"), accessFlags := 16409, slot := 11, constantValue := 0 }, { name := "CENTURIES", type := (.object "java/time/temporal/ChronoUnit"), accessFlags := 16409, slot := 12, constantValue := 0 }, { name := "MILLENNIA", type := (.object "java/time/temporal/ChronoUnit"), accessFlags := 16409, slot := 13, constantValue := 0 }, { name := "ERAS", type := (.object "java/time/temporal/ChronoUnit"), accessFlags := 16409, slot := 14, constantValue := 0 }, { name := "FOREVER", type := (.object "java/time/temporal/ChronoUnit"), accessFlags := 16409, slot := 15, constantValue := 0 }, { name := "name", type := (.object "java/lang/String"), accessFlags := 18, slot := 3, constantValue := 0 }, { name := "duration", type := (.object "java/time/Duration"), accessFlags := 18, slot := 4, constantValue := 0 }, { name := "$VALUES", type := (.array (.object "java/time/temporal/ChronoUnit")), accessFlags := 4122, slot := 16, constantValue := 0 }]
  methods := #[]
  instanceTypes := #[(.object "java/lang/String"), .int, .int, (.object "java/lang/String"), (.object "java/time/Duration")]
  staticTypes := #[(.object "java/time/temporal/ChronoUnit"), (.object "java/time/temporal/ChronoUnit"), (.object "java/time/temporal/ChronoUnit"), (.object "java/time/temporal/ChronoUnit"), (.object "java/time/temporal/ChronoUnit"), (.object "java/time/temporal/ChronoUnit"), (.object "java/time/temporal/ChronoUnit"), (.object "java/time/temporal/ChronoUnit"), (.object "java/time/temporal/ChronoUnit"), (.object "java/time/temporal/ChronoUnit"), (.object "java/time/temporal/ChronoUnit"), (.object "java/time/temporal/ChronoUnit"), (.object "java/time/temporal/ChronoUnit"), (.object "java/time/temporal/ChronoUnit"), (.object "java/time/temporal/ChronoUnit"), (.object "java/time/temporal/ChronoUnit"), (.array (.object "java/time/temporal/ChronoUnit"))]
  resolved := Array.replicate 237 none
  statics := some 3 }

def pool17 : Array CpInfo := pool [(8, .class_ 10), (1, u "java/time/Instant$1"), (0, u "$SwitchMap$java$time$temporal$ChronoUnit"), (0, u "[I"), (38, u "$SwitchMap$java$time$temporal$ChronoField"), (14, .class_ 67), (0, u "java/lang/Object"), (9, .class_ 78), (0, u "java/time/Instant")] 2

/-- java/time/Instant$1 -/
def k17 : Class := { plain "java/time/Instant$1" (some 0) with
  accessFlags := 4128
  interfaces := #[]
  cf := some (fileOf pool17 8 #[.nestHost 77] #[] 4128 66 #[] #[{ accessFlags := 4120, nameIndex := 51, descriptorIndex := 12, attributes := #[] }, { accessFlags := 4120, nameIndex := 11, descriptorIndex := 12, attributes := #[] }])
  fields := #[{ name := "$SwitchMap$java$time$temporal$ChronoField", type := (.array .int), accessFlags := 4120, slot := 0, constantValue := 0 }, { name := "$SwitchMap$java$time$temporal$ChronoUnit", type := (.array .int), accessFlags := 4120, slot := 1, constantValue := 0 }]
  methods := #[]
  instanceTypes := #[]
  staticTypes := #[(.array .int), (.array .int)]
  resolved := Array.replicate 81 none
  statics := some 4 }

def pool18 : Array CpInfo := pool [(1, .class_ 2), (0, u "java/lang/Math"), (1, .class_ 6), (1, u "java/lang/Object"), (0, u "<init>"), (0, u "()V"), (89, .class_ 100), (1, u "java/lang/Math$RandomNumberGeneratorHolder"), (20, u "(JJ)J"), (23, u "floorDiv"), (2, u "floorMod"), (23, u "negativeZeroFloatBits"), (0, u "J"), (2, u "negativeZeroDoubleBits"), (68, u "$assertionsDisabled"), (0, u "Z"), (91, u "twoToTheDoubleScaleDown"), (0, u "D"), (4, u "twoToTheDoubleScaleUp"), (9, u "E"), (3, u "PI"), (2, u "TAU"), (2, u "DEGREES_TO_RADIANS"), (0, u "RADIANS_TO_DEGREES"), (27, u "addExact")] 66

def k18m0 : Method := { name := "<init>", desc := "()V", sig := { parameters := [], returnType := none }, accessFlags := 2, code := none }
def k18c1 : Code := { maxStack := 6, maxLocals := 6, code := jdk_29_method_25_code, exceptionTable := #[], attributes := #[] }
def k18m1 : Method := { name := "addExact", desc := "(JJ)J", sig := { parameters := [.long, .long], returnType := some .long }, accessFlags := 9, code := some k18c1 }
def k18c2 : Code := { maxStack := 4, maxLocals := 6, code := jdk_29_method_49_code, exceptionTable := #[], attributes := #[] }
def k18m2 : Method := { name := "floorDiv", desc := "(JJ)J", sig := { parameters := [.long, .long], returnType := some .long }, accessFlags := 9, code := some k18c2 }
def k18c3 : Code := { maxStack := 4, maxLocals := 6, code := jdk_29_method_52_code, exceptionTable := #[], attributes := #[] }
def k18m3 : Method := { name := "floorMod", desc := "(JJ)J", sig := { parameters := [.long, .long], returnType := some .long }, accessFlags := 9, code := some k18c3 }
/-- java/lang/Math -/
def k18 : Class := { plain "java/lang/Math" (some 0) with
  accessFlags := 49
  interfaces := #[]
  cf := some (fileOf pool18 1 #[.nestMembers #[98]] #[{ accessFlags := 2, nameIndex := 7, descriptorIndex := 8, attributes := #[] }, { accessFlags := 9, nameIndex := 393, descriptorIndex := 121, attributes := #[] }, { accessFlags := 9, nameIndex := 145, descriptorIndex := 121, attributes := #[] }, { accessFlags := 9, nameIndex := 148, descriptorIndex := 121, attributes := #[] }] 49 4 #[] #[{ accessFlags := 25, nameIndex := 354, descriptorIndex := 339, attributes := #[] }, { accessFlags := 25, nameIndex := 358, descriptorIndex := 339, attributes := #[] }, { accessFlags := 25, nameIndex := 361, descriptorIndex := 339, attributes := #[] }, { accessFlags := 26, nameIndex := 364, descriptorIndex := 339, attributes := #[] }, { accessFlags := 26, nameIndex := 365, descriptorIndex := 339, attributes := #[] }, { accessFlags := 26, nameIndex := 172, descriptorIndex := 173, attributes := #[] }, { accessFlags := 26, nameIndex := 176, descriptorIndex := 173, attributes := #[] }, { accessFlags := 8, nameIndex := 344, descriptorIndex := 339, attributes := #[] }, { accessFlags := 8, nameIndex := 338, descriptorIndex := 339, attributes := #[] }, { accessFlags := 4120, nameIndex := 245, descriptorIndex := 246, attributes := #[] }])
  fields := #[{ name := "E", type := .double, accessFlags := 25, slot := 0, constantValue := 0 }, { name := "PI", type := .double, accessFlags := 25, slot := 1, constantValue := 0 }, { name := "TAU", type := .double, accessFlags := 25, slot := 2, constantValue := 0 }, { name := "DEGREES_TO_RADIANS", type := .double, accessFlags := 26, slot := 3, constantValue := 0 }, { name := "RADIANS_TO_DEGREES", type := .double, accessFlags := 26, slot := 4, constantValue := 0 }, { name := "negativeZeroFloatBits", type := .long, accessFlags := 26, slot := 5, constantValue := 0 }, { name := "negativeZeroDoubleBits", type := .long, accessFlags := 26, slot := 6, constantValue := 0 }, { name := "twoToTheDoubleScaleUp", type := .double, accessFlags := 8, slot := 7, constantValue := 0 }, { name := "twoToTheDoubleScaleDown", type := .double, accessFlags := 8, slot := 8, constantValue := 0 }, { name := "$assertionsDisabled", type := .boolean, accessFlags := 4120, slot := 9, constantValue := 0 }]
  methods := #[k18m0, k18m1, k18m2, k18m3]
  instanceTypes := #[]
  staticTypes := #[.double, .double, .double, .double, .double, .long, .long, .double, .double, .boolean]
  resolved := Array.replicate 460 none
  statics := none }

def pool19 : Array CpInfo := pool [(2, .class_ 4), (1, u "java/lang/Object"), (0, u "<init>"), (0, u "()V"), (1, .class_ 10), (1, u "java/lang/Number"), (2, .class_ 14), (0, u "java/io/Serializable"), (0, u "serialVersionUID"), (0, u "J")] 20

def k19m0 : Method := { name := "<init>", desc := "()V", sig := { parameters := [], returnType := none }, accessFlags := 1, code := none }
/-- java/lang/Number -/
def k19 : Class := { plain "java/lang/Number" (some 0) with
  accessFlags := 1057
  interfaces := #[2]
  cf := some (fileOf pool19 8 #[] #[{ accessFlags := 1, nameIndex := 5, descriptorIndex := 6, attributes := #[] }] 1057 2 #[13] #[{ accessFlags := 26, nameIndex := 15, descriptorIndex := 16, attributes := #[] }])
  fields := #[{ name := "serialVersionUID", type := .long, accessFlags := 26, slot := 0, constantValue := 0 }]
  methods := #[k19m0]
  instanceTypes := #[]
  staticTypes := #[.long]
  resolved := Array.replicate 37 none
  statics := none }

def pool20 : Array CpInfo := pool [(1, .class_ 2), (0, u "java/lang/Long"), (232, .class_ 237), (1, u "java/lang/Long$LongCache"), (33, .class_ 272), (0, u "java/lang/Number"), (2, u "value"), (0, u "J"), (27, u "compare"), (0, u "(JJ)I"), (55, u "TYPE"), (0, u "Ljava/lang/Class;"), (0, .class_ 364), (0, u "java/lang/Comparable"), (0, .class_ 366), (0, u "java/lang/constant/Constable"), (0, .class_ 368), (0, u "java/lang/constant/ConstantDesc"), (0, u "MIN_VALUE"), (1, u "MAX_VALUE"), (4, u "SIZE"), (0, u "I"), (1, u "BYTES"), (1, u "serialVersionUID")] 142

def k20c0 : Code := { maxStack := 4, maxLocals := 4, code := jdk_35_method_42_code, exceptionTable := #[], attributes := #[] }
def k20m0 : Method := { name := "compare", desc := "(JJ)I", sig := { parameters := [.long, .long], returnType := some .int }, accessFlags := 9, code := some k20c0 }
/-- java/lang/Long -/
def k20 : Class := { plain "java/lang/Long" (some 19) with
  accessFlags := 49
  interfaces := #[3, 5, 6]
  cf := some (fileOf pool20 1 #[.nestMembers #[235]] #[{ accessFlags := 9, nameIndex := 304, descriptorIndex := 305, attributes := #[] }] 49 271 #[363, 365, 367] #[{ accessFlags := 25, nameIndex := 369, descriptorIndex := 276, attributes := #[] }, { accessFlags := 25, nameIndex := 371, descriptorIndex := 276, attributes := #[] }, { accessFlags := 25, nameIndex := 361, descriptorIndex := 362, attributes := #[] }, { accessFlags := 18, nameIndex := 275, descriptorIndex := 276, attributes := #[] }, { accessFlags := 25, nameIndex := 376, descriptorIndex := 377, attributes := #[] }, { accessFlags := 25, nameIndex := 379, descriptorIndex := 377, attributes := #[] }, { accessFlags := 26, nameIndex := 381, descriptorIndex := 276, attributes := #[] }])
  fields := #[{ name := "MIN_VALUE", type := .long, accessFlags := 25, slot := 0, constantValue := 0 }, { name := "MAX_VALUE", type := .long, accessFlags := 25, slot := 1, constantValue := 0 }, { name := "TYPE", type := (.object "java/lang/Class"), accessFlags := 25, slot := 2, constantValue := 0 }, { name := "value", type := .long, accessFlags := 18, slot := 0, constantValue := 0 }, { name := "SIZE", type := .int, accessFlags := 25, slot := 3, constantValue := 0 }, { name := "BYTES", type := .int, accessFlags := 25, slot := 4, constantValue := 0 }, { name := "serialVersionUID", type := .long, accessFlags := 26, slot := 5, constantValue := 0 }]
  methods := #[k20m0]
  instanceTypes := #[.long]
  staticTypes := #[.long, .long, (.object "java/lang/Class"), .int, .int, .long]
  resolved := Array.replicate 524 none
  statics := none }

def pool21 : Array CpInfo := pool [(2, .class_ 4), (1, u "java/lang/Object"), (0, u "<init>"), (0, u "()V"), (17, .class_ 26), (1, u "jdk/internal/util/Preconditions"), (28, .class_ 56), (0, u "jdk/internal/util/Preconditions$4"), (57, .class_ 115), (0, u "jdk/internal/util/Preconditions$1"), (7, u "SIOOBE_FORMATTER"), (0, u "Ljava/util/function/BiFunction;"), (0, .class_ 126), (0, u "jdk/internal/util/Preconditions$2"), (3, u "AIOOBE_FORMATTER"), (0, .class_ 132), (0, u "jdk/internal/util/Preconditions$3"), (3, u "IOOBE_FORMATTER")] 57

def k21m0 : Method := { name := "<init>", desc := "()V", sig := { parameters := [], returnType := none }, accessFlags := 1, code := none }
/-- jdk/internal/util/Preconditions -/
def k21 : Class := { plain "jdk/internal/util/Preconditions" (some 0) with
  accessFlags := 33
  interfaces := #[]
  cf := some (fileOf pool21 24 #[.nestMembers #[55, 131, 125, 114]] #[{ accessFlags := 1, nameIndex := 5, descriptorIndex := 6, attributes := #[] }] 33 2 #[] #[{ accessFlags := 25, nameIndex := 123, descriptorIndex := 124, attributes := #[] }, { accessFlags := 25, nameIndex := 130, descriptorIndex := 124, attributes := #[] }, { accessFlags := 25, nameIndex := 136, descriptorIndex := 124, attributes := #[] }])
  fields := #[{ name := "SIOOBE_FORMATTER", type := (.object "java/util/function/BiFunction"), accessFlags := 25, slot := 0, constantValue := 0 }, { name := "AIOOBE_FORMATTER", type := (.object "java/util/function/BiFunction"), accessFlags := 25, slot := 1, constantValue := 0 }, { name := "IOOBE_FORMATTER", type := (.object "java/util/function/BiFunction"), accessFlags := 25, slot := 2, constantValue := 0 }]
  methods := #[k21m0]
  instanceTypes := #[]
  staticTypes := #[(.object "java/util/function/BiFunction"), (.object "java/util/function/BiFunction"), (.object "java/util/function/BiFunction")]
  resolved := Array.replicate 194 none
  statics := some 5 }

def pool22 : Array CpInfo := pool [(9, u "<init>"), (6, .class_ 18), (1, u "java/lang/Object"), (0, u "()V"), (1, .class_ 23), (1, u "jdk/internal/util/ArraysSupport"), (0, u "LOG2_ARRAY_LONG_INDEX_SCALE"), (0, u "I"), (2, u "U"), (0, u "Ljdk/internal/misc/Unsafe;"), (8, u "BIG_ENDIAN"), (0, u "Z"), (8, u "LOG2_BYTE_BIT_SIZE"), (4, u "LOG2_ARRAY_INT_INDEX_SCALE"), (54, u "JLA"), (0, u "Ljdk/internal/access/JavaLangAccess;"), (11, u "LOG2_ARRAY_BOOLEAN_INDEX_SCALE"), (9, u "LOG2_ARRAY_BYTE_INDEX_SCALE"), (5, u "LOG2_ARRAY_CHAR_INDEX_SCALE"), (5, u "LOG2_ARRAY_SHORT_INDEX_SCALE"), (18, u "LOG2_ARRAY_FLOAT_INDEX_SCALE"), (24, u "LOG2_ARRAY_DOUBLE_INDEX_SCALE"), (89, u "T_BOOLEAN"), (2, u "T_CHAR"), (1, u "T_FLOAT"), (1, u "T_DOUBLE"), (1, u "T_BYTE"), (1, u "T_SHORT"), (1, u "T_INT"), (1, u "T_LONG"), (1, u "SOFT_MAX_ARRAY_LENGTH")] 83

def k22m0 : Method := { name := "<init>", desc := "()V", sig := { parameters := [], returnType := none }, accessFlags := 2, code := none }
/-- jdk/internal/util/ArraysSupport -/
def k22 : Class := { plain "jdk/internal/util/ArraysSupport" (some 0) with
  accessFlags := 33
  interfaces := #[]
  cf := some (fileOf pool22 21 #[] #[{ accessFlags := 2, nameIndex := 9, descriptorIndex := 19, attributes := #[] }] 33 16 #[] #[{ accessFlags := 24, nameIndex := 28, descriptorIndex := 29, attributes := #[] }, { accessFlags := 26, nameIndex := 38, descriptorIndex := 39, attributes := #[] }, { accessFlags := 25, nameIndex := 121, descriptorIndex := 25, attributes := #[] }, { accessFlags := 25, nameIndex := 131, descriptorIndex := 25, attributes := #[] }, { accessFlags := 25, nameIndex := 137, descriptorIndex := 25, attributes := #[] }, { accessFlags := 25, nameIndex := 143, descriptorIndex := 25, attributes := #[] }, { accessFlags := 25, nameIndex := 53, descriptorIndex := 25, attributes := #[] }, { accessFlags := 25, nameIndex := 24, descriptorIndex := 25, attributes := #[] }, { accessFlags := 25, nameIndex := 162, descriptorIndex := 25, attributes := #[] }, { accessFlags := 25, nameIndex := 187, descriptorIndex := 25, attributes := #[] }, { accessFlags := 26, nameIndex := 48, descriptorIndex := 25, attributes := #[] }, { accessFlags := 25, nameIndex := 277, descriptorIndex := 25, attributes := #[] }, { accessFlags := 25, nameIndex := 280, descriptorIndex := 25, attributes := #[] }, { accessFlags := 25, nameIndex := 282, descriptorIndex := 25, attributes := #[] }, { accessFlags := 25, nameIndex := 284, descriptorIndex := 25, attributes := #[] }, { accessFlags := 25, nameIndex := 286, descriptorIndex := 25, attributes := #[] }, { accessFlags := 25, nameIndex := 288, descriptorIndex := 25, attributes := #[] }, { accessFlags := 25, nameIndex := 290, descriptorIndex := 25, attributes := #[] }, { accessFlags := 25, nameIndex := 292, descriptorIndex := 25, attributes := #[] }, { accessFlags := 26, nameIndex := 108, descriptorIndex := 109, attributes := #[] }, { accessFlags := 25, nameIndex := 294, descriptorIndex := 25, attributes := #[] }])
  fields := #[{ name := "U", type := (.object "jdk/internal/misc/Unsafe"), accessFlags := 24, slot := 0, constantValue := 0 }, { name := "BIG_ENDIAN", type := .boolean, accessFlags := 26, slot := 1, constantValue := 0 }, { name := "LOG2_ARRAY_BOOLEAN_INDEX_SCALE", type := .int, accessFlags := 25, slot := 2, constantValue := 0 }, { name := "LOG2_ARRAY_BYTE_INDEX_SCALE", type := .int, accessFlags := 25, slot := 3, constantValue := 0 }, { name := "LOG2_ARRAY_CHAR_INDEX_SCALE", type := .int, accessFlags := 25, slot := 4, constantValue := 0 }, { name := "LOG2_ARRAY_SHORT_INDEX_SCALE", type := .int, accessFlags := 25, slot := 5, constantValue := 0 }, { name := "LOG2_ARRAY_INT_INDEX_SCALE", type := .int, accessFlags := 25, slot := 6, constantValue := 0 }, { name := "LOG2_ARRAY_LONG_INDEX_SCALE", type := .int, accessFlags := 25, slot := 7, constantValue := 0 }, { name := "LOG2_ARRAY_FLOAT_INDEX_SCALE", type := .int, accessFlags := 25, slot := 8, constantValue := 0 }, { name := "LOG2_ARRAY_DOUBLE_INDEX_SCALE", type := .int, accessFlags := 25, slot := 9, constantValue := 0 }, { name := "LOG2_BYTE_BIT_SIZE", type := .int, accessFlags := 26, slot := 10, constantValue := 0 }, { name := "T_BOOLEAN", type := .int, accessFlags := 25, slot := 11, constantValue := 0 }, { name := "T_CHAR", type := .int, accessFlags := 25, slot := 12, constantValue := 0 }, { name := "T_FLOAT", type := .int, accessFlags := 25, slot := 13, constantValue := 0 }, { name := "T_DOUBLE", type := .int, accessFlags := 25, slot := 14, constantValue := 0 }, { name := "T_BYTE", type := .int, accessFlags := 25, slot := 15, constantValue := 0 }, { name := "T_SHORT", type := .int, accessFlags := 25, slot := 16, constantValue := 0 }, { name := "T_INT", type := .int, accessFlags := 25, slot := 17, constantValue := 0 }, { name := "T_LONG", type := .int, accessFlags := 25, slot := 18, constantValue := 0 }, { name := "JLA", type := (.object "jdk/internal/access/JavaLangAccess"), accessFlags := 26, slot := 19, constantValue := 0 }, { name := "SOFT_MAX_ARRAY_LENGTH", type := .int, accessFlags := 25, slot := 20, constantValue := 0 }]
  methods := #[k22m0]
  instanceTypes := #[]
  staticTypes := #[(.object "jdk/internal/misc/Unsafe"), .boolean, .int, .int, .int, .int, .int, .int, .int, .int, .int, .int, .int, .int, .int, .int, .int, .int, .int, (.object "jdk/internal/access/JavaLangAccess"), .int]
  resolved := Array.replicate 378 none
  statics := none }

def pool23 : Array CpInfo := pool [(1, .class_ 2), (0, u "java/time/temporal/TemporalAmount"), (0, .class_ 4), (0, u "java/lang/Object")] 11

/-- java/time/temporal/TemporalAmount -/
def k23 : Class := { plain "java/time/temporal/TemporalAmount" (some 0) with
  accessFlags := 1537
  interfaces := #[]
  cf := some (fileOf pool23 1 #[] #[] 1537 3 #[] #[])
  fields := #[]
  methods := #[]
  instanceTypes := #[]
  staticTypes := #[]
  resolved := Array.replicate 16 none
  statics := none }

def pool24 : Array CpInfo := pool [(11, .class_ 13), (1, u "java/time/Duration"), (20, u "ZERO"), (0, u "Ljava/time/Duration;"), (13, .class_ 51), (1, u "java/time/temporal/TemporalAmount"), (27, .class_ 81), (1, u "java/time/Duration$Lazy"), (35, u "seconds"), (101, .class_ 220), (0, u "java/lang/Object"), (2, u "J"), (2, u "nanos"), (0, u "I"), (11, .class_ 241), (1, u "java/time/Duration$DurationUnits"), (27, .class_ 271), (1, u "java/time/Duration$1"), (91, u "BI_NANOS_PER_SECOND"), (0, u "Ljava/math/BigInteger;"), (120, .class_ 486), (0, u "java/lang/Comparable"), (0, .class_ 488), (0, u "java/io/Serializable"), (0, u "serialVersionUID")] 166

/-- java/time/Duration -/
def k24 : Class := { plain "java/time/Duration" (some 0) with
  accessFlags := 49
  interfaces := #[23, 3, 2]
  cf := some (fileOf pool24 11 #[.nestMembers #[269, 239, 79]] #[] 49 219 #[49, 485, 487] #[{ accessFlags := 25, nameIndex := 34, descriptorIndex := 35, attributes := #[] }, { accessFlags := 26, nameIndex := 489, descriptorIndex := 223, attributes := #[] }, { accessFlags := 26, nameIndex := 363, descriptorIndex := 364, attributes := #[] }, { accessFlags := 18, nameIndex := 117, descriptorIndex := 223, attributes := #[] }, { accessFlags := 18, nameIndex := 226, descriptorIndex := 227, attributes := #[] }])
  fields := #[{ name := "ZERO", type := (.object "java/time/Duration"), accessFlags := 25, slot := 0, constantValue := 0 }, { name := "serialVersionUID", type := .long, accessFlags := 26, slot := 1, constantValue := 0 }, { name := "BI_NANOS_PER_SECOND", type := (.object "java/math/BigInteger"), accessFlags := 26, slot := 2, constantValue := 0 }, { name := "seconds", type := .long, accessFlags := 18, slot := 0, constantValue := 0 }, { name := "nanos", type := .int, accessFlags := 18, slot := 1, constantValue := 0 }]
  methods := #[]
  instanceTypes := #[.long, .int]
  staticTypes := #[(.object "java/time/Duration"), .long, (.object "java/math/BigInteger")]
  resolved := Array.replicate 656 none
  statics := none }

def pool25 : Array CpInfo := pool [(1, u "java/lang/Cloneable"), (0, .class_ 1), (0, u "java/lang/Object"), (0, .class_ 3)] 3

/-- java/lang/Cloneable -/
def k25 : Class := { plain "java/lang/Cloneable" (some 0) with
  accessFlags := 1537
  interfaces := #[]
  cf := some (fileOf pool25 2 #[] #[] 1537 4 #[] #[])
  fields := #[]
  methods := #[]
  instanceTypes := #[]
  staticTypes := #[]
  resolved := Array.replicate 8 none
  statics := none }

/-- the primitive byte -/
def k26 : Class := { plain "byte" none with kind := .primitive 'B', accessFlags := 0x411 }
/-- [B -/
def k27 : Class := { plain "[B" (some 0) with kind := .array 26 .byte, interfaces := #[25, 2], accessFlags := 1041 }

/-- the primitive int -/
def k28 : Class := { plain "int" none with kind := .primitive 'I', accessFlags := 0x411 }
/-- [I -/
def k29 : Class := { plain "[I" (some 0) with kind := .array 28 .int, interfaces := #[25, 2], accessFlags := 1041 }

def heap : Heap := #[{ cls := 7, slots := #[.long 0, .int 1, .null, .int 0, .null, .int 0, .int 0], vm := .statics 7 },
  { cls := 9, slots := #[.int 0, .int 0, .null, .ref 6, .ref 7, .null], vm := .statics 9 },
  { cls := 13, slots := #[.ref 11, .long 0, .long 0, .null, .null, .long 0], vm := .statics 13 },
  { cls := 16, slots := #[.null, .ref 10, .null, .null, .null, .null, .null, .null, .null, .null, .null, .null, .null, .null, .null, .null, .null], vm := .statics 16 },
  { cls := 17, slots := #[.null, .ref 12], vm := .statics 17 },
  { cls := 21, slots := #[.null, .null, .null], vm := .statics 21 },
  { cls := 13, slots := #[.long (-62167219200), .int 0], vm := .none },
  { cls := 13, slots := #[.long 253402300800, .int 0], vm := .none },
  { cls := 7, slots := #[.null, .int 0, .int 0, .int 0], vm := .none },
  { cls := 24, slots := #[.long 0, .int 1000], vm := .none },
  { cls := 16, slots := #[.ref 8, .int 1, .int 0, .ref 8, .ref 9], vm := .none },
  { cls := 13, slots := #[.long 0, .int 0], vm := .none },
  { cls := 29, slots := #[.int 1, .int 2, .int 3, .int 4, .int 5, .int 6, .int 7, .int 8, .int 0, .int 0, .int 0, .int 0, .int 0, .int 0, .int 0, .int 0], vm := .none }]
def classes : Array Class := #[k0, k1, k2, k3, k4, k5, k6, k7, k8, k9, k10, k11, k12, k13, k14, k15, k16, k17, k18, k19, k20, k21, k22, k23, k24, k25, k26, k27, k28, k29]
def interned : List (Array UInt16 × Addr) := []
def slotsUsed : Nat := 74
def theMethod : MethodId := ⟨1, 1⟩
def args0 : Array Value := #[.long 5, .int 0, .int 65]
def aboutOver (below : List Frame) : State where
  vm := { classes := classes, interned := interned.toArray }
  heap := heap
  slotsUsed := slotsUsed
  threads := #[{ frames := .invoking theMethod args0 :: below }]
def below0 : List Frame := [.native { method := ⟨0, 0⟩, args := #[] }]
def about1 : State := aboutOver below0
def p0 : Program := .bare "" "" ""
def e0 : Env := launch0.env 0 0 0
theorem w_frames : about1.frames = Frame.invoking theMethod args0 :: below0 := rfl
set_option maxRecDepth 65536 in
theorem w_args : argsFit about1.vm theMethod args0 = true := by decide +kernel
set_option maxRecDepth 65536 in
theorem w_heap : heapFits about1 = true := by decide +kernel
set_option maxRecDepth 65536 in
theorem w_runnable : about1.curStatus? = some .runnable := by decide +kernel
set_option maxRecDepth 65536 in
theorem w_alone : about1.alone = true := by decide +kernel
set_option maxRecDepth 65536 in
theorem w_named : about1.methodNamed? x = some theMethod := by decide +kernel
set_option maxRecDepth 65536 in
theorem w_hears : about1.hears theMethod below0 = true := by decide +kernel
set_option maxRecDepth 65536 in
theorem w_ripe : about1.ripe theMethod args0 below0 = true := by decide +kernel
theorem w_running : about1.status = .running := rfl
set_option maxRecDepth 65536 in
theorem w_room : about1.hasRoom e0.platform room_1 = true :=
  launch0.hasRoom_least _ room_1 (by decide +kernel) (by decide +kernel) (by decide +kernel) (by decide +kernel) (by decide +kernel) (by decide +kernel)
theorem allAtoms_all (ts : List Jvm.Cond) (a : Array Jvm.Value) (st : Jvm.State) : (allAtoms ts).before a st = ts.all (fun c => c.before a st) := by
  induction ts with
  | nil => rfl
  | cons c t ih =>
    show (Jvm.Cond.and c (allAtoms t)).before a st = _
    rw [Jvm.Cond.before_and, ih, List.all_cons]
def words1 : List Jvm.Cond := Jvm.Cond.code x code maxLocals ret :: tables_1
/-- a 'code' word, met by the world's own term for the bytes: nothing is compared byte by byte -/
theorem code_word {y : MethodName} {bytes : ByteArray} {mx : Nat} {rt : Option FieldType} {a : Array Value} {s : State} {m : MethodId} {meth : Method} {c : Code} (h1 : s.methodNamed? y = some m) (h2 : s.vm.method? m = some meth) (h3 : meth.code = some c) (h4 : c.code = bytes)
    (h5 : (c.maxLocals == mx && c.exceptionTable.isEmpty && decide (c.maxStack ≤ mostOperands) && decide (meth.sig.returnType = rt) && !meth.locks && decide (parseMethodDescriptor y.desc = some meth.sig)) = true) : (Jvm.Cond.code y bytes mx rt).before a s = true := by
  simp only [Bool.and_eq_true, beq_iff_eq, Bool.not_eq_true', decide_eq_true_eq] at h5
  obtain ⟨⟨⟨⟨⟨g1, g2⟩, g3⟩, g4⟩, g5⟩, g6⟩ := h5
  simp [Cond.before, Cond.holds, Cond.value, h1, h2, h3, h4, g1, g2, g3, g4, g5, g6]
def isCode : Jvm.Cond → Bool
  | .code _ _ _ _ => true
  | _ => false
theorem all_split {L : List Jvm.Cond} {P : Jvm.Cond → Bool} (h1 : L.all (fun c => isCode c || P c) = true) (h2 : ∀ c ∈ L.filter isCode, P c = true) : L.all P = true := by
  refine List.all_eq_true.mpr fun c hc => ?_
  have h := List.all_eq_true.mp h1 c hc
  rcases Bool.eq_false_or_eq_true (isCode c) with hi | hi
  · exact h2 c (List.mem_filter.mpr ⟨hc, hi⟩)
  · simpa [hi] using h
set_option maxRecDepth 65536 in
theorem w_c0 : (Jvm.Cond.code x code maxLocals ret).before args0 about1 = true := code_word (m := ⟨1, 1⟩) (meth := k1m1) (c := k1c1) (by decide +kernel) rfl rfl rfl (by decide +kernel)
set_option maxRecDepth 65536 in
theorem w_c1 : (Jvm.Cond.code ({ cls := "java/lang/String", name := "valueOf", desc := "(C)Ljava/lang/String;" } : Jvm.MethodName) jdk_42_method_139_code (1 : Nat) (Option.some (Jvm.ClassFile.FieldType.object "java/lang/String"))).before args0 about1 = true := code_word (m := ⟨7, 1⟩) (meth := k7m1) (c := k7c1) (by decide +kernel) rfl rfl rfl (by decide +kernel)
set_option maxRecDepth 65536 in
theorem w_c2 : (Jvm.Cond.code ({ cls := "java/lang/StringLatin1", name := "canEncode", desc := "(C)Z" } : Jvm.MethodName) jdk_43_method_3_code (1 : Nat) (Option.some Jvm.ClassFile.FieldType.boolean)).before args0 about1 = true := code_word (m := ⟨8, 1⟩) (meth := k8m1) (c := k8c1) (by decide +kernel) rfl rfl rfl (by decide +kernel)
set_option maxRecDepth 65536 in
theorem w_c3 : (Jvm.Cond.code ({ cls := "java/lang/StringLatin1", name := "toBytes", desc := "(C)[B" } : Jvm.MethodName) jdk_43_method_46_code (1 : Nat) (Option.some (Jvm.ClassFile.FieldType.array Jvm.ClassFile.FieldType.byte))).before args0 about1 = true := code_word (m := ⟨8, 2⟩) (meth := k8m2) (c := k8c2) (by decide +kernel) rfl rfl rfl (by decide +kernel)
set_option maxRecDepth 65536 in
theorem w_c4 : (Jvm.Cond.code ({ cls := "java/lang/String", name := "<init>", desc := "([BB)V" } : Jvm.MethodName) jdk_42_method_151_code (3 : Nat) (Option.none : Option Jvm.ClassFile.FieldType)).before args0 about1 = true := code_word (m := ⟨7, 2⟩) (meth := k7m2) (c := k7c2) (by decide +kernel) rfl rfl rfl (by decide +kernel)
set_option maxRecDepth 65536 in
theorem w_c5 : (Jvm.Cond.code ({ cls := "java/lang/Object", name := "<init>", desc := "()V" } : Jvm.MethodName) object_method_1_code (1 : Nat) (Option.none : Option Jvm.ClassFile.FieldType)).before args0 about1 = true := code_word (m := ⟨0, 0⟩) (meth := k0m0) (c := k0c0) (by decide +kernel) rfl rfl rfl (by decide +kernel)
set_option maxRecDepth 65536 in
theorem w_c6 : (Jvm.Cond.code ({ cls := "com/example/hallstatt/hallstatt/api/ListingParameters", name := "positionTime", desc := "(Ljava/lang/String;J)Ljava/time/Instant;" } : Jvm.MethodName) prog_12_method_7_code (4 : Nat) (Option.some (Jvm.ClassFile.FieldType.object "java/time/Instant"))).before args0 about1 = true := code_word (m := ⟨9, 2⟩) (meth := k9m2) (c := k9c2) (by decide +kernel) rfl rfl rfl (by decide +kernel)
set_option maxRecDepth 65536 in
theorem w_c7 : (Jvm.Cond.code ({ cls := "java/time/Instant", name := "plus", desc := "(JLjava/time/temporal/TemporalUnit;)Ljava/time/Instant;" } : Jvm.MethodName) jdk_2320_method_21_code (5 : Nat) (Option.some (Jvm.ClassFile.FieldType.object "java/time/Instant"))).before args0 about1 = true := code_word (m := ⟨13, 5⟩) (meth := k13m5) (c := k13c5) (by decide +kernel) rfl rfl rfl (by decide +kernel)
set_option maxRecDepth 65536 in
theorem w_c8 : (Jvm.Cond.code ({ cls := "java/lang/Enum", name := "ordinal", desc := "()I" } : Jvm.MethodName) jdk_37_method_2_code (1 : Nat) (Option.some Jvm.ClassFile.FieldType.int)).before args0 about1 = true := code_word (m := ⟨14, 0⟩) (meth := k14m0) (c := k14c0) (by decide +kernel) rfl rfl rfl (by decide +kernel)
set_option maxRecDepth 65536 in
theorem w_c9 : (Jvm.Cond.code ({ cls := "java/time/Instant", name := "plus", desc := "(JJ)Ljava/time/Instant;" } : Jvm.MethodName) jdk_2320_method_25_code (9 : Nat) (Option.some (Jvm.ClassFile.FieldType.object "java/time/Instant"))).before args0 about1 = true := code_word (m := ⟨13, 6⟩) (meth := k13m6) (c := k13c6) (by decide +kernel) rfl rfl rfl (by decide +kernel)
set_option maxRecDepth 65536 in
theorem w_c10 : (Jvm.Cond.code ({ cls := "java/lang/Math", name := "addExact", desc := "(JJ)J" } : Jvm.MethodName) jdk_29_method_25_code (6 : Nat) (Option.some Jvm.ClassFile.FieldType.long)).before args0 about1 = true := code_word (m := ⟨18, 1⟩) (meth := k18m1) (c := k18c1) (by decide +kernel) rfl rfl rfl (by decide +kernel)
set_option maxRecDepth 65536 in
theorem w_c11 : (Jvm.Cond.code ({ cls := "java/time/Instant", name := "ofEpochSecond", desc := "(JJ)Ljava/time/Instant;" } : Jvm.MethodName) jdk_2320_method_4_code (7 : Nat) (Option.some (Jvm.ClassFile.FieldType.object "java/time/Instant"))).before args0 about1 = true := code_word (m := ⟨13, 0⟩) (meth := k13m0) (c := k13c0) (by decide +kernel) rfl rfl rfl (by decide +kernel)
set_option maxRecDepth 65536 in
theorem w_c12 : (Jvm.Cond.code ({ cls := "java/lang/Math", name := "floorDiv", desc := "(JJ)J" } : Jvm.MethodName) jdk_29_method_49_code (6 : Nat) (Option.some Jvm.ClassFile.FieldType.long)).before args0 about1 = true := code_word (m := ⟨18, 2⟩) (meth := k18m2) (c := k18c2) (by decide +kernel) rfl rfl rfl (by decide +kernel)
set_option maxRecDepth 65536 in
theorem w_c13 : (Jvm.Cond.code ({ cls := "java/lang/Math", name := "floorMod", desc := "(JJ)J" } : Jvm.MethodName) jdk_29_method_52_code (6 : Nat) (Option.some Jvm.ClassFile.FieldType.long)).before args0 about1 = true := code_word (m := ⟨18, 3⟩) (meth := k18m3) (c := k18c3) (by decide +kernel) rfl rfl rfl (by decide +kernel)
set_option maxRecDepth 65536 in
theorem w_c14 : (Jvm.Cond.code ({ cls := "java/time/Instant", name := "create", desc := "(JI)Ljava/time/Instant;" } : Jvm.MethodName) jdk_2320_method_8_code (3 : Nat) (Option.some (Jvm.ClassFile.FieldType.object "java/time/Instant"))).before args0 about1 = true := code_word (m := ⟨13, 1⟩) (meth := k13m1) (c := k13c1) (by decide +kernel) rfl rfl rfl (by decide +kernel)
set_option maxRecDepth 65536 in
theorem w_c15 : (Jvm.Cond.code ({ cls := "java/time/Instant", name := "<init>", desc := "(JI)V" } : Jvm.MethodName) jdk_2320_method_9_code (4 : Nat) (Option.none : Option Jvm.ClassFile.FieldType)).before args0 about1 = true := code_word (m := ⟨13, 2⟩) (meth := k13m2) (c := k13c2) (by decide +kernel) rfl rfl rfl (by decide +kernel)
set_option maxRecDepth 65536 in
theorem w_c16 : (Jvm.Cond.code ({ cls := "com/example/hallstatt/hallstatt/api/ListingParameters", name := "inRange", desc := "(Ljava/time/Instant;)Z" } : Jvm.MethodName) prog_12_method_8_code (1 : Nat) (Option.some Jvm.ClassFile.FieldType.boolean)).before args0 about1 = true := code_word (m := ⟨9, 3⟩) (meth := k9m3) (c := k9c3) (by decide +kernel) rfl rfl rfl (by decide +kernel)
set_option maxRecDepth 65536 in
theorem w_c17 : (Jvm.Cond.code ({ cls := "java/time/Instant", name := "isBefore", desc := "(Ljava/time/Instant;)Z" } : Jvm.MethodName) jdk_2320_method_43_code (2 : Nat) (Option.some Jvm.ClassFile.FieldType.boolean)).before args0 about1 = true := code_word (m := ⟨13, 8⟩) (meth := k13m8) (c := k13c8) (by decide +kernel) rfl rfl rfl (by decide +kernel)
set_option maxRecDepth 65536 in
theorem w_c18 : (Jvm.Cond.code ({ cls := "java/time/Instant", name := "compareTo", desc := "(Ljava/time/Instant;)I" } : Jvm.MethodName) jdk_2320_method_41_code (3 : Nat) (Option.some Jvm.ClassFile.FieldType.int)).before args0 about1 = true := code_word (m := ⟨13, 7⟩) (meth := k13m7) (c := k13c7) (by decide +kernel) rfl rfl rfl (by decide +kernel)
set_option maxRecDepth 65536 in
theorem w_c19 : (Jvm.Cond.code ({ cls := "java/lang/Long", name := "compare", desc := "(JJ)I" } : Jvm.MethodName) jdk_35_method_42_code (4 : Nat) (Option.some Jvm.ClassFile.FieldType.int)).before args0 about1 = true := code_word (m := ⟨20, 0⟩) (meth := k20m0) (c := k20c0) (by decide +kernel) rfl rfl rfl (by decide +kernel)
set_option maxRecDepth 65536 in
theorem w_c20 : (Jvm.Cond.code ({ cls := "com/example/hallstatt/hallstatt/api/ListingParameters", name := "micros", desc := "(Ljava/time/Instant;)J" } : Jvm.MethodName) prog_12_method_6_code (1 : Nat) (Option.some Jvm.ClassFile.FieldType.long)).before args0 about1 = true := code_word (m := ⟨9, 1⟩) (meth := k9m1) (c := k9c1) (by decide +kernel) rfl rfl rfl (by decide +kernel)
set_option maxRecDepth 65536 in
theorem w_c21 : (Jvm.Cond.code ({ cls := "java/time/Instant", name := "getEpochSecond", desc := "()J" } : Jvm.MethodName) jdk_2320_method_15_code (1 : Nat) (Option.some Jvm.ClassFile.FieldType.long)).before args0 about1 = true := code_word (m := ⟨13, 3⟩) (meth := k13m3) (c := k13c3) (by decide +kernel) rfl rfl rfl (by decide +kernel)
set_option maxRecDepth 65536 in
theorem w_c22 : (Jvm.Cond.code ({ cls := "java/time/Instant", name := "getNano", desc := "()I" } : Jvm.MethodName) jdk_2320_method_16_code (1 : Nat) (Option.some Jvm.ClassFile.FieldType.int)).before args0 about1 = true := code_word (m := ⟨13, 4⟩) (meth := k13m4) (c := k13c4) (by decide +kernel) rfl rfl rfl (by decide +kernel)
def codes1 : List Jvm.Cond := [Jvm.Cond.code x code maxLocals ret, Jvm.Cond.code ({ cls := "java/lang/String", name := "valueOf", desc := "(C)Ljava/lang/String;" } : Jvm.MethodName) jdk_42_method_139_code (1 : Nat) (Option.some (Jvm.ClassFile.FieldType.object "java/lang/String")), Jvm.Cond.code ({ cls := "java/lang/StringLatin1", name := "canEncode", desc := "(C)Z" } : Jvm.MethodName) jdk_43_method_3_code (1 : Nat) (Option.some Jvm.ClassFile.FieldType.boolean), Jvm.Cond.code ({ cls := "java/lang/StringLatin1", name := "toBytes", desc := "(C)[B" } : Jvm.MethodName) jdk_43_method_46_code (1 : Nat) (Option.some (Jvm.ClassFile.FieldType.array Jvm.ClassFile.FieldType.byte)), Jvm.Cond.code ({ cls := "java/lang/String", name := "<init>", desc := "([BB)V" } : Jvm.MethodName) jdk_42_method_151_code (3 : Nat) (Option.none : Option Jvm.ClassFile.FieldType), Jvm.Cond.code ({ cls := "java/lang/Object", name := "<init>", desc := "()V" } : Jvm.MethodName) object_method_1_code (1 : Nat) (Option.none : Option Jvm.ClassFile.FieldType), Jvm.Cond.code ({ cls := "com/example/hallstatt/hallstatt/api/ListingParameters", name := "positionTime", desc := "(Ljava/lang/String;J)Ljava/time/Instant;" } : Jvm.MethodName) prog_12_method_7_code (4 : Nat) (Option.some (Jvm.ClassFile.FieldType.object "java/time/Instant")), Jvm.Cond.code ({ cls := "java/time/Instant", name := "plus", desc := "(JLjava/time/temporal/TemporalUnit;)Ljava/time/Instant;" } : Jvm.MethodName) jdk_2320_method_21_code (5 : Nat) (Option.some (Jvm.ClassFile.FieldType.object "java/time/Instant")), Jvm.Cond.code ({ cls := "java/lang/Enum", name := "ordinal", desc := "()I" } : Jvm.MethodName) jdk_37_method_2_code (1 : Nat) (Option.some Jvm.ClassFile.FieldType.int), Jvm.Cond.code ({ cls := "java/time/Instant", name := "plus", desc := "(JJ)Ljava/time/Instant;" } : Jvm.MethodName) jdk_2320_method_25_code (9 : Nat) (Option.some (Jvm.ClassFile.FieldType.object "java/time/Instant")), Jvm.Cond.code ({ cls := "java/lang/Math", name := "addExact", desc := "(JJ)J" } : Jvm.MethodName) jdk_29_method_25_code (6 : Nat) (Option.some Jvm.ClassFile.FieldType.long), Jvm.Cond.code ({ cls := "java/time/Instant", name := "ofEpochSecond", desc := "(JJ)Ljava/time/Instant;" } : Jvm.MethodName) jdk_2320_method_4_code (7 : Nat) (Option.some (Jvm.ClassFile.FieldType.object "java/time/Instant")), Jvm.Cond.code ({ cls := "java/lang/Math", name := "floorDiv", desc := "(JJ)J" } : Jvm.MethodName) jdk_29_method_49_code (6 : Nat) (Option.some Jvm.ClassFile.FieldType.long), Jvm.Cond.code ({ cls := "java/lang/Math", name := "floorMod", desc := "(JJ)J" } : Jvm.MethodName) jdk_29_method_52_code (6 : Nat) (Option.some Jvm.ClassFile.FieldType.long), Jvm.Cond.code ({ cls := "java/time/Instant", name := "create", desc := "(JI)Ljava/time/Instant;" } : Jvm.MethodName) jdk_2320_method_8_code (3 : Nat) (Option.some (Jvm.ClassFile.FieldType.object "java/time/Instant")), Jvm.Cond.code ({ cls := "java/time/Instant", name := "<init>", desc := "(JI)V" } : Jvm.MethodName) jdk_2320_method_9_code (4 : Nat) (Option.none : Option Jvm.ClassFile.FieldType), Jvm.Cond.code ({ cls := "com/example/hallstatt/hallstatt/api/ListingParameters", name := "inRange", desc := "(Ljava/time/Instant;)Z" } : Jvm.MethodName) prog_12_method_8_code (1 : Nat) (Option.some Jvm.ClassFile.FieldType.boolean), Jvm.Cond.code ({ cls := "java/time/Instant", name := "isBefore", desc := "(Ljava/time/Instant;)Z" } : Jvm.MethodName) jdk_2320_method_43_code (2 : Nat) (Option.some Jvm.ClassFile.FieldType.boolean), Jvm.Cond.code ({ cls := "java/time/Instant", name := "compareTo", desc := "(Ljava/time/Instant;)I" } : Jvm.MethodName) jdk_2320_method_41_code (3 : Nat) (Option.some Jvm.ClassFile.FieldType.int), Jvm.Cond.code ({ cls := "java/lang/Long", name := "compare", desc := "(JJ)I" } : Jvm.MethodName) jdk_35_method_42_code (4 : Nat) (Option.some Jvm.ClassFile.FieldType.int), Jvm.Cond.code ({ cls := "com/example/hallstatt/hallstatt/api/ListingParameters", name := "micros", desc := "(Ljava/time/Instant;)J" } : Jvm.MethodName) prog_12_method_6_code (1 : Nat) (Option.some Jvm.ClassFile.FieldType.long), Jvm.Cond.code ({ cls := "java/time/Instant", name := "getEpochSecond", desc := "()J" } : Jvm.MethodName) jdk_2320_method_15_code (1 : Nat) (Option.some Jvm.ClassFile.FieldType.long), Jvm.Cond.code ({ cls := "java/time/Instant", name := "getNano", desc := "()I" } : Jvm.MethodName) jdk_2320_method_16_code (1 : Nat) (Option.some Jvm.ClassFile.FieldType.int)]
set_option maxRecDepth 65536 in
theorem codes_eq : words1.filter isCode = codes1 := rfl
theorem w_codes : ∀ c ∈ words1.filter isCode, c.before args0 about1 = true := by
  rw [codes_eq]
  intro c hc
  simp only [codes1, List.mem_cons, List.not_mem_nil, or_false] at hc
  rcases hc with rfl | rfl | rfl | rfl | rfl | rfl | rfl | rfl | rfl | rfl | rfl | rfl | rfl | rfl | rfl | rfl | rfl | rfl | rfl | rfl | rfl | rfl | rfl
  · exact w_c0
  · exact w_c1
  · exact w_c2
  · exact w_c3
  · exact w_c4
  · exact w_c5
  · exact w_c6
  · exact w_c7
  · exact w_c8
  · exact w_c9
  · exact w_c10
  · exact w_c11
  · exact w_c12
  · exact w_c13
  · exact w_c14
  · exact w_c15
  · exact w_c16
  · exact w_c17
  · exact w_c18
  · exact w_c19
  · exact w_c20
  · exact w_c21
  · exact w_c22
set_option maxRecDepth 65536 in
theorem w_t1 : (words1.take 24).all (fun c => isCode c || c.before args0 about1) = true := by decide +kernel
set_option maxRecDepth 65536 in
theorem w_t2 : ((words1.drop 24).take 24).all (fun c => isCode c || c.before args0 about1) = true := by decide +kernel
set_option maxRecDepth 65536 in
theorem w_t3 : (((words1.drop 24).drop 24).take 24).all (fun c => isCode c || c.before args0 about1) = true := by decide +kernel
set_option maxRecDepth 65536 in
theorem w_t4 : ((((words1.drop 24).drop 24).drop 24).take 24).all (fun c => isCode c || c.before args0 about1) = true := by decide +kernel
set_option maxRecDepth 65536 in
theorem w_t5 : (((((words1.drop 24).drop 24).drop 24).drop 24).take 24).all (fun c => isCode c || c.before args0 about1) = true := by decide +kernel
set_option maxRecDepth 65536 in
theorem w_t6 : (((((words1.drop 24).drop 24).drop 24).drop 24).drop 24).all (fun c => isCode c || c.before args0 about1) = true := by decide +kernel
theorem w_tables : (allAtoms (Jvm.Cond.code x code maxLocals ret :: tables_1)).before args0 about1 = true := by
  rw [allAtoms_all]
  show words1.all (fun c => c.before args0 about1) = true
  refine all_split ?_ w_codes
  rw [← List.take_append_drop 24 words1, List.all_append, w_t1, ← List.take_append_drop 24 (words1.drop 24), List.all_append, w_t2, ← List.take_append_drop 24 ((words1.drop 24).drop 24), List.all_append, w_t3, ← List.take_append_drop 24 (((words1.drop 24).drop 24).drop 24), List.all_append, w_t4, ← List.take_append_drop 24 ((((words1.drop 24).drop 24).drop 24).drop 24), List.all_append, w_t5, w_t6]
  rfl
set_option maxRecDepth 65536 in
theorem w_rest : rest_1_c.before args0 about1 = true := by decide +kernel
set_option maxRecDepth 65536 in
theorem w_case : (Jvm.Cond.and given_1 narrow_1).before args0 about1 = true := by decide +kernel
theorem w_applies : (headSpec (Jvm.Cond.code x code maxLocals ret :: tables_1) room_1).applies x e0.platform about1 = true :=
  (Spec.applies_iff w_frames).mpr ⟨w_running, w_runnable, w_alone, w_named, w_hears, w_ripe, w_room, w_tables⟩
theorem atStart : AtStart classFile x code maxLocals ret World_1 tables_1 room_1 Calls_1 rest_1 Pre_1 launch0 p0 e0 about1 theMethod args0 below0 :=
  ⟨lists_1, trivial, launch0.admits_env _ _ _, launch0.least_env, fairChoices_fair.cas, fairChoices_fair.clock, w_frames, w_args, w_heap, w_applies, trivial, w_rest, w_case⟩
end start1
theorem witness_1 : WitnessClaimed_1 := ⟨start1.p0, start1.e0, start1.about1, start1.theMethod, start1.args0, start1.below0, start1.atStart⟩
end Jvm.Pilot.@@N@@
