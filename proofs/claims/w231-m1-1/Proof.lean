import JvmDerived
import JvmDerived.Pilot.@@N@@Statement
import JvmDerived.Pilot.@@N@@Code
set_option linter.unusedVariables false
set_option linter.unusedSimpArgs false
namespace Jvm.Own
open Jvm Jvm.ClassFile Sem Op Lib Jvm.Free Jvm.Stand Jvm.LawKit Jvm.RoadKit Bundle
section Base
variable {p : Program} {l : Launch} {e : Env} {R : Room} {s : State} {m : MethodId} {args : Array Value} {below : List Frame} {meth : Method} {c : Code} {T : State} {locs : List Loc} {cells slots : Nat} {Z : State} {a0 : Array Value} {h : Heap}
/-- from t the run ends, and its end is as Qf says -/
def Go (p : Program) (e : Env) (below : List Frame) (Qf : Outcome → State → Prop) (t : State) : Prop :=
  ∃ s₂ o, Steps p.tables e below t s₂ ∧ s₂.status = .running ∧ Ended s₂ below o ∧ Qf o s₂
theorem Go.step {Qf : Outcome → State → Prop} {t t' : State} (k : ∀ u, Steps p.tables e below t' u → Steps p.tables e below t u) (h : Go p e below Qf t') : Go p e below Qf t := by
  obtain ⟨s₂, o, h1, h2⟩ := h
  exact ⟨s₂, o, k _ h1, h2⟩
/-- the end of a narrow walk -/
def QN (s : State) (rm : Room) (Q : Option Value → Heap → List Loc → Prop) (o : Outcome) (U' : State) : Prop := ∃ v L, o = .returned v ∧ Q v U'.heap L ∧ FrameEnd s o U' L rm.cells rm.slots
abbrev CN (l : Launch) (Z : State) (y : MethodName) (ws : List Jvm.Cond) (rm : Room) (as : Array Value) (h0 : Heap) (Q : Option Value → Heap → List Loc → Prop) : Prop :=
  MetFree l y (head1 ws rm) (fun a U => a = as ∧ Z.Warmed39 U.vm ∧ U.heap = h0) (fun _ _ _ _ _ => True) (fun _ U o U' => ∃ v L, o = .returned v ∧ Q v U'.heap L ∧ FrameEnd U o U' L rm.cells rm.slots)
theorem CN.of {y : MethodName} {bytes : ByteArray} {maxL : Nat} {ret : Option FieldType} {ws : List Jvm.Cond} {rm : Room} {as : Array Value} {h0 : Heap} {Q : Option Value → Heap → List Loc → Prop} {L0 : Array Slot}
    (hp : plainFor y = true) (ef : ∀ m, entryFrame m as maxL = mkF m 0 L0 [])
    (body : ∀ (p : Program) (e : Env) (s : State) (m : MethodId) (below : List Frame) (meth : Method) (c : Code) (s₁ : State), p.tables.exec = Jvm.exec → c.code = bytes → c.maxLocals = maxL → meth.sig.returnType = ret → meth.locks = false → Z.Warmed39 s.vm → s.vm.findClass y.cls = some m.cls → meth.name = y.name → Stand p l e rm s m as below meth c s₁ [] 0 0 → s₁.heap = h0 → Go p e below (QN s rm Q) (s₁.setTop (mkF m 0 L0 []))) :
    CN l Z y (Jvm.Cond.code y bytes maxL ret :: ws) rm as h0 Q := by
  refine MetFree.of_bodySF hp hisR ?_
  intro p e s m args below meth c s₁ Bd hml0 hP hK
  obtain ⟨rfl, hZ, hh⟩ := hP
  have q := body p e s m below meth c s₁ Bd.exec Bd.bytes hml0 Bd.returns Bd.notSynchronized hZ (findClass_of_methodNamed Bd.named) (name_of_methodNamed Bd.named Bd.method).1 (Stand.of_body Bd) (by rw [← hh, Bd.state]; rfl)
  rw [← ef m] at q
  exact q
theorem Go.ret {Q : Option Value → Heap → List Loc → Prop} {rm : Room} {t : State} (X : Stand p l e R s m args below meth c T locs cells slots) (hlk : meth.locks = false) (v : Option Value) (hv : meth.sig.returnType = none → v = none) (hc : cells ≤ rm.cells) (hs : slots ≤ rm.slots) (q : Q v T.heap locs)
    (st : ∀ fs, (∀ (f : JFrame) (acts : List Action), f.method = m → f.locked = none → f.entered = [] → (doReturn e (T.setTop f) acts v).1 = T.setFrames fs) → Steps p.tables e below t (T.setFrames fs)) : Go p e below (QN s rm Q) t := by
  obtain ⟨fs, hr, hrun, hended, hW, hsame⟩ := X.leave (v := v) hv hlk
  exact ⟨_, _, st fs hr, hrun, hended, v, locs, rfl, q, ⟨v, rfl⟩, hW, hsame.mono hc hs⟩
/-- a value comes back -/
theorem Go.retV {Q : Option Value → Heap → List Loc → Prop} {rm : Room} (X : Stand p l e R s m args below meth c T locs cells slots) (hx : p.tables.exec = Jvm.exec) (hlk : meth.locks = false) {pc : Nat} {Ls : Array Slot} {w : Value} {t : FieldType} {i : Instr} {rest : List Value} (hret : meth.sig.returnType = some t) (hn : narrow t w = w)
    (hi : (i = .ireturn ∧ (t = .int ∨ t = .boolean ∨ t = .byte ∨ t = .char ∨ t = .short) ∧ ∃ z, w = .int z) ∨ (i = .lreturn ∧ t = .long ∧ ∃ z, w = .long z) ∨ (i = .dreturn ∧ t = .double ∧ ∃ z, w = .double z) ∨ (i = .freturn ∧ t = .float ∧ ∃ z, w = .float z) ∨ (i = .areturn ∧ t.isReference = true ∧ w.isRef = true))
    (hd : decode c.code pc = .ok (i, 1)) (hc : cells ≤ rm.cells) (hs : slots ≤ rm.slots) (q : Q (some w) T.heap locs) : Go p e below (QN s rm Q) (T.setTop (mkF m pc Ls (w :: rest))) :=
  Go.ret X hlk (some w) (fun h => by rw [hret] at h; cases h) hc hs q fun fs hr => retOut X hx hret hn hi hd hr
/-- nothing comes back -/
theorem Go.ret0 {Q : Option Value → Heap → List Loc → Prop} {rm : Room} (X : Stand p l e R s m args below meth c T locs cells slots) (hx : p.tables.exec = Jvm.exec) (hlk : meth.locks = false) {pc : Nat} {Ls : Array Slot} (hret : meth.sig.returnType = none)
    (hd : decode c.code pc = .ok (.return_, 1)) (hc : cells ≤ rm.cells) (hs : slots ≤ rm.slots) (q : Q none T.heap locs) : Go p e below (QN s rm Q) (T.setTop (mkF m pc Ls [])) :=
  Go.ret X hlk none (fun _ => rfl) hc hs q fun fs hr => X.returnOut hx hret hd hr
/-- what pays a call -/
abbrev Pay (l : Launch) (R : Room) (p : Program) (e : Env) (below : List Frame) (s : State) (args : Array Value) (y : MethodName) (W : Nat) (as : Array Value) (h : Heap) (kc ks : Nat) (QQ : Option Value → Heap → List Loc → Prop) : Prop :=
  Back l R p e below s args y 3 W (fun P a => a = as ∧ P.U.heap = h ∧ P.cells + kc ≤ R.cells ∧ P.slots + ks ≤ R.slots) (fun P _ v B => ∃ L, QQ v B.U.heap L ∧ B.locs = P.locs ++ L ∧ B.cells = P.cells + kc ∧ B.slots = P.slots + ks)
theorem goS (X : Stand p l e R s m args below meth c T locs cells slots) (hx : p.tables.exec = Jvm.exec) (hZ : Z.Warmed39 s.vm) {own : String} {index : Nat} {y : MethodName} {bytes : ByteArray} {maxL : Nat} {ret : Option FieldType} (hown : s.vm.findClass own = some m.cls)
    (w1 : (Jvm.Cond.methodLink own index y).before a0 Z = true) (w2 : (Jvm.Cond.static y).before a0 Z = true) (w3 : (Jvm.Cond.initialized y.cls).before a0 Z = true) (w4 : (Jvm.Cond.code y bytes maxL ret).before a0 Z = true) (hy : y.cls ≠ "java/lang/invoke/MethodHandle" ∧ y.cls ≠ "java/lang/invoke/VarHandle")
    {W kc ks : Nat} {as : Array Value} {QQ : Option Value → Heap → List Loc → Prop} (K : Pay l R p e below s args y W as h kc ks QQ) (eT : T.heap = h) {g : JFrame} (hg : g.method = m) (hsize : g.locals.size = c.maxLocals) {argsL rest : List Value} (has : argsL.toArray = as)
    (hlen : ∀ sig, parseMethodDescriptor y.desc = some sig → argsL.length = sig.parameters.length) (hstack : g.stack = argsL.reverse ++ rest) (hW : 2 * g.monitorRoom + (rest.map fun v => v.category).sum ≤ W) (hd : decode c.code g.pc = .ok (.invokestatic index, 3)) (hc : cells + kc ≤ R.cells) (hs : slots + ks ≤ R.slots) :
    ∃ v T' L, Stand p l e R s m args below meth c T' (locs ++ L) (cells + kc) (slots + ks) ∧ QQ v T'.heap L ∧ ∀ u, Steps p.tables e below (T'.setTop { g with pc := g.pc + 3, stack := v.toList ++ rest }) u → Steps p.tables e below (T.setTop g) u := by
  obtain ⟨v, _, ⟨T', L', k', n'⟩, -, X', ⟨L, hQ, l1, y1, z1⟩, st⟩ := Jvm.LawKit.callS X hx hown (mvT hZ w1) (mvT hZ w2) (mvT hZ w3) (mvT hZ w4) hy K hg hsize hlen hstack hW hd (fun _ _ => ⟨has, eT, hc, hs⟩)
  try dsimp only [Pt.U, Pt.locs, Pt.cells, Pt.slots] at X' l1 y1 z1 st hQ
  subst l1 y1 z1
  exact ⟨v, T', L, X', hQ, st⟩
theorem goC (X : Stand p l e R s m args below meth c T locs cells slots) (hx : p.tables.exec = Jvm.exec) (hZ : Z.Warmed39 s.vm) {own : String} {index : Nat} {y : MethodName} {bytes : ByteArray} {maxL : Nat} (hown : s.vm.findClass own = some m.cls)
    (hy1 : y.name = "<init>") (w1 : (Jvm.Cond.methodLink own index y).before a0 Z = true) (w2 : (Jvm.Cond.instanceMethod y).before a0 Z = true) (w4 : (Jvm.Cond.code y bytes maxL none).before a0 Z = true) (hy : y.cls ≠ "java/lang/invoke/MethodHandle" ∧ y.cls ≠ "java/lang/invoke/VarHandle")
    {W kc ks : Nat} {as : Array Value} {QQ : Option Value → Heap → List Loc → Prop} (K : Pay l R p e below s args y W as h kc ks QQ) (eT : T.heap = h) {g : JFrame} (hg : g.method = m) (hsize : g.locals.size = c.maxLocals) {a : Addr} {argsL rest : List Value} (has : (.ref a :: argsL).toArray = as)
    (hlen : ∀ sig, parseMethodDescriptor y.desc = some sig → argsL.length = sig.parameters.length) (hstack : g.stack = argsL.reverse ++ .ref a :: rest) (hW : 2 * g.monitorRoom + (rest.map fun v => v.category).sum ≤ W) (hd : decode c.code g.pc = .ok (.invokespecial index, 3)) (hc : cells + kc ≤ R.cells) (hs : slots + ks ≤ R.slots) :
    ∃ v T' L, Stand p l e R s m args below meth c T' (locs ++ L) (cells + kc) (slots + ks) ∧ QQ v T'.heap L ∧ ∀ u, Steps p.tables e below (T'.setTop { g with pc := g.pc + 3, stack := v.toList ++ rest }) u → Steps p.tables e below (T.setTop g) u := by
  obtain ⟨v, _, ⟨T', L', k', n'⟩, -, X', ⟨L, hQ, l1, y1, z1⟩, st⟩ := X.specialBack hx hy1 hown (mvT hZ w1) (mvT hZ w2) (mvT hZ w4) hy K hg hsize (Steps.refl _) hlen hstack hW hd (fun _ _ => ⟨has, eT, hc, hs⟩)
  try dsimp only [Pt.U, Pt.locs, Pt.cells, Pt.slots] at X' l1 y1 z1 st hQ
  subst l1 y1 z1
  exact ⟨v, T', L, X', hQ, fun u k => st.trans k⟩
theorem goV (X : Stand p l e R s m args below meth c T locs cells slots) (hx : p.tables.exec = Jvm.exec) (hZ : Z.Warmed39 s.vm) {own C : String} {index : Nat} {y z : MethodName} (hown : s.vm.findClass own = some m.cls)
    (w1 : (Jvm.Cond.methodLink own index y).before a0 Z = true) (w2 : (Jvm.Cond.declares y).before a0 Z = true) (hnf : NotFace s y) (w3 : (Jvm.Cond.selects C y z).before a0 Z = true) (w4 : (Jvm.Cond.instanceMethod z).before a0 Z = true) (hy : y.cls ≠ "java/lang/invoke/MethodHandle" ∧ y.cls ≠ "java/lang/invoke/VarHandle")
    {W kc ks : Nat} {as : Array Value} {QQ : Option Value → Heap → List Loc → Prop} (K : Pay l R p e below s args z W as h kc ks QQ) (eT : T.heap = h) {a : Addr} (E : Exa Z h a C) {g : JFrame} (hg : g.method = m) (hsize : g.locals.size = c.maxLocals) {argsL rest : List Value} (has : (.ref a :: argsL).toArray = as)
    (hlen : ∀ sig, parseMethodDescriptor y.desc = some sig → argsL.length = sig.parameters.length) (hstack : g.stack = argsL.reverse ++ .ref a :: rest) (hW : 2 * g.monitorRoom + (rest.map fun v => v.category).sum ≤ W) (hd : decode c.code g.pc = .ok (.invokevirtual index, 3)) (hc : cells + kc ≤ R.cells) (hs : slots + ks ≤ R.slots) :
    ∃ v T' L, Stand p l e R s m args below meth c T' (locs ++ L) (cells + kc) (slots + ks) ∧ QQ v T'.heap L ∧ ∀ u, Steps p.tables e below (T'.setTop { g with pc := g.pc + 3, stack := v.toList ++ rest }) u → Steps p.tables e below (T.setTop g) u := by
  obtain ⟨cB, kB, q1, q2, q3⟩ := isOf hZ eT E
  obtain ⟨v, _, ⟨T', L', k', n'⟩, -, X', ⟨L, hQ, l1, y1, z1⟩, st⟩ := X.virtualBack hx hown (mvT hZ w1) (mvT hZ w2) hnf (mvT hZ w3) (mvT hZ w4) hy K q1 q3 hg hsize (Steps.refl _) hlen hstack hW hd (fun _ _ => ⟨has, eT, hc, hs⟩)
  try dsimp only [Pt.U, Pt.locs, Pt.cells, Pt.slots] at X' l1 y1 z1 st hQ
  subst l1 y1 z1
  exact ⟨v, T', L, X', hQ, fun u k => st.trans k⟩
/-- .. whose named class does not declare it -/
theorem goU (X : Stand p l e R s m args below meth c T locs cells slots) (hx : p.tables.exec = Jvm.exec) (hZ : Z.Warmed39 s.vm) {own C owner : String} {index : Nat} {y z : MethodName} (hown : s.vm.findClass own = some m.cls)
    (w1 : (Jvm.Cond.methodLink own index y).before a0 Z = true) (w5 : (Jvm.Cond.sameMethod y.cls owner y.name y.desc).before a0 Z = true) (w2 : (Jvm.Cond.declares ⟨owner, y.name, y.desc⟩).before a0 Z = true) (w3 : (Jvm.Cond.selects C y z).before a0 Z = true) (w4 : (Jvm.Cond.instanceMethod z).before a0 Z = true) (hy : owner ≠ "java/lang/invoke/MethodHandle" ∧ owner ≠ "java/lang/invoke/VarHandle")
    {W kc ks : Nat} {as : Array Value} {QQ : Option Value → Heap → List Loc → Prop} (K : Pay l R p e below s args z W as h kc ks QQ) (eT : T.heap = h) {a : Addr} (E : Exa Z h a C) {g : JFrame} (hg : g.method = m) (hsize : g.locals.size = c.maxLocals) {argsL rest : List Value} (has : (.ref a :: argsL).toArray = as)
    (hlen : ∀ sig, parseMethodDescriptor y.desc = some sig → argsL.length = sig.parameters.length) (hstack : g.stack = argsL.reverse ++ .ref a :: rest) (hW : 2 * g.monitorRoom + (rest.map fun v => v.category).sum ≤ W) (hd : decode c.code g.pc = .ok (.invokevirtual index, 3)) (hc : cells + kc ≤ R.cells) (hs : slots + ks ≤ R.slots) :
    ∃ v T' L, Stand p l e R s m args below meth c T' (locs ++ L) (cells + kc) (slots + ks) ∧ QQ v T'.heap L ∧ ∀ u, Steps p.tables e below (T'.setTop { g with pc := g.pc + 3, stack := v.toList ++ rest }) u → Steps p.tables e below (T.setTop g) u := by
  obtain ⟨cB, kB, q1, q2, q3⟩ := isOf hZ eT E
  obtain ⟨v, _, ⟨T', L', k', n'⟩, -, X', ⟨L, hQ, l1, y1, z1⟩, st⟩ := X.virtualBackUp hx hown (mvT hZ w1) (mvT hZ w5) (mvT hZ w2) hy (mvT hZ w3) (mvT hZ w4) K q1 q3 hg hsize (Steps.refl _) hlen hstack hW hd (fun _ _ => ⟨has, eT, hc, hs⟩)
  try dsimp only [Pt.U, Pt.locs, Pt.cells, Pt.slots] at X' l1 y1 z1 st hQ
  subst l1 y1 z1
  exact ⟨v, T', L, X', hQ, fun u k => st.trans k⟩
/-- a private method by invokevirtual -/
theorem goP (X : Stand p l e R s m args below meth c T locs cells slots) (hx : p.tables.exec = Jvm.exec) (hZ : Z.Warmed39 s.vm) {own C : String} {index : Nat} {y : MethodName} {bytes : ByteArray} {maxL : Nat} {ret : Option FieldType} (hown : s.vm.findClass own = some m.cls)
    (w1 : (Jvm.Cond.methodLink own index y).before a0 Z = true) (w2 : (Jvm.Cond.instanceMethod y).before a0 Z = true) (w3 : (Jvm.Cond.selects y.cls y y).before a0 Z = true) (w5 : (Jvm.Cond.privateMethod y).before a0 Z = true) (w4 : (Jvm.Cond.code y bytes maxL ret).before a0 Z = true) (hy : y.cls ≠ "java/lang/invoke/MethodHandle" ∧ y.cls ≠ "java/lang/invoke/VarHandle")
    {W kc ks : Nat} {as : Array Value} {QQ : Option Value → Heap → List Loc → Prop} (K : Pay l R p e below s args y W as h kc ks QQ) (eT : T.heap = h) {a : Addr} (E : Exa Z h a C) {g : JFrame} (hg : g.method = m) (hsize : g.locals.size = c.maxLocals) {argsL rest : List Value} (has : (.ref a :: argsL).toArray = as)
    (hlen : ∀ sig, parseMethodDescriptor y.desc = some sig → argsL.length = sig.parameters.length) (hstack : g.stack = argsL.reverse ++ .ref a :: rest) (hW : 2 * g.monitorRoom + (rest.map fun v => v.category).sum ≤ W) (hd : decode c.code g.pc = .ok (.invokevirtual index, 3)) (hc : cells + kc ≤ R.cells) (hs : slots + ks ≤ R.slots) :
    ∃ v T' L, Stand p l e R s m args below meth c T' (locs ++ L) (cells + kc) (slots + ks) ∧ QQ v T'.heap L ∧ ∀ u, Steps p.tables e below (T'.setTop { g with pc := g.pc + 3, stack := v.toList ++ rest }) u → Steps p.tables e below (T.setTop g) u := by
  obtain ⟨cq, q1, q2⟩ := E.cell
  obtain ⟨v, _, ⟨T', L', k', n'⟩, -, X', ⟨L, hQ, l1, y1, z1⟩, st⟩ := X.privateBack hx hown (mvT hZ w1) (mvT hZ w2) (mvT hZ w3) (Cond.privateMethod_at (mvP hZ w5 (args := #[]))) (mvT hZ w4) hy K hg hsize (Steps.refl _) (by rw [eT]; exact q1) q2 hlen hstack hW hd (fun _ _ => ⟨has, eT, hc, hs⟩)
  try dsimp only [Pt.U, Pt.locs, Pt.cells, Pt.slots] at X' l1 y1 z1 st hQ
  subst l1 y1 z1
  exact ⟨v, T', L, X', hQ, fun u k => st.trans k⟩
theorem lremM {g : JFrame} {target : State} (X : Stand p l e R s m args below meth c T locs cells slots) (hx : p.tables.exec = Jvm.exec) (hg : g.method = m) {x y : Int64} {rest : List Value} (hd : decode c.code g.pc = .ok (.lrem, 1)) (hs : g.stack = .long y :: .long x :: rest) (hy : y ≠ 0)
    (hr : Steps p.tables e below (T.setTop { g with pc := g.pc + 1, stack := .long (x % y) :: rest }) target) : Steps p.tables e below (T.setTop g) target :=
  XS.lrem X.here hx hg hd hs hy (by rw [lrem_mod]; exact hr)
theorem own_narrow_ref {t : FieldType} {v : Value} (h : v.isRef = true) : narrow t v = v := by cases v <;> first | (simp [Value.isRef] at h; done) | (cases t <;> rfl)
theorem own_fits_ref {C : String} {v : Value} (h : v.isRef = true) : fits (.object C) v = true := by cases v <;> simp_all [Value.isRef, fits]
/-- what the case's words say of a static -/
theorem sta_obj {C n d K : String} (hi : (Jvm.Cond.initializedFor C n d).before args s = true ∨ ((Jvm.Cond.initialized C).before args s = true ∧ (Jvm.Cond.laysStatic C n d).before args s = true)) (hx : (Jvm.Cond.exactly (.static C n d) K).value args s none s [] = some true) :
    ∃ a, Sta s s.heap C n d (.ref a) ∧ Exa s s.heap a K ∧ (Term.static C n d).eval args s none [] s = some (.ref a) := by
  obtain ⟨a, e⟩ := exa_v hx
  exact ⟨a, Sta.start e hi, Exa.start e hx, e⟩
theorem fld_l {t : Term} {a : Addr} {C f d : String} {v : Int64} (ev : t.eval args s none [] s = some (.ref a)) (h : (Jvm.Cond.eq (.field t C f d) (.long v)).value args s none s [] = some true) : Fld s s.heap a C f d (.long v) :=
  Fld.start (by rw [← fld_at ev]; exact eqv_l (long_at v) h)
theorem fld_i {t : Term} {a : Addr} {C f d : String} {v : Int32} (ev : t.eval args s none [] s = some (.ref a)) (h : (Jvm.Cond.eq (.field t C f d) (.int v)).value args s none s [] = some true) : Fld s s.heap a C f d (.int v) :=
  Fld.start (by rw [← fld_at ev]; exact eqv_i (Term.int_eval v) h)
theorem b01_ne {P : Prop} [Decidable P] (q : P) : ¬ (if P then (1 : Int32) else 0) = 0 := by rw [if_pos q]; decide
theorem b01_eq {P : Prop} [Decidable P] (q : ¬ P) : (if P then (1 : Int32) else 0) = 0 := if_neg q
theorem b01_nar {P : Prop} [Decidable P] : narrow .boolean (.int (if P then (1 : Int32) else 0)) = .int (if P then (1 : Int32) else 0) := by split <;> rfl
end Base
end Jvm.Own
namespace Jvm.Own
open Jvm Jvm.ClassFile Sem Op Lib Jvm.Free Jvm.Stand Jvm.LawKit Jvm.RoadKit Bundle
section Wide
variable {p : Program} {l : Launch} {e : Env} {R : Room} {s : State} {m : MethodId} {args : Array Value} {below : List Frame} {meth : Method} {c : Code} {T : State} {locs : List Loc} {cells slots : Nat} {Z : State} {a0 : Array Value} {h h0 : Heap} {EL : List (String × Nat)} {vm0 : Vm} {k0 : Nat}
/-- the end of a walk that may intern -/
def QW (Z : State) (EL : List (String × Nat)) (s : State) (rm : Room) (Q : Option Value → Heap → List Loc → Prop) (o : Outcome) (U' : State) : Prop := ∃ v L, o = .returned v ∧ Q v U'.heap L ∧ CHr Z EL s.vm s.heap U'.vm U'.heap ∧ ReturnedEndW s o U' L rm.cells rm.slots
abbrev CW (l : Launch) (Z : State) (EL : List (String × Nat)) (y : MethodName) (ws : List Jvm.Cond) (rm : Room) (as : Array Value) (h0 : Heap) (Q : Option Value → Heap → List Loc → Prop) : Prop :=
  MetFree l y (head1 ws rm) (fun a U => a = as ∧ Z.Warmed39 U.vm ∧ U.heap = h0 ∧ CHv Z EL U.vm h0) (fun _ _ _ _ _ => True) (fun _ U o U' => ∃ v L, o = .returned v ∧ Q v U'.heap L ∧ CHr Z EL U.vm U.heap U'.vm U'.heap ∧ ReturnedEndW U o U' L rm.cells rm.slots)
theorem CW.of {y : MethodName} {bytes : ByteArray} {maxL : Nat} {ret : Option FieldType} {ws : List Jvm.Cond} {rm : Room} {as : Array Value} {Q : Option Value → Heap → List Loc → Prop} {L0 : Array Slot}
    (hp : plainFor y = true) (ef : ∀ m, entryFrame m as maxL = mkF m 0 L0 [])
    (body : ∀ (p : Program) (e : Env) (s : State) (m : MethodId) (below : List Frame) (meth : Method) (c : Code) (s₁ : State), p.tables.exec = Jvm.exec → c.code = bytes → c.maxLocals = maxL → meth.sig.returnType = ret → meth.locks = false → Z.Warmed39 s.vm → s.vm.findClass y.cls = some m.cls → meth.name = y.name → Stand p l e rm (s.setVm s.vm) m as below meth c s₁ [] 0 0 → s₁.heap = h0 → s.Since s.vm h0.size → h0.size ≤ h0.size → CHv Z EL s.vm h0 → s.heap = h0 → Go p e below (QW Z EL s rm Q) (s₁.setTop (mkF m 0 L0 []))) :
    CW l Z EL y (Jvm.Cond.code y bytes maxL ret :: ws) rm as h0 Q := by
  refine MetFree.of_bodySF hp hisR ?_
  intro p e s m args below meth c s₁ Bd hml0 hP hK
  obtain ⟨rfl, hZ, hh, hC⟩ := hP
  have q := body p e s m below meth c s₁ Bd.exec Bd.bytes hml0 Bd.returns Bd.notSynchronized hZ (findClass_of_methodNamed Bd.named) (name_of_methodNamed Bd.named Bd.method).1 (Stand.of_body Bd) (by rw [← hh, Bd.state]; rfl) (State.WarmedH.since (State.WarmedH.refl s) _) (Nat.le_refl _) hC hh
  rw [← ef m] at q
  exact q
theorem Go.retW {Q : Option Value → Heap → List Loc → Prop} {rm : Room} {t : State} (X : Stand p l e R (s.setVm vm0) m args below meth c T locs cells slots) (eT : T.heap = h) (hS : s.Since vm0 k0) (hk : k0 ≤ h.size) (hZ : Z.Warmed39 vm0) (hEL : EW Z a0 EL) (hh0 : s.heap = h0) (HC : CHr Z EL s.vm h0 vm0 h) (hlk : meth.locks = false) (v : Option Value) (hv : meth.sig.returnType = none → v = none) (hc : cells ≤ rm.cells) (hs : slots ≤ rm.slots) (q : Q v T.heap locs)
    (st : ∀ fs, (∀ (f : JFrame) (acts : List Action), f.method = m → f.locked = none → f.entered = [] → (doReturn e (T.setTop f) acts v).1 = T.setFrames fs) → Steps p.tables e below t (T.setFrames fs)) : Go p e below (QW Z EL s rm Q) t := by
  subst eT hh0
  obtain ⟨fs, hr, hrun, hended, hR⟩ := X.leaveW hS hk (v := v) hv hlk
  have q2 : CHr Z EL vm0 T.heap T.vm T.heap := CHv.at X hZ hEL HC.1
  exact ⟨_, _, st fs hr, hrun, hended, v, locs, rfl, q, HC.trans q2, hR.1, hR.2.1, hR.2.2.1, hR.2.2.2.mono hc hs⟩
theorem Go.retVW {Q : Option Value → Heap → List Loc → Prop} {rm : Room} (X : Stand p l e R (s.setVm vm0) m args below meth c T locs cells slots) (eT : T.heap = h) (hS : s.Since vm0 k0) (hk : k0 ≤ h.size) (hZ : Z.Warmed39 vm0) (hEL : EW Z a0 EL) (hh0 : s.heap = h0) (HC : CHr Z EL s.vm h0 vm0 h) (hx : p.tables.exec = Jvm.exec) (hlk : meth.locks = false) {pc : Nat} {Ls : Array Slot} {w : Value} {t : FieldType} {i : Instr} {rest : List Value} (hret : meth.sig.returnType = some t) (hn : narrow t w = w)
    (hi : (i = .ireturn ∧ (t = .int ∨ t = .boolean ∨ t = .byte ∨ t = .char ∨ t = .short) ∧ ∃ z, w = .int z) ∨ (i = .lreturn ∧ t = .long ∧ ∃ z, w = .long z) ∨ (i = .dreturn ∧ t = .double ∧ ∃ z, w = .double z) ∨ (i = .freturn ∧ t = .float ∧ ∃ z, w = .float z) ∨ (i = .areturn ∧ t.isReference = true ∧ w.isRef = true))
    (hd : decode c.code pc = .ok (i, 1)) (hc : cells ≤ rm.cells) (hs : slots ≤ rm.slots) (q : Q (some w) T.heap locs) : Go p e below (QW Z EL s rm Q) (T.setTop (mkF m pc Ls (w :: rest))) :=
  Go.retW X eT hS hk hZ hEL hh0 HC hlk (some w) (fun h => by rw [hret] at h; cases h) hc hs q fun fs hr => retOut X hx hret hn hi hd hr
theorem Go.ret0W {Q : Option Value → Heap → List Loc → Prop} {rm : Room} (X : Stand p l e R (s.setVm vm0) m args below meth c T locs cells slots) (eT : T.heap = h) (hS : s.Since vm0 k0) (hk : k0 ≤ h.size) (hZ : Z.Warmed39 vm0) (hEL : EW Z a0 EL) (hh0 : s.heap = h0) (HC : CHr Z EL s.vm h0 vm0 h) (hx : p.tables.exec = Jvm.exec) (hlk : meth.locks = false) {pc : Nat} {Ls : Array Slot} (hret : meth.sig.returnType = none)
    (hd : decode c.code pc = .ok (.return_, 1)) (hc : cells ≤ rm.cells) (hs : slots ≤ rm.slots) (q : Q none T.heap locs) : Go p e below (QW Z EL s rm Q) (T.setTop (mkF m pc Ls [])) :=
  Go.retW X eT hS hk hZ hEL hh0 HC hlk none (fun _ => rfl) hc hs q fun fs hr => X.returnOut hx hret hd hr
abbrev PayW (l : Launch) (R : Room) (p : Program) (e : Env) (below : List Frame) (Z : State) (EL : List (String × Nat)) (s : State) (vm0 : Vm) (args : Array Value) (y : MethodName) (W : Nat) (as : Array Value) (h : Heap) (kc ks : Nat) (QQ : Option Value → Heap → List Loc → Prop) : Prop :=
  BackS l R p e below (s.setVm vm0) args y 3 W (fun P a => a = as ∧ P.U.heap = h ∧ P.cells + kc ≤ R.cells ∧ P.slots + ks ≤ R.slots) (fun P _ v B => ∃ L, QQ v B.U.heap L ∧ B.locs = P.locs ++ L ∧ B.cells = P.cells + kc ∧ B.slots = P.slots + ks ∧ CHr Z EL vm0 h B.U.vm B.U.heap)
/-- what stands behind a call that may intern -/
abbrev AftW (p : Program) (l : Launch) (e : Env) (R : Room) (s : State) (m : MethodId) (args : Array Value) (below : List Frame) (meth : Method) (c : Code) (T : State) (locs : List Loc) (cells slots : Nat) (Z : State) (EL : List (String × Nat)) (vm0 : Vm) (h : Heap) (own : String) (kc ks : Nat) (QQ : Option Value → Heap → List Loc → Prop) (g : JFrame) (rest : List Value) : Prop :=
  ∃ v T' L, Stand p l e R (s.setVm T'.vm) m args below meth c T' (locs ++ L) (cells + kc) (slots + ks) ∧ QQ v T'.heap L ∧ s.Since T'.vm T'.heap.size ∧ Z.Warmed39 T'.vm ∧ T'.vm.findClass own = some m.cls ∧ CHr Z EL vm0 h T'.vm T'.heap ∧ ∀ u, Steps p.tables e below (T'.setTop { g with pc := g.pc + 3, stack := v.toList ++ rest }) u → Steps p.tables e below (T.setTop g) u
theorem goSW (X : Stand p l e R (s.setVm vm0) m args below meth c T locs cells slots) (hx : p.tables.exec = Jvm.exec) (hZ : Z.Warmed39 vm0) {own : String} {index : Nat} {y : MethodName} {bytes : ByteArray} {maxL : Nat} {ret : Option FieldType} (hown : vm0.findClass own = some m.cls) (hS : s.Since vm0 k0) (hk : k0 ≤ h.size)
    (w1 : (Jvm.Cond.methodLink own index y).before a0 Z = true) (w2 : (Jvm.Cond.static y).before a0 Z = true) (w3 : (Jvm.Cond.initialized y.cls).before a0 Z = true) (w4 : (Jvm.Cond.code y bytes maxL ret).before a0 Z = true) (hy : y.cls ≠ "java/lang/invoke/MethodHandle" ∧ y.cls ≠ "java/lang/invoke/VarHandle")
    {W kc ks : Nat} {as : Array Value} {QQ : Option Value → Heap → List Loc → Prop} (K : PayW l R p e below Z EL s vm0 args y W as h kc ks QQ) (eT : T.heap = h) {g : JFrame} (hg : g.method = m) (hsize : g.locals.size = c.maxLocals) {argsL rest : List Value} (has : argsL.toArray = as)
    (hlen : ∀ sig, parseMethodDescriptor y.desc = some sig → argsL.length = sig.parameters.length) (hstack : g.stack = argsL.reverse ++ rest) (hW : 2 * g.monitorRoom + (rest.map fun v => v.category).sum ≤ W) (hd : decode c.code g.pc = .ok (.invokestatic index, 3)) (hc : cells + kc ≤ R.cells) (hs : slots + ks ≤ R.slots) :
    AftW p l e R s m args below meth c T locs cells slots Z EL vm0 h own kc ks QQ g rest := by
  subst eT
  obtain ⟨v, _, ⟨T', L', k', n'⟩, -, X', h2, gl, ⟨L, hQ, l1, y1, z1, hC⟩, st⟩ := callSS X hx hown (mvT (s := s.setVm vm0) hZ w1) (mvT (s := s.setVm vm0) hZ w2) (mvT (s := s.setVm vm0) hZ w3) (mvT (s := s.setVm vm0) hZ w4) hy K hg hsize hlen hstack hW hd (fun _ _ => ⟨has, rfl, hc, hs⟩)
  try dsimp only [Pt.U, Pt.locs, Pt.cells, Pt.slots] at X' l1 y1 z1 st hQ h2 gl hC
  subst l1 y1 z1
  obtain ⟨a1, a2, a3, a4⟩ := rebS hS hk X' h2 gl hZ hown
  exact ⟨v, T', L, a1, hQ, a2, a3, a4, hC, fun u k => st.trans k⟩
theorem goCW (X : Stand p l e R (s.setVm vm0) m args below meth c T locs cells slots) (hx : p.tables.exec = Jvm.exec) (hZ : Z.Warmed39 vm0) {own : String} {index : Nat} {y : MethodName} {bytes : ByteArray} {maxL : Nat} (hown : vm0.findClass own = some m.cls) (hS : s.Since vm0 k0) (hk : k0 ≤ h.size)
    (hy1 : y.name = "<init>") (w1 : (Jvm.Cond.methodLink own index y).before a0 Z = true) (w2 : (Jvm.Cond.instanceMethod y).before a0 Z = true) (w4 : (Jvm.Cond.code y bytes maxL none).before a0 Z = true) (hy : y.cls ≠ "java/lang/invoke/MethodHandle" ∧ y.cls ≠ "java/lang/invoke/VarHandle")
    {W kc ks : Nat} {as : Array Value} {QQ : Option Value → Heap → List Loc → Prop} (K : PayW l R p e below Z EL s vm0 args y W as h kc ks QQ) (eT : T.heap = h) {g : JFrame} (hg : g.method = m) (hsize : g.locals.size = c.maxLocals) {a : Addr} {argsL rest : List Value} (has : (.ref a :: argsL).toArray = as)
    (hlen : ∀ sig, parseMethodDescriptor y.desc = some sig → argsL.length = sig.parameters.length) (hstack : g.stack = argsL.reverse ++ .ref a :: rest) (hW : 2 * g.monitorRoom + (rest.map fun v => v.category).sum ≤ W) (hd : decode c.code g.pc = .ok (.invokespecial index, 3)) (hc : cells + kc ≤ R.cells) (hs : slots + ks ≤ R.slots) :
    AftW p l e R s m args below meth c T locs cells slots Z EL vm0 h own kc ks QQ g rest := by
  subst eT
  obtain ⟨v, _, ⟨T', L', k', n'⟩, -, X', h2, gl, ⟨L, hQ, l1, y1, z1, hC⟩, st⟩ := X.specialBackS hx hy1 hown (mvT (s := s.setVm vm0) hZ w1) (mvT (s := s.setVm vm0) hZ w2) (mvT (s := s.setVm vm0) hZ w4) hy K hg hsize (Steps.refl _) hlen hstack hW hd (fun _ _ => ⟨has, rfl, hc, hs⟩)
  try dsimp only [Pt.U, Pt.locs, Pt.cells, Pt.slots] at X' l1 y1 z1 st hQ h2 gl hC
  subst l1 y1 z1
  obtain ⟨a1, a2, a3, a4⟩ := rebS hS hk X' h2 gl hZ hown
  exact ⟨v, T', L, a1, hQ, a2, a3, a4, hC, fun u k => st.trans k⟩
theorem goVW (X : Stand p l e R (s.setVm vm0) m args below meth c T locs cells slots) (hx : p.tables.exec = Jvm.exec) (hZ : Z.Warmed39 vm0) {own C : String} {index : Nat} {y z : MethodName} (hown : vm0.findClass own = some m.cls) (hS : s.Since vm0 k0) (hk : k0 ≤ h.size)
    (w1 : (Jvm.Cond.methodLink own index y).before a0 Z = true) (w2 : (Jvm.Cond.declares y).before a0 Z = true) (hnf : NotFace (s.setVm vm0) y) (w3 : (Jvm.Cond.selects C y z).before a0 Z = true) (w4 : (Jvm.Cond.instanceMethod z).before a0 Z = true) (hy : y.cls ≠ "java/lang/invoke/MethodHandle" ∧ y.cls ≠ "java/lang/invoke/VarHandle")
    {W kc ks : Nat} {as : Array Value} {QQ : Option Value → Heap → List Loc → Prop} (K : PayW l R p e below Z EL s vm0 args z W as h kc ks QQ) (eT : T.heap = h) {a : Addr} (E : Exa Z h a C) {g : JFrame} (hg : g.method = m) (hsize : g.locals.size = c.maxLocals) {argsL rest : List Value} (has : (.ref a :: argsL).toArray = as)
    (hlen : ∀ sig, parseMethodDescriptor y.desc = some sig → argsL.length = sig.parameters.length) (hstack : g.stack = argsL.reverse ++ .ref a :: rest) (hW : 2 * g.monitorRoom + (rest.map fun v => v.category).sum ≤ W) (hd : decode c.code g.pc = .ok (.invokevirtual index, 3)) (hc : cells + kc ≤ R.cells) (hs : slots + ks ≤ R.slots) :
    AftW p l e R s m args below meth c T locs cells slots Z EL vm0 h own kc ks QQ g rest := by
  subst eT
  obtain ⟨cB, kB, q1, q2, q3⟩ := isOf (s := s.setVm vm0) hZ rfl E
  obtain ⟨v, _, ⟨T', L', k', n'⟩, -, X', h2, gl, ⟨L, hQ, l1, y1, z1, hC⟩, st⟩ := X.virtualBackS hx hown (mvT (s := s.setVm vm0) hZ w1) (mvT (s := s.setVm vm0) hZ w2) hnf (mvT (s := s.setVm vm0) hZ w3) (mvT (s := s.setVm vm0) hZ w4) hy K q1 q3 hg hsize (Steps.refl _) hlen hstack hW hd (fun _ _ => ⟨has, rfl, hc, hs⟩)
  try dsimp only [Pt.U, Pt.locs, Pt.cells, Pt.slots] at X' l1 y1 z1 st hQ h2 gl hC
  subst l1 y1 z1
  obtain ⟨a1, a2, a3, a4⟩ := rebS hS hk X' h2 gl hZ hown
  exact ⟨v, T', L, a1, hQ, a2, a3, a4, hC, fun u k => st.trans k⟩
end Wide
end Jvm.Own
namespace Jvm.Own
open Jvm Jvm.ClassFile Sem Op Lib Jvm.Free Jvm.Stand Jvm.LawKit Jvm.RoadKit Bundle
section Strs
variable {Z : State} {h h' : Heap} {x : Addr} {cs : List Int32} {B B' : Nat} {a : Addr} {sl : Nat} {v : Value} {ws : List Addr}
/-- at x stands a String of the chars cs (each 0 to 255), it and its array below B -/
def Str (Z : State) (B : Nat) (h : Heap) (x : Addr) (cs : List Int32) : Prop := ∃ (t : Addr) (kb : ClassId), x < B ∧ t < B ∧ Exa Z h x "java/lang/String" ∧ Fld Z h x "java/lang/String" "value" "[B" (.ref t) ∧ Fld Z h x "java/lang/String" "coder" "B" (.int 0) ∧ Arv Z h t kb .byte (Int32.ofNat cs.length) ((cs.map fun c => c.toInt8.toInt32).map Value.int) (.int 0) ∧ (∀ c ∈ cs, ¬ c < 0 ∧ ¬ (255 : Int32) < c) ∧ cs.length ≤ 4000
theorem Str.ext (F : Str Z B h x cs) (E : Ext h h') : Str Z B h' x cs := by
  obtain ⟨t, kb, h1, h2, a, b, c, d, r⟩ := F; exact ⟨t, kb, h1, h2, a.ext E, b.ext E, c.ext E, d.ext E, r⟩
theorem Str.wr (F : Str Z B h x cs) (W : Wr h h' a sl v) (q : B ≤ a) : Str Z B h' x cs := by
  obtain ⟨t, kb, h1, h2, a, b, c, d, r⟩ := F
  exact ⟨t, kb, h1, h2, a.wr W, b.other W (Or.inl (Nat.ne_of_lt (Nat.lt_of_lt_of_le h1 q))), c.other W (Or.inl (Nat.ne_of_lt (Nat.lt_of_lt_of_le h1 q))), d.other W (Nat.ne_of_lt (Nat.lt_of_lt_of_le h2 q)), r⟩
theorem Str.keep (F : Str Z B h x cs) (K : Keep h h' ws) (q : ∀ w ∈ ws, B ≤ w) : Str Z B h' x cs := by
  obtain ⟨t, kb, h1, h2, a, b, c, d, r⟩ := F
  have n1 : x ∉ ws := fun z => absurd h1 (Nat.not_lt.mpr (q _ z))
  have n2 : t ∉ ws := fun z => absurd h2 (Nat.not_lt.mpr (q _ z))
  exact ⟨t, kb, h1, h2, a.keep K, b.keep K n1, c.keep K n1, d.keep K n2, r⟩
theorem Str.mono (F : Str Z B h x cs) (q : B ≤ B') : Str Z B' h x cs := by
  obtain ⟨t, kb, h1, h2, r⟩ := F; exact ⟨t, kb, Nat.lt_of_lt_of_le h1 q, Nat.lt_of_lt_of_le h2 q, r⟩
theorem Str.lt (F : Str Z B h x cs) : x < B := by obtain ⟨t, kb, h1, r⟩ := F; exact h1
theorem Str.exa (F : Str Z B h x cs) : Exa Z h x "java/lang/String" := by obtain ⟨t, kb, h1, h2, a, r⟩ := F; exact a
theorem Str.lat (F : Str Z B h x cs) : ∀ c ∈ cs, ¬ c < 0 ∧ ¬ (255 : Int32) < c := by obtain ⟨t, kb, h1, h2, a, b, c, d, r, -⟩ := F; exact r
theorem up255 {cs : List Int32} (hp : ∀ c ∈ cs, ¬ c < 0 ∧ ¬ (255 : Int32) < c) : ∀ c ∈ cs, ¬ c < 0 ∧ ¬ (65535 : Int32) < c := fun c hc => ⟨(hp c hc).1, fun q => (hp c hc).2 (by
  rw [Int32.lt_iff_toInt_lt] at q ⊢
  have e1 : (65535 : Int32).toInt = 65535 := by decide
  have e2 : (255 : Int32).toInt = 255 := by decide
  omega)⟩
end Strs
end Jvm.Own
/- laws to paste: Road.backV, Road.codOf (cut by pick.py; bodies as the Statement names them) -/
namespace Jvm.Pilot.@@N@@
namespace StrChars
open Jvm Sem ClassFile Op Lib Jvm.Stand Jvm.Free.XT Jvm.Free.ALB Jvm.Free.JM Jvm.Free
open Jvm.Lib.Cold (StaticIs)
/-- a char array whose places are chars -/
def Ch (a : Addr) (A : Cell) (U : State) : Prop := Arr .char a A U ∧ Typed .char A
theorem Ch.mv {a : Addr} {A : Cell} {U U' : State} (h : Ch a A U) (hal : U.vm.Alike U'.vm) (hh : U'.heap = U.heap) : Ch a A U' := ⟨h.1.mv hal hh, h.2⟩
theorem Ch.keep {a : Addr} {A : Cell} {U U' : State} (h : Ch a A U) (hal : U.vm.Alike U'.vm) (hk : U'.heap[a]? = some A) : Ch a A U' := ⟨h.1.keep hal hk, h.2⟩
/-- what place i of a char[]'s cell holds -/
def cv (A : Cell) (i : Nat) : Int32 := match A.slots[i]? with | some (.int x) => x | _ => 0
theorem Ch.get {a : Addr} {A : Cell} {U : State} (h : Ch a A U) {i : Nat} (hi : i < A.slots.size) : A.slots[i]? = some (.int (cv A i)) := by
  have e := Array.getElem?_eq_getElem hi
  have f := h.2 i _ e
  unfold cv; rw [e]
  generalize A.slots[i] = v at f
  cases v <;> simp [fits] at f ⊢
/-- the byte that i2b leaves of a char -/
def lo8 (x : Int32) : Int32 := x.toInt8.toInt32
theorem fits_lo8 (y : Int32) : fits .byte (.int (lo8 y)) = true := by
  have h1 := y.toInt8.le_toInt
  have h2 := y.toInt8.toInt_lt
  simp only [lo8, fits, Bool.and_eq_true, decide_eq_true_eq, Int32.le_iff_toInt_le, Int8.toInt_toInt32, show (-128 : Int32).toInt = -128 from by decide, show (127 : Int32).toInt = 127 from by decide]
  omega
/-- A' is A but that each place j of lo .. hi - 1 holds f j -/
def Laid (A A' : Cell) (lo hi : Nat) (f : Nat → Value) : Prop := A'.cls = A.cls ∧ A'.vm = A.vm ∧ A'.slots.size = A.slots.size ∧ ∀ i, A'.slots[i]? = if lo ≤ i ∧ i < hi then some (f i) else A.slots[i]?
theorem Laid.zero (A : Cell) (lo : Nat) (f : Nat → Value) : Laid A A lo (lo + 0) f := ⟨rfl, rfl, rfl, fun i => by rw [if_neg (by omega)]⟩
theorem Laid.step {A Ak : Cell} {lo k : Nat} {f : Nat → Value} {v : Value} (h : Laid A Ak lo k f) (hlo : lo ≤ k) (hk : k < Ak.slots.size) (hv : v = f k) : Laid A (Ak.setSlot k v) lo (k + 1) f := by
  refine ⟨h.1, h.2.1, by simpa [Cell.setSlot] using h.2.2.1, fun i => ?_⟩
  by_cases e : k = i
  · subst e; rw [Cell.slots_setSlot_self v hk, if_pos (by omega), hv]
  · rw [Cell.slots_setSlot_ne v e, h.2.2.2 i]
    by_cases q : lo ≤ i ∧ i < k
    · rw [if_pos q, if_pos (by omega)]
    · rw [if_neg q, if_neg (by omega)]
def U16 : String := "java/lang/StringUTF16"
namespace Cmp5
def yN : MethodName := ⟨"java/lang/StringUTF16", "compress", "([CI[BII)I"⟩
abbrev yB : ByteArray := jdk_52_method_21_code
theorem d0 : decode yB 0 = .ok (.iconst 0, 1) := by decide +kernel
theorem d1 : decode yB 1 = .ok (.istore 5, 2) := by decide +kernel
theorem d3 : decode yB 3 = .ok (.iload 5, 2) := by decide +kernel
theorem d5 : decode yB 5 = .ok (.iload 4, 2) := by decide +kernel
theorem d7 : decode yB 7 = .ok (.if_icmp (.ge) 37, 3) := by decide +kernel
theorem d10 : decode yB 10 = .ok (.aload_n 0, 1) := by decide +kernel
theorem d11 : decode yB 11 = .ok (.iload_n 1, 1) := by decide +kernel
theorem d12 : decode yB 12 = .ok (.caload, 1) := by decide +kernel
theorem d13 : decode yB 13 = .ok (.istore 6, 2) := by decide +kernel
theorem d15 : decode yB 15 = .ok (.iload 6, 2) := by decide +kernel
theorem d17 : decode yB 17 = .ok (.sipush 255, 3) := by decide +kernel
theorem d20 : decode yB 20 = .ok (.if_icmp (.le) 6, 3) := by decide +kernel
theorem d26 : decode yB 26 = .ok (.aload_n 2, 1) := by decide +kernel
theorem d27 : decode yB 27 = .ok (.iload_n 3, 1) := by decide +kernel
theorem d28 : decode yB 28 = .ok (.iload 6, 2) := by decide +kernel
theorem d30 : decode yB 30 = .ok (.i2b, 1) := by decide +kernel
theorem d31 : decode yB 31 = .ok (.bastore, 1) := by decide +kernel
theorem d32 : decode yB 32 = .ok (.iinc 1 1, 3) := by decide +kernel
theorem d35 : decode yB 35 = .ok (.iinc 3 1, 3) := by decide +kernel
theorem d38 : decode yB 38 = .ok (.iinc 5 1, 3) := by decide +kernel
theorem d41 : decode yB 41 = .ok (.goto (-38), 3) := by decide +kernel
theorem d44 : decode yB 44 = .ok (.iload 4, 2) := by decide +kernel
theorem d46 : decode yB 46 = .ok (.ireturn, 1) := by decide +kernel
def site : List Cond := []
def tab : Cond := tabOf yN yB 7 (some .int) site
def P (b : Addr) (A : Cell) (d : Addr) (B : Cell) (o q len : Nat) (args : Array Value) (s : State) : Prop := args = #[.ref b, .int (Int32.ofNat o), .ref d, .int (Int32.ofNat q), .int (Int32.ofNat len)] ∧ Ch b A s ∧ Arr .byte d B s ∧ b ≠ d ∧ o + len ≤ A.slots.size ∧ q + len ≤ B.slots.size ∧ ∀ i, i < len → ¬ 255 < cv A (o + i)
def E (b : Addr) (A : Cell) (d : Addr) (B : Cell) (o q len : Nat) (r : Option Value) (s u : State) : Prop := r = some (.int (Int32.ofNat len)) ∧ ∃ B', Put d B' s u ∧ Laid B B' q (q + len) (fun j => Value.int (lo8 (cv A (o + (j - q)))))
/-- no char of the range above 255: len; the places written hold each char's low byte -/
theorem law (l : Launch) (b : Addr) (A : Cell) (d : Addr) (B : Cell) (o q len : Nat) : Law l yN 5 5 0 0 yB 7 (some .int) site (P b A d B o q len) (E b A d B o q len) (copyLocs d q len) 0 0 := by
  refine Law.of_walk (plainFor_of_name (by decide +kernel)) (by decide +kernel) (by decide +kernel) (by decide) (fun _ _ h => by rw [h.1]; rfl) (fun _ U U' hal hh h => ⟨h.1, h.2.1.mv hal hh, h.2.2.1.mv hal hh, h.2.2.2⟩) (fun r U U' V V' h1 hal h2 h => ⟨h.1, h.2.elim fun B' q => ⟨B', q.1.mv h1 h2, q.2⟩⟩) ?_
  intro p e s m args below meth c s₁ X0 hexec hbytes hml hret hlk hnm hown hh0 W hP
  obtain ⟨rfl, hA, hB, hne, l1, l2, hp⟩ := hP
  have c1 : Steps p.tables e below (s₁.setTop (entryFrame m #[.ref b, .int (Int32.ofNat o), .ref d, .int (Int32.ofNat q), .int (Int32.ofNat len)] 7)) (s₁.setTop (mkF m 0 #[.val (.ref b), .val (.int (Int32.ofNat o)), .val (.ref d), .val (.int (Int32.ofNat q)), .val (.int (Int32.ofNat len)), .unset, .unset] [])) := entry rfl
  have hA0 := hA.1.mv X0.warmed.alike hh0
  have hB0 := hB.mv X0.warmed.alike hh0
  have a31 := hA.1.2.2.2
  have c2 : Steps p.tables e below (s₁.setTop (entryFrame m #[.ref b, .int (Int32.ofNat o), .ref d, .int (Int32.ofNat q), .int (Int32.ofNat len)] 7)) (s₁.setTop (mkF m 3 #[.val (.ref b), .val (.int (Int32.ofNat o)), .val (.ref d), .val (.int (Int32.ofNat q)), .val (.int (Int32.ofNat len)), .val (.int 0), .unset] [])) := c1.trans (by
    refine iconstV X0.here hexec rfl 0 (hb hbytes d0) (by decide) ?_
    refine XS.istore X0.here hexec rfl (hb hbytes d1) rfl rfl ?_
    exact Steps.refl _)
  have loop : ∀ (r i : Nat), i + r = len → ∀ (z : Slot), (z = .unset ∨ ∃ w, z = .val w ∧ w.category = 1) → ∀ (Tl : State) (Bk : Cell), Stand p l e { frames := 0, locals := 0, cells := 0, slots := 0 } s m #[.ref b, .int (Int32.ofNat o), .ref d, .int (Int32.ofNat q), .int (Int32.ofNat len)] below meth c Tl ([] ++ copyLocs d q i) 0 0 → Put d Bk s₁ Tl → Laid B Bk q (q + i) (fun j => Value.int (lo8 (cv A (o + (j - q))))) →
      Steps p.tables e below (s₁.setTop (entryFrame m #[.ref b, .int (Int32.ofNat o), .ref d, .int (Int32.ofNat q), .int (Int32.ofNat len)] 7)) (Tl.setTop (mkF m 3 #[.val (.ref b), .val (.int (Int32.ofNat (o + i))), .val (.ref d), .val (.int (Int32.ofNat (q + i))), .val (.int (Int32.ofNat len)), .val (.int (Int32.ofNat i)), z] [])) → ∃ (T' : State) (B' : Cell) (z' : Slot), Stand p l e { frames := 0, locals := 0, cells := 0, slots := 0 } s m #[.ref b, .int (Int32.ofNat o), .ref d, .int (Int32.ofNat q), .int (Int32.ofNat len)] below meth c T' ([] ++ copyLocs d q len) 0 0 ∧ Put d B' s₁ T' ∧ Laid B B' q (q + len) (fun j => Value.int (lo8 (cv A (o + (j - q))))) ∧
      Steps p.tables e below (s₁.setTop (entryFrame m #[.ref b, .int (Int32.ofNat o), .ref d, .int (Int32.ofNat q), .int (Int32.ofNat len)] 7)) (T'.setTop (mkF m 3 #[.val (.ref b), .val (.int (Int32.ofNat (o + len))), .val (.ref d), .val (.int (Int32.ofNat (q + len))), .val (.int (Int32.ofNat len)), .val (.int (Int32.ofNat len)), z'] [])) := by
    intro r
    induction r with
    | zero =>
      intro i hi z hz Tl Bk Xl pl fl cl
      have hil : i = len := by omega
      rw [hil] at Xl fl cl
      exact ⟨Tl, Bk, z, Xl, pl, fl, cl⟩
    | succ r ih =>
      intro i hi z hz Tl Bk Xl pl fl cl
      have all := X0.warmed.alike.symm.trans Xl.warmed.alike
      have hAl := hA0.keep all (pl.other hne hA0.1)
      have hBk := hB0.like all pl.1 fl.1 fl.2.1 fl.2.2.1
      have hlt : q + i < Bk.slots.size := by rw [fl.2.2.1]; omega
      have c3 : Steps p.tables e below (s₁.setTop (entryFrame m #[.ref b, .int (Int32.ofNat o), .ref d, .int (Int32.ofNat q), .int (Int32.ofNat len)] 7)) (Tl.setTop (mkF m 12 #[.val (.ref b), .val (.int (Int32.ofNat (o + i))), .val (.ref d), .val (.int (Int32.ofNat (q + i))), .val (.int (Int32.ofNat len)), .val (.int (Int32.ofNat i)), z] [.int (Int32.ofNat (o + i)), .ref b])) := cl.trans (by
        refine XS.iload Xl.here hexec rfl (hb hbytes d3) rfl ?_
        refine XS.iload Xl.here hexec rfl (hb hbytes d5) rfl ?_
        refine XS.icmpNo Xl.here hexec rfl (hb hbytes d7) rfl (ii_ge_f (lt32 (by omega) (by omega))) ?_
        refine XS.aloadN Xl.here hexec rfl (hb hbytes d10) rfl rfl ?_
        refine XS.iloadN Xl.here hexec rfl (hb hbytes d11) rfl ?_
        exact Steps.refl _)
      have c4 : Steps p.tables e below (s₁.setTop (entryFrame m #[.ref b, .int (Int32.ofNat o), .ref d, .int (Int32.ofNat q), .int (Int32.ofNat len)] 7)) (Tl.setTop (mkF m 13 #[.val (.ref b), .val (.int (Int32.ofNat (o + i))), .val (.ref d), .val (.int (Int32.ofNat (q + i))), .val (.int (Int32.ofNat len)), .val (.int (Int32.ofNat i)), z] [.int (cv A (o + i))])) := c3.trans (by
        refine Xl.aget hexec hAl rfl (hA.get (i := o + i) (by omega)) rfl rfl (hb hbytes d12) ?_
        exact Steps.refl _)
      have c5 : Steps p.tables e below (s₁.setTop (entryFrame m #[.ref b, .int (Int32.ofNat o), .ref d, .int (Int32.ofNat q), .int (Int32.ofNat len)] 7)) (Tl.setTop (mkF m 15 #[.val (.ref b), .val (.int (Int32.ofNat (o + i))), .val (.ref d), .val (.int (Int32.ofNat (q + i))), .val (.int (Int32.ofNat len)), .val (.int (Int32.ofNat i)), .val (.int (cv A (o + i)))] [])) := c4.trans (by
        refine XS.istoreS Xl.here hexec rfl (hb hbytes d13) rfl rfl hz ?_
        exact Steps.refl _)
      have c6 : Steps p.tables e below (s₁.setTop (entryFrame m #[.ref b, .int (Int32.ofNat o), .ref d, .int (Int32.ofNat q), .int (Int32.ofNat len)] 7)) (Tl.setTop (mkF m 31 #[.val (.ref b), .val (.int (Int32.ofNat (o + i))), .val (.ref d), .val (.int (Int32.ofNat (q + i))), .val (.int (Int32.ofNat len)), .val (.int (Int32.ofNat i)), .val (.int (cv A (o + i)))] [.int (lo8 (cv A (o + i))), .int (Int32.ofNat (q + i)), .ref d])) := c5.trans (by
        refine XS.iload Xl.here hexec rfl (hb hbytes d15) rfl ?_
        refine sipushV Xl.here hexec rfl 255 (hb hbytes d17) (by decide) ?_
        refine XS.icmpYes Xl.here hexec rfl (pc0 := 20) rfl (hb hbytes d20) rfl (ii_le_t (hp i (by omega))) (by decide) rfl ?_
        refine XS.aloadN Xl.here hexec rfl (hb hbytes d26) rfl rfl ?_
        refine XS.iloadN Xl.here hexec rfl (hb hbytes d27) rfl ?_
        refine XS.iload Xl.here hexec rfl (hb hbytes d28) rfl ?_
        refine i2b Xl.here hexec rfl (hb hbytes d30) rfl ?_
        exact Steps.refl _)
      obtain ⟨T7, X7, p7, st7⟩ := Xl.aput hexec hBk rfl hlt rfl (fits_lo8 (cv A (o + i))) (g := (mkF m 31 #[.val (.ref b), .val (.int (Int32.ofNat (o + i))), .val (.ref d), .val (.int (Int32.ofNat (q + i))), .val (.int (Int32.ofNat len)), .val (.int (Int32.ofNat i)), .val (.int (cv A (o + i)))] [.int (lo8 (cv A (o + i))), .int (Int32.ofNat (q + i)), .ref d])) rfl (rest := []) rfl (hb hbytes d31)
      have c8 : Steps p.tables e below (s₁.setTop (entryFrame m #[.ref b, .int (Int32.ofNat o), .ref d, .int (Int32.ofNat q), .int (Int32.ofNat len)] 7)) (T7.setTop (mkF m 32 #[.val (.ref b), .val (.int (Int32.ofNat (o + i))), .val (.ref d), .val (.int (Int32.ofNat (q + i))), .val (.int (Int32.ofNat len)), .val (.int (Int32.ofNat i)), .val (.int (cv A (o + i)))] [])) := c6.trans (st7 _ (Steps.refl _))
      have c9 : Steps p.tables e below (s₁.setTop (entryFrame m #[.ref b, .int (Int32.ofNat o), .ref d, .int (Int32.ofNat q), .int (Int32.ofNat len)] 7)) (T7.setTop (mkF m 3 #[.val (.ref b), .val (.int (Int32.ofNat (o + i) + 1)), .val (.ref d), .val (.int (Int32.ofNat (q + i) + 1)), .val (.int (Int32.ofNat len)), .val (.int (Int32.ofNat i + 1)), .val (.int (cv A (o + i)))] [])) := c8.trans (by
        refine iincV X7.here hexec rfl 1 (hb hbytes d32) (by decide) rfl rfl ?_
        refine iincV X7.here hexec rfl 1 (hb hbytes d35) (by decide) rfl rfl ?_
        refine iincV X7.here hexec rfl 1 (hb hbytes d38) (by decide) rfl rfl ?_
        refine XS.goto X7.here hexec rfl (pc0 := 41) rfl (hb hbytes d41) (by decide) rfl ?_
        exact Steps.refl _)
      have c10 : Steps p.tables e below (s₁.setTop (entryFrame m #[.ref b, .int (Int32.ofNat o), .ref d, .int (Int32.ofNat q), .int (Int32.ofNat len)] 7)) (T7.setTop (mkF m 3 #[.val (.ref b), .val (.int (Int32.ofNat (o + (i + 1)))), .val (.ref d), .val (.int (Int32.ofNat (q + (i + 1)))), .val (.int (Int32.ofNat len)), .val (.int (Int32.ofNat (i + 1))), .val (.int (cv A (o + i)))] [])) := by
        have := c9
        rw [succ32, succ32, succ32] at this
        exact this
      exact ih (i + 1) (by omega) _ (Or.inr ⟨_, rfl, rfl⟩) T7 _ (by rw [copyLocs_step, ← List.append_assoc]; exact X7) (pl.trans p7) (fl.step (by omega) hlt (by simp)) c10
  obtain ⟨T9, B9, z9, X9, p9, f9, g9⟩ := loop len 0 (by omega) .unset (Or.inl rfl) s₁ B (by simpa [copyLocs] using X0) ⟨hB0.1, fun _ _ => rfl, rfl⟩ (Laid.zero _ _ _) c2
  have c11 : Steps p.tables e below (s₁.setTop (entryFrame m #[.ref b, .int (Int32.ofNat o), .ref d, .int (Int32.ofNat q), .int (Int32.ofNat len)] 7)) (T9.setTop (mkF m 46 #[.val (.ref b), .val (.int (Int32.ofNat (o + len))), .val (.ref d), .val (.int (Int32.ofNat (q + len))), .val (.int (Int32.ofNat len)), .val (.int (Int32.ofNat len)), z9] [.int (Int32.ofNat len)])) := g9.trans (by
    refine XS.iload X9.here hexec rfl (hb hbytes d3) rfl ?_
    refine XS.iload X9.here hexec rfl (hb hbytes d5) rfl ?_
    refine XS.icmpYes X9.here hexec rfl (pc0 := 7) rfl (hb hbytes d7) rfl (ii_ge_t (nlt32 (by omega) (Nat.le_refl _))) (by decide) rfl ?_
    refine XS.iload X9.here hexec rfl (hb hbytes d44) rfl ?_
    exact Steps.refl _)
  exact ⟨T9, some (.int (Int32.ofNat len)), _, _, _, X9, by simp, rfl, rfl, (fun h => by cases h), ⟨rfl, B9, p9.from hh0, f9⟩, fun fs hl => c11.trans (X9.ireturnOut hexec hret rfl (Or.inl rfl) (hb hbytes d46) hl)⟩
end Cmp5
namespace Cmp3
def yN : MethodName := ⟨"java/lang/StringUTF16", "compress", "([CII)[B"⟩
abbrev yB : ByteArray := jdk_52_method_16_code
theorem d0 : decode yB 0 = .ok (.iload_n 2, 1) := by decide +kernel
theorem d1 : decode yB 1 = .ok (.newarray .byte, 2) := by decide +kernel
theorem d3 : decode yB 3 = .ok (.astore_n 3, 1) := by decide +kernel
theorem d4 : decode yB 4 = .ok (.aload_n 0, 1) := by decide +kernel
theorem d5 : decode yB 5 = .ok (.iload_n 1, 1) := by decide +kernel
theorem d6 : decode yB 6 = .ok (.aload_n 3, 1) := by decide +kernel
theorem d7 : decode yB 7 = .ok (.iconst 0, 1) := by decide +kernel
theorem d8 : decode yB 8 = .ok (.iload_n 2, 1) := by decide +kernel
theorem d9 : decode yB 9 = .ok (.invokestatic 115, 3) := by decide +kernel
theorem d12 : decode yB 12 = .ok (.istore 4, 2) := by decide +kernel
theorem d14 : decode yB 14 = .ok (.iload 4, 2) := by decide +kernel
theorem d16 : decode yB 16 = .ok (.iload_n 2, 1) := by decide +kernel
theorem d17 : decode yB 17 = .ok (.if_icmp (.eq) 40, 3) := by decide +kernel
theorem d57 : decode yB 57 = .ok (.aload_n 3, 1) := by decide +kernel
theorem d58 : decode yB 58 = .ok (.areturn, 1) := by decide +kernel
def site : List Cond := [.arrayClass .byte, Cmp5.tab] ++ staticW U16 115 Cmp5.yN
def tab : Cond := tabOf yN yB 6 (some (.array .byte)) site
def P (b : Addr) (A : Cell) (o len : Nat) (args : Array Value) (s : State) : Prop := args = #[.ref b, .int (Int32.ofNat o), .int (Int32.ofNat len)] ∧ Ch b A s ∧ o + len ≤ A.slots.size ∧ len ≤ 536870912 ∧ ∀ i, i < len → ¬ 255 < cv A (o + i)
def E (b : Addr) (A : Cell) (o len : Nat) (r : Option Value) (s u : State) : Prop := NewArr .byte "[B" len (fun j => .int (lo8 (cv A (o + j)))) r s u ∧ u.heap.size = s.heap.size + 1
/-- no char of the range above 255: a new byte[] of their low bytes -/
theorem law (l : Launch) (b : Addr) (A : Cell) (o len : Nat) : Law l yN 3 3 1 18 yB 6 (some (.array .byte)) site (P b A o len) (E b A o len) [] 1 len := by
  refine Law.of_walk (plainFor_of_name (by decide +kernel)) (by decide +kernel) (by decide +kernel) (by decide) (fun _ _ h => by rw [h.1]; rfl) (fun _ U U' hal hh h => ⟨h.1, h.2.1.mv hal hh, h.2.2⟩) (fun r U U' V V' h1 hal h2 h => ⟨NewArr.mv r U U' V V' h1 hal h2 h.1, by rw [h1, h2]; exact h.2⟩) ?_
  intro p e s m args below meth c s₁ X0 hexec hbytes hml hret hlk hnm hown hh0 W hP
  obtain ⟨rfl, hA, l1, l2, hp⟩ := hP
  have a31 := hA.1.2.2.2
  have c1 : Steps p.tables e below (s₁.setTop (entryFrame m #[.ref b, .int (Int32.ofNat o), .int (Int32.ofNat len)] 6)) (s₁.setTop (mkF m 0 #[.val (.ref b), .val (.int (Int32.ofNat o)), .val (.int (Int32.ofNat len)), .unset, .unset, .unset] [])) := entry rfl
  have c2 : Steps p.tables e below (s₁.setTop (entryFrame m #[.ref b, .int (Int32.ofNat o), .int (Int32.ofNat len)] 6)) (s₁.setTop (mkF m 1 #[.val (.ref b), .val (.int (Int32.ofNat o)), .val (.int (Int32.ofNat len)), .unset, .unset, .unset] [.int (Int32.ofNat len)])) := c1.trans (by
    refine XS.iloadN X0.here hexec rfl (hb hbytes d0) rfl ?_
    exact Steps.refl _)
  obtain ⟨T3, B3, X3, ba3, bs3, bv3, bh3, bf3, st3⟩ := X0.anew hexec (atype := .byte) (wk W (.arrayClass .byte)) rfl (by show len * 1 ≤ _; omega) (by omega) (g := (mkF m 1 #[.val (.ref b), .val (.int (Int32.ofNat o)), .val (.int (Int32.ofNat len)), .unset, .unset, .unset] [.int (Int32.ofNat len)])) rfl (hb hbytes d1) (rest := []) rfl (Nat.le_refl _) (by show 0 + len ≤ len; omega)
  rw [hh0] at ba3 st3
  have kp3 : XT.Kept s T3 := (XT.Kept.of_eq hh0).push bh3
  have hA3 := hA.keep X3.warmed.alike (kp3 _ _ hA.1.1)
  have hne : b ≠ s.heap.size := hA.1.ne
  have c4 : Steps p.tables e below (s₁.setTop (entryFrame m #[.ref b, .int (Int32.ofNat o), .int (Int32.ofNat len)] 6)) (T3.setTop (mkF m 3 #[.val (.ref b), .val (.int (Int32.ofNat o)), .val (.int (Int32.ofNat len)), .unset, .unset, .unset] [.ref s.heap.size])) := c2.trans (st3 _ (Steps.refl _))
  have c5 : Steps p.tables e below (s₁.setTop (entryFrame m #[.ref b, .int (Int32.ofNat o), .int (Int32.ofNat len)] 6)) (T3.setTop (mkF m 9 #[.val (.ref b), .val (.int (Int32.ofNat o)), .val (.int (Int32.ofNat len)), .val (.ref s.heap.size), .unset, .unset] [.int (Int32.ofNat len), .int 0, .ref s.heap.size, .int (Int32.ofNat o), .ref b])) := c4.trans (by
    refine XS.astoreN X3.here hexec rfl (hb hbytes d3) rfl rfl rfl ?_
    refine XS.aloadN X3.here hexec rfl (hb hbytes d4) rfl rfl ?_
    refine XS.iloadN X3.here hexec rfl (hb hbytes d5) rfl ?_
    refine XS.aloadN X3.here hexec rfl (hb hbytes d6) rfl rfl ?_
    refine iconstV X3.here hexec rfl 0 (hb hbytes d7) (by decide) ?_
    refine XS.iloadN X3.here hexec rfl (hb hbytes d8) rfl ?_
    exact Steps.refl _)
  obtain ⟨v6, T6, X6, E6, g6⟩ := X3.callS hexec (Cmp5.law l b A s.heap.size B3 o 0 len) hown (wks W (staticW U16 115 Cmp5.yN)) (wk W Cmp5.tab) (W := 0) (Nat.le_of_ble_eq_true rfl) (Nat.le_of_ble_eq_true rfl) (Nat.le_refl _) (by show 0 + len + 0 ≤ len; omega) (g := (mkF m 9 #[.val (.ref b), .val (.int (Int32.ofNat o)), .val (.int (Int32.ofNat len)), .val (.ref s.heap.size), .unset, .unset] [.int (Int32.ofNat len), .int (Int32.ofNat 0), .ref s.heap.size, .int (Int32.ofNat o), .ref b])) rfl (by rw [hml]; rfl) c5 (argsL := [.ref b, .int (Int32.ofNat o), .ref s.heap.size, .int (Int32.ofNat 0), .int (Int32.ofNat len)]) (rest := []) rfl rfl (by show 2 * 0 + 0 ≤ _; decide) (hb hbytes d9) (⟨rfl, hA3, ba3, hne, l1, by rw [bs3]; simp, hp⟩)
  obtain ⟨rfl, B6, p6, f6⟩ := E6
  have c7 : Steps p.tables e below (s₁.setTop (entryFrame m #[.ref b, .int (Int32.ofNat o), .int (Int32.ofNat len)] 6)) (T6.setTop (mkF m 12 #[.val (.ref b), .val (.int (Int32.ofNat o)), .val (.int (Int32.ofNat len)), .val (.ref s.heap.size), .unset, .unset] [.int (Int32.ofNat len)])) := g6
  have c8 : Steps p.tables e below (s₁.setTop (entryFrame m #[.ref b, .int (Int32.ofNat o), .int (Int32.ofNat len)] 6)) (T6.setTop (mkF m 58 #[.val (.ref b), .val (.int (Int32.ofNat o)), .val (.int (Int32.ofNat len)), .val (.ref s.heap.size), .val (.int (Int32.ofNat len)), .unset] [.ref s.heap.size])) := c7.trans (by
    refine XS.istore X6.here hexec rfl (hb hbytes d12) rfl rfl ?_
    refine XS.iload X6.here hexec rfl (hb hbytes d14) rfl ?_
    refine XS.iloadN X6.here hexec rfl (hb hbytes d16) rfl ?_
    refine XS.icmpYes X6.here hexec rfl (pc0 := 17) rfl (hb hbytes d17) rfl (ii_eq_t rfl) (by decide) rfl ?_
    refine XS.aloadN X6.here hexec rfl (hb hbytes d57) rfl rfl ?_
    exact Steps.refl _)
  have X8 := X6.wide (L' := []) (cells' := 1) (slots' := len) (fun x hx hlt => by
    simp only [List.nil_append, copyLocs, List.mem_map, List.mem_range] at hx
    obtain ⟨i, -, rfl⟩ := hx
    exact absurd hlt (Nat.lt_irrefl _)) (Nat.le_refl _) (by omega)
  exact ⟨T6, some (.ref s.heap.size), _, _, _, X8, rfl, rfl, rfl, (fun h => by cases h), ⟨⟨rfl, B6, ba3.like (X3.warmed.alike.symm.trans X6.warmed.alike) p6.1 f6.1 f6.2.1 f6.2.2.1, f6.2.1.trans bv3, by rw [X6.warmed.alike.findClass, f6.1]; exact bf3, by rw [f6.2.2.1, bs3]; simp, fun j hj => by rw [f6.2.2.2 j, if_pos (by omega)]; rfl, kp3.put p6 (Nat.le_refl _)⟩, by rw [p6.2.2, bh3, hh0]; simp⟩, fun fs hl => c8.trans (X8.areturnOut hexec rfl hret rfl (hb hbytes d58) hl)⟩
end Cmp3
namespace CodL
def yN : MethodName := ⟨"java/lang/StringUTF16", "coderFromArrayLen", "([BI)B"⟩
abbrev yB : ByteArray := jdk_52_method_15_code
theorem d0 : decode yB 0 = .ok (.iload_n 1, 1) := by decide +kernel
theorem d1 : decode yB 1 = .ok (.aload_n 0, 1) := by decide +kernel
theorem d2 : decode yB 2 = .ok (.arraylength, 1) := by decide +kernel
theorem d3 : decode yB 3 = .ok (.isub, 1) := by decide +kernel
theorem d4 : decode yB 4 = .ok (.bipush 31, 2) := by decide +kernel
theorem d6 : decode yB 6 = .ok (.iushr, 1) := by decide +kernel
theorem d7 : decode yB 7 = .ok (.i2b, 1) := by decide +kernel
theorem d8 : decode yB 8 = .ok (.ireturn, 1) := by decide +kernel
def site : List Cond := []
def tab : Cond := tabOf yN yB 2 (some .byte) site
def P (d : Addr) (B : Cell) (args : Array Value) (s : State) : Prop := args = #[.ref d, .int (Int32.ofNat B.slots.size)] ∧ Arr .byte d B s
def E (r : Option Value) (s u : State) : Prop := XT.PureE (some (.int 0)) r s u
/-- an array as long as the number of chars: LATIN1 -/
theorem law (l : Launch) (d : Addr) (B : Cell) : Law l yN 2 2 0 0 yB 2 (some .byte) site (P d B) E [] 0 0 := by
  refine Law.of_walk (plainFor_of_name (by decide +kernel)) (by decide +kernel) (by decide +kernel) (by decide) (fun _ _ h => by rw [h.1]; rfl) (fun _ U U' hal hh h => ⟨h.1, h.2.mv hal hh⟩) (fun r U U' V V' h1 hal h2 h => XT.PureE.mv r U U' V V' h1 hal h2 h) ?_
  intro p e s m args below meth c s₁ X0 hexec hbytes hml hret hlk hnm hown hh0 W hP
  obtain ⟨rfl, hB⟩ := hP
  have hB0 := hB.mv X0.warmed.alike hh0
  have c1 : Steps p.tables e below (s₁.setTop (entryFrame m #[.ref d, .int (Int32.ofNat B.slots.size)] 2)) (s₁.setTop (mkF m 0 #[.val (.ref d), .val (.int (Int32.ofNat B.slots.size))] [])) := entry rfl
  have c2 : Steps p.tables e below (s₁.setTop (entryFrame m #[.ref d, .int (Int32.ofNat B.slots.size)] 2)) (s₁.setTop (mkF m 2 #[.val (.ref d), .val (.int (Int32.ofNat B.slots.size))] [.ref d, .int (Int32.ofNat B.slots.size)])) := c1.trans (by
    refine XS.iloadN X0.here hexec rfl (hb hbytes d0) rfl ?_
    refine XS.aloadN X0.here hexec rfl (hb hbytes d1) rfl rfl ?_
    exact Steps.refl _)
  have c3 : Steps p.tables e below (s₁.setTop (entryFrame m #[.ref d, .int (Int32.ofNat B.slots.size)] 2)) (s₁.setTop (mkF m 8 #[.val (.ref d), .val (.int (Int32.ofNat B.slots.size))] [.int (lo8 (ushr (Int32.ofNat B.slots.size - Int32.ofNat B.slots.size) 31))])) := c2.trans (by
    refine X0.alen hexec hB0 rfl rfl (hb hbytes d2) ?_
    refine XS.isub X0.here hexec rfl (hb hbytes d3) rfl ?_
    refine bipushV X0.here hexec rfl 31 (hb hbytes d4) (by decide) ?_
    refine iushr X0.here hexec rfl (hb hbytes d6) rfl ?_
    refine i2b X0.here hexec rfl (hb hbytes d7) rfl ?_
    exact Steps.refl _)
  have e0 : lo8 (ushr (Int32.ofNat B.slots.size - Int32.ofNat B.slots.size) 31) = 0 := by rw [Int32.sub_self]; decide
  rw [e0] at c3
  exact ⟨s₁, some (.int 0), _, _, _, X0, rfl, rfl, rfl, (fun h => by cases h), ⟨rfl, hh0⟩, fun fs hl => c3.trans (X0.ireturnOut hexec hret rfl (Or.inr (Or.inr (Or.inl rfl))) (hb hbytes d8) hl)⟩
end CodL
/-- the String at a is Latin-1 over a new byte[] (the heap's one new cell): the low bytes of the len chars of A from o on; every cell but a is kept -/
def Got (a : Addr) (D : Cell) (fV fC : Field) (A : Cell) (o len : Nat) (r : Option Value) (s u : State) : Prop := r = none ∧ ∃ D' V : Cell, Blank "java/lang/String" a D' u ∧ Same D D' [fV.slot, fC.slot] ∧ D'.slots[fV.slot]? = some (.ref s.heap.size) ∧ D'.slots[fC.slot]? = some (.int 0) ∧ Arr .byte s.heap.size V u ∧ V.vm = .none ∧ u.vm.findClass "[B" = some V.cls ∧ V.slots.size = len ∧ (∀ j, j < len → V.slots[j]? = some (.int (lo8 (cv A (o + j))))) ∧ (∀ (y : Addr) (c : Cell), y ≠ a → s.heap[y]? = some c → u.heap[y]? = some c) ∧ u.heap.size = s.heap.size + 1
theorem Got.mv {a : Addr} {D A : Cell} {fV fC : Field} {o len : Nat} : ∀ r (U U' V V' : State), U'.heap = U.heap → V.vm.Alike V'.vm → V'.heap = V.heap → Got a D fV fC A o len r U V → Got a D fV fC A o len r U' V' :=
  fun r U U' V V' h1 hal h2 ⟨e0, D', X, a1, a2, a3, a4, a5, a6, a7, a8, a9, a10, a11⟩ => ⟨e0, D', X, a1.mv hal h2, a2, by rw [h1]; exact a3, a4, by rw [h1]; exact a5.mv hal h2, a6, by rw [hal.findClass]; exact a7, a8, a9, by rw [h1, h2]; exact a10, by rw [h1, h2]; exact a11⟩
namespace New4
def yN : MethodName := ⟨"java/lang/String", "<init>", "([CIILjava/lang/Void;)V"⟩
abbrev yB : ByteArray := jdk_42_method_149_code
theorem d0 : decode yB 0 = .ok (.aload_n 0, 1) := by decide +kernel
theorem d1 : decode yB 1 = .ok (.invokespecial 1, 3) := by decide +kernel
theorem d4 : decode yB 4 = .ok (.iload_n 3, 1) := by decide +kernel
theorem d5 : decode yB 5 = .ok (.ifCond (.ne) 22, 3) := by decide +kernel
theorem d27 : decode yB 27 = .ok (.getstatic 38, 3) := by decide +kernel
theorem d30 : decode yB 30 = .ok (.ifCond (.eq) 28, 3) := by decide +kernel
theorem d33 : decode yB 33 = .ok (.aload_n 1, 1) := by decide +kernel
theorem d34 : decode yB 34 = .ok (.iload_n 2, 1) := by decide +kernel
theorem d35 : decode yB 35 = .ok (.iload_n 3, 1) := by decide +kernel
theorem d36 : decode yB 36 = .ok (.invokestatic 177, 3) := by decide +kernel
theorem d39 : decode yB 39 = .ok (.astore 5, 2) := by decide +kernel
theorem d41 : decode yB 41 = .ok (.aload_n 0, 1) := by decide +kernel
theorem d42 : decode yB 42 = .ok (.aload 5, 2) := by decide +kernel
theorem d44 : decode yB 44 = .ok (.iload_n 3, 1) := by decide +kernel
theorem d45 : decode yB 45 = .ok (.invokestatic 47, 3) := by decide +kernel
theorem d48 : decode yB 48 = .ok (.putfield 15, 3) := by decide +kernel
theorem d51 : decode yB 51 = .ok (.aload_n 0, 1) := by decide +kernel
theorem d52 : decode yB 52 = .ok (.aload 5, 2) := by decide +kernel
theorem d54 : decode yB 54 = .ok (.putfield 9, 3) := by decide +kernel
theorem d57 : decode yB 57 = .ok (.return_, 1) := by decide +kernel
def site : List Cond := [.fieldLink "java/lang/String" 38 "java/lang/String" "COMPACT_STRINGS" "Z", Cmp3.tab, CodL.tab, .laysFinal "java/lang/String" "java/lang/String" "value" "[B", .fieldLink "java/lang/String" 9 "java/lang/String" "value" "[B", .laysFinal "java/lang/String" "java/lang/String" "coder" "B", .fieldLink "java/lang/String" 15 "java/lang/String" "coder" "B"] ++ objW "java/lang/String" 1 ++ staticW "java/lang/String" 177 Cmp3.yN ++ staticW "java/lang/String" 47 CodL.yN
def tab : Cond := tabOf yN yB 6 none site
def P (a : Addr) (D : Cell) (fV fC : Field) (b : Addr) (A : Cell) (z : Int32) (o len : Nat) (args : Array Value) (s : State) : Prop := args = #[.ref a, .ref b, .int (Int32.ofNat o), .int (Int32.ofNat len), .null] ∧ Blank "java/lang/String" a D s ∧ Found "java/lang/String" "value" "[B" fV s ∧ Found "java/lang/String" "coder" "B" fC s ∧ Ch b A s ∧ StaticIs s "java/lang/String" "COMPACT_STRINGS" "Z" (.int z) ∧ ¬ z = 0 ∧ 0 < len ∧ o + len ≤ A.slots.size ∧ len ≤ 536870912 ∧ ∀ i, i < len → ¬ 255 < cv A (o + i)
def E (a : Addr) (D : Cell) (fV fC : Field) (A : Cell) (o len : Nat) (r : Option Value) (s u : State) : Prop := Got a D fV fC A o len r s u
/-- len > 0, no char of the range above 255: a Latin-1 String of their low bytes -/
theorem law (l : Launch) (a : Addr) (D : Cell) (fV fC : Field) (b : Addr) (A : Cell) (z : Int32) (o len : Nat) : Law l yN 5 4 2 35 yB 6 none site (P a D fV fC b A z o len) (E a D fV fC A o len) [⟨a, fC.slot⟩, ⟨a, fV.slot⟩] 1 len := by
  refine Law.of_walk (plainFor_of_name (by decide +kernel)) (by decide +kernel) (by decide +kernel) (by decide) (fun _ _ h => by rw [h.1]; rfl) (fun _ U U' hal hh h => ⟨h.1, h.2.1.mv hal hh, h.2.2.1.al hal, h.2.2.2.1.al hal, h.2.2.2.2.1.mv hal hh, h.2.2.2.2.2.1.there hal hh, h.2.2.2.2.2.2⟩) (fun r U U' V V' h1 hal h2 h => Got.mv r U U' V V' h1 hal h2 h) ?_
  intro p e s m args below meth c s₁ X0 hexec hbytes hml hret hlk hnm hown hh0 W hP
  obtain ⟨rfl, hB, f1, f2, hA, s1, hz, l0, l1, l2, hp⟩ := hP
  have a31 := hA.1.2.2.2
  have c1 : Steps p.tables e below (s₁.setTop (entryFrame m #[.ref a, .ref b, .int (Int32.ofNat o), .int (Int32.ofNat len), .null] 6)) (s₁.setTop (mkF m 0 #[.val (.ref a), .val (.ref b), .val (.int (Int32.ofNat o)), .val (.int (Int32.ofNat len)), .val .null, .unset] [])) := entry rfl
  have c2 : Steps p.tables e below (s₁.setTop (entryFrame m #[.ref a, .ref b, .int (Int32.ofNat o), .int (Int32.ofNat len), .null] 6)) (s₁.setTop (mkF m 1 #[.val (.ref a), .val (.ref b), .val (.int (Int32.ofNat o)), .val (.int (Int32.ofNat len)), .val .null, .unset] [.ref a])) := c1.trans (by
    refine XS.aloadN X0.here hexec rfl (hb hbytes d0) rfl rfl ?_
    exact Steps.refl _)
  obtain ⟨T3, X3, q3, st3⟩ := X0.oinit hexec hown (wks W (objW "java/lang/String" 1)) (g := (mkF m 1 #[.val (.ref a), .val (.ref b), .val (.int (Int32.ofNat o)), .val (.int (Int32.ofNat len)), .val .null, .unset] [.ref a])) rfl (by rw [hml]; rfl) (rest := []) rfl (hb hbytes d1) (W := 0) (by show 2 * 0 + 0 ≤ _; decide) (Nat.le_of_ble_eq_true rfl) (Nat.le_of_ble_eq_true rfl)
  have hh3 := q3.trans hh0
  have c4 : Steps p.tables e below (s₁.setTop (entryFrame m #[.ref a, .ref b, .int (Int32.ofNat o), .int (Int32.ofNat len), .null] 6)) (T3.setTop (mkF m 27 #[.val (.ref a), .val (.ref b), .val (.int (Int32.ofNat o)), .val (.int (Int32.ofNat len)), .val .null, .unset] [])) := (c2.trans (st3 _ (Steps.refl _))).trans (by
    refine XS.iloadN X3.here hexec rfl (hb hbytes d4) rfl ?_
    refine XS.ifYes X3.here hexec rfl (pc0 := 5) rfl (hb hbytes d5) rfl (i0_ne_t (nz32 (by omega) l0)) (by decide) rfl ?_
    exact Steps.refl _)
  obtain ⟨T5, X5, q5, st5⟩ := X3.sget hexec hown (wk W (.fieldLink "java/lang/String" 38 "java/lang/String" "COMPACT_STRINGS" "Z")) s1 (fun _ _ h => by rw [hh3]; exact h) (g := (mkF m 27 #[.val (.ref a), .val (.ref b), .val (.int (Int32.ofNat o)), .val (.int (Int32.ofNat len)), .val .null, .unset] [])) rfl (hb hbytes d27)
  have hh5 := q5.trans hh3
  have c6 : Steps p.tables e below (s₁.setTop (entryFrame m #[.ref a, .ref b, .int (Int32.ofNat o), .int (Int32.ofNat len), .null] 6)) (T5.setTop (mkF m 30 #[.val (.ref a), .val (.ref b), .val (.int (Int32.ofNat o)), .val (.int (Int32.ofNat len)), .val .null, .unset] [.int z])) := c4.trans (st5 _ (Steps.refl _))
  have c7 : Steps p.tables e below (s₁.setTop (entryFrame m #[.ref a, .ref b, .int (Int32.ofNat o), .int (Int32.ofNat len), .null] 6)) (T5.setTop (mkF m 36 #[.val (.ref a), .val (.ref b), .val (.int (Int32.ofNat o)), .val (.int (Int32.ofNat len)), .val .null, .unset] [.int (Int32.ofNat len), .int (Int32.ofNat o), .ref b])) := c6.trans (by
    refine XS.ifNo X5.here hexec rfl (hb hbytes d30) rfl (i0_eq_f hz) ?_
    refine XS.aloadN X5.here hexec rfl (hb hbytes d33) rfl rfl ?_
    refine XS.iloadN X5.here hexec rfl (hb hbytes d34) rfl ?_
    refine XS.iloadN X5.here hexec rfl (hb hbytes d35) rfl ?_
    exact Steps.refl _)
  obtain ⟨v8, T8, X8, E8, g8⟩ := X5.callS hexec (Cmp3.law l b A o len) hown (wks W (staticW "java/lang/String" 177 Cmp3.yN)) (wk W Cmp3.tab) (W := 0) (Nat.le_of_ble_eq_true rfl) (Nat.le_of_ble_eq_true rfl) (Nat.le_refl _) (by show 0 + len ≤ len; omega) (g := (mkF m 36 #[.val (.ref a), .val (.ref b), .val (.int (Int32.ofNat o)), .val (.int (Int32.ofNat len)), .val .null, .unset] [.int (Int32.ofNat len), .int (Int32.ofNat o), .ref b])) rfl (by rw [hml]; rfl) c7 (argsL := [.ref b, .int (Int32.ofNat o), .int (Int32.ofNat len)]) (rest := []) rfl rfl (by show 2 * 0 + 0 ≤ _; decide) (hb hbytes d36) (⟨rfl, hA.mv X5.warmed.alike hh5, l1, l2, hp⟩)
  obtain ⟨e8, z8⟩ := E8
  obtain ⟨rfl, N, n1, n2, n3, n4, n5, n6⟩ := NewArr.mv _ T5 s _ _ hh5.symm (Vm.Alike.refl _) rfl e8
  rw [hh5] at z8
  have hB1 := hB.keep X8.warmed.alike (n6 _ _ hB.1)
  have hne : s.heap.size ≠ a := (Nat.ne_of_lt (Array.getElem?_eq_some_iff.mp hB.1).1).symm
  have c9 : Steps p.tables e below (s₁.setTop (entryFrame m #[.ref a, .ref b, .int (Int32.ofNat o), .int (Int32.ofNat len), .null] 6)) (T8.setTop (mkF m 39 #[.val (.ref a), .val (.ref b), .val (.int (Int32.ofNat o)), .val (.int (Int32.ofNat len)), .val .null, .unset] [.ref s.heap.size])) := g8
  have c10 : Steps p.tables e below (s₁.setTop (entryFrame m #[.ref a, .ref b, .int (Int32.ofNat o), .int (Int32.ofNat len), .null] 6)) (T8.setTop (mkF m 45 #[.val (.ref a), .val (.ref b), .val (.int (Int32.ofNat o)), .val (.int (Int32.ofNat len)), .val .null, .val (.ref s.heap.size)] [.int (Int32.ofNat N.slots.size), .ref s.heap.size, .ref a])) := by
    have hc : Steps p.tables e below (s₁.setTop (entryFrame m #[.ref a, .ref b, .int (Int32.ofNat o), .int (Int32.ofNat len), .null] 6)) (T8.setTop (mkF m 45 #[.val (.ref a), .val (.ref b), .val (.int (Int32.ofNat o)), .val (.int (Int32.ofNat len)), .val .null, .val (.ref s.heap.size)] [.int (Int32.ofNat len), .ref s.heap.size, .ref a])) := c9.trans (by
      refine XS.astore X8.here hexec rfl (hb hbytes d39) rfl rfl rfl ?_
      refine XS.aloadN X8.here hexec rfl (hb hbytes d41) rfl rfl ?_
      refine XS.aload X8.here hexec rfl (hb hbytes d42) rfl rfl ?_
      refine XS.iloadN X8.here hexec rfl (hb hbytes d44) rfl ?_
      exact Steps.refl _)
    rw [n4]; exact hc
  obtain ⟨v11, T11, X11, E11, g11⟩ := X8.callS hexec (CodL.law l s.heap.size N) hown (wks W (staticW "java/lang/String" 47 CodL.yN)) (wk W CodL.tab) (W := 1) (Nat.le_of_ble_eq_true rfl) (Nat.le_of_ble_eq_true rfl) (Nat.le_refl _) (by show 0 + len + 0 ≤ len; omega) (g := (mkF m 45 #[.val (.ref a), .val (.ref b), .val (.int (Int32.ofNat o)), .val (.int (Int32.ofNat len)), .val .null, .val (.ref s.heap.size)] [.int (Int32.ofNat N.slots.size), .ref s.heap.size, .ref a])) rfl (by rw [hml]; rfl) c10 (argsL := [.ref s.heap.size, .int (Int32.ofNat N.slots.size)]) (rest := [.ref a]) rfl rfl (by show 2 * 0 + (1 + 0) ≤ _; decide) (hb hbytes d45) (⟨rfl, n1⟩)
  obtain ⟨rfl, q11⟩ := E11
  have hB11 := hB1.mv (X8.warmed.alike.symm.trans X11.warmed.alike) q11
  have c12 : Steps p.tables e below (s₁.setTop (entryFrame m #[.ref a, .ref b, .int (Int32.ofNat o), .int (Int32.ofNat len), .null] 6)) (T11.setTop (mkF m 48 #[.val (.ref a), .val (.ref b), .val (.int (Int32.ofNat o)), .val (.int (Int32.ofNat len)), .val .null, .val (.ref s.heap.size)] [.int 0, .ref a])) := g11
  obtain ⟨T13, X13, p13, bl13, sl13, st13⟩ := X11.finit hexec hown (wk W (.fieldLink "java/lang/String" 15 "java/lang/String" "coder" "B")) (Or.inr ⟨_, (wk W (.laysFinal "java/lang/String" "java/lang/String" "coder" "B"))⟩) (Or.inl ⟨rfl, hnm⟩) f2 (Or.inl rfl) hB11 (t := .byte) (by decide +kernel) rfl (g := (mkF m 48 #[.val (.ref a), .val (.ref b), .val (.int (Int32.ofNat o)), .val (.int (Int32.ofNat len)), .val .null, .val (.ref s.heap.size)] [.int 0, .ref a])) rfl (rest := []) rfl (hb hbytes d48)
  have c14 : Steps p.tables e below (s₁.setTop (entryFrame m #[.ref a, .ref b, .int (Int32.ofNat o), .int (Int32.ofNat len), .null] 6)) (T13.setTop (mkF m 54 #[.val (.ref a), .val (.ref b), .val (.int (Int32.ofNat o)), .val (.int (Int32.ofNat len)), .val .null, .val (.ref s.heap.size)] [.ref s.heap.size, .ref a])) := (c12.trans (st13 _ (Steps.refl _))).trans (by
    refine XS.aloadN X13.here hexec rfl (hb hbytes d51) rfl rfl ?_
    refine XS.aload X13.here hexec rfl (hb hbytes d52) rfl rfl ?_
    exact Steps.refl _)
  obtain ⟨T15, X15, p15, bl15, sl15, st15⟩ := X13.finit hexec hown (wk W (.fieldLink "java/lang/String" 9 "java/lang/String" "value" "[B")) (Or.inr ⟨_, (wk W (.laysFinal "java/lang/String" "java/lang/String" "value" "[B"))⟩) (Or.inl ⟨rfl, hnm⟩) f1 (Or.inl rfl) bl13 (t := (.array .byte)) (by decide +kernel) rfl (g := (mkF m 54 #[.val (.ref a), .val (.ref b), .val (.int (Int32.ofNat o)), .val (.int (Int32.ofNat len)), .val .null, .val (.ref s.heap.size)] [.ref s.heap.size, .ref a])) rfl (rest := []) rfl (hb hbytes d54)
  have c16 : Steps p.tables e below (s₁.setTop (entryFrame m #[.ref a, .ref b, .int (Int32.ofNat o), .int (Int32.ofNat len), .null] 6)) (T15.setTop (mkF m 57 #[.val (.ref a), .val (.ref b), .val (.int (Int32.ofNat o)), .val (.int (Int32.ofNat len)), .val .null, .val (.ref s.heap.size)] [])) := c14.trans (st15 _ (Steps.refl _))
  have ap := apart (Or.inr ⟨_, (wk W (.laysFinal "java/lang/String" "java/lang/String" "value" "[B"))⟩) (Or.inr ⟨_, (wk W (.laysFinal "java/lang/String" "java/lang/String" "coder" "B"))⟩) f1 f2 (t₁ := .array .byte) (t₂ := .byte) (by decide +kernel) (by decide +kernel) (by decide)
  have al := X8.warmed.alike.symm.trans X15.warmed.alike
  have n7 : T11.heap[s.heap.size]? = some N := by rw [q11]; exact n1.1
  exact ⟨T15, none, _, _, _, X15, by simp, rfl, by omega, (fun _ => rfl), ⟨rfl, _, N, bl15, ((Same.refl D _).set _ (by simp)).set _ (by simp), sl15, (Cell.slots_setSlot_ne _ ap).trans sl13, n1.keep al (p15.other hne (p13.other hne n7)), n2, by rw [al.findClass]; exact n3, n4, n5, fun y c h1 h2 => p15.other h1 (p13.other h1 (by rw [q11]; exact n6 y c h2)), by rw [p15.2.2, p13.2.2, q11]; exact z8⟩, fun fs hl => c16.trans (X15.returnOut hexec hret (hb hbytes d57) hl)⟩
end New4
namespace New1
def yN : MethodName := ⟨"java/lang/String", "<init>", "([C)V"⟩
abbrev yB : ByteArray := jdk_42_method_3_code
theorem d0 : decode yB 0 = .ok (.aload_n 0, 1) := by decide +kernel
theorem d1 : decode yB 1 = .ok (.aload_n 1, 1) := by decide +kernel
theorem d2 : decode yB 2 = .ok (.iconst 0, 1) := by decide +kernel
theorem d3 : decode yB 3 = .ok (.aload_n 1, 1) := by decide +kernel
theorem d4 : decode yB 4 = .ok (.arraylength, 1) := by decide +kernel
theorem d5 : decode yB 5 = .ok (.aconst_null, 1) := by decide +kernel
theorem d6 : decode yB 6 = .ok (.invokespecial 27, 3) := by decide +kernel
theorem d9 : decode yB 9 = .ok (.return_, 1) := by decide +kernel
def site : List Cond := [New4.tab] ++ initW "java/lang/String" 27 New4.yN
def tab : Cond := tabOf yN yB 2 none site
def P (a : Addr) (D : Cell) (fV fC : Field) (b : Addr) (A : Cell) (z : Int32) (args : Array Value) (s : State) : Prop := args = #[.ref a, .ref b] ∧ Blank "java/lang/String" a D s ∧ Found "java/lang/String" "value" "[B" fV s ∧ Found "java/lang/String" "coder" "B" fC s ∧ Ch b A s ∧ StaticIs s "java/lang/String" "COMPACT_STRINGS" "Z" (.int z) ∧ ¬ z = 0 ∧ 0 < A.slots.size ∧ A.slots.size ≤ 536870912 ∧ ∀ i, i < A.slots.size → ¬ 255 < cv A i
def E (a : Addr) (D : Cell) (fV fC : Field) (A : Cell) (r : Option Value) (s u : State) : Prop := Got a D fV fC A 0 A.slots.size r s u
/-- new String(chars), not empty, no char above 255: a Latin-1 String of their low bytes -/
theorem law (l : Launch) (a : Addr) (D : Cell) (fV fC : Field) (b : Addr) (A : Cell) (z : Int32) : Law l yN 2 1 3 52 yB 2 none site (P a D fV fC b A z) (E a D fV fC A) [⟨a, fC.slot⟩, ⟨a, fV.slot⟩] 1 A.slots.size := by
  refine Law.of_walk (plainFor_of_name (by decide +kernel)) (by decide +kernel) (by decide +kernel) (by decide) (fun _ _ h => by rw [h.1]; rfl) (fun _ U U' hal hh h => ⟨h.1, h.2.1.mv hal hh, h.2.2.1.al hal, h.2.2.2.1.al hal, h.2.2.2.2.1.mv hal hh, h.2.2.2.2.2.1.there hal hh, h.2.2.2.2.2.2⟩) (fun r U U' V V' h1 hal h2 h => Got.mv r U U' V V' h1 hal h2 h) ?_
  intro p e s m args below meth c s₁ X0 hexec hbytes hml hret hlk hnm hown hh0 W hP
  obtain ⟨rfl, hB, f1, f2, hA, s1, hz, l0, l2, hp⟩ := hP
  have c1 : Steps p.tables e below (s₁.setTop (entryFrame m #[.ref a, .ref b] 2)) (s₁.setTop (mkF m 0 #[.val (.ref a), .val (.ref b)] [])) := entry rfl
  have c2 : Steps p.tables e below (s₁.setTop (entryFrame m #[.ref a, .ref b] 2)) (s₁.setTop (mkF m 6 #[.val (.ref a), .val (.ref b)] [.null, .int (Int32.ofNat A.slots.size), .int 0, .ref b, .ref a])) := c1.trans (by
    refine XS.aloadN X0.here hexec rfl (hb hbytes d0) rfl rfl ?_
    refine XS.aloadN X0.here hexec rfl (hb hbytes d1) rfl rfl ?_
    refine iconstV X0.here hexec rfl 0 (hb hbytes d2) (by decide) ?_
    refine XS.aloadN X0.here hexec rfl (hb hbytes d3) rfl rfl ?_
    refine X0.alen hexec (hA.1.mv X0.warmed.alike hh0) rfl rfl (hb hbytes d4) ?_
    refine XS.aconstNull X0.here hexec rfl (hb hbytes d5) ?_
    exact Steps.refl _)
  obtain ⟨v3, T3, X3, E3, g3⟩ := X0.callN hexec (New4.law l a D fV fC b A z 0 A.slots.size) rfl hown (wks W (initW "java/lang/String" 27 New4.yN)) (W New4.tab (by simp only [site, List.mem_cons, List.mem_append, true_or, or_true])) (W := 0) (Nat.le_of_ble_eq_true rfl) (Nat.le_of_ble_eq_true rfl) (Nat.le_refl _) (by show 0 + A.slots.size ≤ A.slots.size; omega) (g := (mkF m 6 #[.val (.ref a), .val (.ref b)] [.null, .int (Int32.ofNat A.slots.size), .int (Int32.ofNat 0), .ref b, .ref a])) rfl (by rw [hml]; rfl) c2 (argsL := [.ref b, .int (Int32.ofNat 0), .int (Int32.ofNat A.slots.size), .null]) (rest := []) rfl rfl (by show 2 * 0 + 0 ≤ _; decide) (hb hbytes d6) (⟨rfl, hB.mv X0.warmed.alike hh0, f1.al X0.warmed.alike, f2.al X0.warmed.alike, hA.mv X0.warmed.alike hh0, s1.there X0.warmed.alike hh0, hz, l0, by omega, l2, fun i hi => by rw [Nat.zero_add]; exact hp i hi⟩)
  have e0 := Got.mv _ s₁ s _ _ hh0.symm (Vm.Alike.refl _) rfl E3
  obtain rfl := e0.1
  have c4 : Steps p.tables e below (s₁.setTop (entryFrame m #[.ref a, .ref b] 2)) (T3.setTop (mkF m 9 #[.val (.ref a), .val (.ref b)] [])) := g3
  exact ⟨T3, none, _, _, _, X3, by simp, rfl, by omega, (fun _ => rfl), e0, fun fs hl => c4.trans (X3.returnOut hexec hret (hb hbytes d9) hl)⟩
theorem pays {l : Launch} {R : Room} {p : Program} {e : Env} {below : List Frame} {s : State} {sargs : Array Value} {len W : Nat} (a : Addr) (D : Cell) (fV fC : Field) (b : Addr) (A : Cell) (z : Int32) (htab : tab.before sargs s = true) (hfr : 4 ≤ R.frames) (hlo : W + 65 ≤ R.locals) :
    Back l R p e below s sargs yN len W (fun A₁ a₁ => A₁.cells + 1 ≤ R.cells ∧ A₁.slots + A.slots.size ≤ R.slots ∧ P a D fV fC b A z a₁ A₁.U) (fun A₁ _ v₁ B₁ => E a D fV fC A v₁ A₁.U B₁.U ∧ B₁.locs = A₁.locs ++ [⟨a, fC.slot⟩, ⟨a, fV.slot⟩] ∧ B₁.cells = A₁.cells + 1 ∧ B₁.slots = A₁.slots + A.slots.size) :=
  (law l a D fV fC b A z).pays htab hfr (by omega)
end New1
end StrChars
namespace StrChars.Road
open Jvm Sem ClassFile Op Lib Jvm.Stand Jvm.Free Jvm.Free.XT
open Jvm.Lib.Cold (StaticIs)
abbrev ST : String := "java/lang/String"
/-- every table word that New1's law asks, flat -/
abbrev words : List Jvm.Cond := [.code New1.yN New1.yB 2 none, .initialized ST, .methodLink ST 27 New4.yN, .instanceMethod New4.yN,
  .code New4.yN New4.yB 6 none, .fieldLink ST 38 ST "COMPACT_STRINGS" "Z", .laysFinal ST ST "value" "[B", .fieldLink ST 9 ST "value" "[B", .laysFinal ST ST "coder" "B", .fieldLink ST 15 ST "coder" "B",
  .methodLink ST 1 Lib.objectInit, .instanceMethod Lib.objectInit, .code Lib.objectInit ⟨#[0xb1]⟩ 1 none, .methodLink ST 177 Cmp3.yN, .static Cmp3.yN, .methodLink ST 47 CodL.yN, .static CodL.yN,
  .code Cmp3.yN Cmp3.yB 6 (some (.array .byte)), .initialized U16, .arrayClass .byte, .methodLink U16 115 Cmp5.yN, .static Cmp5.yN, .code Cmp5.yN Cmp5.yB 7 (some .int), .code CodL.yN CodL.yB 2 (some .byte)]
theorem tab_of {a : Array Value} {s : State} (h : ∀ w ∈ words, w.before a s = true) : New1.tab.before a s = true := by
  have h5 : Cmp5.tab.before a s = true := unparts (wk h (.code Cmp5.yN Cmp5.yB 7 (some .int))) (wks h (.initialized Cmp5.yN.cls :: Cmp5.site))
  have hc : CodL.tab.before a s = true := unparts (wk h (.code CodL.yN CodL.yB 2 (some .byte))) (wks h (.initialized CodL.yN.cls :: CodL.site))
  have q5 : ∀ w ∈ Cmp5.tab :: words, w.before a s = true := fun w hw => (List.mem_cons.mp hw).elim (fun e => e ▸ h5) (h w)
  have h3 : Cmp3.tab.before a s = true := unparts (wk q5 (.code Cmp3.yN Cmp3.yB 6 (some (.array .byte)))) (wks q5 (.initialized Cmp3.yN.cls :: Cmp3.site))
  have q3 : ∀ w ∈ Cmp3.tab :: CodL.tab :: words, w.before a s = true := fun w hw => (List.mem_cons.mp hw).elim (fun e => e ▸ h3) fun hw => (List.mem_cons.mp hw).elim (fun e => e ▸ hc) (h w)
  have h4 : New4.tab.before a s = true := unparts (wk q3 (.code New4.yN New4.yB 6 none)) (wks q3 (.initialized New4.yN.cls :: New4.site))
  have q4 : ∀ w ∈ New4.tab :: words, w.before a s = true := fun w hw => (List.mem_cons.mp hw).elim (fun e => e ▸ h4) (h w)
  exact unparts (wk q4 (.code New1.yN New1.yB 2 none)) (wks q4 (.initialized New1.yN.cls :: New1.site))
/-- the words ride from the start Z to the walk's own state -/
theorem moved {Z s : State} {a0 args : Array Value} (hZ : Z.Warmed39 s.vm) (hw : ∀ d ∈ words, d.before a0 Z = true) : ∀ d ∈ words, d.before args s = true := fun d hd => by
  have q := hw d hd
  have t : ∀ d ∈ words, d = .arrayClass .byte ∨ (d.onTables && d.keepsFace) = true := by decide +kernel
  rcases t d hd with rfl | t
  · exact RoadKit.mvA hZ q
  · exact RoadKit.mv hZ q t
/-- WHAT COMES BACK, over the tables of the start Z: h the heap at the call, h' behind it -/
def Q (Z : State) (x : Addr) (A : Cell) (h : Heap) (v : Option Value) (h' : Heap) (L : List Loc) : Prop := v = none ∧ (∀ y ∈ L, y.base = x) ∧ RoadKit.Keep h h' [x] ∧ h'.size = h.size + 1 ∧ RoadKit.Exa Z h' x ST ∧ RoadKit.Fld Z h' x ST "value" "[B" (.ref h.size) ∧ RoadKit.Fld Z h' x ST "coder" "B" (.int 0) ∧
  (∃ V : Cell, RoadKit.Arr Z h' h.size V .byte ∧ V.vm = .none ∧ Z.vm.findClass "[B" = some V.cls ∧ V.slots.size = A.slots.size ∧ ∀ j, j < A.slots.size → V.slots[j]? = some (.int (lo8 (cv A j)))) ∧
  ∀ (O n d : String) (w : Value), RoadKit.Fld Z h x O n d w → RoadKit.slotOf Z O n d ≠ RoadKit.slotOf Z ST "value" "[B" → RoadKit.slotOf Z O n d ≠ RoadKit.slotOf Z ST "coder" "B" → RoadKit.Fld Z h' x O n d w
/-- **new String(chars) AT A CALL, IN THE ROAD'S FORM**: for specialBack behind newO: x the fresh String, b the char[] with the cell A -/
theorem back {p : Program} {l : Launch} {e : Env} {R : Room} {s : State} {args : Array Value} {below : List Frame} {len W : Nat} {Z : State} {a0 : Array Value} {h : Heap} (hZ : Z.Warmed39 s.vm) (hw : ∀ d ∈ words, d.before a0 Z = true) {kI : Nat} (wi : (Jvm.Cond.instantiable ST kI).before a0 Z = true)
    {x b : Addr} {A : Cell} {z : Int32} {v0 c0 : Value} (E : RoadKit.Exa Z h x ST) (V : RoadKit.Fld Z h x ST "value" "[B" v0) (C : RoadKit.Fld Z h x ST "coder" "B" c0) (K : RoadKit.Arr Z h b A .char) (hty : Typed .char A) (S : RoadKit.Sta Z h ST "COMPACT_STRINGS" "Z" (.int z)) (hz : ¬ z = 0)
    (l0 : 0 < A.slots.size) (l2 : A.slots.size ≤ 536870912) (hp : ∀ i, i < A.slots.size → ¬ 255 < cv A i) (hfr : 4 ≤ R.frames) (hlo : W + 65 ≤ R.locals) :
    Back l R p e below s args New1.yN len W (fun P a => a = #[.ref x, .ref b] ∧ P.U.heap = h ∧ P.cells + 1 ≤ R.cells ∧ P.slots + A.slots.size ≤ R.slots)
      (fun P _ v B => ∃ L, Q Z x A h v B.U.heap L ∧ B.locs = P.locs ++ L ∧ B.cells = P.cells + 1 ∧ B.slots = P.slots + A.slots.size) := by
  intro m meth c P g ig mk a X hg hsize hdg hW hn hp'
  obtain ⟨rfl, rfl, r1, r2⟩ := hp'
  have al : Z.vm.Alike P.U.vm := hZ.alike.trans X.warmed.alike
  obtain ⟨D, cfV, kV, iV, fV, hD, gV, stV, knV, obV, asV, slV⟩ := id V
  obtain ⟨D', cfC, kC, iC, fC, hD', gC, stC, -, -, asC, slC⟩ := id C
  cases hD.symm.trans hD'
  obtain ⟨D2, kD, e1, e2, e3, e4, e5⟩ := id E
  cases hD.symm.trans e1
  obtain ⟨c2, k2, i1, i2, i3, -⟩ := Cond.instantiable_spec wi
  cases e2.symm.trans i1
  cases e3.symm.trans i2
  obtain ⟨kU, u1, u2⟩ := al.2.2 _ _ e3
  have hB : Blank ST x D P.U := ⟨hD, ⟨knV, fun q hq => by rw [hq] at obV; cases obV⟩, by rw [al.findClass]; exact e2, kU, u1, by rw [u2]; exact i3, by rw [u2]; exact e5 i3⟩
  have F1 : Found ST "value" "[B" fV P.U := ⟨SBG.found_only al ⟨cfV, kV, iV, gV⟩, stV⟩
  have F2 : Found ST "coder" "B" fC P.U := ⟨SBG.found_only al ⟨cfC, kC, iC, gC⟩, stC⟩
  have hA : Ch b A P.U := ⟨⟨K.1, State.isArrayOf_alike al K.2.1, K.2.2, by omega⟩, hty⟩
  have hS : StaticIs P.U ST "COMPACT_STRINGS" "Z" (.int z) := by
    obtain ⟨cfS, iS, kS, fS, st, cS, t1, t2, t3, t4, t5, t6, t7⟩ := S
    exact StaticIs.there (s := { Z with heap := P.U.heap }) ⟨cfS, iS, kS, fS, st, cS, t1, t2, t3, t4, t5, (fun q => by rw [q] at t6; cases t6), t7⟩ al rfl
  obtain ⟨v, B, X', ⟨⟨hv, E', V', q1, q2, q3, q4, q5, q6, q7, q8, q9, q10, q11⟩, hl, hc, hs⟩, st⟩ := New1.pays x D fV fC b A z (tab_of (moved hZ hw)) hfr hlo m meth c P g ig mk _ X hg hsize hdg hW hn ⟨r1, r2, rfl, hB, F1, F2, hA, hS, hz, l0, l2, hp⟩
  have al' : Z.vm.Alike B.U.vm := hZ.alike.trans X'.warmed.alike
  have hsz : E'.slots.size = D.slots.size := by
    obtain ⟨-, -, -, kB, w1, w2, w3⟩ := q1
    obtain ⟨kB', y1, y2⟩ := al'.2.2 _ _ e3
    rw [q2.2.1] at w1
    cases w1.symm.trans y1
    rw [w3, e5 i3, y2]
  refine ⟨v, B, X', ⟨_, ⟨hv, ?_, ⟨by omega, fun y cy hy hn' => q10 y cy (by simpa using hn') hy, fun y cy hy => ?_⟩, q11, ⟨E', _, q1.1, by rw [q2.2.1]; exact e2, by rw [q2.2.1]; exact e3, by rw [q2.1]; exact obV, fun _ => by rw [hsz]; exact e5 i3⟩,
    ⟨E', cfV, kV, iV, fV, q1.1, gV, stV, by rw [q2.1]; exact knV, by rw [q2.1]; exact obV, by rw [q2.2.1]; exact asV, q3⟩, ⟨E', cfC, kC, iC, fC, q1.1, gC, stC, by rw [q2.1]; exact knV, by rw [q2.1]; exact obV, by rw [q2.2.1]; exact asC, q4⟩,
    ⟨V', ⟨q5.1, State.isArrayOf_alike al'.symm q5.2.1, q5.2.2.1⟩, q6, by rw [← al'.findClass]; exact q7, q8, fun j hj => by have := q9 j hj; rwa [Nat.zero_add] at this⟩, fun O n d w F n1 n2 => ?_⟩, hl, hc, hs⟩, st⟩
  · intro y hy
    simp only [List.mem_cons, List.not_mem_nil, or_false] at hy
    rcases hy with rfl | rfl <;> rfl
  · by_cases q : y = x
    · subst q
      cases hD.symm.trans hy
      exact ⟨E', q1.1, q2.2.1, q2.1, hsz⟩
    · exact ⟨cy, q10 y cy q hy, rfl, rfl, rfl⟩
  · obtain ⟨D3, cf, k, i, f, g1, g2, g3, g4, g5, g6, g7⟩ := F
    cases hD.symm.trans g1
    simp only [RoadKit.slotOf, g2, gV, gC, Option.map_some, Option.getD_some] at n1 n2
    exact ⟨E', cf, k, i, f, q1.1, g2, g3, by rw [q2.1]; exact g4, by rw [q2.1]; exact g5, by rw [q2.2.1]; exact g6, by rw [q2.2.2 f.slot (by simp [n1, n2])]; exact g7⟩
end StrChars.Road
namespace StrChars.Road
open Jvm Sem ClassFile Op Lib Jvm.Stand Jvm.Free Jvm.Free.XT
/-- WHAT COMES BACK, the byte[] as a list of values -/
def QA (Z : State) (x : Addr) (zn : Int32) (cs : List Int32) (h : Heap) (v : Option Value) (h' : Heap) (L : List Loc) : Prop := v = none ∧ (∀ y ∈ L, y.base = x) ∧ RoadKit.Keep h h' [x] ∧ h'.size = h.size + 1 ∧ RoadKit.Exa Z h' x ST ∧ RoadKit.Fld Z h' x ST "value" "[B" (.ref h.size) ∧ RoadKit.Fld Z h' x ST "coder" "B" (.int 0) ∧
  (∃ kb, Z.vm.findClass "[B" = some kb ∧ RoadKit.Arv Z h' h.size kb .byte zn (cs.map fun c => .int (lo8 c)) (.int 0)) ∧
  ∀ (O n d : String) (w : Value), RoadKit.Fld Z h x O n d w → RoadKit.slotOf Z O n d ≠ RoadKit.slotOf Z ST "value" "[B" → RoadKit.slotOf Z O n d ≠ RoadKit.slotOf Z ST "coder" "B" → RoadKit.Fld Z h' x O n d w
/-- **new String(chars) AT A CALL, THE ARRAYS AS LISTS**: the char[] at b holds cs, not empty, no char above 255 -/
theorem backArv {p : Program} {l : Launch} {e : Env} {R : Room} {s : State} {args : Array Value} {below : List Frame} {len W : Nat} {Z : State} {a0 : Array Value} {h : Heap} (hZ : Z.Warmed39 s.vm) (hw : ∀ d ∈ words, d.before a0 Z = true) {kI : Nat} (wi : (Jvm.Cond.instantiable ST kI).before a0 Z = true)
    {x b : Addr} {k : ClassId} {zn z : Int32} {cs : List Int32} {dv v0 c0 : Value} (E : RoadKit.Exa Z h x ST) (V : RoadKit.Fld Z h x ST "value" "[B" v0) (C : RoadKit.Fld Z h x ST "coder" "B" c0) (K : RoadKit.Arv Z h b k .char zn (cs.map Value.int) dv) (S : RoadKit.Sta Z h ST "COMPACT_STRINGS" "Z" (.int z)) (hz : ¬ z = 0)
    (hlen : zn.toNatClampNeg = cs.length) (h0 : 0 < cs.length) (hbig : cs.length ≤ 536870912) (hall : ∀ c ∈ cs, ¬ 255 < c) (hfr : 4 ≤ R.frames) (hlo : W + 65 ≤ R.locals) :
    Back l R p e below s args New1.yN len W (fun P a => a = #[.ref x, .ref b] ∧ P.U.heap = h ∧ P.cells + 1 ≤ R.cells ∧ P.slots + cs.length ≤ R.slots)
      (fun P _ v B => ∃ L, QA Z x zn cs h v B.U.heap L ∧ B.locs = P.locs ++ L ∧ B.cells = P.cells + 1 ∧ B.slots = P.slots + cs.length) := by
  obtain ⟨A, K1, K2, K3, K4, K5, K6⟩ := K
  have e : A.slots.size = cs.length := K3.trans hlen
  have hat : ∀ (i : Nat) (hi : i < cs.length), A.slots[i]? = some (.int cs[i]) := fun i hi => by rw [K5 i (by omega)]; simp [List.getD_eq_getElem?_getD, hi]
  have hcv : ∀ (i : Nat) (hi : i < cs.length), cv A i = cs[i] := fun i hi => by unfold cv; rw [hat i hi]
  have hty : Typed .char A := fun i v hv => by
    have hi : i < A.slots.size := (Array.getElem?_eq_some_iff.mp hv).1
    have q := K5 i hi
    rw [hv] at q
    rw [Option.some.inj q]
    exact K6 i hi
  refine Back.mono (back hZ hw wi E V C K1 hty S hz (by omega) (by omega) (fun i hi => by rw [hcv i (by omega)]; exact hall _ (List.getElem_mem _)) hfr hlo) (fun P a hp => ⟨hp.1, hp.2.1, hp.2.2.1, by rw [e]; exact hp.2.2.2⟩) (fun P a v B hp hq => ?_)
  obtain ⟨L, ⟨q1, q2, q3, q4, q5, q6, q7, ⟨V', v1, v2, v3, v4, v5⟩, q9⟩, hl, hc, hs⟩ := hq
  refine ⟨L, ⟨q1, q2, q3, q4, q5, q6, q7, ⟨V'.cls, v3, V', v1, rfl, by rw [v4, e, hlen], K4, fun i hi => ?_, fun i hi => ?_⟩, q9⟩, hl, hc, by rw [hs, e]⟩
  · have hi' : i < cs.length := by omega
    rw [v5 i (by omega), hcv i hi']; simp [List.getD_eq_getElem?_getD, hi']
  · have hi' : i < cs.length := by omega
    simp only [List.getD_eq_getElem?_getD, List.getElem?_map, List.getElem?_eq_getElem hi', Option.map_some, Option.getD_some]
    exact fits_lo8 _
end StrChars.Road
namespace StrChars.Road
open Jvm Sem ClassFile Op Lib Jvm.Stand Jvm.Free Jvm.Free.XT
/-- WHAT COMES BACK, in the writer's own shape -/
def QV (Z : State) (x : Addr) (N : Int32) (bs : List Int32) (h : Heap) (n0 : Nat) (v : Option Value) (h' : Heap) (L : List Loc) : Prop := v = none ∧ RoadKit.Fr n0 L ∧ RoadKit.Keep h h' [x] ∧ RoadKit.Exa Z h' x ST ∧ RoadKit.Fld Z h' x ST "coder" "B" (.int 0) ∧
  ∃ (t : Addr) (kb : ClassId), n0 ≤ t ∧ h.size ≤ t ∧ ¬ t = x ∧ RoadKit.Fld Z h' x ST "value" "[B" (.ref t) ∧ RoadKit.Arv Z h' t kb .byte N (bs.map Value.int) (.int 0)
/-- **new String(chars) AT A CALL, FOR THE WRITER**: a char[] of n known ints, each 0 to 255 -/
theorem backV {p : Program} {l : Launch} {e : Env} {R : Room} {s : State} {args : Array Value} {below : List Frame} {len W : Nat} {Z : State} {a0 : Array Value} {h : Heap} (hZ : Z.Warmed39 s.vm) (hw : ∀ d ∈ words, d.before a0 Z = true) {kI : Nat} (wi : (Jvm.Cond.instantiable ST kI).before a0 Z = true)
    {x b : Addr} {kC : ClassId} {cs bs : List Int32} {d v0 c0 : Value} {z N : Int32} {n n0 : Nat} (hx0 : n0 ≤ x) (hh0 : n0 ≤ h.size) (E : RoadKit.Exa Z h x ST) (V : RoadKit.Fld Z h x ST "value" "[B" v0) (C : RoadKit.Fld Z h x ST "coder" "B" c0) (K : RoadKit.Arv Z h b kC .char N (cs.map Value.int) d) (S : RoadKit.Sta Z h ST "COMPACT_STRINGS" "Z" (.int z)) (hz : ¬ z = 0)
    (hn : cs.length = n) (hN : N = Int32.ofNat n) (l0 : 0 < n) (l2 : n ≤ 4000) (hp : ∀ c ∈ cs, ¬ c < 0 ∧ ¬ (255 : Int32) < c) (hb : bs = cs.map (fun c => c.toInt8.toInt32)) (hfr : 4 ≤ R.frames) (hlo : W + 65 ≤ R.locals) :
    Back l R p e below s args (⟨"java/lang/String", "<init>", "([C)V"⟩ : MethodName) len W (fun P a => a = #[.ref x, .ref b] ∧ P.U.heap = h ∧ P.cells + 1 ≤ R.cells ∧ P.slots + n ≤ R.slots)
      (fun P _ v B => ∃ L, QV Z x N bs h n0 v B.U.heap L ∧ B.locs = P.locs ++ L ∧ B.cells = P.cells + 1 ∧ B.slots = P.slots + n) := by
  subst hn hN hb
  refine Back.mono (backArv hZ hw wi E V C K S hz (n32 (by omega)) l0 (by omega) (fun c hc => (hp c hc).2) hfr hlo) (fun P a hp => hp) (fun P a v B hp hq => ?_)
  obtain ⟨L, ⟨q1, q2, q3, q4, q5, q6, q7, ⟨kb, v1, v2⟩, q9⟩, hl, hc, hs⟩ := hq
  exact ⟨L, ⟨q1, fun y hy => by rw [q2 y hy]; exact hx0, q3, q5, q7, h.size, kb, hh0, Nat.le_refl _, Nat.ne_of_gt E.lt, q6, by rw [List.map_map]; exact v2⟩, hl, hc, hs⟩
end StrChars.Road
namespace StrChars
open Jvm Sem ClassFile Op Lib Jvm.Stand Jvm.Free.XT Jvm.Free.ALB Jvm.Free.JM Jvm.Free
open Jvm.Lib.Cold (StaticIs)
def hi8 (x : Int32) : Int32 := lo8 (x >>> ((8 : Int32) &&& 31))
end StrChars
namespace StrChars.Road
open Jvm Sem ClassFile Op Lib Jvm.Stand Jvm.Free Jvm.Free.XT
open Jvm.Lib.Cold (StaticIs)
/-- the bytes of the chars cs, low before high -/
def wideBytes : List Int32 → List Value
  | [] => []
  | c :: cs => .int (lo8 c) :: .int (hi8 c) :: wideBytes cs
/-- an array of N2 bytes vs codes the chars cs by the coder cd -/
def CodA (cs : List Int32) (cd N2 : Int32) (vs : List Value) : Prop := (cd = 0 ∧ N2 = Int32.ofNat cs.length ∧ vs = (cs.map fun c => Value.int (lo8 c)) ∧ ∀ c ∈ cs, ¬ 255 < c) ∨ (cd = 1 ∧ N2 = Int32.ofNat (2 * cs.length) ∧ vs = wideBytes cs ∧ ∃ c ∈ cs, 255 < c)
end StrChars.Road
namespace StrChars.Road
open Jvm Sem ClassFile Op Lib Jvm.Stand Jvm.Free Jvm.Free.XT
open Jvm.Lib.Cold (StaticIs)
/-- what backV says of its String, as the contracts of this text ask it: cs's low bytes, coder 0 -/
theorem codOf {cs : List Int32} {n : Nat} (hn : cs.length = n) (hb : ∀ c ∈ cs, ¬ 255 < c) : CodA cs 0 (Int32.ofNat n) ((cs.map lo8).map Value.int) := Or.inl ⟨rfl, by rw [hn], by simp [List.map_map, Function.comp_def], hb⟩
end StrChars.Road
end Jvm.Pilot.@@N@@
namespace Jvm.Pilot.@@N@@
open Jvm Jvm.ClassFile Sem Op Lib Jvm.Free Jvm.Stand Jvm.LawKit Jvm.RoadKit Bundle Jvm.Own Jvm.Pilot.@@N@@.Jvm.D
theorem wd_0 {a0 : Array Value} {Z : State} (hw : ∀ d ∈ tables_1, d.before a0 Z = true) : (Jvm.Cond.methodLink "com/example/enact/enact/queue/QueueEntryQueuedPinLaw" (12 : Nat) ({ cls := "com/example/enact/enact/queue/QueueEntryQueuedPinLaw", name := "str", desc := "(I)Ljava/lang/String;" } : Jvm.MethodName)).before a0 Z = true := hw _ (List.mem_of_getElem? (i := 0) rfl)
theorem wd_1 {a0 : Array Value} {Z : State} (hw : ∀ d ∈ tables_1, d.before a0 Z = true) : (Jvm.Cond.static ({ cls := "com/example/enact/enact/queue/QueueEntryQueuedPinLaw", name := "str", desc := "(I)Ljava/lang/String;" } : Jvm.MethodName)).before a0 Z = true := hw _ (List.mem_of_getElem? (i := 1) rfl)
theorem wd_2 {a0 : Array Value} {Z : State} (hw : ∀ d ∈ tables_1, d.before a0 Z = true) : (Jvm.Cond.initialized "com/example/enact/enact/queue/QueueEntryQueuedPinLaw").before a0 Z = true := hw _ (List.mem_of_getElem? (i := 2) rfl)
theorem wd_3 {a0 : Array Value} {Z : State} (hw : ∀ d ∈ tables_1, d.before a0 Z = true) : (Jvm.Cond.code ({ cls := "com/example/enact/enact/queue/QueueEntryQueuedPinLaw", name := "str", desc := "(I)Ljava/lang/String;" } : Jvm.MethodName) method_2_code (2 : Nat) (Option.some (Jvm.ClassFile.FieldType.object "java/lang/String"))).before a0 Z = true := hw _ (List.mem_of_getElem? (i := 3) rfl)
theorem wd_4 {a0 : Array Value} {Z : State} (hw : ∀ d ∈ tables_1, d.before a0 Z = true) : (Jvm.Cond.arrayClass Jvm.ClassFile.FieldType.char).before a0 Z = true := hw _ (List.mem_of_getElem? (i := 4) rfl)
theorem wd_5 {a0 : Array Value} {Z : State} (hw : ∀ d ∈ tables_1, d.before a0 Z = true) : (Jvm.Cond.classLink "com/example/enact/enact/queue/QueueEntryQueuedPinLaw" (7 : Nat) "java/lang/String").before a0 Z = true := hw _ (List.mem_of_getElem? (i := 5) rfl)
theorem wd_6 {a0 : Array Value} {Z : State} (hw : ∀ d ∈ tables_1, d.before a0 Z = true) : (Jvm.Cond.instantiable "java/lang/String" (4 : Nat)).before a0 Z = true := hw _ (List.mem_of_getElem? (i := 6) rfl)
theorem wd_7 {a0 : Array Value} {Z : State} (hw : ∀ d ∈ tables_1, d.before a0 Z = true) : (Jvm.Cond.initialized "java/lang/String").before a0 Z = true := hw _ (List.mem_of_getElem? (i := 7) rfl)
theorem wd_8 {a0 : Array Value} {Z : State} (hw : ∀ d ∈ tables_1, d.before a0 Z = true) : (Jvm.Cond.methodLink "com/example/enact/enact/queue/QueueEntryQueuedPinLaw" (9 : Nat) ({ cls := "java/lang/String", name := "<init>", desc := "([C)V" } : Jvm.MethodName)).before a0 Z = true := hw _ (List.mem_of_getElem? (i := 8) rfl)
theorem wd_9 {a0 : Array Value} {Z : State} (hw : ∀ d ∈ tables_1, d.before a0 Z = true) : (Jvm.Cond.instanceMethod ({ cls := "java/lang/String", name := "<init>", desc := "([C)V" } : Jvm.MethodName)).before a0 Z = true := hw _ (List.mem_of_getElem? (i := 9) rfl)
theorem wd_10 {a0 : Array Value} {Z : State} (hw : ∀ d ∈ tables_1, d.before a0 Z = true) : (Jvm.Cond.code ({ cls := "java/lang/String", name := "<init>", desc := "([C)V" } : Jvm.MethodName) jdk_42_method_3_code (2 : Nat) (Option.none : Option Jvm.ClassFile.FieldType)).before a0 Z = true := hw _ (List.mem_of_getElem? (i := 10) rfl)
theorem wd_16 {a0 : Array Value} {Z : State} (hw : ∀ d ∈ tables_1, d.before a0 Z = true) : (Jvm.Cond.instanceMethod ({ cls := "java/lang/Object", name := "<init>", desc := "()V" } : Jvm.MethodName)).before a0 Z = true := hw _ (List.mem_of_getElem? (i := 16) rfl)
theorem wd_17 {a0 : Array Value} {Z : State} (hw : ∀ d ∈ tables_1, d.before a0 Z = true) : (Jvm.Cond.code ({ cls := "java/lang/Object", name := "<init>", desc := "()V" } : Jvm.MethodName) object_method_1_code (1 : Nat) (Option.none : Option Jvm.ClassFile.FieldType)).before a0 Z = true := hw _ (List.mem_of_getElem? (i := 17) rfl)
theorem wd_31 {a0 : Array Value} {Z : State} (hw : ∀ d ∈ tables_1, d.before a0 Z = true) : (Jvm.Cond.laysFinal "java/lang/String" "java/lang/String" "coder" "B").before a0 Z = true := hw _ (List.mem_of_getElem? (i := 31) rfl)
theorem wd_33 {a0 : Array Value} {Z : State} (hw : ∀ d ∈ tables_1, d.before a0 Z = true) : (Jvm.Cond.laysFinal "java/lang/String" "java/lang/String" "value" "[B").before a0 Z = true := hw _ (List.mem_of_getElem? (i := 33) rfl)
theorem wd_34 {a0 : Array Value} {Z : State} (hw : ∀ d ∈ tables_1, d.before a0 Z = true) : (Jvm.Cond.methodLink "com/example/enact/enact/queue/QueueEntryQueuedPinLaw" (18 : Nat) ({ cls := "com/example/enact/enact/queue/QueueEntry", name := "queued", desc := "(JLjava/lang/String;Ljava/lang/String;Ljava/lang/String;)Lcom/example/enact/enact/queue/QueueEntry;" } : Jvm.MethodName)).before a0 Z = true := hw _ (List.mem_of_getElem? (i := 34) rfl)
theorem wd_35 {a0 : Array Value} {Z : State} (hw : ∀ d ∈ tables_1, d.before a0 Z = true) : (Jvm.Cond.static ({ cls := "com/example/enact/enact/queue/QueueEntry", name := "queued", desc := "(JLjava/lang/String;Ljava/lang/String;Ljava/lang/String;)Lcom/example/enact/enact/queue/QueueEntry;" } : Jvm.MethodName)).before a0 Z = true := hw _ (List.mem_of_getElem? (i := 35) rfl)
theorem wd_36 {a0 : Array Value} {Z : State} (hw : ∀ d ∈ tables_1, d.before a0 Z = true) : (Jvm.Cond.initialized "com/example/enact/enact/queue/QueueEntry").before a0 Z = true := hw _ (List.mem_of_getElem? (i := 36) rfl)
theorem wd_37 {a0 : Array Value} {Z : State} (hw : ∀ d ∈ tables_1, d.before a0 Z = true) : (Jvm.Cond.code ({ cls := "com/example/enact/enact/queue/QueueEntry", name := "queued", desc := "(JLjava/lang/String;Ljava/lang/String;Ljava/lang/String;)Lcom/example/enact/enact/queue/QueueEntry;" } : Jvm.MethodName) prog_32_method_2_code (5 : Nat) (Option.some (Jvm.ClassFile.FieldType.object "com/example/enact/enact/queue/QueueEntry"))).before a0 Z = true := hw _ (List.mem_of_getElem? (i := 37) rfl)
theorem wd_38 {a0 : Array Value} {Z : State} (hw : ∀ d ∈ tables_1, d.before a0 Z = true) : (Jvm.Cond.classLink "com/example/enact/enact/queue/QueueEntry" (20 : Nat) "com/example/enact/enact/queue/QueueEntry").before a0 Z = true := hw _ (List.mem_of_getElem? (i := 38) rfl)
theorem wd_39 {a0 : Array Value} {Z : State} (hw : ∀ d ∈ tables_1, d.before a0 Z = true) : (Jvm.Cond.instantiable "com/example/enact/enact/queue/QueueEntry" (11 : Nat)).before a0 Z = true := hw _ (List.mem_of_getElem? (i := 39) rfl)
theorem wd_40 {a0 : Array Value} {Z : State} (hw : ∀ d ∈ tables_1, d.before a0 Z = true) : (Jvm.Cond.fieldLink "com/example/enact/enact/queue/QueueEntry" (56 : Nat) "com/example/enact/enact/queue/QueueEntry$Status" "QUEUED" "Lcom/example/enact/enact/queue/QueueEntry$Status;").before a0 Z = true := hw _ (List.mem_of_getElem? (i := 40) rfl)
theorem wd_41 {a0 : Array Value} {Z : State} (hw : ∀ d ∈ tables_1, d.before a0 Z = true) : (Jvm.Cond.initialized "com/example/enact/enact/queue/QueueEntry$Status").before a0 Z = true := hw _ (List.mem_of_getElem? (i := 41) rfl)
theorem wd_42 {a0 : Array Value} {Z : State} (hw : ∀ d ∈ tables_1, d.before a0 Z = true) : (Jvm.Cond.laysStatic "com/example/enact/enact/queue/QueueEntry$Status" "QUEUED" "Lcom/example/enact/enact/queue/QueueEntry$Status;").before a0 Z = true := hw _ (List.mem_of_getElem? (i := 42) rfl)
theorem wd_43 {a0 : Array Value} {Z : State} (hw : ∀ d ∈ tables_1, d.before a0 Z = true) : (Jvm.Cond.methodLink "com/example/enact/enact/queue/QueueEntry" (61 : Nat) ({ cls := "com/example/enact/enact/queue/QueueEntry", name := "<init>", desc := "(JLjava/lang/String;Ljava/lang/String;Ljava/lang/String;Lcom/example/enact/enact/queue/QueueEntry$Status;ILjava/time/Instant;Ljava/time/Instant;Ljava/lang/String;Ljava/lang/String;Ljava/lang/String;)V" } : Jvm.MethodName)).before a0 Z = true := hw _ (List.mem_of_getElem? (i := 43) rfl)
theorem wd_44 {a0 : Array Value} {Z : State} (hw : ∀ d ∈ tables_1, d.before a0 Z = true) : (Jvm.Cond.instanceMethod ({ cls := "com/example/enact/enact/queue/QueueEntry", name := "<init>", desc := "(JLjava/lang/String;Ljava/lang/String;Ljava/lang/String;Lcom/example/enact/enact/queue/QueueEntry$Status;ILjava/time/Instant;Ljava/time/Instant;Ljava/lang/String;Ljava/lang/String;Ljava/lang/String;)V" } : Jvm.MethodName)).before a0 Z = true := hw _ (List.mem_of_getElem? (i := 44) rfl)
theorem wd_45 {a0 : Array Value} {Z : State} (hw : ∀ d ∈ tables_1, d.before a0 Z = true) : (Jvm.Cond.code ({ cls := "com/example/enact/enact/queue/QueueEntry", name := "<init>", desc := "(JLjava/lang/String;Ljava/lang/String;Ljava/lang/String;Lcom/example/enact/enact/queue/QueueEntry$Status;ILjava/time/Instant;Ljava/time/Instant;Ljava/lang/String;Ljava/lang/String;Ljava/lang/String;)V" } : Jvm.MethodName) prog_32_method_1_code (13 : Nat) (Option.none : Option Jvm.ClassFile.FieldType)).before a0 Z = true := hw _ (List.mem_of_getElem? (i := 45) rfl)
theorem wd_46 {a0 : Array Value} {Z : State} (hw : ∀ d ∈ tables_1, d.before a0 Z = true) : (Jvm.Cond.methodLink "com/example/enact/enact/queue/QueueEntry" (1 : Nat) ({ cls := "java/lang/Record", name := "<init>", desc := "()V" } : Jvm.MethodName)).before a0 Z = true := hw _ (List.mem_of_getElem? (i := 46) rfl)
theorem wd_47 {a0 : Array Value} {Z : State} (hw : ∀ d ∈ tables_1, d.before a0 Z = true) : (Jvm.Cond.instanceMethod ({ cls := "java/lang/Record", name := "<init>", desc := "()V" } : Jvm.MethodName)).before a0 Z = true := hw _ (List.mem_of_getElem? (i := 47) rfl)
theorem wd_49 {a0 : Array Value} {Z : State} (hw : ∀ d ∈ tables_1, d.before a0 Z = true) : (Jvm.Cond.initialized "java/lang/Record").before a0 Z = true := hw _ (List.mem_of_getElem? (i := 49) rfl)
theorem wd_50 {a0 : Array Value} {Z : State} (hw : ∀ d ∈ tables_1, d.before a0 Z = true) : (Jvm.Cond.code ({ cls := "java/lang/Record", name := "<init>", desc := "()V" } : Jvm.MethodName) jdk_30_method_1_code (1 : Nat) (Option.none : Option Jvm.ClassFile.FieldType)).before a0 Z = true := hw _ (List.mem_of_getElem? (i := 50) rfl)
theorem wd_51 {a0 : Array Value} {Z : State} (hw : ∀ d ∈ tables_1, d.before a0 Z = true) : (Jvm.Cond.methodLink "java/lang/Record" (1 : Nat) ({ cls := "java/lang/Object", name := "<init>", desc := "()V" } : Jvm.MethodName)).before a0 Z = true := hw _ (List.mem_of_getElem? (i := 51) rfl)
theorem wd_52 {a0 : Array Value} {Z : State} (hw : ∀ d ∈ tables_1, d.before a0 Z = true) : (Jvm.Cond.stringLink "com/example/enact/enact/queue/QueueEntry" (7 : Nat) "key").before a0 Z = true := hw _ (List.mem_of_getElem? (i := 52) rfl)
theorem wd_55 {a0 : Array Value} {Z : State} (hw : ∀ d ∈ tables_1, d.before a0 Z = true) : (Jvm.Cond.methodLink "com/example/enact/enact/queue/QueueEntry" (9 : Nat) ({ cls := "java/util/Objects", name := "requireNonNull", desc := "(Ljava/lang/Object;Ljava/lang/String;)Ljava/lang/Object;" } : Jvm.MethodName)).before a0 Z = true := hw _ (List.mem_of_getElem? (i := 55) rfl)
theorem wd_56 {a0 : Array Value} {Z : State} (hw : ∀ d ∈ tables_1, d.before a0 Z = true) : (Jvm.Cond.static ({ cls := "java/util/Objects", name := "requireNonNull", desc := "(Ljava/lang/Object;Ljava/lang/String;)Ljava/lang/Object;" } : Jvm.MethodName)).before a0 Z = true := hw _ (List.mem_of_getElem? (i := 56) rfl)
theorem wd_57 {a0 : Array Value} {Z : State} (hw : ∀ d ∈ tables_1, d.before a0 Z = true) : (Jvm.Cond.initialized "java/util/Objects").before a0 Z = true := hw _ (List.mem_of_getElem? (i := 57) rfl)
theorem wd_58 {a0 : Array Value} {Z : State} (hw : ∀ d ∈ tables_1, d.before a0 Z = true) : (Jvm.Cond.code ({ cls := "java/util/Objects", name := "requireNonNull", desc := "(Ljava/lang/Object;Ljava/lang/String;)Ljava/lang/Object;" } : Jvm.MethodName) jdk_31_method_11_code (2 : Nat) (Option.some (Jvm.ClassFile.FieldType.object "java/lang/Object"))).before a0 Z = true := hw _ (List.mem_of_getElem? (i := 58) rfl)
theorem wd_59 {a0 : Array Value} {Z : State} (hw : ∀ d ∈ tables_1, d.before a0 Z = true) : (Jvm.Cond.stringLink "com/example/enact/enact/queue/QueueEntry" (15 : Nat) "command").before a0 Z = true := hw _ (List.mem_of_getElem? (i := 59) rfl)
theorem wd_60 {a0 : Array Value} {Z : State} (hw : ∀ d ∈ tables_1, d.before a0 Z = true) : (Jvm.Cond.stringLink "com/example/enact/enact/queue/QueueEntry" (17 : Nat) "status").before a0 Z = true := hw _ (List.mem_of_getElem? (i := 60) rfl)
theorem wd_61 {a0 : Array Value} {Z : State} (hw : ∀ d ∈ tables_1, d.before a0 Z = true) : (Jvm.Cond.fieldLink "com/example/enact/enact/queue/QueueEntry" (19 : Nat) "com/example/enact/enact/queue/QueueEntry" "id" "J").before a0 Z = true := hw _ (List.mem_of_getElem? (i := 61) rfl)
theorem wd_62 {a0 : Array Value} {Z : State} (hw : ∀ d ∈ tables_1, d.before a0 Z = true) : (Jvm.Cond.laysFinal "com/example/enact/enact/queue/QueueEntry" "com/example/enact/enact/queue/QueueEntry" "id" "J").before a0 Z = true := hw _ (List.mem_of_getElem? (i := 62) rfl)
theorem wd_63 {a0 : Array Value} {Z : State} (hw : ∀ d ∈ tables_1, d.before a0 Z = true) : (Jvm.Cond.fieldLink "com/example/enact/enact/queue/QueueEntry" (25 : Nat) "com/example/enact/enact/queue/QueueEntry" "key" "Ljava/lang/String;").before a0 Z = true := hw _ (List.mem_of_getElem? (i := 63) rfl)
theorem wd_64 {a0 : Array Value} {Z : State} (hw : ∀ d ∈ tables_1, d.before a0 Z = true) : (Jvm.Cond.laysFinal "com/example/enact/enact/queue/QueueEntry" "com/example/enact/enact/queue/QueueEntry" "key" "Ljava/lang/String;").before a0 Z = true := hw _ (List.mem_of_getElem? (i := 64) rfl)
theorem wd_65 {a0 : Array Value} {Z : State} (hw : ∀ d ∈ tables_1, d.before a0 Z = true) : (Jvm.Cond.fieldLink "com/example/enact/enact/queue/QueueEntry" (28 : Nat) "com/example/enact/enact/queue/QueueEntry" "command" "Ljava/lang/String;").before a0 Z = true := hw _ (List.mem_of_getElem? (i := 65) rfl)
theorem wd_66 {a0 : Array Value} {Z : State} (hw : ∀ d ∈ tables_1, d.before a0 Z = true) : (Jvm.Cond.laysFinal "com/example/enact/enact/queue/QueueEntry" "com/example/enact/enact/queue/QueueEntry" "command" "Ljava/lang/String;").before a0 Z = true := hw _ (List.mem_of_getElem? (i := 66) rfl)
theorem wd_67 {a0 : Array Value} {Z : State} (hw : ∀ d ∈ tables_1, d.before a0 Z = true) : (Jvm.Cond.fieldLink "com/example/enact/enact/queue/QueueEntry" (30 : Nat) "com/example/enact/enact/queue/QueueEntry" "input" "Ljava/lang/String;").before a0 Z = true := hw _ (List.mem_of_getElem? (i := 67) rfl)
theorem wd_68 {a0 : Array Value} {Z : State} (hw : ∀ d ∈ tables_1, d.before a0 Z = true) : (Jvm.Cond.laysFinal "com/example/enact/enact/queue/QueueEntry" "com/example/enact/enact/queue/QueueEntry" "input" "Ljava/lang/String;").before a0 Z = true := hw _ (List.mem_of_getElem? (i := 68) rfl)
theorem wd_69 {a0 : Array Value} {Z : State} (hw : ∀ d ∈ tables_1, d.before a0 Z = true) : (Jvm.Cond.fieldLink "com/example/enact/enact/queue/QueueEntry" (33 : Nat) "com/example/enact/enact/queue/QueueEntry" "status" "Lcom/example/enact/enact/queue/QueueEntry$Status;").before a0 Z = true := hw _ (List.mem_of_getElem? (i := 69) rfl)
theorem wd_70 {a0 : Array Value} {Z : State} (hw : ∀ d ∈ tables_1, d.before a0 Z = true) : (Jvm.Cond.laysFinal "com/example/enact/enact/queue/QueueEntry" "com/example/enact/enact/queue/QueueEntry" "status" "Lcom/example/enact/enact/queue/QueueEntry$Status;").before a0 Z = true := hw _ (List.mem_of_getElem? (i := 70) rfl)
theorem wd_71 {a0 : Array Value} {Z : State} (hw : ∀ d ∈ tables_1, d.before a0 Z = true) : (Jvm.Cond.fieldLink "com/example/enact/enact/queue/QueueEntry" (36 : Nat) "com/example/enact/enact/queue/QueueEntry" "attempts" "I").before a0 Z = true := hw _ (List.mem_of_getElem? (i := 71) rfl)
theorem wd_72 {a0 : Array Value} {Z : State} (hw : ∀ d ∈ tables_1, d.before a0 Z = true) : (Jvm.Cond.laysFinal "com/example/enact/enact/queue/QueueEntry" "com/example/enact/enact/queue/QueueEntry" "attempts" "I").before a0 Z = true := hw _ (List.mem_of_getElem? (i := 72) rfl)
theorem wd_73 {a0 : Array Value} {Z : State} (hw : ∀ d ∈ tables_1, d.before a0 Z = true) : (Jvm.Cond.fieldLink "com/example/enact/enact/queue/QueueEntry" (40 : Nat) "com/example/enact/enact/queue/QueueEntry" "firstAttempt" "Ljava/time/Instant;").before a0 Z = true := hw _ (List.mem_of_getElem? (i := 73) rfl)
theorem wd_74 {a0 : Array Value} {Z : State} (hw : ∀ d ∈ tables_1, d.before a0 Z = true) : (Jvm.Cond.laysFinal "com/example/enact/enact/queue/QueueEntry" "com/example/enact/enact/queue/QueueEntry" "firstAttempt" "Ljava/time/Instant;").before a0 Z = true := hw _ (List.mem_of_getElem? (i := 74) rfl)
theorem wd_75 {a0 : Array Value} {Z : State} (hw : ∀ d ∈ tables_1, d.before a0 Z = true) : (Jvm.Cond.fieldLink "com/example/enact/enact/queue/QueueEntry" (44 : Nat) "com/example/enact/enact/queue/QueueEntry" "ended" "Ljava/time/Instant;").before a0 Z = true := hw _ (List.mem_of_getElem? (i := 75) rfl)
theorem wd_76 {a0 : Array Value} {Z : State} (hw : ∀ d ∈ tables_1, d.before a0 Z = true) : (Jvm.Cond.laysFinal "com/example/enact/enact/queue/QueueEntry" "com/example/enact/enact/queue/QueueEntry" "ended" "Ljava/time/Instant;").before a0 Z = true := hw _ (List.mem_of_getElem? (i := 76) rfl)
theorem wd_77 {a0 : Array Value} {Z : State} (hw : ∀ d ∈ tables_1, d.before a0 Z = true) : (Jvm.Cond.fieldLink "com/example/enact/enact/queue/QueueEntry" (47 : Nat) "com/example/enact/enact/queue/QueueEntry" "result" "Ljava/lang/String;").before a0 Z = true := hw _ (List.mem_of_getElem? (i := 77) rfl)
theorem wd_78 {a0 : Array Value} {Z : State} (hw : ∀ d ∈ tables_1, d.before a0 Z = true) : (Jvm.Cond.laysFinal "com/example/enact/enact/queue/QueueEntry" "com/example/enact/enact/queue/QueueEntry" "result" "Ljava/lang/String;").before a0 Z = true := hw _ (List.mem_of_getElem? (i := 78) rfl)
theorem wd_79 {a0 : Array Value} {Z : State} (hw : ∀ d ∈ tables_1, d.before a0 Z = true) : (Jvm.Cond.fieldLink "com/example/enact/enact/queue/QueueEntry" (50 : Nat) "com/example/enact/enact/queue/QueueEntry" "message" "Ljava/lang/String;").before a0 Z = true := hw _ (List.mem_of_getElem? (i := 79) rfl)
theorem wd_80 {a0 : Array Value} {Z : State} (hw : ∀ d ∈ tables_1, d.before a0 Z = true) : (Jvm.Cond.laysFinal "com/example/enact/enact/queue/QueueEntry" "com/example/enact/enact/queue/QueueEntry" "message" "Ljava/lang/String;").before a0 Z = true := hw _ (List.mem_of_getElem? (i := 80) rfl)
theorem wd_81 {a0 : Array Value} {Z : State} (hw : ∀ d ∈ tables_1, d.before a0 Z = true) : (Jvm.Cond.fieldLink "com/example/enact/enact/queue/QueueEntry" (53 : Nat) "com/example/enact/enact/queue/QueueEntry" "type" "Ljava/lang/String;").before a0 Z = true := hw _ (List.mem_of_getElem? (i := 81) rfl)
theorem wd_82 {a0 : Array Value} {Z : State} (hw : ∀ d ∈ tables_1, d.before a0 Z = true) : (Jvm.Cond.laysFinal "com/example/enact/enact/queue/QueueEntry" "com/example/enact/enact/queue/QueueEntry" "type" "Ljava/lang/String;").before a0 Z = true := hw _ (List.mem_of_getElem? (i := 82) rfl)
theorem wd_83 {a0 : Array Value} {Z : State} (hw : ∀ d ∈ tables_1, d.before a0 Z = true) : (Jvm.Cond.methodLink "com/example/enact/enact/queue/QueueEntryQueuedPinLaw" (24 : Nat) ({ cls := "com/example/enact/enact/queue/QueueEntry", name := "id", desc := "()J" } : Jvm.MethodName)).before a0 Z = true := hw _ (List.mem_of_getElem? (i := 83) rfl)
theorem wd_84 {a0 : Array Value} {Z : State} (hw : ∀ d ∈ tables_1, d.before a0 Z = true) : (Jvm.Cond.declares ({ cls := "com/example/enact/enact/queue/QueueEntry", name := "id", desc := "()J" } : Jvm.MethodName)).before a0 Z = true := hw _ (List.mem_of_getElem? (i := 84) rfl)
theorem wd_85 {a0 : Array Value} {Z : State} (hw : ∀ d ∈ tables_1, d.before a0 Z = true) : (Jvm.Cond.instanceMethod ({ cls := "com/example/enact/enact/queue/QueueEntry", name := "id", desc := "()J" } : Jvm.MethodName)).before a0 Z = true := hw _ (List.mem_of_getElem? (i := 85) rfl)
theorem wd_86 {a0 : Array Value} {Z : State} (hw : ∀ d ∈ tables_1, d.before a0 Z = true) : (Jvm.Cond.selects "com/example/enact/enact/queue/QueueEntry" ({ cls := "com/example/enact/enact/queue/QueueEntry", name := "id", desc := "()J" } : Jvm.MethodName) ({ cls := "com/example/enact/enact/queue/QueueEntry", name := "id", desc := "()J" } : Jvm.MethodName)).before a0 Z = true := hw _ (List.mem_of_getElem? (i := 86) rfl)
theorem wd_87 {a0 : Array Value} {Z : State} (hw : ∀ d ∈ tables_1, d.before a0 Z = true) : (Jvm.Cond.code ({ cls := "com/example/enact/enact/queue/QueueEntry", name := "id", desc := "()J" } : Jvm.MethodName) prog_32_method_10_code (1 : Nat) (Option.some Jvm.ClassFile.FieldType.long)).before a0 Z = true := hw _ (List.mem_of_getElem? (i := 87) rfl)
theorem wd_88 {a0 : Array Value} {Z : State} (hw : ∀ d ∈ tables_1, d.before a0 Z = true) : (Jvm.Cond.methodLink "com/example/enact/enact/queue/QueueEntryQueuedPinLaw" (28 : Nat) ({ cls := "com/example/enact/enact/queue/QueueEntry", name := "key", desc := "()Ljava/lang/String;" } : Jvm.MethodName)).before a0 Z = true := hw _ (List.mem_of_getElem? (i := 88) rfl)
theorem wd_89 {a0 : Array Value} {Z : State} (hw : ∀ d ∈ tables_1, d.before a0 Z = true) : (Jvm.Cond.declares ({ cls := "com/example/enact/enact/queue/QueueEntry", name := "key", desc := "()Ljava/lang/String;" } : Jvm.MethodName)).before a0 Z = true := hw _ (List.mem_of_getElem? (i := 89) rfl)
theorem wd_90 {a0 : Array Value} {Z : State} (hw : ∀ d ∈ tables_1, d.before a0 Z = true) : (Jvm.Cond.instanceMethod ({ cls := "com/example/enact/enact/queue/QueueEntry", name := "key", desc := "()Ljava/lang/String;" } : Jvm.MethodName)).before a0 Z = true := hw _ (List.mem_of_getElem? (i := 90) rfl)
theorem wd_91 {a0 : Array Value} {Z : State} (hw : ∀ d ∈ tables_1, d.before a0 Z = true) : (Jvm.Cond.selects "com/example/enact/enact/queue/QueueEntry" ({ cls := "com/example/enact/enact/queue/QueueEntry", name := "key", desc := "()Ljava/lang/String;" } : Jvm.MethodName) ({ cls := "com/example/enact/enact/queue/QueueEntry", name := "key", desc := "()Ljava/lang/String;" } : Jvm.MethodName)).before a0 Z = true := hw _ (List.mem_of_getElem? (i := 91) rfl)
theorem wd_92 {a0 : Array Value} {Z : State} (hw : ∀ d ∈ tables_1, d.before a0 Z = true) : (Jvm.Cond.code ({ cls := "com/example/enact/enact/queue/QueueEntry", name := "key", desc := "()Ljava/lang/String;" } : Jvm.MethodName) prog_32_method_11_code (1 : Nat) (Option.some (Jvm.ClassFile.FieldType.object "java/lang/String"))).before a0 Z = true := hw _ (List.mem_of_getElem? (i := 92) rfl)
theorem wd_93 {a0 : Array Value} {Z : State} (hw : ∀ d ∈ tables_1, d.before a0 Z = true) : (Jvm.Cond.methodLink "com/example/enact/enact/queue/QueueEntryQueuedPinLaw" (32 : Nat) ({ cls := "java/lang/String", name := "equals", desc := "(Ljava/lang/Object;)Z" } : Jvm.MethodName)).before a0 Z = true := hw _ (List.mem_of_getElem? (i := 93) rfl)
theorem wd_94 {a0 : Array Value} {Z : State} (hw : ∀ d ∈ tables_1, d.before a0 Z = true) : (Jvm.Cond.declares ({ cls := "java/lang/String", name := "equals", desc := "(Ljava/lang/Object;)Z" } : Jvm.MethodName)).before a0 Z = true := hw _ (List.mem_of_getElem? (i := 94) rfl)
theorem wd_95 {a0 : Array Value} {Z : State} (hw : ∀ d ∈ tables_1, d.before a0 Z = true) : (Jvm.Cond.instanceMethod ({ cls := "java/lang/String", name := "equals", desc := "(Ljava/lang/Object;)Z" } : Jvm.MethodName)).before a0 Z = true := hw _ (List.mem_of_getElem? (i := 95) rfl)
theorem wd_96 {a0 : Array Value} {Z : State} (hw : ∀ d ∈ tables_1, d.before a0 Z = true) : (Jvm.Cond.selects "java/lang/String" ({ cls := "java/lang/String", name := "equals", desc := "(Ljava/lang/Object;)Z" } : Jvm.MethodName) ({ cls := "java/lang/String", name := "equals", desc := "(Ljava/lang/Object;)Z" } : Jvm.MethodName)).before a0 Z = true := hw _ (List.mem_of_getElem? (i := 96) rfl)
theorem wd_97 {a0 : Array Value} {Z : State} (hw : ∀ d ∈ tables_1, d.before a0 Z = true) : (Jvm.Cond.code ({ cls := "java/lang/String", name := "equals", desc := "(Ljava/lang/Object;)Z" } : Jvm.MethodName) jdk_42_method_66_code (3 : Nat) (Option.some Jvm.ClassFile.FieldType.boolean)).before a0 Z = true := hw _ (List.mem_of_getElem? (i := 97) rfl)
theorem wd_98 {a0 : Array Value} {Z : State} (hw : ∀ d ∈ tables_1, d.before a0 Z = true) : (Jvm.Cond.methodLink "com/example/enact/enact/queue/QueueEntryQueuedPinLaw" (36 : Nat) ({ cls := "com/example/enact/enact/queue/QueueEntry", name := "command", desc := "()Ljava/lang/String;" } : Jvm.MethodName)).before a0 Z = true := hw _ (List.mem_of_getElem? (i := 98) rfl)
theorem wd_99 {a0 : Array Value} {Z : State} (hw : ∀ d ∈ tables_1, d.before a0 Z = true) : (Jvm.Cond.declares ({ cls := "com/example/enact/enact/queue/QueueEntry", name := "command", desc := "()Ljava/lang/String;" } : Jvm.MethodName)).before a0 Z = true := hw _ (List.mem_of_getElem? (i := 99) rfl)
theorem wd_100 {a0 : Array Value} {Z : State} (hw : ∀ d ∈ tables_1, d.before a0 Z = true) : (Jvm.Cond.instanceMethod ({ cls := "com/example/enact/enact/queue/QueueEntry", name := "command", desc := "()Ljava/lang/String;" } : Jvm.MethodName)).before a0 Z = true := hw _ (List.mem_of_getElem? (i := 100) rfl)
theorem wd_101 {a0 : Array Value} {Z : State} (hw : ∀ d ∈ tables_1, d.before a0 Z = true) : (Jvm.Cond.selects "com/example/enact/enact/queue/QueueEntry" ({ cls := "com/example/enact/enact/queue/QueueEntry", name := "command", desc := "()Ljava/lang/String;" } : Jvm.MethodName) ({ cls := "com/example/enact/enact/queue/QueueEntry", name := "command", desc := "()Ljava/lang/String;" } : Jvm.MethodName)).before a0 Z = true := hw _ (List.mem_of_getElem? (i := 101) rfl)
theorem wd_102 {a0 : Array Value} {Z : State} (hw : ∀ d ∈ tables_1, d.before a0 Z = true) : (Jvm.Cond.code ({ cls := "com/example/enact/enact/queue/QueueEntry", name := "command", desc := "()Ljava/lang/String;" } : Jvm.MethodName) prog_32_method_12_code (1 : Nat) (Option.some (Jvm.ClassFile.FieldType.object "java/lang/String"))).before a0 Z = true := hw _ (List.mem_of_getElem? (i := 102) rfl)
theorem wd_103 {a0 : Array Value} {Z : State} (hw : ∀ d ∈ tables_1, d.before a0 Z = true) : (Jvm.Cond.methodLink "com/example/enact/enact/queue/QueueEntryQueuedPinLaw" (39 : Nat) ({ cls := "com/example/enact/enact/queue/QueueEntry", name := "input", desc := "()Ljava/lang/String;" } : Jvm.MethodName)).before a0 Z = true := hw _ (List.mem_of_getElem? (i := 103) rfl)
theorem wd_104 {a0 : Array Value} {Z : State} (hw : ∀ d ∈ tables_1, d.before a0 Z = true) : (Jvm.Cond.declares ({ cls := "com/example/enact/enact/queue/QueueEntry", name := "input", desc := "()Ljava/lang/String;" } : Jvm.MethodName)).before a0 Z = true := hw _ (List.mem_of_getElem? (i := 104) rfl)
theorem wd_105 {a0 : Array Value} {Z : State} (hw : ∀ d ∈ tables_1, d.before a0 Z = true) : (Jvm.Cond.instanceMethod ({ cls := "com/example/enact/enact/queue/QueueEntry", name := "input", desc := "()Ljava/lang/String;" } : Jvm.MethodName)).before a0 Z = true := hw _ (List.mem_of_getElem? (i := 105) rfl)
theorem wd_106 {a0 : Array Value} {Z : State} (hw : ∀ d ∈ tables_1, d.before a0 Z = true) : (Jvm.Cond.selects "com/example/enact/enact/queue/QueueEntry" ({ cls := "com/example/enact/enact/queue/QueueEntry", name := "input", desc := "()Ljava/lang/String;" } : Jvm.MethodName) ({ cls := "com/example/enact/enact/queue/QueueEntry", name := "input", desc := "()Ljava/lang/String;" } : Jvm.MethodName)).before a0 Z = true := hw _ (List.mem_of_getElem? (i := 106) rfl)
theorem wd_107 {a0 : Array Value} {Z : State} (hw : ∀ d ∈ tables_1, d.before a0 Z = true) : (Jvm.Cond.code ({ cls := "com/example/enact/enact/queue/QueueEntry", name := "input", desc := "()Ljava/lang/String;" } : Jvm.MethodName) prog_32_method_13_code (1 : Nat) (Option.some (Jvm.ClassFile.FieldType.object "java/lang/String"))).before a0 Z = true := hw _ (List.mem_of_getElem? (i := 107) rfl)
theorem wd_108 {a0 : Array Value} {Z : State} (hw : ∀ d ∈ tables_1, d.before a0 Z = true) : (Jvm.Cond.methodLink "com/example/enact/enact/queue/QueueEntryQueuedPinLaw" (42 : Nat) ({ cls := "com/example/enact/enact/queue/QueueEntry", name := "status", desc := "()Lcom/example/enact/enact/queue/QueueEntry$Status;" } : Jvm.MethodName)).before a0 Z = true := hw _ (List.mem_of_getElem? (i := 108) rfl)
theorem wd_109 {a0 : Array Value} {Z : State} (hw : ∀ d ∈ tables_1, d.before a0 Z = true) : (Jvm.Cond.declares ({ cls := "com/example/enact/enact/queue/QueueEntry", name := "status", desc := "()Lcom/example/enact/enact/queue/QueueEntry$Status;" } : Jvm.MethodName)).before a0 Z = true := hw _ (List.mem_of_getElem? (i := 109) rfl)
theorem wd_110 {a0 : Array Value} {Z : State} (hw : ∀ d ∈ tables_1, d.before a0 Z = true) : (Jvm.Cond.instanceMethod ({ cls := "com/example/enact/enact/queue/QueueEntry", name := "status", desc := "()Lcom/example/enact/enact/queue/QueueEntry$Status;" } : Jvm.MethodName)).before a0 Z = true := hw _ (List.mem_of_getElem? (i := 110) rfl)
theorem wd_111 {a0 : Array Value} {Z : State} (hw : ∀ d ∈ tables_1, d.before a0 Z = true) : (Jvm.Cond.selects "com/example/enact/enact/queue/QueueEntry" ({ cls := "com/example/enact/enact/queue/QueueEntry", name := "status", desc := "()Lcom/example/enact/enact/queue/QueueEntry$Status;" } : Jvm.MethodName) ({ cls := "com/example/enact/enact/queue/QueueEntry", name := "status", desc := "()Lcom/example/enact/enact/queue/QueueEntry$Status;" } : Jvm.MethodName)).before a0 Z = true := hw _ (List.mem_of_getElem? (i := 111) rfl)
theorem wd_112 {a0 : Array Value} {Z : State} (hw : ∀ d ∈ tables_1, d.before a0 Z = true) : (Jvm.Cond.code ({ cls := "com/example/enact/enact/queue/QueueEntry", name := "status", desc := "()Lcom/example/enact/enact/queue/QueueEntry$Status;" } : Jvm.MethodName) prog_32_method_14_code (1 : Nat) (Option.some (Jvm.ClassFile.FieldType.object "com/example/enact/enact/queue/QueueEntry$Status"))).before a0 Z = true := hw _ (List.mem_of_getElem? (i := 112) rfl)
theorem wd_113 {a0 : Array Value} {Z : State} (hw : ∀ d ∈ tables_1, d.before a0 Z = true) : (Jvm.Cond.fieldLink "com/example/enact/enact/queue/QueueEntryQueuedPinLaw" (46 : Nat) "com/example/enact/enact/queue/QueueEntry$Status" "QUEUED" "Lcom/example/enact/enact/queue/QueueEntry$Status;").before a0 Z = true := hw _ (List.mem_of_getElem? (i := 113) rfl)
theorem wd_114 {a0 : Array Value} {Z : State} (hw : ∀ d ∈ tables_1, d.before a0 Z = true) : (Jvm.Cond.methodLink "com/example/enact/enact/queue/QueueEntryQueuedPinLaw" (52 : Nat) ({ cls := "com/example/enact/enact/queue/QueueEntry", name := "attempts", desc := "()I" } : Jvm.MethodName)).before a0 Z = true := hw _ (List.mem_of_getElem? (i := 114) rfl)
theorem wd_115 {a0 : Array Value} {Z : State} (hw : ∀ d ∈ tables_1, d.before a0 Z = true) : (Jvm.Cond.declares ({ cls := "com/example/enact/enact/queue/QueueEntry", name := "attempts", desc := "()I" } : Jvm.MethodName)).before a0 Z = true := hw _ (List.mem_of_getElem? (i := 115) rfl)
theorem wd_116 {a0 : Array Value} {Z : State} (hw : ∀ d ∈ tables_1, d.before a0 Z = true) : (Jvm.Cond.instanceMethod ({ cls := "com/example/enact/enact/queue/QueueEntry", name := "attempts", desc := "()I" } : Jvm.MethodName)).before a0 Z = true := hw _ (List.mem_of_getElem? (i := 116) rfl)
theorem wd_117 {a0 : Array Value} {Z : State} (hw : ∀ d ∈ tables_1, d.before a0 Z = true) : (Jvm.Cond.selects "com/example/enact/enact/queue/QueueEntry" ({ cls := "com/example/enact/enact/queue/QueueEntry", name := "attempts", desc := "()I" } : Jvm.MethodName) ({ cls := "com/example/enact/enact/queue/QueueEntry", name := "attempts", desc := "()I" } : Jvm.MethodName)).before a0 Z = true := hw _ (List.mem_of_getElem? (i := 117) rfl)
theorem wd_118 {a0 : Array Value} {Z : State} (hw : ∀ d ∈ tables_1, d.before a0 Z = true) : (Jvm.Cond.code ({ cls := "com/example/enact/enact/queue/QueueEntry", name := "attempts", desc := "()I" } : Jvm.MethodName) prog_32_method_15_code (1 : Nat) (Option.some Jvm.ClassFile.FieldType.int)).before a0 Z = true := hw _ (List.mem_of_getElem? (i := 118) rfl)
theorem wd_119 {a0 : Array Value} {Z : State} (hw : ∀ d ∈ tables_1, d.before a0 Z = true) : (Jvm.Cond.methodLink "com/example/enact/enact/queue/QueueEntryQueuedPinLaw" (56 : Nat) ({ cls := "com/example/enact/enact/queue/QueueEntry", name := "firstAttempt", desc := "()Ljava/time/Instant;" } : Jvm.MethodName)).before a0 Z = true := hw _ (List.mem_of_getElem? (i := 119) rfl)
theorem wd_120 {a0 : Array Value} {Z : State} (hw : ∀ d ∈ tables_1, d.before a0 Z = true) : (Jvm.Cond.declares ({ cls := "com/example/enact/enact/queue/QueueEntry", name := "firstAttempt", desc := "()Ljava/time/Instant;" } : Jvm.MethodName)).before a0 Z = true := hw _ (List.mem_of_getElem? (i := 120) rfl)
theorem wd_121 {a0 : Array Value} {Z : State} (hw : ∀ d ∈ tables_1, d.before a0 Z = true) : (Jvm.Cond.instanceMethod ({ cls := "com/example/enact/enact/queue/QueueEntry", name := "firstAttempt", desc := "()Ljava/time/Instant;" } : Jvm.MethodName)).before a0 Z = true := hw _ (List.mem_of_getElem? (i := 121) rfl)
theorem wd_122 {a0 : Array Value} {Z : State} (hw : ∀ d ∈ tables_1, d.before a0 Z = true) : (Jvm.Cond.selects "com/example/enact/enact/queue/QueueEntry" ({ cls := "com/example/enact/enact/queue/QueueEntry", name := "firstAttempt", desc := "()Ljava/time/Instant;" } : Jvm.MethodName) ({ cls := "com/example/enact/enact/queue/QueueEntry", name := "firstAttempt", desc := "()Ljava/time/Instant;" } : Jvm.MethodName)).before a0 Z = true := hw _ (List.mem_of_getElem? (i := 122) rfl)
theorem wd_123 {a0 : Array Value} {Z : State} (hw : ∀ d ∈ tables_1, d.before a0 Z = true) : (Jvm.Cond.code ({ cls := "com/example/enact/enact/queue/QueueEntry", name := "firstAttempt", desc := "()Ljava/time/Instant;" } : Jvm.MethodName) prog_32_method_16_code (1 : Nat) (Option.some (Jvm.ClassFile.FieldType.object "java/time/Instant"))).before a0 Z = true := hw _ (List.mem_of_getElem? (i := 123) rfl)
theorem wd_124 {a0 : Array Value} {Z : State} (hw : ∀ d ∈ tables_1, d.before a0 Z = true) : (Jvm.Cond.methodLink "com/example/enact/enact/queue/QueueEntryQueuedPinLaw" (60 : Nat) ({ cls := "com/example/enact/enact/queue/QueueEntry", name := "ended", desc := "()Ljava/time/Instant;" } : Jvm.MethodName)).before a0 Z = true := hw _ (List.mem_of_getElem? (i := 124) rfl)
theorem wd_125 {a0 : Array Value} {Z : State} (hw : ∀ d ∈ tables_1, d.before a0 Z = true) : (Jvm.Cond.declares ({ cls := "com/example/enact/enact/queue/QueueEntry", name := "ended", desc := "()Ljava/time/Instant;" } : Jvm.MethodName)).before a0 Z = true := hw _ (List.mem_of_getElem? (i := 125) rfl)
theorem wd_126 {a0 : Array Value} {Z : State} (hw : ∀ d ∈ tables_1, d.before a0 Z = true) : (Jvm.Cond.instanceMethod ({ cls := "com/example/enact/enact/queue/QueueEntry", name := "ended", desc := "()Ljava/time/Instant;" } : Jvm.MethodName)).before a0 Z = true := hw _ (List.mem_of_getElem? (i := 126) rfl)
theorem wd_127 {a0 : Array Value} {Z : State} (hw : ∀ d ∈ tables_1, d.before a0 Z = true) : (Jvm.Cond.selects "com/example/enact/enact/queue/QueueEntry" ({ cls := "com/example/enact/enact/queue/QueueEntry", name := "ended", desc := "()Ljava/time/Instant;" } : Jvm.MethodName) ({ cls := "com/example/enact/enact/queue/QueueEntry", name := "ended", desc := "()Ljava/time/Instant;" } : Jvm.MethodName)).before a0 Z = true := hw _ (List.mem_of_getElem? (i := 127) rfl)
theorem wd_128 {a0 : Array Value} {Z : State} (hw : ∀ d ∈ tables_1, d.before a0 Z = true) : (Jvm.Cond.code ({ cls := "com/example/enact/enact/queue/QueueEntry", name := "ended", desc := "()Ljava/time/Instant;" } : Jvm.MethodName) prog_32_method_17_code (1 : Nat) (Option.some (Jvm.ClassFile.FieldType.object "java/time/Instant"))).before a0 Z = true := hw _ (List.mem_of_getElem? (i := 128) rfl)
theorem wd_129 {a0 : Array Value} {Z : State} (hw : ∀ d ∈ tables_1, d.before a0 Z = true) : (Jvm.Cond.methodLink "com/example/enact/enact/queue/QueueEntryQueuedPinLaw" (63 : Nat) ({ cls := "com/example/enact/enact/queue/QueueEntry", name := "result", desc := "()Ljava/lang/String;" } : Jvm.MethodName)).before a0 Z = true := hw _ (List.mem_of_getElem? (i := 129) rfl)
theorem wd_130 {a0 : Array Value} {Z : State} (hw : ∀ d ∈ tables_1, d.before a0 Z = true) : (Jvm.Cond.declares ({ cls := "com/example/enact/enact/queue/QueueEntry", name := "result", desc := "()Ljava/lang/String;" } : Jvm.MethodName)).before a0 Z = true := hw _ (List.mem_of_getElem? (i := 130) rfl)
theorem wd_131 {a0 : Array Value} {Z : State} (hw : ∀ d ∈ tables_1, d.before a0 Z = true) : (Jvm.Cond.instanceMethod ({ cls := "com/example/enact/enact/queue/QueueEntry", name := "result", desc := "()Ljava/lang/String;" } : Jvm.MethodName)).before a0 Z = true := hw _ (List.mem_of_getElem? (i := 131) rfl)
theorem wd_132 {a0 : Array Value} {Z : State} (hw : ∀ d ∈ tables_1, d.before a0 Z = true) : (Jvm.Cond.selects "com/example/enact/enact/queue/QueueEntry" ({ cls := "com/example/enact/enact/queue/QueueEntry", name := "result", desc := "()Ljava/lang/String;" } : Jvm.MethodName) ({ cls := "com/example/enact/enact/queue/QueueEntry", name := "result", desc := "()Ljava/lang/String;" } : Jvm.MethodName)).before a0 Z = true := hw _ (List.mem_of_getElem? (i := 132) rfl)
theorem wd_133 {a0 : Array Value} {Z : State} (hw : ∀ d ∈ tables_1, d.before a0 Z = true) : (Jvm.Cond.code ({ cls := "com/example/enact/enact/queue/QueueEntry", name := "result", desc := "()Ljava/lang/String;" } : Jvm.MethodName) prog_32_method_18_code (1 : Nat) (Option.some (Jvm.ClassFile.FieldType.object "java/lang/String"))).before a0 Z = true := hw _ (List.mem_of_getElem? (i := 133) rfl)
theorem wd_134 {a0 : Array Value} {Z : State} (hw : ∀ d ∈ tables_1, d.before a0 Z = true) : (Jvm.Cond.methodLink "com/example/enact/enact/queue/QueueEntryQueuedPinLaw" (66 : Nat) ({ cls := "com/example/enact/enact/queue/QueueEntry", name := "message", desc := "()Ljava/lang/String;" } : Jvm.MethodName)).before a0 Z = true := hw _ (List.mem_of_getElem? (i := 134) rfl)
theorem wd_135 {a0 : Array Value} {Z : State} (hw : ∀ d ∈ tables_1, d.before a0 Z = true) : (Jvm.Cond.declares ({ cls := "com/example/enact/enact/queue/QueueEntry", name := "message", desc := "()Ljava/lang/String;" } : Jvm.MethodName)).before a0 Z = true := hw _ (List.mem_of_getElem? (i := 135) rfl)
theorem wd_136 {a0 : Array Value} {Z : State} (hw : ∀ d ∈ tables_1, d.before a0 Z = true) : (Jvm.Cond.instanceMethod ({ cls := "com/example/enact/enact/queue/QueueEntry", name := "message", desc := "()Ljava/lang/String;" } : Jvm.MethodName)).before a0 Z = true := hw _ (List.mem_of_getElem? (i := 136) rfl)
theorem wd_137 {a0 : Array Value} {Z : State} (hw : ∀ d ∈ tables_1, d.before a0 Z = true) : (Jvm.Cond.selects "com/example/enact/enact/queue/QueueEntry" ({ cls := "com/example/enact/enact/queue/QueueEntry", name := "message", desc := "()Ljava/lang/String;" } : Jvm.MethodName) ({ cls := "com/example/enact/enact/queue/QueueEntry", name := "message", desc := "()Ljava/lang/String;" } : Jvm.MethodName)).before a0 Z = true := hw _ (List.mem_of_getElem? (i := 137) rfl)
theorem wd_138 {a0 : Array Value} {Z : State} (hw : ∀ d ∈ tables_1, d.before a0 Z = true) : (Jvm.Cond.code ({ cls := "com/example/enact/enact/queue/QueueEntry", name := "message", desc := "()Ljava/lang/String;" } : Jvm.MethodName) prog_32_method_19_code (1 : Nat) (Option.some (Jvm.ClassFile.FieldType.object "java/lang/String"))).before a0 Z = true := hw _ (List.mem_of_getElem? (i := 138) rfl)
theorem wd_139 {a0 : Array Value} {Z : State} (hw : ∀ d ∈ tables_1, d.before a0 Z = true) : (Jvm.Cond.methodLink "com/example/enact/enact/queue/QueueEntryQueuedPinLaw" (69 : Nat) ({ cls := "com/example/enact/enact/queue/QueueEntry", name := "type", desc := "()Ljava/lang/String;" } : Jvm.MethodName)).before a0 Z = true := hw _ (List.mem_of_getElem? (i := 139) rfl)
theorem wd_140 {a0 : Array Value} {Z : State} (hw : ∀ d ∈ tables_1, d.before a0 Z = true) : (Jvm.Cond.declares ({ cls := "com/example/enact/enact/queue/QueueEntry", name := "type", desc := "()Ljava/lang/String;" } : Jvm.MethodName)).before a0 Z = true := hw _ (List.mem_of_getElem? (i := 140) rfl)
theorem wd_141 {a0 : Array Value} {Z : State} (hw : ∀ d ∈ tables_1, d.before a0 Z = true) : (Jvm.Cond.instanceMethod ({ cls := "com/example/enact/enact/queue/QueueEntry", name := "type", desc := "()Ljava/lang/String;" } : Jvm.MethodName)).before a0 Z = true := hw _ (List.mem_of_getElem? (i := 141) rfl)
theorem wd_142 {a0 : Array Value} {Z : State} (hw : ∀ d ∈ tables_1, d.before a0 Z = true) : (Jvm.Cond.selects "com/example/enact/enact/queue/QueueEntry" ({ cls := "com/example/enact/enact/queue/QueueEntry", name := "type", desc := "()Ljava/lang/String;" } : Jvm.MethodName) ({ cls := "com/example/enact/enact/queue/QueueEntry", name := "type", desc := "()Ljava/lang/String;" } : Jvm.MethodName)).before a0 Z = true := hw _ (List.mem_of_getElem? (i := 142) rfl)
theorem wd_143 {a0 : Array Value} {Z : State} (hw : ∀ d ∈ tables_1, d.before a0 Z = true) : (Jvm.Cond.code ({ cls := "com/example/enact/enact/queue/QueueEntry", name := "type", desc := "()Ljava/lang/String;" } : Jvm.MethodName) prog_32_method_20_code (1 : Nat) (Option.some (Jvm.ClassFile.FieldType.object "java/lang/String"))).before a0 Z = true := hw _ (List.mem_of_getElem? (i := 143) rfl)
theorem pn_0 : plainName "com/example/enact/enact/queue/QueueEntryQueuedPinLaw" = true := by first | (simp [plainName, overriddenIn]; done) | decide +kernel
theorem pn_1 : plainName "java/util/Objects" = true := by first | (simp [plainName, overriddenIn]; done) | decide +kernel
theorem pn_2 : plainName "java/lang/Record" = true := by first | (simp [plainName, overriddenIn]; done) | decide +kernel
theorem pn_3 : plainName "com/example/enact/enact/queue/QueueEntry" = true := by first | (simp [plainName, overriddenIn]; done) | decide +kernel
theorem pn_4 : plainName "java/lang/String" = true := by first | (simp [plainName, overriddenIn]; done) | decide +kernel
theorem pd_0 : parseMethodDescriptor "([C)V" = some ⟨[(.array .char)], none⟩ := by decide +kernel
theorem pd_1 : parseMethodDescriptor "()V" = some ⟨[], none⟩ := by decide +kernel
theorem pd_2 : parseMethodDescriptor "(Ljava/lang/Object;Ljava/lang/String;)Ljava/lang/Object;" = some ⟨[(.object "java/lang/Object"), (.object "java/lang/String")], some (.object "java/lang/Object")⟩ := by decide +kernel
theorem pd_3 : parseMethodDescriptor "(JLjava/lang/String;Ljava/lang/String;Ljava/lang/String;Lcom/example/enact/enact/queue/QueueEntry$Status;ILjava/time/Instant;Ljava/time/Instant;Ljava/lang/String;Ljava/lang/String;Ljava/lang/String;)V" = some ⟨[.long, (.object "java/lang/String"), (.object "java/lang/String"), (.object "java/lang/String"), (.object "com/example/enact/enact/queue/QueueEntry$Status"), .int, (.object "java/time/Instant"), (.object "java/time/Instant"), (.object "java/lang/String"), (.object "java/lang/String"), (.object "java/lang/String")], none⟩ := by decide +kernel
theorem pd_4 : parseMethodDescriptor "(I)Ljava/lang/String;" = some ⟨[.int], some (.object "java/lang/String")⟩ := by decide +kernel
theorem pd_5 : parseMethodDescriptor "(JLjava/lang/String;Ljava/lang/String;Ljava/lang/String;)Lcom/example/enact/enact/queue/QueueEntry;" = some ⟨[.long, (.object "java/lang/String"), (.object "java/lang/String"), (.object "java/lang/String")], some (.object "com/example/enact/enact/queue/QueueEntry")⟩ := by decide +kernel
theorem pd_6 : parseMethodDescriptor "()J" = some ⟨[], some .long⟩ := by decide +kernel
theorem pd_7 : parseMethodDescriptor "()Ljava/lang/String;" = some ⟨[], some (.object "java/lang/String")⟩ := by decide +kernel
theorem pd_8 : parseMethodDescriptor "(Ljava/lang/Object;)Z" = some ⟨[(.object "java/lang/Object")], some .boolean⟩ := by decide +kernel
theorem pd_9 : parseMethodDescriptor "()Lcom/example/enact/enact/queue/QueueEntry$Status;" = some ⟨[], some (.object "com/example/enact/enact/queue/QueueEntry$Status")⟩ := by decide +kernel
theorem pd_10 : parseMethodDescriptor "()I" = some ⟨[], some .int⟩ := by decide +kernel
theorem pd_11 : parseMethodDescriptor "()Ljava/time/Instant;" = some ⟨[], some (.object "java/time/Instant")⟩ := by decide +kernel
theorem pf_0 : parseFieldDescriptor "B" = some .byte := by decide +kernel
theorem pf_1 : parseFieldDescriptor "[B" = some (.array .byte) := by decide +kernel
theorem pf_2 : parseFieldDescriptor "J" = some .long := by decide +kernel
theorem pf_3 : parseFieldDescriptor "Ljava/lang/String;" = some (.object "java/lang/String") := by decide +kernel
theorem pf_4 : parseFieldDescriptor "Lcom/example/enact/enact/queue/QueueEntry$Status;" = some (.object "com/example/enact/enact/queue/QueueEntry$Status") := by decide +kernel
theorem pf_5 : parseFieldDescriptor "I" = some .int := by decide +kernel
theorem pf_6 : parseFieldDescriptor "Ljava/time/Instant;" = some (.object "java/time/Instant") := by decide +kernel
theorem sn_0 {a0 : Array Value} {Z : State} (hw : ∀ d ∈ tables_1, d.before a0 Z = true) : Jvm.RoadKit.slotOf Z "com/example/enact/enact/queue/QueueEntry" "key" "Ljava/lang/String;" ≠ Jvm.RoadKit.slotOf Z "com/example/enact/enact/queue/QueueEntry" "id" "J" := slot_ne (a0 := a0) (C := "com/example/enact/enact/queue/QueueEntry") (Or.inr (wd_64 hw)) (Or.inr (wd_62 hw)) (by decide) pf_3 pf_2
theorem sn_1 {a0 : Array Value} {Z : State} (hw : ∀ d ∈ tables_1, d.before a0 Z = true) : Jvm.RoadKit.slotOf Z "com/example/enact/enact/queue/QueueEntry" "command" "Ljava/lang/String;" ≠ Jvm.RoadKit.slotOf Z "com/example/enact/enact/queue/QueueEntry" "id" "J" := slot_ne (a0 := a0) (C := "com/example/enact/enact/queue/QueueEntry") (Or.inr (wd_66 hw)) (Or.inr (wd_62 hw)) (by decide) pf_3 pf_2
theorem sn_2 {a0 : Array Value} {Z : State} (hw : ∀ d ∈ tables_1, d.before a0 Z = true) : Jvm.RoadKit.slotOf Z "com/example/enact/enact/queue/QueueEntry" "command" "Ljava/lang/String;" ≠ Jvm.RoadKit.slotOf Z "com/example/enact/enact/queue/QueueEntry" "key" "Ljava/lang/String;" := slot_ne (a0 := a0) (C := "com/example/enact/enact/queue/QueueEntry") (Or.inr (wd_66 hw)) (Or.inr (wd_64 hw)) (by decide) pf_3 pf_3
theorem sn_3 {a0 : Array Value} {Z : State} (hw : ∀ d ∈ tables_1, d.before a0 Z = true) : Jvm.RoadKit.slotOf Z "com/example/enact/enact/queue/QueueEntry" "input" "Ljava/lang/String;" ≠ Jvm.RoadKit.slotOf Z "com/example/enact/enact/queue/QueueEntry" "id" "J" := slot_ne (a0 := a0) (C := "com/example/enact/enact/queue/QueueEntry") (Or.inr (wd_68 hw)) (Or.inr (wd_62 hw)) (by decide) pf_3 pf_2
theorem sn_4 {a0 : Array Value} {Z : State} (hw : ∀ d ∈ tables_1, d.before a0 Z = true) : Jvm.RoadKit.slotOf Z "com/example/enact/enact/queue/QueueEntry" "input" "Ljava/lang/String;" ≠ Jvm.RoadKit.slotOf Z "com/example/enact/enact/queue/QueueEntry" "key" "Ljava/lang/String;" := slot_ne (a0 := a0) (C := "com/example/enact/enact/queue/QueueEntry") (Or.inr (wd_68 hw)) (Or.inr (wd_64 hw)) (by decide) pf_3 pf_3
theorem sn_5 {a0 : Array Value} {Z : State} (hw : ∀ d ∈ tables_1, d.before a0 Z = true) : Jvm.RoadKit.slotOf Z "com/example/enact/enact/queue/QueueEntry" "input" "Ljava/lang/String;" ≠ Jvm.RoadKit.slotOf Z "com/example/enact/enact/queue/QueueEntry" "command" "Ljava/lang/String;" := slot_ne (a0 := a0) (C := "com/example/enact/enact/queue/QueueEntry") (Or.inr (wd_68 hw)) (Or.inr (wd_66 hw)) (by decide) pf_3 pf_3
theorem sn_6 {a0 : Array Value} {Z : State} (hw : ∀ d ∈ tables_1, d.before a0 Z = true) : Jvm.RoadKit.slotOf Z "com/example/enact/enact/queue/QueueEntry" "status" "Lcom/example/enact/enact/queue/QueueEntry$Status;" ≠ Jvm.RoadKit.slotOf Z "com/example/enact/enact/queue/QueueEntry" "id" "J" := slot_ne (a0 := a0) (C := "com/example/enact/enact/queue/QueueEntry") (Or.inr (wd_70 hw)) (Or.inr (wd_62 hw)) (by decide) pf_4 pf_2
theorem sn_7 {a0 : Array Value} {Z : State} (hw : ∀ d ∈ tables_1, d.before a0 Z = true) : Jvm.RoadKit.slotOf Z "com/example/enact/enact/queue/QueueEntry" "status" "Lcom/example/enact/enact/queue/QueueEntry$Status;" ≠ Jvm.RoadKit.slotOf Z "com/example/enact/enact/queue/QueueEntry" "key" "Ljava/lang/String;" := slot_ne (a0 := a0) (C := "com/example/enact/enact/queue/QueueEntry") (Or.inr (wd_70 hw)) (Or.inr (wd_64 hw)) (by decide) pf_4 pf_3
theorem sn_8 {a0 : Array Value} {Z : State} (hw : ∀ d ∈ tables_1, d.before a0 Z = true) : Jvm.RoadKit.slotOf Z "com/example/enact/enact/queue/QueueEntry" "status" "Lcom/example/enact/enact/queue/QueueEntry$Status;" ≠ Jvm.RoadKit.slotOf Z "com/example/enact/enact/queue/QueueEntry" "command" "Ljava/lang/String;" := slot_ne (a0 := a0) (C := "com/example/enact/enact/queue/QueueEntry") (Or.inr (wd_70 hw)) (Or.inr (wd_66 hw)) (by decide) pf_4 pf_3
theorem sn_9 {a0 : Array Value} {Z : State} (hw : ∀ d ∈ tables_1, d.before a0 Z = true) : Jvm.RoadKit.slotOf Z "com/example/enact/enact/queue/QueueEntry" "status" "Lcom/example/enact/enact/queue/QueueEntry$Status;" ≠ Jvm.RoadKit.slotOf Z "com/example/enact/enact/queue/QueueEntry" "input" "Ljava/lang/String;" := slot_ne (a0 := a0) (C := "com/example/enact/enact/queue/QueueEntry") (Or.inr (wd_70 hw)) (Or.inr (wd_68 hw)) (by decide) pf_4 pf_3
theorem sn_10 {a0 : Array Value} {Z : State} (hw : ∀ d ∈ tables_1, d.before a0 Z = true) : Jvm.RoadKit.slotOf Z "com/example/enact/enact/queue/QueueEntry" "attempts" "I" ≠ Jvm.RoadKit.slotOf Z "com/example/enact/enact/queue/QueueEntry" "id" "J" := slot_ne (a0 := a0) (C := "com/example/enact/enact/queue/QueueEntry") (Or.inr (wd_72 hw)) (Or.inr (wd_62 hw)) (by decide) pf_5 pf_2
theorem sn_11 {a0 : Array Value} {Z : State} (hw : ∀ d ∈ tables_1, d.before a0 Z = true) : Jvm.RoadKit.slotOf Z "com/example/enact/enact/queue/QueueEntry" "attempts" "I" ≠ Jvm.RoadKit.slotOf Z "com/example/enact/enact/queue/QueueEntry" "key" "Ljava/lang/String;" := slot_ne (a0 := a0) (C := "com/example/enact/enact/queue/QueueEntry") (Or.inr (wd_72 hw)) (Or.inr (wd_64 hw)) (by decide) pf_5 pf_3
theorem sn_12 {a0 : Array Value} {Z : State} (hw : ∀ d ∈ tables_1, d.before a0 Z = true) : Jvm.RoadKit.slotOf Z "com/example/enact/enact/queue/QueueEntry" "attempts" "I" ≠ Jvm.RoadKit.slotOf Z "com/example/enact/enact/queue/QueueEntry" "command" "Ljava/lang/String;" := slot_ne (a0 := a0) (C := "com/example/enact/enact/queue/QueueEntry") (Or.inr (wd_72 hw)) (Or.inr (wd_66 hw)) (by decide) pf_5 pf_3
theorem sn_13 {a0 : Array Value} {Z : State} (hw : ∀ d ∈ tables_1, d.before a0 Z = true) : Jvm.RoadKit.slotOf Z "com/example/enact/enact/queue/QueueEntry" "attempts" "I" ≠ Jvm.RoadKit.slotOf Z "com/example/enact/enact/queue/QueueEntry" "input" "Ljava/lang/String;" := slot_ne (a0 := a0) (C := "com/example/enact/enact/queue/QueueEntry") (Or.inr (wd_72 hw)) (Or.inr (wd_68 hw)) (by decide) pf_5 pf_3
theorem sn_14 {a0 : Array Value} {Z : State} (hw : ∀ d ∈ tables_1, d.before a0 Z = true) : Jvm.RoadKit.slotOf Z "com/example/enact/enact/queue/QueueEntry" "attempts" "I" ≠ Jvm.RoadKit.slotOf Z "com/example/enact/enact/queue/QueueEntry" "status" "Lcom/example/enact/enact/queue/QueueEntry$Status;" := slot_ne (a0 := a0) (C := "com/example/enact/enact/queue/QueueEntry") (Or.inr (wd_72 hw)) (Or.inr (wd_70 hw)) (by decide) pf_5 pf_4
theorem sn_15 {a0 : Array Value} {Z : State} (hw : ∀ d ∈ tables_1, d.before a0 Z = true) : Jvm.RoadKit.slotOf Z "com/example/enact/enact/queue/QueueEntry" "firstAttempt" "Ljava/time/Instant;" ≠ Jvm.RoadKit.slotOf Z "com/example/enact/enact/queue/QueueEntry" "id" "J" := slot_ne (a0 := a0) (C := "com/example/enact/enact/queue/QueueEntry") (Or.inr (wd_74 hw)) (Or.inr (wd_62 hw)) (by decide) pf_6 pf_2
theorem sn_16 {a0 : Array Value} {Z : State} (hw : ∀ d ∈ tables_1, d.before a0 Z = true) : Jvm.RoadKit.slotOf Z "com/example/enact/enact/queue/QueueEntry" "firstAttempt" "Ljava/time/Instant;" ≠ Jvm.RoadKit.slotOf Z "com/example/enact/enact/queue/QueueEntry" "key" "Ljava/lang/String;" := slot_ne (a0 := a0) (C := "com/example/enact/enact/queue/QueueEntry") (Or.inr (wd_74 hw)) (Or.inr (wd_64 hw)) (by decide) pf_6 pf_3
theorem sn_17 {a0 : Array Value} {Z : State} (hw : ∀ d ∈ tables_1, d.before a0 Z = true) : Jvm.RoadKit.slotOf Z "com/example/enact/enact/queue/QueueEntry" "firstAttempt" "Ljava/time/Instant;" ≠ Jvm.RoadKit.slotOf Z "com/example/enact/enact/queue/QueueEntry" "command" "Ljava/lang/String;" := slot_ne (a0 := a0) (C := "com/example/enact/enact/queue/QueueEntry") (Or.inr (wd_74 hw)) (Or.inr (wd_66 hw)) (by decide) pf_6 pf_3
theorem sn_18 {a0 : Array Value} {Z : State} (hw : ∀ d ∈ tables_1, d.before a0 Z = true) : Jvm.RoadKit.slotOf Z "com/example/enact/enact/queue/QueueEntry" "firstAttempt" "Ljava/time/Instant;" ≠ Jvm.RoadKit.slotOf Z "com/example/enact/enact/queue/QueueEntry" "input" "Ljava/lang/String;" := slot_ne (a0 := a0) (C := "com/example/enact/enact/queue/QueueEntry") (Or.inr (wd_74 hw)) (Or.inr (wd_68 hw)) (by decide) pf_6 pf_3
theorem sn_19 {a0 : Array Value} {Z : State} (hw : ∀ d ∈ tables_1, d.before a0 Z = true) : Jvm.RoadKit.slotOf Z "com/example/enact/enact/queue/QueueEntry" "firstAttempt" "Ljava/time/Instant;" ≠ Jvm.RoadKit.slotOf Z "com/example/enact/enact/queue/QueueEntry" "status" "Lcom/example/enact/enact/queue/QueueEntry$Status;" := slot_ne (a0 := a0) (C := "com/example/enact/enact/queue/QueueEntry") (Or.inr (wd_74 hw)) (Or.inr (wd_70 hw)) (by decide) pf_6 pf_4
theorem sn_20 {a0 : Array Value} {Z : State} (hw : ∀ d ∈ tables_1, d.before a0 Z = true) : Jvm.RoadKit.slotOf Z "com/example/enact/enact/queue/QueueEntry" "firstAttempt" "Ljava/time/Instant;" ≠ Jvm.RoadKit.slotOf Z "com/example/enact/enact/queue/QueueEntry" "attempts" "I" := slot_ne (a0 := a0) (C := "com/example/enact/enact/queue/QueueEntry") (Or.inr (wd_74 hw)) (Or.inr (wd_72 hw)) (by decide) pf_6 pf_5
theorem sn_21 {a0 : Array Value} {Z : State} (hw : ∀ d ∈ tables_1, d.before a0 Z = true) : Jvm.RoadKit.slotOf Z "com/example/enact/enact/queue/QueueEntry" "ended" "Ljava/time/Instant;" ≠ Jvm.RoadKit.slotOf Z "com/example/enact/enact/queue/QueueEntry" "id" "J" := slot_ne (a0 := a0) (C := "com/example/enact/enact/queue/QueueEntry") (Or.inr (wd_76 hw)) (Or.inr (wd_62 hw)) (by decide) pf_6 pf_2
theorem sn_22 {a0 : Array Value} {Z : State} (hw : ∀ d ∈ tables_1, d.before a0 Z = true) : Jvm.RoadKit.slotOf Z "com/example/enact/enact/queue/QueueEntry" "ended" "Ljava/time/Instant;" ≠ Jvm.RoadKit.slotOf Z "com/example/enact/enact/queue/QueueEntry" "key" "Ljava/lang/String;" := slot_ne (a0 := a0) (C := "com/example/enact/enact/queue/QueueEntry") (Or.inr (wd_76 hw)) (Or.inr (wd_64 hw)) (by decide) pf_6 pf_3
theorem sn_23 {a0 : Array Value} {Z : State} (hw : ∀ d ∈ tables_1, d.before a0 Z = true) : Jvm.RoadKit.slotOf Z "com/example/enact/enact/queue/QueueEntry" "ended" "Ljava/time/Instant;" ≠ Jvm.RoadKit.slotOf Z "com/example/enact/enact/queue/QueueEntry" "command" "Ljava/lang/String;" := slot_ne (a0 := a0) (C := "com/example/enact/enact/queue/QueueEntry") (Or.inr (wd_76 hw)) (Or.inr (wd_66 hw)) (by decide) pf_6 pf_3
theorem sn_24 {a0 : Array Value} {Z : State} (hw : ∀ d ∈ tables_1, d.before a0 Z = true) : Jvm.RoadKit.slotOf Z "com/example/enact/enact/queue/QueueEntry" "ended" "Ljava/time/Instant;" ≠ Jvm.RoadKit.slotOf Z "com/example/enact/enact/queue/QueueEntry" "input" "Ljava/lang/String;" := slot_ne (a0 := a0) (C := "com/example/enact/enact/queue/QueueEntry") (Or.inr (wd_76 hw)) (Or.inr (wd_68 hw)) (by decide) pf_6 pf_3
theorem sn_25 {a0 : Array Value} {Z : State} (hw : ∀ d ∈ tables_1, d.before a0 Z = true) : Jvm.RoadKit.slotOf Z "com/example/enact/enact/queue/QueueEntry" "ended" "Ljava/time/Instant;" ≠ Jvm.RoadKit.slotOf Z "com/example/enact/enact/queue/QueueEntry" "status" "Lcom/example/enact/enact/queue/QueueEntry$Status;" := slot_ne (a0 := a0) (C := "com/example/enact/enact/queue/QueueEntry") (Or.inr (wd_76 hw)) (Or.inr (wd_70 hw)) (by decide) pf_6 pf_4
theorem sn_26 {a0 : Array Value} {Z : State} (hw : ∀ d ∈ tables_1, d.before a0 Z = true) : Jvm.RoadKit.slotOf Z "com/example/enact/enact/queue/QueueEntry" "ended" "Ljava/time/Instant;" ≠ Jvm.RoadKit.slotOf Z "com/example/enact/enact/queue/QueueEntry" "attempts" "I" := slot_ne (a0 := a0) (C := "com/example/enact/enact/queue/QueueEntry") (Or.inr (wd_76 hw)) (Or.inr (wd_72 hw)) (by decide) pf_6 pf_5
theorem sn_27 {a0 : Array Value} {Z : State} (hw : ∀ d ∈ tables_1, d.before a0 Z = true) : Jvm.RoadKit.slotOf Z "com/example/enact/enact/queue/QueueEntry" "ended" "Ljava/time/Instant;" ≠ Jvm.RoadKit.slotOf Z "com/example/enact/enact/queue/QueueEntry" "firstAttempt" "Ljava/time/Instant;" := slot_ne (a0 := a0) (C := "com/example/enact/enact/queue/QueueEntry") (Or.inr (wd_76 hw)) (Or.inr (wd_74 hw)) (by decide) pf_6 pf_6
theorem sn_28 {a0 : Array Value} {Z : State} (hw : ∀ d ∈ tables_1, d.before a0 Z = true) : Jvm.RoadKit.slotOf Z "com/example/enact/enact/queue/QueueEntry" "result" "Ljava/lang/String;" ≠ Jvm.RoadKit.slotOf Z "com/example/enact/enact/queue/QueueEntry" "id" "J" := slot_ne (a0 := a0) (C := "com/example/enact/enact/queue/QueueEntry") (Or.inr (wd_78 hw)) (Or.inr (wd_62 hw)) (by decide) pf_3 pf_2
theorem sn_29 {a0 : Array Value} {Z : State} (hw : ∀ d ∈ tables_1, d.before a0 Z = true) : Jvm.RoadKit.slotOf Z "com/example/enact/enact/queue/QueueEntry" "result" "Ljava/lang/String;" ≠ Jvm.RoadKit.slotOf Z "com/example/enact/enact/queue/QueueEntry" "key" "Ljava/lang/String;" := slot_ne (a0 := a0) (C := "com/example/enact/enact/queue/QueueEntry") (Or.inr (wd_78 hw)) (Or.inr (wd_64 hw)) (by decide) pf_3 pf_3
theorem sn_30 {a0 : Array Value} {Z : State} (hw : ∀ d ∈ tables_1, d.before a0 Z = true) : Jvm.RoadKit.slotOf Z "com/example/enact/enact/queue/QueueEntry" "result" "Ljava/lang/String;" ≠ Jvm.RoadKit.slotOf Z "com/example/enact/enact/queue/QueueEntry" "command" "Ljava/lang/String;" := slot_ne (a0 := a0) (C := "com/example/enact/enact/queue/QueueEntry") (Or.inr (wd_78 hw)) (Or.inr (wd_66 hw)) (by decide) pf_3 pf_3
theorem sn_31 {a0 : Array Value} {Z : State} (hw : ∀ d ∈ tables_1, d.before a0 Z = true) : Jvm.RoadKit.slotOf Z "com/example/enact/enact/queue/QueueEntry" "result" "Ljava/lang/String;" ≠ Jvm.RoadKit.slotOf Z "com/example/enact/enact/queue/QueueEntry" "input" "Ljava/lang/String;" := slot_ne (a0 := a0) (C := "com/example/enact/enact/queue/QueueEntry") (Or.inr (wd_78 hw)) (Or.inr (wd_68 hw)) (by decide) pf_3 pf_3
theorem sn_32 {a0 : Array Value} {Z : State} (hw : ∀ d ∈ tables_1, d.before a0 Z = true) : Jvm.RoadKit.slotOf Z "com/example/enact/enact/queue/QueueEntry" "result" "Ljava/lang/String;" ≠ Jvm.RoadKit.slotOf Z "com/example/enact/enact/queue/QueueEntry" "status" "Lcom/example/enact/enact/queue/QueueEntry$Status;" := slot_ne (a0 := a0) (C := "com/example/enact/enact/queue/QueueEntry") (Or.inr (wd_78 hw)) (Or.inr (wd_70 hw)) (by decide) pf_3 pf_4
theorem sn_33 {a0 : Array Value} {Z : State} (hw : ∀ d ∈ tables_1, d.before a0 Z = true) : Jvm.RoadKit.slotOf Z "com/example/enact/enact/queue/QueueEntry" "result" "Ljava/lang/String;" ≠ Jvm.RoadKit.slotOf Z "com/example/enact/enact/queue/QueueEntry" "attempts" "I" := slot_ne (a0 := a0) (C := "com/example/enact/enact/queue/QueueEntry") (Or.inr (wd_78 hw)) (Or.inr (wd_72 hw)) (by decide) pf_3 pf_5
theorem sn_34 {a0 : Array Value} {Z : State} (hw : ∀ d ∈ tables_1, d.before a0 Z = true) : Jvm.RoadKit.slotOf Z "com/example/enact/enact/queue/QueueEntry" "result" "Ljava/lang/String;" ≠ Jvm.RoadKit.slotOf Z "com/example/enact/enact/queue/QueueEntry" "firstAttempt" "Ljava/time/Instant;" := slot_ne (a0 := a0) (C := "com/example/enact/enact/queue/QueueEntry") (Or.inr (wd_78 hw)) (Or.inr (wd_74 hw)) (by decide) pf_3 pf_6
theorem sn_35 {a0 : Array Value} {Z : State} (hw : ∀ d ∈ tables_1, d.before a0 Z = true) : Jvm.RoadKit.slotOf Z "com/example/enact/enact/queue/QueueEntry" "result" "Ljava/lang/String;" ≠ Jvm.RoadKit.slotOf Z "com/example/enact/enact/queue/QueueEntry" "ended" "Ljava/time/Instant;" := slot_ne (a0 := a0) (C := "com/example/enact/enact/queue/QueueEntry") (Or.inr (wd_78 hw)) (Or.inr (wd_76 hw)) (by decide) pf_3 pf_6
theorem sn_36 {a0 : Array Value} {Z : State} (hw : ∀ d ∈ tables_1, d.before a0 Z = true) : Jvm.RoadKit.slotOf Z "com/example/enact/enact/queue/QueueEntry" "message" "Ljava/lang/String;" ≠ Jvm.RoadKit.slotOf Z "com/example/enact/enact/queue/QueueEntry" "id" "J" := slot_ne (a0 := a0) (C := "com/example/enact/enact/queue/QueueEntry") (Or.inr (wd_80 hw)) (Or.inr (wd_62 hw)) (by decide) pf_3 pf_2
theorem sn_37 {a0 : Array Value} {Z : State} (hw : ∀ d ∈ tables_1, d.before a0 Z = true) : Jvm.RoadKit.slotOf Z "com/example/enact/enact/queue/QueueEntry" "message" "Ljava/lang/String;" ≠ Jvm.RoadKit.slotOf Z "com/example/enact/enact/queue/QueueEntry" "key" "Ljava/lang/String;" := slot_ne (a0 := a0) (C := "com/example/enact/enact/queue/QueueEntry") (Or.inr (wd_80 hw)) (Or.inr (wd_64 hw)) (by decide) pf_3 pf_3
theorem sn_38 {a0 : Array Value} {Z : State} (hw : ∀ d ∈ tables_1, d.before a0 Z = true) : Jvm.RoadKit.slotOf Z "com/example/enact/enact/queue/QueueEntry" "message" "Ljava/lang/String;" ≠ Jvm.RoadKit.slotOf Z "com/example/enact/enact/queue/QueueEntry" "command" "Ljava/lang/String;" := slot_ne (a0 := a0) (C := "com/example/enact/enact/queue/QueueEntry") (Or.inr (wd_80 hw)) (Or.inr (wd_66 hw)) (by decide) pf_3 pf_3
theorem sn_39 {a0 : Array Value} {Z : State} (hw : ∀ d ∈ tables_1, d.before a0 Z = true) : Jvm.RoadKit.slotOf Z "com/example/enact/enact/queue/QueueEntry" "message" "Ljava/lang/String;" ≠ Jvm.RoadKit.slotOf Z "com/example/enact/enact/queue/QueueEntry" "input" "Ljava/lang/String;" := slot_ne (a0 := a0) (C := "com/example/enact/enact/queue/QueueEntry") (Or.inr (wd_80 hw)) (Or.inr (wd_68 hw)) (by decide) pf_3 pf_3
theorem sn_40 {a0 : Array Value} {Z : State} (hw : ∀ d ∈ tables_1, d.before a0 Z = true) : Jvm.RoadKit.slotOf Z "com/example/enact/enact/queue/QueueEntry" "message" "Ljava/lang/String;" ≠ Jvm.RoadKit.slotOf Z "com/example/enact/enact/queue/QueueEntry" "status" "Lcom/example/enact/enact/queue/QueueEntry$Status;" := slot_ne (a0 := a0) (C := "com/example/enact/enact/queue/QueueEntry") (Or.inr (wd_80 hw)) (Or.inr (wd_70 hw)) (by decide) pf_3 pf_4
theorem sn_41 {a0 : Array Value} {Z : State} (hw : ∀ d ∈ tables_1, d.before a0 Z = true) : Jvm.RoadKit.slotOf Z "com/example/enact/enact/queue/QueueEntry" "message" "Ljava/lang/String;" ≠ Jvm.RoadKit.slotOf Z "com/example/enact/enact/queue/QueueEntry" "attempts" "I" := slot_ne (a0 := a0) (C := "com/example/enact/enact/queue/QueueEntry") (Or.inr (wd_80 hw)) (Or.inr (wd_72 hw)) (by decide) pf_3 pf_5
theorem sn_42 {a0 : Array Value} {Z : State} (hw : ∀ d ∈ tables_1, d.before a0 Z = true) : Jvm.RoadKit.slotOf Z "com/example/enact/enact/queue/QueueEntry" "message" "Ljava/lang/String;" ≠ Jvm.RoadKit.slotOf Z "com/example/enact/enact/queue/QueueEntry" "firstAttempt" "Ljava/time/Instant;" := slot_ne (a0 := a0) (C := "com/example/enact/enact/queue/QueueEntry") (Or.inr (wd_80 hw)) (Or.inr (wd_74 hw)) (by decide) pf_3 pf_6
theorem sn_43 {a0 : Array Value} {Z : State} (hw : ∀ d ∈ tables_1, d.before a0 Z = true) : Jvm.RoadKit.slotOf Z "com/example/enact/enact/queue/QueueEntry" "message" "Ljava/lang/String;" ≠ Jvm.RoadKit.slotOf Z "com/example/enact/enact/queue/QueueEntry" "ended" "Ljava/time/Instant;" := slot_ne (a0 := a0) (C := "com/example/enact/enact/queue/QueueEntry") (Or.inr (wd_80 hw)) (Or.inr (wd_76 hw)) (by decide) pf_3 pf_6
theorem sn_44 {a0 : Array Value} {Z : State} (hw : ∀ d ∈ tables_1, d.before a0 Z = true) : Jvm.RoadKit.slotOf Z "com/example/enact/enact/queue/QueueEntry" "message" "Ljava/lang/String;" ≠ Jvm.RoadKit.slotOf Z "com/example/enact/enact/queue/QueueEntry" "result" "Ljava/lang/String;" := slot_ne (a0 := a0) (C := "com/example/enact/enact/queue/QueueEntry") (Or.inr (wd_80 hw)) (Or.inr (wd_78 hw)) (by decide) pf_3 pf_3
theorem sn_45 {a0 : Array Value} {Z : State} (hw : ∀ d ∈ tables_1, d.before a0 Z = true) : Jvm.RoadKit.slotOf Z "com/example/enact/enact/queue/QueueEntry" "type" "Ljava/lang/String;" ≠ Jvm.RoadKit.slotOf Z "com/example/enact/enact/queue/QueueEntry" "id" "J" := slot_ne (a0 := a0) (C := "com/example/enact/enact/queue/QueueEntry") (Or.inr (wd_82 hw)) (Or.inr (wd_62 hw)) (by decide) pf_3 pf_2
theorem sn_46 {a0 : Array Value} {Z : State} (hw : ∀ d ∈ tables_1, d.before a0 Z = true) : Jvm.RoadKit.slotOf Z "com/example/enact/enact/queue/QueueEntry" "type" "Ljava/lang/String;" ≠ Jvm.RoadKit.slotOf Z "com/example/enact/enact/queue/QueueEntry" "key" "Ljava/lang/String;" := slot_ne (a0 := a0) (C := "com/example/enact/enact/queue/QueueEntry") (Or.inr (wd_82 hw)) (Or.inr (wd_64 hw)) (by decide) pf_3 pf_3
theorem sn_47 {a0 : Array Value} {Z : State} (hw : ∀ d ∈ tables_1, d.before a0 Z = true) : Jvm.RoadKit.slotOf Z "com/example/enact/enact/queue/QueueEntry" "type" "Ljava/lang/String;" ≠ Jvm.RoadKit.slotOf Z "com/example/enact/enact/queue/QueueEntry" "command" "Ljava/lang/String;" := slot_ne (a0 := a0) (C := "com/example/enact/enact/queue/QueueEntry") (Or.inr (wd_82 hw)) (Or.inr (wd_66 hw)) (by decide) pf_3 pf_3
theorem sn_48 {a0 : Array Value} {Z : State} (hw : ∀ d ∈ tables_1, d.before a0 Z = true) : Jvm.RoadKit.slotOf Z "com/example/enact/enact/queue/QueueEntry" "type" "Ljava/lang/String;" ≠ Jvm.RoadKit.slotOf Z "com/example/enact/enact/queue/QueueEntry" "input" "Ljava/lang/String;" := slot_ne (a0 := a0) (C := "com/example/enact/enact/queue/QueueEntry") (Or.inr (wd_82 hw)) (Or.inr (wd_68 hw)) (by decide) pf_3 pf_3
theorem sn_49 {a0 : Array Value} {Z : State} (hw : ∀ d ∈ tables_1, d.before a0 Z = true) : Jvm.RoadKit.slotOf Z "com/example/enact/enact/queue/QueueEntry" "type" "Ljava/lang/String;" ≠ Jvm.RoadKit.slotOf Z "com/example/enact/enact/queue/QueueEntry" "status" "Lcom/example/enact/enact/queue/QueueEntry$Status;" := slot_ne (a0 := a0) (C := "com/example/enact/enact/queue/QueueEntry") (Or.inr (wd_82 hw)) (Or.inr (wd_70 hw)) (by decide) pf_3 pf_4
theorem sn_50 {a0 : Array Value} {Z : State} (hw : ∀ d ∈ tables_1, d.before a0 Z = true) : Jvm.RoadKit.slotOf Z "com/example/enact/enact/queue/QueueEntry" "type" "Ljava/lang/String;" ≠ Jvm.RoadKit.slotOf Z "com/example/enact/enact/queue/QueueEntry" "attempts" "I" := slot_ne (a0 := a0) (C := "com/example/enact/enact/queue/QueueEntry") (Or.inr (wd_82 hw)) (Or.inr (wd_72 hw)) (by decide) pf_3 pf_5
theorem sn_51 {a0 : Array Value} {Z : State} (hw : ∀ d ∈ tables_1, d.before a0 Z = true) : Jvm.RoadKit.slotOf Z "com/example/enact/enact/queue/QueueEntry" "type" "Ljava/lang/String;" ≠ Jvm.RoadKit.slotOf Z "com/example/enact/enact/queue/QueueEntry" "firstAttempt" "Ljava/time/Instant;" := slot_ne (a0 := a0) (C := "com/example/enact/enact/queue/QueueEntry") (Or.inr (wd_82 hw)) (Or.inr (wd_74 hw)) (by decide) pf_3 pf_6
theorem sn_52 {a0 : Array Value} {Z : State} (hw : ∀ d ∈ tables_1, d.before a0 Z = true) : Jvm.RoadKit.slotOf Z "com/example/enact/enact/queue/QueueEntry" "type" "Ljava/lang/String;" ≠ Jvm.RoadKit.slotOf Z "com/example/enact/enact/queue/QueueEntry" "ended" "Ljava/time/Instant;" := slot_ne (a0 := a0) (C := "com/example/enact/enact/queue/QueueEntry") (Or.inr (wd_82 hw)) (Or.inr (wd_76 hw)) (by decide) pf_3 pf_6
theorem sn_53 {a0 : Array Value} {Z : State} (hw : ∀ d ∈ tables_1, d.before a0 Z = true) : Jvm.RoadKit.slotOf Z "com/example/enact/enact/queue/QueueEntry" "type" "Ljava/lang/String;" ≠ Jvm.RoadKit.slotOf Z "com/example/enact/enact/queue/QueueEntry" "result" "Ljava/lang/String;" := slot_ne (a0 := a0) (C := "com/example/enact/enact/queue/QueueEntry") (Or.inr (wd_82 hw)) (Or.inr (wd_78 hw)) (by decide) pf_3 pf_3
theorem sn_54 {a0 : Array Value} {Z : State} (hw : ∀ d ∈ tables_1, d.before a0 Z = true) : Jvm.RoadKit.slotOf Z "com/example/enact/enact/queue/QueueEntry" "type" "Ljava/lang/String;" ≠ Jvm.RoadKit.slotOf Z "com/example/enact/enact/queue/QueueEntry" "message" "Ljava/lang/String;" := slot_ne (a0 := a0) (C := "com/example/enact/enact/queue/QueueEntry") (Or.inr (wd_82 hw)) (Or.inr (wd_80 hw)) (by decide) pf_3 pf_3
theorem sn_55 {a0 : Array Value} {Z : State} (hw : ∀ d ∈ tables_1, d.before a0 Z = true) : Jvm.RoadKit.slotOf Z "com/example/enact/enact/queue/QueueEntry" "id" "J" ≠ Jvm.RoadKit.slotOf Z "com/example/enact/enact/queue/QueueEntry" "key" "Ljava/lang/String;" := slot_ne (a0 := a0) (C := "com/example/enact/enact/queue/QueueEntry") (Or.inr (wd_62 hw)) (Or.inr (wd_64 hw)) (by decide) pf_2 pf_3
theorem sn_56 {a0 : Array Value} {Z : State} (hw : ∀ d ∈ tables_1, d.before a0 Z = true) : Jvm.RoadKit.slotOf Z "com/example/enact/enact/queue/QueueEntry" "id" "J" ≠ Jvm.RoadKit.slotOf Z "com/example/enact/enact/queue/QueueEntry" "command" "Ljava/lang/String;" := slot_ne (a0 := a0) (C := "com/example/enact/enact/queue/QueueEntry") (Or.inr (wd_62 hw)) (Or.inr (wd_66 hw)) (by decide) pf_2 pf_3
theorem sn_57 {a0 : Array Value} {Z : State} (hw : ∀ d ∈ tables_1, d.before a0 Z = true) : Jvm.RoadKit.slotOf Z "com/example/enact/enact/queue/QueueEntry" "id" "J" ≠ Jvm.RoadKit.slotOf Z "com/example/enact/enact/queue/QueueEntry" "input" "Ljava/lang/String;" := slot_ne (a0 := a0) (C := "com/example/enact/enact/queue/QueueEntry") (Or.inr (wd_62 hw)) (Or.inr (wd_68 hw)) (by decide) pf_2 pf_3
theorem sn_58 {a0 : Array Value} {Z : State} (hw : ∀ d ∈ tables_1, d.before a0 Z = true) : Jvm.RoadKit.slotOf Z "com/example/enact/enact/queue/QueueEntry" "id" "J" ≠ Jvm.RoadKit.slotOf Z "com/example/enact/enact/queue/QueueEntry" "status" "Lcom/example/enact/enact/queue/QueueEntry$Status;" := slot_ne (a0 := a0) (C := "com/example/enact/enact/queue/QueueEntry") (Or.inr (wd_62 hw)) (Or.inr (wd_70 hw)) (by decide) pf_2 pf_4
theorem sn_59 {a0 : Array Value} {Z : State} (hw : ∀ d ∈ tables_1, d.before a0 Z = true) : Jvm.RoadKit.slotOf Z "com/example/enact/enact/queue/QueueEntry" "id" "J" ≠ Jvm.RoadKit.slotOf Z "com/example/enact/enact/queue/QueueEntry" "attempts" "I" := slot_ne (a0 := a0) (C := "com/example/enact/enact/queue/QueueEntry") (Or.inr (wd_62 hw)) (Or.inr (wd_72 hw)) (by decide) pf_2 pf_5
theorem sn_60 {a0 : Array Value} {Z : State} (hw : ∀ d ∈ tables_1, d.before a0 Z = true) : Jvm.RoadKit.slotOf Z "com/example/enact/enact/queue/QueueEntry" "id" "J" ≠ Jvm.RoadKit.slotOf Z "com/example/enact/enact/queue/QueueEntry" "firstAttempt" "Ljava/time/Instant;" := slot_ne (a0 := a0) (C := "com/example/enact/enact/queue/QueueEntry") (Or.inr (wd_62 hw)) (Or.inr (wd_74 hw)) (by decide) pf_2 pf_6
theorem sn_61 {a0 : Array Value} {Z : State} (hw : ∀ d ∈ tables_1, d.before a0 Z = true) : Jvm.RoadKit.slotOf Z "com/example/enact/enact/queue/QueueEntry" "id" "J" ≠ Jvm.RoadKit.slotOf Z "com/example/enact/enact/queue/QueueEntry" "ended" "Ljava/time/Instant;" := slot_ne (a0 := a0) (C := "com/example/enact/enact/queue/QueueEntry") (Or.inr (wd_62 hw)) (Or.inr (wd_76 hw)) (by decide) pf_2 pf_6
theorem sn_62 {a0 : Array Value} {Z : State} (hw : ∀ d ∈ tables_1, d.before a0 Z = true) : Jvm.RoadKit.slotOf Z "com/example/enact/enact/queue/QueueEntry" "id" "J" ≠ Jvm.RoadKit.slotOf Z "com/example/enact/enact/queue/QueueEntry" "result" "Ljava/lang/String;" := slot_ne (a0 := a0) (C := "com/example/enact/enact/queue/QueueEntry") (Or.inr (wd_62 hw)) (Or.inr (wd_78 hw)) (by decide) pf_2 pf_3
theorem sn_63 {a0 : Array Value} {Z : State} (hw : ∀ d ∈ tables_1, d.before a0 Z = true) : Jvm.RoadKit.slotOf Z "com/example/enact/enact/queue/QueueEntry" "id" "J" ≠ Jvm.RoadKit.slotOf Z "com/example/enact/enact/queue/QueueEntry" "message" "Ljava/lang/String;" := slot_ne (a0 := a0) (C := "com/example/enact/enact/queue/QueueEntry") (Or.inr (wd_62 hw)) (Or.inr (wd_80 hw)) (by decide) pf_2 pf_3
theorem sn_64 {a0 : Array Value} {Z : State} (hw : ∀ d ∈ tables_1, d.before a0 Z = true) : Jvm.RoadKit.slotOf Z "com/example/enact/enact/queue/QueueEntry" "id" "J" ≠ Jvm.RoadKit.slotOf Z "com/example/enact/enact/queue/QueueEntry" "type" "Ljava/lang/String;" := slot_ne (a0 := a0) (C := "com/example/enact/enact/queue/QueueEntry") (Or.inr (wd_62 hw)) (Or.inr (wd_82 hw)) (by decide) pf_2 pf_3
theorem sn_65 {a0 : Array Value} {Z : State} (hw : ∀ d ∈ tables_1, d.before a0 Z = true) : Jvm.RoadKit.slotOf Z "com/example/enact/enact/queue/QueueEntry" "key" "Ljava/lang/String;" ≠ Jvm.RoadKit.slotOf Z "com/example/enact/enact/queue/QueueEntry" "command" "Ljava/lang/String;" := slot_ne (a0 := a0) (C := "com/example/enact/enact/queue/QueueEntry") (Or.inr (wd_64 hw)) (Or.inr (wd_66 hw)) (by decide) pf_3 pf_3
theorem sn_66 {a0 : Array Value} {Z : State} (hw : ∀ d ∈ tables_1, d.before a0 Z = true) : Jvm.RoadKit.slotOf Z "com/example/enact/enact/queue/QueueEntry" "key" "Ljava/lang/String;" ≠ Jvm.RoadKit.slotOf Z "com/example/enact/enact/queue/QueueEntry" "input" "Ljava/lang/String;" := slot_ne (a0 := a0) (C := "com/example/enact/enact/queue/QueueEntry") (Or.inr (wd_64 hw)) (Or.inr (wd_68 hw)) (by decide) pf_3 pf_3
theorem sn_67 {a0 : Array Value} {Z : State} (hw : ∀ d ∈ tables_1, d.before a0 Z = true) : Jvm.RoadKit.slotOf Z "com/example/enact/enact/queue/QueueEntry" "key" "Ljava/lang/String;" ≠ Jvm.RoadKit.slotOf Z "com/example/enact/enact/queue/QueueEntry" "status" "Lcom/example/enact/enact/queue/QueueEntry$Status;" := slot_ne (a0 := a0) (C := "com/example/enact/enact/queue/QueueEntry") (Or.inr (wd_64 hw)) (Or.inr (wd_70 hw)) (by decide) pf_3 pf_4
theorem sn_68 {a0 : Array Value} {Z : State} (hw : ∀ d ∈ tables_1, d.before a0 Z = true) : Jvm.RoadKit.slotOf Z "com/example/enact/enact/queue/QueueEntry" "key" "Ljava/lang/String;" ≠ Jvm.RoadKit.slotOf Z "com/example/enact/enact/queue/QueueEntry" "attempts" "I" := slot_ne (a0 := a0) (C := "com/example/enact/enact/queue/QueueEntry") (Or.inr (wd_64 hw)) (Or.inr (wd_72 hw)) (by decide) pf_3 pf_5
theorem sn_69 {a0 : Array Value} {Z : State} (hw : ∀ d ∈ tables_1, d.before a0 Z = true) : Jvm.RoadKit.slotOf Z "com/example/enact/enact/queue/QueueEntry" "key" "Ljava/lang/String;" ≠ Jvm.RoadKit.slotOf Z "com/example/enact/enact/queue/QueueEntry" "firstAttempt" "Ljava/time/Instant;" := slot_ne (a0 := a0) (C := "com/example/enact/enact/queue/QueueEntry") (Or.inr (wd_64 hw)) (Or.inr (wd_74 hw)) (by decide) pf_3 pf_6
theorem sn_70 {a0 : Array Value} {Z : State} (hw : ∀ d ∈ tables_1, d.before a0 Z = true) : Jvm.RoadKit.slotOf Z "com/example/enact/enact/queue/QueueEntry" "key" "Ljava/lang/String;" ≠ Jvm.RoadKit.slotOf Z "com/example/enact/enact/queue/QueueEntry" "ended" "Ljava/time/Instant;" := slot_ne (a0 := a0) (C := "com/example/enact/enact/queue/QueueEntry") (Or.inr (wd_64 hw)) (Or.inr (wd_76 hw)) (by decide) pf_3 pf_6
theorem sn_71 {a0 : Array Value} {Z : State} (hw : ∀ d ∈ tables_1, d.before a0 Z = true) : Jvm.RoadKit.slotOf Z "com/example/enact/enact/queue/QueueEntry" "key" "Ljava/lang/String;" ≠ Jvm.RoadKit.slotOf Z "com/example/enact/enact/queue/QueueEntry" "result" "Ljava/lang/String;" := slot_ne (a0 := a0) (C := "com/example/enact/enact/queue/QueueEntry") (Or.inr (wd_64 hw)) (Or.inr (wd_78 hw)) (by decide) pf_3 pf_3
theorem sn_72 {a0 : Array Value} {Z : State} (hw : ∀ d ∈ tables_1, d.before a0 Z = true) : Jvm.RoadKit.slotOf Z "com/example/enact/enact/queue/QueueEntry" "key" "Ljava/lang/String;" ≠ Jvm.RoadKit.slotOf Z "com/example/enact/enact/queue/QueueEntry" "message" "Ljava/lang/String;" := slot_ne (a0 := a0) (C := "com/example/enact/enact/queue/QueueEntry") (Or.inr (wd_64 hw)) (Or.inr (wd_80 hw)) (by decide) pf_3 pf_3
theorem sn_73 {a0 : Array Value} {Z : State} (hw : ∀ d ∈ tables_1, d.before a0 Z = true) : Jvm.RoadKit.slotOf Z "com/example/enact/enact/queue/QueueEntry" "key" "Ljava/lang/String;" ≠ Jvm.RoadKit.slotOf Z "com/example/enact/enact/queue/QueueEntry" "type" "Ljava/lang/String;" := slot_ne (a0 := a0) (C := "com/example/enact/enact/queue/QueueEntry") (Or.inr (wd_64 hw)) (Or.inr (wd_82 hw)) (by decide) pf_3 pf_3
theorem sn_74 {a0 : Array Value} {Z : State} (hw : ∀ d ∈ tables_1, d.before a0 Z = true) : Jvm.RoadKit.slotOf Z "com/example/enact/enact/queue/QueueEntry" "command" "Ljava/lang/String;" ≠ Jvm.RoadKit.slotOf Z "com/example/enact/enact/queue/QueueEntry" "input" "Ljava/lang/String;" := slot_ne (a0 := a0) (C := "com/example/enact/enact/queue/QueueEntry") (Or.inr (wd_66 hw)) (Or.inr (wd_68 hw)) (by decide) pf_3 pf_3
theorem sn_75 {a0 : Array Value} {Z : State} (hw : ∀ d ∈ tables_1, d.before a0 Z = true) : Jvm.RoadKit.slotOf Z "com/example/enact/enact/queue/QueueEntry" "command" "Ljava/lang/String;" ≠ Jvm.RoadKit.slotOf Z "com/example/enact/enact/queue/QueueEntry" "status" "Lcom/example/enact/enact/queue/QueueEntry$Status;" := slot_ne (a0 := a0) (C := "com/example/enact/enact/queue/QueueEntry") (Or.inr (wd_66 hw)) (Or.inr (wd_70 hw)) (by decide) pf_3 pf_4
theorem sn_76 {a0 : Array Value} {Z : State} (hw : ∀ d ∈ tables_1, d.before a0 Z = true) : Jvm.RoadKit.slotOf Z "com/example/enact/enact/queue/QueueEntry" "command" "Ljava/lang/String;" ≠ Jvm.RoadKit.slotOf Z "com/example/enact/enact/queue/QueueEntry" "attempts" "I" := slot_ne (a0 := a0) (C := "com/example/enact/enact/queue/QueueEntry") (Or.inr (wd_66 hw)) (Or.inr (wd_72 hw)) (by decide) pf_3 pf_5
theorem sn_77 {a0 : Array Value} {Z : State} (hw : ∀ d ∈ tables_1, d.before a0 Z = true) : Jvm.RoadKit.slotOf Z "com/example/enact/enact/queue/QueueEntry" "command" "Ljava/lang/String;" ≠ Jvm.RoadKit.slotOf Z "com/example/enact/enact/queue/QueueEntry" "firstAttempt" "Ljava/time/Instant;" := slot_ne (a0 := a0) (C := "com/example/enact/enact/queue/QueueEntry") (Or.inr (wd_66 hw)) (Or.inr (wd_74 hw)) (by decide) pf_3 pf_6
theorem sn_78 {a0 : Array Value} {Z : State} (hw : ∀ d ∈ tables_1, d.before a0 Z = true) : Jvm.RoadKit.slotOf Z "com/example/enact/enact/queue/QueueEntry" "command" "Ljava/lang/String;" ≠ Jvm.RoadKit.slotOf Z "com/example/enact/enact/queue/QueueEntry" "ended" "Ljava/time/Instant;" := slot_ne (a0 := a0) (C := "com/example/enact/enact/queue/QueueEntry") (Or.inr (wd_66 hw)) (Or.inr (wd_76 hw)) (by decide) pf_3 pf_6
theorem sn_79 {a0 : Array Value} {Z : State} (hw : ∀ d ∈ tables_1, d.before a0 Z = true) : Jvm.RoadKit.slotOf Z "com/example/enact/enact/queue/QueueEntry" "command" "Ljava/lang/String;" ≠ Jvm.RoadKit.slotOf Z "com/example/enact/enact/queue/QueueEntry" "result" "Ljava/lang/String;" := slot_ne (a0 := a0) (C := "com/example/enact/enact/queue/QueueEntry") (Or.inr (wd_66 hw)) (Or.inr (wd_78 hw)) (by decide) pf_3 pf_3
theorem sn_80 {a0 : Array Value} {Z : State} (hw : ∀ d ∈ tables_1, d.before a0 Z = true) : Jvm.RoadKit.slotOf Z "com/example/enact/enact/queue/QueueEntry" "command" "Ljava/lang/String;" ≠ Jvm.RoadKit.slotOf Z "com/example/enact/enact/queue/QueueEntry" "message" "Ljava/lang/String;" := slot_ne (a0 := a0) (C := "com/example/enact/enact/queue/QueueEntry") (Or.inr (wd_66 hw)) (Or.inr (wd_80 hw)) (by decide) pf_3 pf_3
theorem sn_81 {a0 : Array Value} {Z : State} (hw : ∀ d ∈ tables_1, d.before a0 Z = true) : Jvm.RoadKit.slotOf Z "com/example/enact/enact/queue/QueueEntry" "command" "Ljava/lang/String;" ≠ Jvm.RoadKit.slotOf Z "com/example/enact/enact/queue/QueueEntry" "type" "Ljava/lang/String;" := slot_ne (a0 := a0) (C := "com/example/enact/enact/queue/QueueEntry") (Or.inr (wd_66 hw)) (Or.inr (wd_82 hw)) (by decide) pf_3 pf_3
theorem sn_82 {a0 : Array Value} {Z : State} (hw : ∀ d ∈ tables_1, d.before a0 Z = true) : Jvm.RoadKit.slotOf Z "com/example/enact/enact/queue/QueueEntry" "input" "Ljava/lang/String;" ≠ Jvm.RoadKit.slotOf Z "com/example/enact/enact/queue/QueueEntry" "status" "Lcom/example/enact/enact/queue/QueueEntry$Status;" := slot_ne (a0 := a0) (C := "com/example/enact/enact/queue/QueueEntry") (Or.inr (wd_68 hw)) (Or.inr (wd_70 hw)) (by decide) pf_3 pf_4
theorem sn_83 {a0 : Array Value} {Z : State} (hw : ∀ d ∈ tables_1, d.before a0 Z = true) : Jvm.RoadKit.slotOf Z "com/example/enact/enact/queue/QueueEntry" "input" "Ljava/lang/String;" ≠ Jvm.RoadKit.slotOf Z "com/example/enact/enact/queue/QueueEntry" "attempts" "I" := slot_ne (a0 := a0) (C := "com/example/enact/enact/queue/QueueEntry") (Or.inr (wd_68 hw)) (Or.inr (wd_72 hw)) (by decide) pf_3 pf_5
theorem sn_84 {a0 : Array Value} {Z : State} (hw : ∀ d ∈ tables_1, d.before a0 Z = true) : Jvm.RoadKit.slotOf Z "com/example/enact/enact/queue/QueueEntry" "input" "Ljava/lang/String;" ≠ Jvm.RoadKit.slotOf Z "com/example/enact/enact/queue/QueueEntry" "firstAttempt" "Ljava/time/Instant;" := slot_ne (a0 := a0) (C := "com/example/enact/enact/queue/QueueEntry") (Or.inr (wd_68 hw)) (Or.inr (wd_74 hw)) (by decide) pf_3 pf_6
theorem sn_85 {a0 : Array Value} {Z : State} (hw : ∀ d ∈ tables_1, d.before a0 Z = true) : Jvm.RoadKit.slotOf Z "com/example/enact/enact/queue/QueueEntry" "input" "Ljava/lang/String;" ≠ Jvm.RoadKit.slotOf Z "com/example/enact/enact/queue/QueueEntry" "ended" "Ljava/time/Instant;" := slot_ne (a0 := a0) (C := "com/example/enact/enact/queue/QueueEntry") (Or.inr (wd_68 hw)) (Or.inr (wd_76 hw)) (by decide) pf_3 pf_6
theorem sn_86 {a0 : Array Value} {Z : State} (hw : ∀ d ∈ tables_1, d.before a0 Z = true) : Jvm.RoadKit.slotOf Z "com/example/enact/enact/queue/QueueEntry" "input" "Ljava/lang/String;" ≠ Jvm.RoadKit.slotOf Z "com/example/enact/enact/queue/QueueEntry" "result" "Ljava/lang/String;" := slot_ne (a0 := a0) (C := "com/example/enact/enact/queue/QueueEntry") (Or.inr (wd_68 hw)) (Or.inr (wd_78 hw)) (by decide) pf_3 pf_3
theorem sn_87 {a0 : Array Value} {Z : State} (hw : ∀ d ∈ tables_1, d.before a0 Z = true) : Jvm.RoadKit.slotOf Z "com/example/enact/enact/queue/QueueEntry" "input" "Ljava/lang/String;" ≠ Jvm.RoadKit.slotOf Z "com/example/enact/enact/queue/QueueEntry" "message" "Ljava/lang/String;" := slot_ne (a0 := a0) (C := "com/example/enact/enact/queue/QueueEntry") (Or.inr (wd_68 hw)) (Or.inr (wd_80 hw)) (by decide) pf_3 pf_3
theorem sn_88 {a0 : Array Value} {Z : State} (hw : ∀ d ∈ tables_1, d.before a0 Z = true) : Jvm.RoadKit.slotOf Z "com/example/enact/enact/queue/QueueEntry" "input" "Ljava/lang/String;" ≠ Jvm.RoadKit.slotOf Z "com/example/enact/enact/queue/QueueEntry" "type" "Ljava/lang/String;" := slot_ne (a0 := a0) (C := "com/example/enact/enact/queue/QueueEntry") (Or.inr (wd_68 hw)) (Or.inr (wd_82 hw)) (by decide) pf_3 pf_3
theorem sn_89 {a0 : Array Value} {Z : State} (hw : ∀ d ∈ tables_1, d.before a0 Z = true) : Jvm.RoadKit.slotOf Z "com/example/enact/enact/queue/QueueEntry" "status" "Lcom/example/enact/enact/queue/QueueEntry$Status;" ≠ Jvm.RoadKit.slotOf Z "com/example/enact/enact/queue/QueueEntry" "attempts" "I" := slot_ne (a0 := a0) (C := "com/example/enact/enact/queue/QueueEntry") (Or.inr (wd_70 hw)) (Or.inr (wd_72 hw)) (by decide) pf_4 pf_5
theorem sn_90 {a0 : Array Value} {Z : State} (hw : ∀ d ∈ tables_1, d.before a0 Z = true) : Jvm.RoadKit.slotOf Z "com/example/enact/enact/queue/QueueEntry" "status" "Lcom/example/enact/enact/queue/QueueEntry$Status;" ≠ Jvm.RoadKit.slotOf Z "com/example/enact/enact/queue/QueueEntry" "firstAttempt" "Ljava/time/Instant;" := slot_ne (a0 := a0) (C := "com/example/enact/enact/queue/QueueEntry") (Or.inr (wd_70 hw)) (Or.inr (wd_74 hw)) (by decide) pf_4 pf_6
theorem sn_91 {a0 : Array Value} {Z : State} (hw : ∀ d ∈ tables_1, d.before a0 Z = true) : Jvm.RoadKit.slotOf Z "com/example/enact/enact/queue/QueueEntry" "status" "Lcom/example/enact/enact/queue/QueueEntry$Status;" ≠ Jvm.RoadKit.slotOf Z "com/example/enact/enact/queue/QueueEntry" "ended" "Ljava/time/Instant;" := slot_ne (a0 := a0) (C := "com/example/enact/enact/queue/QueueEntry") (Or.inr (wd_70 hw)) (Or.inr (wd_76 hw)) (by decide) pf_4 pf_6
theorem sn_92 {a0 : Array Value} {Z : State} (hw : ∀ d ∈ tables_1, d.before a0 Z = true) : Jvm.RoadKit.slotOf Z "com/example/enact/enact/queue/QueueEntry" "status" "Lcom/example/enact/enact/queue/QueueEntry$Status;" ≠ Jvm.RoadKit.slotOf Z "com/example/enact/enact/queue/QueueEntry" "result" "Ljava/lang/String;" := slot_ne (a0 := a0) (C := "com/example/enact/enact/queue/QueueEntry") (Or.inr (wd_70 hw)) (Or.inr (wd_78 hw)) (by decide) pf_4 pf_3
theorem sn_93 {a0 : Array Value} {Z : State} (hw : ∀ d ∈ tables_1, d.before a0 Z = true) : Jvm.RoadKit.slotOf Z "com/example/enact/enact/queue/QueueEntry" "status" "Lcom/example/enact/enact/queue/QueueEntry$Status;" ≠ Jvm.RoadKit.slotOf Z "com/example/enact/enact/queue/QueueEntry" "message" "Ljava/lang/String;" := slot_ne (a0 := a0) (C := "com/example/enact/enact/queue/QueueEntry") (Or.inr (wd_70 hw)) (Or.inr (wd_80 hw)) (by decide) pf_4 pf_3
theorem sn_94 {a0 : Array Value} {Z : State} (hw : ∀ d ∈ tables_1, d.before a0 Z = true) : Jvm.RoadKit.slotOf Z "com/example/enact/enact/queue/QueueEntry" "status" "Lcom/example/enact/enact/queue/QueueEntry$Status;" ≠ Jvm.RoadKit.slotOf Z "com/example/enact/enact/queue/QueueEntry" "type" "Ljava/lang/String;" := slot_ne (a0 := a0) (C := "com/example/enact/enact/queue/QueueEntry") (Or.inr (wd_70 hw)) (Or.inr (wd_82 hw)) (by decide) pf_4 pf_3
theorem sn_95 {a0 : Array Value} {Z : State} (hw : ∀ d ∈ tables_1, d.before a0 Z = true) : Jvm.RoadKit.slotOf Z "com/example/enact/enact/queue/QueueEntry" "attempts" "I" ≠ Jvm.RoadKit.slotOf Z "com/example/enact/enact/queue/QueueEntry" "firstAttempt" "Ljava/time/Instant;" := slot_ne (a0 := a0) (C := "com/example/enact/enact/queue/QueueEntry") (Or.inr (wd_72 hw)) (Or.inr (wd_74 hw)) (by decide) pf_5 pf_6
theorem sn_96 {a0 : Array Value} {Z : State} (hw : ∀ d ∈ tables_1, d.before a0 Z = true) : Jvm.RoadKit.slotOf Z "com/example/enact/enact/queue/QueueEntry" "attempts" "I" ≠ Jvm.RoadKit.slotOf Z "com/example/enact/enact/queue/QueueEntry" "ended" "Ljava/time/Instant;" := slot_ne (a0 := a0) (C := "com/example/enact/enact/queue/QueueEntry") (Or.inr (wd_72 hw)) (Or.inr (wd_76 hw)) (by decide) pf_5 pf_6
theorem sn_97 {a0 : Array Value} {Z : State} (hw : ∀ d ∈ tables_1, d.before a0 Z = true) : Jvm.RoadKit.slotOf Z "com/example/enact/enact/queue/QueueEntry" "attempts" "I" ≠ Jvm.RoadKit.slotOf Z "com/example/enact/enact/queue/QueueEntry" "result" "Ljava/lang/String;" := slot_ne (a0 := a0) (C := "com/example/enact/enact/queue/QueueEntry") (Or.inr (wd_72 hw)) (Or.inr (wd_78 hw)) (by decide) pf_5 pf_3
theorem sn_98 {a0 : Array Value} {Z : State} (hw : ∀ d ∈ tables_1, d.before a0 Z = true) : Jvm.RoadKit.slotOf Z "com/example/enact/enact/queue/QueueEntry" "attempts" "I" ≠ Jvm.RoadKit.slotOf Z "com/example/enact/enact/queue/QueueEntry" "message" "Ljava/lang/String;" := slot_ne (a0 := a0) (C := "com/example/enact/enact/queue/QueueEntry") (Or.inr (wd_72 hw)) (Or.inr (wd_80 hw)) (by decide) pf_5 pf_3
theorem sn_99 {a0 : Array Value} {Z : State} (hw : ∀ d ∈ tables_1, d.before a0 Z = true) : Jvm.RoadKit.slotOf Z "com/example/enact/enact/queue/QueueEntry" "attempts" "I" ≠ Jvm.RoadKit.slotOf Z "com/example/enact/enact/queue/QueueEntry" "type" "Ljava/lang/String;" := slot_ne (a0 := a0) (C := "com/example/enact/enact/queue/QueueEntry") (Or.inr (wd_72 hw)) (Or.inr (wd_82 hw)) (by decide) pf_5 pf_3
theorem sn_100 {a0 : Array Value} {Z : State} (hw : ∀ d ∈ tables_1, d.before a0 Z = true) : Jvm.RoadKit.slotOf Z "com/example/enact/enact/queue/QueueEntry" "firstAttempt" "Ljava/time/Instant;" ≠ Jvm.RoadKit.slotOf Z "com/example/enact/enact/queue/QueueEntry" "ended" "Ljava/time/Instant;" := slot_ne (a0 := a0) (C := "com/example/enact/enact/queue/QueueEntry") (Or.inr (wd_74 hw)) (Or.inr (wd_76 hw)) (by decide) pf_6 pf_6
theorem sn_101 {a0 : Array Value} {Z : State} (hw : ∀ d ∈ tables_1, d.before a0 Z = true) : Jvm.RoadKit.slotOf Z "com/example/enact/enact/queue/QueueEntry" "firstAttempt" "Ljava/time/Instant;" ≠ Jvm.RoadKit.slotOf Z "com/example/enact/enact/queue/QueueEntry" "result" "Ljava/lang/String;" := slot_ne (a0 := a0) (C := "com/example/enact/enact/queue/QueueEntry") (Or.inr (wd_74 hw)) (Or.inr (wd_78 hw)) (by decide) pf_6 pf_3
theorem sn_102 {a0 : Array Value} {Z : State} (hw : ∀ d ∈ tables_1, d.before a0 Z = true) : Jvm.RoadKit.slotOf Z "com/example/enact/enact/queue/QueueEntry" "firstAttempt" "Ljava/time/Instant;" ≠ Jvm.RoadKit.slotOf Z "com/example/enact/enact/queue/QueueEntry" "message" "Ljava/lang/String;" := slot_ne (a0 := a0) (C := "com/example/enact/enact/queue/QueueEntry") (Or.inr (wd_74 hw)) (Or.inr (wd_80 hw)) (by decide) pf_6 pf_3
theorem sn_103 {a0 : Array Value} {Z : State} (hw : ∀ d ∈ tables_1, d.before a0 Z = true) : Jvm.RoadKit.slotOf Z "com/example/enact/enact/queue/QueueEntry" "firstAttempt" "Ljava/time/Instant;" ≠ Jvm.RoadKit.slotOf Z "com/example/enact/enact/queue/QueueEntry" "type" "Ljava/lang/String;" := slot_ne (a0 := a0) (C := "com/example/enact/enact/queue/QueueEntry") (Or.inr (wd_74 hw)) (Or.inr (wd_82 hw)) (by decide) pf_6 pf_3
theorem sn_104 {a0 : Array Value} {Z : State} (hw : ∀ d ∈ tables_1, d.before a0 Z = true) : Jvm.RoadKit.slotOf Z "com/example/enact/enact/queue/QueueEntry" "ended" "Ljava/time/Instant;" ≠ Jvm.RoadKit.slotOf Z "com/example/enact/enact/queue/QueueEntry" "result" "Ljava/lang/String;" := slot_ne (a0 := a0) (C := "com/example/enact/enact/queue/QueueEntry") (Or.inr (wd_76 hw)) (Or.inr (wd_78 hw)) (by decide) pf_6 pf_3
theorem sn_105 {a0 : Array Value} {Z : State} (hw : ∀ d ∈ tables_1, d.before a0 Z = true) : Jvm.RoadKit.slotOf Z "com/example/enact/enact/queue/QueueEntry" "ended" "Ljava/time/Instant;" ≠ Jvm.RoadKit.slotOf Z "com/example/enact/enact/queue/QueueEntry" "message" "Ljava/lang/String;" := slot_ne (a0 := a0) (C := "com/example/enact/enact/queue/QueueEntry") (Or.inr (wd_76 hw)) (Or.inr (wd_80 hw)) (by decide) pf_6 pf_3
theorem sn_106 {a0 : Array Value} {Z : State} (hw : ∀ d ∈ tables_1, d.before a0 Z = true) : Jvm.RoadKit.slotOf Z "com/example/enact/enact/queue/QueueEntry" "ended" "Ljava/time/Instant;" ≠ Jvm.RoadKit.slotOf Z "com/example/enact/enact/queue/QueueEntry" "type" "Ljava/lang/String;" := slot_ne (a0 := a0) (C := "com/example/enact/enact/queue/QueueEntry") (Or.inr (wd_76 hw)) (Or.inr (wd_82 hw)) (by decide) pf_6 pf_3
theorem sn_107 {a0 : Array Value} {Z : State} (hw : ∀ d ∈ tables_1, d.before a0 Z = true) : Jvm.RoadKit.slotOf Z "com/example/enact/enact/queue/QueueEntry" "result" "Ljava/lang/String;" ≠ Jvm.RoadKit.slotOf Z "com/example/enact/enact/queue/QueueEntry" "message" "Ljava/lang/String;" := slot_ne (a0 := a0) (C := "com/example/enact/enact/queue/QueueEntry") (Or.inr (wd_78 hw)) (Or.inr (wd_80 hw)) (by decide) pf_3 pf_3
theorem sn_108 {a0 : Array Value} {Z : State} (hw : ∀ d ∈ tables_1, d.before a0 Z = true) : Jvm.RoadKit.slotOf Z "com/example/enact/enact/queue/QueueEntry" "result" "Ljava/lang/String;" ≠ Jvm.RoadKit.slotOf Z "com/example/enact/enact/queue/QueueEntry" "type" "Ljava/lang/String;" := slot_ne (a0 := a0) (C := "com/example/enact/enact/queue/QueueEntry") (Or.inr (wd_78 hw)) (Or.inr (wd_82 hw)) (by decide) pf_3 pf_3
theorem sn_109 {a0 : Array Value} {Z : State} (hw : ∀ d ∈ tables_1, d.before a0 Z = true) : Jvm.RoadKit.slotOf Z "com/example/enact/enact/queue/QueueEntry" "message" "Ljava/lang/String;" ≠ Jvm.RoadKit.slotOf Z "com/example/enact/enact/queue/QueueEntry" "type" "Ljava/lang/String;" := slot_ne (a0 := a0) (C := "com/example/enact/enact/queue/QueueEntry") (Or.inr (wd_80 hw)) (Or.inr (wd_82 hw)) (by decide) pf_3 pf_3
theorem d_jdk_30_method_1_code_0 : decode jdk_30_method_1_code 0 = .ok (.aload_n 0, 1) := by decide +kernel
theorem d_jdk_30_method_1_code_1 : decode jdk_30_method_1_code 1 = .ok (.invokespecial 1, 3) := by decide +kernel
theorem d_jdk_30_method_1_code_4 : decode jdk_30_method_1_code 4 = .ok (.return_, 1) := by decide +kernel
theorem d_jdk_31_method_11_code_0 : decode jdk_31_method_11_code 0 = .ok (.aload_n 0, 1) := by decide +kernel
theorem d_jdk_31_method_11_code_1 : decode jdk_31_method_11_code 1 = .ok (.ifnonnull 12, 3) := by decide +kernel
theorem d_jdk_31_method_11_code_13 : decode jdk_31_method_11_code 13 = .ok (.aload_n 0, 1) := by decide +kernel
theorem d_jdk_31_method_11_code_14 : decode jdk_31_method_11_code 14 = .ok (.areturn, 1) := by decide +kernel
theorem d_jdk_42_method_66_code_0 : decode jdk_42_method_66_code 0 = .ok (.aload_n 0, 1) := by decide +kernel
theorem d_jdk_42_method_66_code_1 : decode jdk_42_method_66_code 1 = .ok (.aload_n 1, 1) := by decide +kernel
theorem d_jdk_42_method_66_code_2 : decode jdk_42_method_66_code 2 = .ok (.if_acmp .ne 5, 3) := by decide +kernel
theorem d_jdk_42_method_66_code_5 : decode jdk_42_method_66_code 5 = .ok (.iconst 1, 1) := by decide +kernel
theorem d_jdk_42_method_66_code_6 : decode jdk_42_method_66_code 6 = .ok (.ireturn, 1) := by decide +kernel
theorem d_method_2_code_0 : decode method_2_code 0 = .ok (.iconst 2, 1) := by decide +kernel
theorem d_method_2_code_1 : decode method_2_code 1 = .ok (.newarray .char, 2) := by decide +kernel
theorem d_method_2_code_10 : decode method_2_code 10 = .ok (.iand, 1) := by decide +kernel
theorem d_method_2_code_11 : decode method_2_code 11 = .ok (.i2c, 1) := by decide +kernel
theorem d_method_2_code_12 : decode method_2_code 12 = .ok (.castore, 1) := by decide +kernel
theorem d_method_2_code_13 : decode method_2_code 13 = .ok (.aload_n 1, 1) := by decide +kernel
theorem d_method_2_code_14 : decode method_2_code 14 = .ok (.iconst 1, 1) := by decide +kernel
theorem d_method_2_code_15 : decode method_2_code 15 = .ok (.iload_n 0, 1) := by decide +kernel
theorem d_method_2_code_16 : decode method_2_code 16 = .ok (.bipush 8, 2) := by decide +kernel
theorem d_method_2_code_18 : decode method_2_code 18 = .ok (.iushr, 1) := by decide +kernel
theorem d_method_2_code_19 : decode method_2_code 19 = .ok (.sipush 255, 3) := by decide +kernel
theorem d_method_2_code_22 : decode method_2_code 22 = .ok (.iand, 1) := by decide +kernel
theorem d_method_2_code_23 : decode method_2_code 23 = .ok (.i2c, 1) := by decide +kernel
theorem d_method_2_code_24 : decode method_2_code 24 = .ok (.castore, 1) := by decide +kernel
theorem d_method_2_code_25 : decode method_2_code 25 = .ok (.new 7, 3) := by decide +kernel
theorem d_method_2_code_28 : decode method_2_code 28 = .ok (.dup, 1) := by decide +kernel
theorem d_method_2_code_29 : decode method_2_code 29 = .ok (.aload_n 1, 1) := by decide +kernel
theorem d_method_2_code_3 : decode method_2_code 3 = .ok (.astore_n 1, 1) := by decide +kernel
theorem d_method_2_code_30 : decode method_2_code 30 = .ok (.invokespecial 9, 3) := by decide +kernel
theorem d_method_2_code_33 : decode method_2_code 33 = .ok (.areturn, 1) := by decide +kernel
theorem d_method_2_code_4 : decode method_2_code 4 = .ok (.aload_n 1, 1) := by decide +kernel
theorem d_method_2_code_5 : decode method_2_code 5 = .ok (.iconst 0, 1) := by decide +kernel
theorem d_method_2_code_6 : decode method_2_code 6 = .ok (.iload_n 0, 1) := by decide +kernel
theorem d_method_2_code_7 : decode method_2_code 7 = .ok (.sipush 255, 3) := by decide +kernel
theorem d_prog_32_method_10_code_0 : decode prog_32_method_10_code 0 = .ok (.aload_n 0, 1) := by decide +kernel
theorem d_prog_32_method_10_code_1 : decode prog_32_method_10_code 1 = .ok (.getfield 19, 3) := by decide +kernel
theorem d_prog_32_method_10_code_4 : decode prog_32_method_10_code 4 = .ok (.lreturn, 1) := by decide +kernel
theorem d_prog_32_method_11_code_0 : decode prog_32_method_11_code 0 = .ok (.aload_n 0, 1) := by decide +kernel
theorem d_prog_32_method_11_code_1 : decode prog_32_method_11_code 1 = .ok (.getfield 25, 3) := by decide +kernel
theorem d_prog_32_method_11_code_4 : decode prog_32_method_11_code 4 = .ok (.areturn, 1) := by decide +kernel
theorem d_prog_32_method_12_code_0 : decode prog_32_method_12_code 0 = .ok (.aload_n 0, 1) := by decide +kernel
theorem d_prog_32_method_12_code_1 : decode prog_32_method_12_code 1 = .ok (.getfield 28, 3) := by decide +kernel
theorem d_prog_32_method_12_code_4 : decode prog_32_method_12_code 4 = .ok (.areturn, 1) := by decide +kernel
theorem d_prog_32_method_13_code_0 : decode prog_32_method_13_code 0 = .ok (.aload_n 0, 1) := by decide +kernel
theorem d_prog_32_method_13_code_1 : decode prog_32_method_13_code 1 = .ok (.getfield 30, 3) := by decide +kernel
theorem d_prog_32_method_13_code_4 : decode prog_32_method_13_code 4 = .ok (.areturn, 1) := by decide +kernel
theorem d_prog_32_method_14_code_0 : decode prog_32_method_14_code 0 = .ok (.aload_n 0, 1) := by decide +kernel
theorem d_prog_32_method_14_code_1 : decode prog_32_method_14_code 1 = .ok (.getfield 33, 3) := by decide +kernel
theorem d_prog_32_method_14_code_4 : decode prog_32_method_14_code 4 = .ok (.areturn, 1) := by decide +kernel
theorem d_prog_32_method_15_code_0 : decode prog_32_method_15_code 0 = .ok (.aload_n 0, 1) := by decide +kernel
theorem d_prog_32_method_15_code_1 : decode prog_32_method_15_code 1 = .ok (.getfield 36, 3) := by decide +kernel
theorem d_prog_32_method_15_code_4 : decode prog_32_method_15_code 4 = .ok (.ireturn, 1) := by decide +kernel
theorem d_prog_32_method_16_code_0 : decode prog_32_method_16_code 0 = .ok (.aload_n 0, 1) := by decide +kernel
theorem d_prog_32_method_16_code_1 : decode prog_32_method_16_code 1 = .ok (.getfield 40, 3) := by decide +kernel
theorem d_prog_32_method_16_code_4 : decode prog_32_method_16_code 4 = .ok (.areturn, 1) := by decide +kernel
theorem d_prog_32_method_17_code_0 : decode prog_32_method_17_code 0 = .ok (.aload_n 0, 1) := by decide +kernel
theorem d_prog_32_method_17_code_1 : decode prog_32_method_17_code 1 = .ok (.getfield 44, 3) := by decide +kernel
theorem d_prog_32_method_17_code_4 : decode prog_32_method_17_code 4 = .ok (.areturn, 1) := by decide +kernel
theorem d_prog_32_method_18_code_0 : decode prog_32_method_18_code 0 = .ok (.aload_n 0, 1) := by decide +kernel
theorem d_prog_32_method_18_code_1 : decode prog_32_method_18_code 1 = .ok (.getfield 47, 3) := by decide +kernel
theorem d_prog_32_method_18_code_4 : decode prog_32_method_18_code 4 = .ok (.areturn, 1) := by decide +kernel
theorem d_prog_32_method_19_code_0 : decode prog_32_method_19_code 0 = .ok (.aload_n 0, 1) := by decide +kernel
theorem d_prog_32_method_19_code_1 : decode prog_32_method_19_code 1 = .ok (.getfield 50, 3) := by decide +kernel
theorem d_prog_32_method_19_code_4 : decode prog_32_method_19_code 4 = .ok (.areturn, 1) := by decide +kernel
theorem d_prog_32_method_1_code_0 : decode prog_32_method_1_code 0 = .ok (.aload_n 0, 1) := by decide +kernel
theorem d_prog_32_method_1_code_1 : decode prog_32_method_1_code 1 = .ok (.invokespecial 1, 3) := by decide +kernel
theorem d_prog_32_method_1_code_10 : decode prog_32_method_1_code 10 = .ok (.pop, 1) := by decide +kernel
theorem d_prog_32_method_1_code_11 : decode prog_32_method_1_code 11 = .ok (.aload 4, 2) := by decide +kernel
theorem d_prog_32_method_1_code_13 : decode prog_32_method_1_code 13 = .ok (.ldc 15, 2) := by decide +kernel
theorem d_prog_32_method_1_code_15 : decode prog_32_method_1_code 15 = .ok (.invokestatic 9, 3) := by decide +kernel
theorem d_prog_32_method_1_code_18 : decode prog_32_method_1_code 18 = .ok (.pop, 1) := by decide +kernel
theorem d_prog_32_method_1_code_19 : decode prog_32_method_1_code 19 = .ok (.aload 6, 2) := by decide +kernel
theorem d_prog_32_method_1_code_21 : decode prog_32_method_1_code 21 = .ok (.ldc 17, 2) := by decide +kernel
theorem d_prog_32_method_1_code_23 : decode prog_32_method_1_code 23 = .ok (.invokestatic 9, 3) := by decide +kernel
theorem d_prog_32_method_1_code_26 : decode prog_32_method_1_code 26 = .ok (.pop, 1) := by decide +kernel
theorem d_prog_32_method_1_code_27 : decode prog_32_method_1_code 27 = .ok (.aload_n 0, 1) := by decide +kernel
theorem d_prog_32_method_1_code_28 : decode prog_32_method_1_code 28 = .ok (.lload_n 1, 1) := by decide +kernel
theorem d_prog_32_method_1_code_29 : decode prog_32_method_1_code 29 = .ok (.putfield 19, 3) := by decide +kernel
theorem d_prog_32_method_1_code_32 : decode prog_32_method_1_code 32 = .ok (.aload_n 0, 1) := by decide +kernel
theorem d_prog_32_method_1_code_33 : decode prog_32_method_1_code 33 = .ok (.aload_n 3, 1) := by decide +kernel
theorem d_prog_32_method_1_code_34 : decode prog_32_method_1_code 34 = .ok (.putfield 25, 3) := by decide +kernel
theorem d_prog_32_method_1_code_37 : decode prog_32_method_1_code 37 = .ok (.aload_n 0, 1) := by decide +kernel
theorem d_prog_32_method_1_code_38 : decode prog_32_method_1_code 38 = .ok (.aload 4, 2) := by decide +kernel
theorem d_prog_32_method_1_code_4 : decode prog_32_method_1_code 4 = .ok (.aload_n 3, 1) := by decide +kernel
theorem d_prog_32_method_1_code_40 : decode prog_32_method_1_code 40 = .ok (.putfield 28, 3) := by decide +kernel
theorem d_prog_32_method_1_code_43 : decode prog_32_method_1_code 43 = .ok (.aload_n 0, 1) := by decide +kernel
theorem d_prog_32_method_1_code_44 : decode prog_32_method_1_code 44 = .ok (.aload 5, 2) := by decide +kernel
theorem d_prog_32_method_1_code_46 : decode prog_32_method_1_code 46 = .ok (.putfield 30, 3) := by decide +kernel
theorem d_prog_32_method_1_code_49 : decode prog_32_method_1_code 49 = .ok (.aload_n 0, 1) := by decide +kernel
theorem d_prog_32_method_1_code_5 : decode prog_32_method_1_code 5 = .ok (.ldc 7, 2) := by decide +kernel
theorem d_prog_32_method_1_code_50 : decode prog_32_method_1_code 50 = .ok (.aload 6, 2) := by decide +kernel
theorem d_prog_32_method_1_code_52 : decode prog_32_method_1_code 52 = .ok (.putfield 33, 3) := by decide +kernel
theorem d_prog_32_method_1_code_55 : decode prog_32_method_1_code 55 = .ok (.aload_n 0, 1) := by decide +kernel
theorem d_prog_32_method_1_code_56 : decode prog_32_method_1_code 56 = .ok (.iload 7, 2) := by decide +kernel
theorem d_prog_32_method_1_code_58 : decode prog_32_method_1_code 58 = .ok (.putfield 36, 3) := by decide +kernel
theorem d_prog_32_method_1_code_61 : decode prog_32_method_1_code 61 = .ok (.aload_n 0, 1) := by decide +kernel
theorem d_prog_32_method_1_code_62 : decode prog_32_method_1_code 62 = .ok (.aload 8, 2) := by decide +kernel
theorem d_prog_32_method_1_code_64 : decode prog_32_method_1_code 64 = .ok (.putfield 40, 3) := by decide +kernel
theorem d_prog_32_method_1_code_67 : decode prog_32_method_1_code 67 = .ok (.aload_n 0, 1) := by decide +kernel
theorem d_prog_32_method_1_code_68 : decode prog_32_method_1_code 68 = .ok (.aload 9, 2) := by decide +kernel
theorem d_prog_32_method_1_code_7 : decode prog_32_method_1_code 7 = .ok (.invokestatic 9, 3) := by decide +kernel
theorem d_prog_32_method_1_code_70 : decode prog_32_method_1_code 70 = .ok (.putfield 44, 3) := by decide +kernel
theorem d_prog_32_method_1_code_73 : decode prog_32_method_1_code 73 = .ok (.aload_n 0, 1) := by decide +kernel
theorem d_prog_32_method_1_code_74 : decode prog_32_method_1_code 74 = .ok (.aload 10, 2) := by decide +kernel
theorem d_prog_32_method_1_code_76 : decode prog_32_method_1_code 76 = .ok (.putfield 47, 3) := by decide +kernel
theorem d_prog_32_method_1_code_79 : decode prog_32_method_1_code 79 = .ok (.aload_n 0, 1) := by decide +kernel
theorem d_prog_32_method_1_code_80 : decode prog_32_method_1_code 80 = .ok (.aload 11, 2) := by decide +kernel
theorem d_prog_32_method_1_code_82 : decode prog_32_method_1_code 82 = .ok (.putfield 50, 3) := by decide +kernel
theorem d_prog_32_method_1_code_85 : decode prog_32_method_1_code 85 = .ok (.aload_n 0, 1) := by decide +kernel
theorem d_prog_32_method_1_code_86 : decode prog_32_method_1_code 86 = .ok (.aload 12, 2) := by decide +kernel
theorem d_prog_32_method_1_code_88 : decode prog_32_method_1_code 88 = .ok (.putfield 53, 3) := by decide +kernel
theorem d_prog_32_method_1_code_91 : decode prog_32_method_1_code 91 = .ok (.return_, 1) := by decide +kernel
theorem d_prog_32_method_20_code_0 : decode prog_32_method_20_code 0 = .ok (.aload_n 0, 1) := by decide +kernel
theorem d_prog_32_method_20_code_1 : decode prog_32_method_20_code 1 = .ok (.getfield 53, 3) := by decide +kernel
theorem d_prog_32_method_20_code_4 : decode prog_32_method_20_code 4 = .ok (.areturn, 1) := by decide +kernel
theorem d_prog_32_method_2_code_0 : decode prog_32_method_2_code 0 = .ok (.new 20, 3) := by decide +kernel
theorem d_prog_32_method_2_code_12 : decode prog_32_method_2_code 12 = .ok (.iconst 0, 1) := by decide +kernel
theorem d_prog_32_method_2_code_13 : decode prog_32_method_2_code 13 = .ok (.aconst_null, 1) := by decide +kernel
theorem d_prog_32_method_2_code_14 : decode prog_32_method_2_code 14 = .ok (.aconst_null, 1) := by decide +kernel
theorem d_prog_32_method_2_code_15 : decode prog_32_method_2_code 15 = .ok (.aconst_null, 1) := by decide +kernel
theorem d_prog_32_method_2_code_16 : decode prog_32_method_2_code 16 = .ok (.aconst_null, 1) := by decide +kernel
theorem d_prog_32_method_2_code_17 : decode prog_32_method_2_code 17 = .ok (.aconst_null, 1) := by decide +kernel
theorem d_prog_32_method_2_code_18 : decode prog_32_method_2_code 18 = .ok (.invokespecial 61, 3) := by decide +kernel
theorem d_prog_32_method_2_code_21 : decode prog_32_method_2_code 21 = .ok (.areturn, 1) := by decide +kernel
theorem d_prog_32_method_2_code_3 : decode prog_32_method_2_code 3 = .ok (.dup, 1) := by decide +kernel
theorem d_prog_32_method_2_code_4 : decode prog_32_method_2_code 4 = .ok (.lload_n 0, 1) := by decide +kernel
theorem d_prog_32_method_2_code_5 : decode prog_32_method_2_code 5 = .ok (.aload_n 2, 1) := by decide +kernel
theorem d_prog_32_method_2_code_6 : decode prog_32_method_2_code 6 = .ok (.aload_n 3, 1) := by decide +kernel
theorem d_prog_32_method_2_code_7 : decode prog_32_method_2_code 7 = .ok (.aload 4, 2) := by decide +kernel
theorem d_prog_32_method_2_code_9 : decode prog_32_method_2_code 9 = .ok (.getstatic 56, 3) := by decide +kernel
theorem lat0 : ∀ c ∈ ([] : List Int32), ¬ c < 0 ∧ ¬ (255 : Int32) < c := fun _ q => nomatch q
theorem latc {x : Int32} {cs : List Int32} (q : ¬ x < 0 ∧ ¬ (255 : Int32) < x) (r : ∀ c ∈ cs, ¬ c < 0 ∧ ¬ (255 : Int32) < c) : ∀ c ∈ x :: cs, ¬ c < 0 ∧ ¬ (255 : Int32) < c := fun c z => (List.mem_cons.mp z).elim (fun u => u ▸ q) (r c)
theorem eqv_if {cs ds : List Int32} {v : Option Value} (h : (v = some (.int 1) ∧ cs = ds) ∨ (v = some (.int 0) ∧ ¬ cs = ds)) : v = some (.int (if cs = ds then (1 : Int32) else 0)) := by
  rcases h with ⟨a, b⟩ | ⟨a, b⟩
  · rw [a, if_pos b]
  · rw [a, if_neg b]
theorem sw_words {a0 : Array Value} {Z : State} (hw : ∀ d ∈ tables_1, d.before a0 Z = true) : ∀ d ∈ StrChars.Road.words, d.before a0 Z = true := fun d hd => hw d ((by decide +kernel : ∀ d ∈ StrChars.Road.words, d ∈ tables_1) d hd)
def EL : List (String × Nat) := []
theorem hEL_ {Z : State} {a0 : Array Value} (hw : ∀ d ∈ tables_1, d.before a0 Z = true) : EW Z a0 EL := EW.nil
theorem hwS_ {Z : State} {a0 : Array Value} (hw : ∀ d ∈ tables_1, d.before a0 Z = true) : ∀ d ∈ Bundle.stringAtoms, d.before a0 Z = true := fun d hd => hw d ((by decide +kernel : ∀ d ∈ Bundle.stringAtoms, d ∈ tables_1) d hd)
def St (Z : State) (zc : Int32) (qd : Addr) : Prop := Sta Z Z.heap "java/lang/String" "COMPACT_STRINGS" "Z" (.int zc) ∧ ¬ zc = 0 ∧ Sta Z Z.heap "com/example/enact/enact/queue/QueueEntry$Status" "QUEUED" "Lcom/example/enact/enact/queue/QueueEntry$Status;" (.ref qd)
theorem nar255 (x : Int32) : nar .char (x &&& (255 : Int32)) = x &&& (255 : Int32) := i2c_mask x
theorem lat255 (x : Int32) : ¬ (x &&& (255 : Int32)) < 0 ∧ ¬ (255 : Int32) < x &&& (255 : Int32) := by
  have h := c_mask x 255 8 (by decide) (by decide)
  have e1 : (255 : Int32).toInt = 255 := by decide
  have e2 : (0 : Int32).toInt = 0 := by decide
  rw [Int32.lt_iff_toInt_lt, Int32.lt_iff_toInt_lt, h]
  omega
def Q_str (Z : State) (zc : Int32) (qd : Addr) (p1 : Int32) (h0 : Heap) (n0 : Nat) (v : Option Value) (h : Heap) (L : List Loc) : Prop := ∃ (r : Addr), v = some (.ref r) ∧ Fr n0 L ∧ Keep h0 h [] ∧ h0.size ≤ r ∧ Str Z h.size h r [(p1 &&& (255 : Int32)), (((p1.toUInt32 >>> ((8 : Int32) &&& 31).toUInt32).toInt32) &&& (255 : Int32))]
set_option maxRecDepth 65536 in
set_option maxHeartbeats 40000000 in
theorem rm_str (l : Launch) (Z : State) (a0 : Array Value) (hw : ∀ d ∈ tables_1, d.before a0 Z = true) (zc : Int32) (qd : Addr) (p1 : Int32) (h0 : Heap) (n0 : Nat) (Z0 : n0 ≤ h0.size) (hSt : St Z zc qd) (hO : Old Z n0 h0) :
    CN l Z ({ cls := "com/example/enact/enact/queue/QueueEntryQueuedPinLaw", name := "str", desc := "(I)Ljava/lang/String;" } : Jvm.MethodName) [(Jvm.Cond.code ({ cls := "com/example/enact/enact/queue/QueueEntryQueuedPinLaw", name := "str", desc := "(I)Ljava/lang/String;" } : Jvm.MethodName) method_2_code (2 : Nat) (Option.some (Jvm.ClassFile.FieldType.object "java/lang/String")))] ({ frames := 4, cells := 3, slots := 8, locals := 66 } : Room) #[(.int p1)] h0 (Q_str Z zc qd p1 h0 n0) := by
  refine CN.of (L0 := #[.val (.int p1), .unset]) (plainFor_of_name pn_0) (fun m => by first | (simp [entryFrame, mkF, argsToLocals, Value.category]; done) | rfl) ?_
  intro p e s m below meth c s₁ hx hby hml hret hlk hZ hown hnm X0 e0
  have N0 := Fr.nil n0
  have KP0 := Keep.refl h0 []
  have hSt_ := hSt
  obtain ⟨S_cs, n_cs, S_qd⟩ := hSt_
  show Go p e below _ (s₁.setTop (mkF m 0 #[.val (.int p1), .unset] []))
  refine Go.step (fun _ k => XS.iconst X0.here hx rfl (hb hby d_method_2_code_0) k) ?_
  show Go p e below _ (s₁.setTop (mkF m 1 #[.val (.int p1), .unset] [(.int (2 : Int32))]))
  obtain ⟨T_1, h_1, k_1, X_1, e_1, E_1, A_1, st_1⟩ := newP X0 hx hZ (aty := .char) (wd_4 hw) e0 (g := (mkF m 1 #[.val (.int p1), .unset] [(.int (2 : Int32))])) rfl (hb hby d_method_2_code_1) rfl (by decide) (cap := 2) (by decide) (by decide) (by decide) (by decide)
  obtain ⟨b1, q_1⟩ : ∃ z, z = h0.size := ⟨_, rfl⟩
  rw [← q_1] at A_1 st_1
  refine Go.step st_1 ?_
  have le_1 : h0.size ≤ h_1.size := E_1.1
  have KP_1 := KP0.ext E_1
  have O_1 := hO.ext E_1
  have ge_1 : h0.size ≤ b1 := Nat.le_of_eq q_1.symm
  have sz_b1 : h0.size ≤ b1 := Nat.le_trans (Nat.le_refl _) ge_1
  have g_b1 : n0 ≤ b1 := Nat.le_trans Z0 sz_b1
  have V_1 : Arv Z h_1 b1 k_1 .char (2 : Int32) [(.int (0 : Int32)), (.int (0 : Int32))] (.int (0 : Int32)) := (Arv.new A_1 (by decide)).pad (pad_rep [] (.int (0 : Int32)) 2)
  show Go p e below _ (T_1.setTop (mkF m 3 #[.val (.int p1), .unset] [(.ref b1)]))
  refine Go.step (fun _ k => XS.astoreN X_1.here hx rfl (hb hby d_method_2_code_3) rfl rfl (l' := #[.val (.int p1), .val (.ref b1)]) rfl k) ?_
  show Go p e below _ (T_1.setTop (mkF m 4 #[.val (.int p1), .val (.ref b1)] []))
  refine Go.step (fun _ k => XS.aloadN X_1.here hx rfl (hb hby d_method_2_code_4) rfl rfl k) ?_
  show Go p e below _ (T_1.setTop (mkF m 5 #[.val (.int p1), .val (.ref b1)] [(.ref b1)]))
  refine Go.step (fun _ k => XS.iconst X_1.here hx rfl (hb hby d_method_2_code_5) k) ?_
  show Go p e below _ (T_1.setTop (mkF m 6 #[.val (.int p1), .val (.ref b1)] [(.int (0 : Int32)), (.ref b1)]))
  refine Go.step (fun _ k => XS.iloadN X_1.here hx rfl (hb hby d_method_2_code_6) rfl  k) ?_
  show Go p e below _ (T_1.setTop (mkF m 7 #[.val (.int p1), .val (.ref b1)] [(.int p1), (.int (0 : Int32)), (.ref b1)]))
  refine Go.step (fun _ k => XS.sipush X_1.here hx rfl (hb hby d_method_2_code_7) k) ?_
  show Go p e below _ (T_1.setTop (mkF m 10 #[.val (.int p1), .val (.ref b1)] [(.int (255 : Int32)), (.int p1), (.int (0 : Int32)), (.ref b1)]))
  refine Go.step (fun _ k => XS.iand X_1.here hx rfl (hb hby d_method_2_code_10) rfl k) ?_
  show Go p e below _ (T_1.setTop (mkF m 11 #[.val (.int p1), .val (.ref b1)] [(.int (p1 &&& (255 : Int32))), (.int (0 : Int32)), (.ref b1)]))
  refine Go.step (fun _ k => XS.i2c X_1.here hx rfl (hb hby d_method_2_code_11) rfl k) ?_
  show Go p e below _ (T_1.setTop (mkF m 12 #[.val (.int p1), .val (.ref b1)] [(.int (nar .char (p1 &&& (255 : Int32)))), (.int (0 : Int32)), (.ref b1)]))
  rw [show (nar .char (p1 &&& (255 : Int32))) = (p1 &&& (255 : Int32)) from nar255 _]
  show Go p e below _ (T_1.setTop (mkF m 12 #[.val (.int p1), .val (.ref b1)] [(.int (p1 &&& (255 : Int32))), (.int (0 : Int32)), (.ref b1)]))
  obtain ⟨cl_2, Ar_2, ck_2, Sz_2, Ng_2, Hs_2, Gs_2⟩ := V_1
  have hin_2 : ¬ ((0 : Int32) < 0 ∨ cl_2.slots.size ≤ ((0 : Int32)).toNatClampNeg) := inb_of Sz_2 ⟨by decide, by decide⟩
  obtain ⟨T_2, h_2, X_2, e_2, W_2, st_2⟩ := stC X_1 hx hZ e_1 Ar_2 (j := (0 : Int32)) hin_2 (g := (mkF m 12 #[.val (.int p1), .val (.ref b1)] [(.int (p1 &&& (255 : Int32))), (.int (0 : Int32)), (.ref b1)])) rfl rfl (hb hby d_method_2_code_12)
  refine Go.step st_2 ?_
  have N_2 := Fr.snoc X_2 N0 g_b1
  have le_2 : h_1.size ≤ h_2.size := Nat.le_of_eq W_2.size.symm
  have KP_2 := KP_1.wr W_2 (Or.inr sz_b1)
  have O_2 := O_1.wr W_2 g_b1
  have V_2 : Arv Z h_2 b1 k_1 .char (2 : Int32) [(.int (p1 &&& (255 : Int32))), (.int (0 : Int32))] (.int (0 : Int32)) := by
    have q := Arv.set Ar_2 ck_2 Sz_2 Ng_2 Hs_2 Gs_2 (fits_nar_char _) W_2 0 rfl (Nat.le_of_ble_eq_true rfl)
    rw [nar255] at q; exact q
  show Go p e below _ (T_2.setTop (mkF m 13 #[.val (.int p1), .val (.ref b1)] []))
  refine Go.step (fun _ k => XS.aloadN X_2.here hx rfl (hb hby d_method_2_code_13) rfl rfl k) ?_
  show Go p e below _ (T_2.setTop (mkF m 14 #[.val (.int p1), .val (.ref b1)] [(.ref b1)]))
  refine Go.step (fun _ k => XS.iconst X_2.here hx rfl (hb hby d_method_2_code_14) k) ?_
  show Go p e below _ (T_2.setTop (mkF m 15 #[.val (.int p1), .val (.ref b1)] [(.int (1 : Int32)), (.ref b1)]))
  refine Go.step (fun _ k => XS.iloadN X_2.here hx rfl (hb hby d_method_2_code_15) rfl  k) ?_
  show Go p e below _ (T_2.setTop (mkF m 16 #[.val (.int p1), .val (.ref b1)] [(.int p1), (.int (1 : Int32)), (.ref b1)]))
  refine Go.step (fun _ k => XS.bipush X_2.here hx rfl (hb hby d_method_2_code_16) k) ?_
  show Go p e below _ (T_2.setTop (mkF m 18 #[.val (.int p1), .val (.ref b1)] [(.int (8 : Int32)), (.int p1), (.int (1 : Int32)), (.ref b1)]))
  refine Go.step (fun _ k => XS.iushr X_2.here hx rfl (hb hby d_method_2_code_18) rfl k) ?_
  show Go p e below _ (T_2.setTop (mkF m 19 #[.val (.int p1), .val (.ref b1)] [(.int ((p1.toUInt32 >>> ((8 : Int32) &&& 31).toUInt32).toInt32)), (.int (1 : Int32)), (.ref b1)]))
  refine Go.step (fun _ k => XS.sipush X_2.here hx rfl (hb hby d_method_2_code_19) k) ?_
  show Go p e below _ (T_2.setTop (mkF m 22 #[.val (.int p1), .val (.ref b1)] [(.int (255 : Int32)), (.int ((p1.toUInt32 >>> ((8 : Int32) &&& 31).toUInt32).toInt32)), (.int (1 : Int32)), (.ref b1)]))
  refine Go.step (fun _ k => XS.iand X_2.here hx rfl (hb hby d_method_2_code_22) rfl k) ?_
  show Go p e below _ (T_2.setTop (mkF m 23 #[.val (.int p1), .val (.ref b1)] [(.int (((p1.toUInt32 >>> ((8 : Int32) &&& 31).toUInt32).toInt32) &&& (255 : Int32))), (.int (1 : Int32)), (.ref b1)]))
  refine Go.step (fun _ k => XS.i2c X_2.here hx rfl (hb hby d_method_2_code_23) rfl k) ?_
  show Go p e below _ (T_2.setTop (mkF m 24 #[.val (.int p1), .val (.ref b1)] [(.int (nar .char (((p1.toUInt32 >>> ((8 : Int32) &&& 31).toUInt32).toInt32) &&& (255 : Int32)))), (.int (1 : Int32)), (.ref b1)]))
  rw [show (nar .char (((p1.toUInt32 >>> ((8 : Int32) &&& 31).toUInt32).toInt32) &&& (255 : Int32))) = (((p1.toUInt32 >>> ((8 : Int32) &&& 31).toUInt32).toInt32) &&& (255 : Int32)) from nar255 _]
  show Go p e below _ (T_2.setTop (mkF m 24 #[.val (.int p1), .val (.ref b1)] [(.int (((p1.toUInt32 >>> ((8 : Int32) &&& 31).toUInt32).toInt32) &&& (255 : Int32))), (.int (1 : Int32)), (.ref b1)]))
  obtain ⟨cl_3, Ar_3, ck_3, Sz_3, Ng_3, Hs_3, Gs_3⟩ := V_2
  have hin_3 : ¬ ((1 : Int32) < 0 ∨ cl_3.slots.size ≤ ((1 : Int32)).toNatClampNeg) := inb_of Sz_3 ⟨by decide, by decide⟩
  obtain ⟨T_3, h_3, X_3, e_3, W_3, st_3⟩ := stC X_2 hx hZ e_2 Ar_3 (j := (1 : Int32)) hin_3 (g := (mkF m 24 #[.val (.int p1), .val (.ref b1)] [(.int (((p1.toUInt32 >>> ((8 : Int32) &&& 31).toUInt32).toInt32) &&& (255 : Int32))), (.int (1 : Int32)), (.ref b1)])) rfl rfl (hb hby d_method_2_code_24)
  refine Go.step st_3 ?_
  have N_3 := Fr.snoc X_3 N_2 g_b1
  have le_3 : h_2.size ≤ h_3.size := Nat.le_of_eq W_3.size.symm
  have KP_3 := KP_2.wr W_3 (Or.inr sz_b1)
  have O_3 := O_2.wr W_3 g_b1
  have V_3 : Arv Z h_3 b1 k_1 .char (2 : Int32) [(.int (p1 &&& (255 : Int32))), (.int (((p1.toUInt32 >>> ((8 : Int32) &&& 31).toUInt32).toInt32) &&& (255 : Int32)))] (.int (0 : Int32)) := by
    have q := Arv.set Ar_3 ck_3 Sz_3 Ng_3 Hs_3 Gs_3 (fits_nar_char _) W_3 1 rfl (Nat.le_of_ble_eq_true rfl)
    rw [nar255] at q; exact q
  show Go p e below _ (T_3.setTop (mkF m 25 #[.val (.int p1), .val (.ref b1)] []))
  obtain ⟨T_4, h_4, X_4, e_4, E_4, A_4, D_4, -, st_4⟩ := newO X_3 hx hZ hown (wd_5 hw) (wd_6 hw) (wd_7 hw) e_3 (g := (mkF m 25 #[.val (.int p1), .val (.ref b1)] [])) rfl (hb hby d_method_2_code_25) (by decide) (by decide)
  obtain ⟨b4, q_4⟩ : ∃ z, z = h_3.size := ⟨_, rfl⟩
  rw [← q_4] at A_4 D_4 st_4
  refine Go.step st_4 ?_
  have le_4 : h_3.size ≤ h_4.size := E_4.1
  have KP_4 := KP_3.ext E_4
  have O_4 := O_3.ext E_4
  have ge_4 : h_3.size ≤ b4 := Nat.le_of_eq q_4.symm
  have sz_b4 : h0.size ≤ b4 := Nat.le_trans (Nat.le_trans le_1 (Nat.le_trans le_2 le_3)) ge_4
  have g_b4 : n0 ≤ b4 := Nat.le_trans Z0 sz_b4
  have F_4_31 : Fld Z h_4 b4 "java/lang/String" "coder" "B" (.int (0 : Int32)) := D_4 (Or.inr (wd_31 hw)) (ty := .byte) pf_0
  have F_4_33 : Fld Z h_4 b4 "java/lang/String" "value" "[B" .null := D_4 (Or.inr (wd_33 hw)) (ty := (.array .byte)) pf_1
  show Go p e below _ (T_4.setTop (mkF m 28 #[.val (.int p1), .val (.ref b1)] [(.ref b4)]))
  refine Go.step (fun _ k => XS.dup X_4.here hx rfl (hb hby d_method_2_code_28) rfl rfl k) ?_
  show Go p e below _ (T_4.setTop (mkF m 29 #[.val (.int p1), .val (.ref b1)] [(.ref b4), (.ref b4)]))
  refine Go.step (fun _ k => XS.aloadN X_4.here hx rfl (hb hby d_method_2_code_29) rfl rfl k) ?_
  show Go p e below _ (T_4.setTop (mkF m 30 #[.val (.int p1), .val (.ref b1)] [(.ref b1), (.ref b4), (.ref b4)]))
  have f5 : Arv Z h_4 b1 k_1 .char (2 : Int32) [(.int (p1 &&& (255 : Int32))), (.int (((p1.toUInt32 >>> ((8 : Int32) &&& 31).toUInt32).toInt32) &&& (255 : Int32)))] (.int (0 : Int32)) := (V_3.ext E_4)
  have hp6 : ∀ c ∈ ([(p1 &&& (255 : Int32)), (((p1.toUInt32 >>> ((8 : Int32) &&& 31).toUInt32).toInt32) &&& (255 : Int32))] : List Int32), ¬ c < 0 ∧ ¬ (255 : Int32) < c := (latc (lat255 _) (latc (lat255 _) lat0))
  obtain ⟨v_7, T_7, L_7, X_7, hQ_7, st_7⟩ := goC X_4 hx hZ (y := ({ cls := "java/lang/String", name := "<init>", desc := "([C)V" } : Jvm.MethodName)) hown rfl (wd_8 hw) (wd_9 hw) (wd_10 hw) (by decide) (StrChars.Road.backV (W := 1) hZ (sw_words hw) (kI := 4) (wd_6 hw) (cs := ([(p1 &&& (255 : Int32)), (((p1.toUInt32 >>> ((8 : Int32) &&& 31).toUInt32).toInt32) &&& (255 : Int32))] : List Int32)) (bs := ([(p1 &&& (255 : Int32)), (((p1.toUInt32 >>> ((8 : Int32) &&& 31).toUInt32).toInt32) &&& (255 : Int32))] : List Int32).map (fun c => c.toInt8.toInt32)) (n := 2) g_b4 (Nat.le_trans Z0 KP_4.1) A_4 F_4_33 F_4_31 f5 (S_cs.ext O_4.2) n_cs rfl rfl (by decide) (by decide) hp6 rfl (by decide) (by decide)) e_4 (g := (mkF m 30 #[.val (.int p1), .val (.ref b1)] [(.ref b1), (.ref b4), (.ref b4)])) rfl (by rw [hml]; rfl) (a := b4) (argsL := [(.ref b1)]) (rest := [(.ref b4)]) rfl (lenOf pd_0 rfl) rfl (by show 2 * 0 + _ ≤ _; exact Nat.le_of_eq rfl) (hb hby d_method_2_code_30) (by decide) (by decide)
  obtain ⟨rfl, Nq_7, K_7, Ex_7, Fc_7, t_7, kb_7, -, gt_7, -, Fv_7, Av_7⟩ := hQ_7
  have N_7 := Fr.app N_3 Nq_7
  have le_7 : h_4.size ≤ T_7.heap.size := K_7.1
  have KP_7 := KP_4.trans K_7 (allS (Or.inr sz_b4) all0)
  have O_7 := O_4.keep K_7 (allS g_b4 all0)
  have Sx_7 : Str Z (T_7.heap).size (T_7.heap) b4 ([(p1 &&& (255 : Int32)), (((p1.toUInt32 >>> ((8 : Int32) &&& 31).toUInt32).toInt32) &&& (255 : Int32))] : List Int32) := ⟨t_7, kb_7, Ex_7.lt, Av_7.lt, Ex_7, Fv_7, Fc_7, Av_7, hp6, Nat.le_of_ble_eq_true rfl⟩
  refine Go.step st_7 ?_
  show Go p e below _ (T_7.setTop (mkF m 33 #[.val (.int p1), .val (.ref b1)] [(.ref b4)]))
  exact Go.retV X_7 hx hlk hret rfl (Or.inr (Or.inr (Or.inr (Or.inr ⟨rfl, rfl, rfl⟩)))) (hb hby d_method_2_code_33) (by decide) (by decide) (by exact ⟨b4, rfl, N_7, KP_7, sz_b4, (Sx_7.mono (Nat.le_refl _))⟩)
def Q_reqNN (Z : State) (zc : Int32) (qd : Addr) (a1 : Addr) (a2 : Addr) (h0 : Heap) (n0 : Nat) (v : Option Value) (h : Heap) (L : List Loc) : Prop := v = some (.ref a1) ∧ Fr n0 L ∧ h = h0
set_option maxRecDepth 65536 in
set_option maxHeartbeats 40000000 in
theorem rm_reqNN (l : Launch) (Z : State) (a0 : Array Value) (hw : ∀ d ∈ tables_1, d.before a0 Z = true) (zc : Int32) (qd : Addr) (a1 : Addr) (a2 : Addr) (h0 : Heap) (n0 : Nat) (Z0 : n0 ≤ h0.size) (hSt : St Z zc qd) (hO : Old Z n0 h0) :
    CN l Z ({ cls := "java/util/Objects", name := "requireNonNull", desc := "(Ljava/lang/Object;Ljava/lang/String;)Ljava/lang/Object;" } : Jvm.MethodName) [(Jvm.Cond.code ({ cls := "java/util/Objects", name := "requireNonNull", desc := "(Ljava/lang/Object;Ljava/lang/String;)Ljava/lang/Object;" } : Jvm.MethodName) jdk_31_method_11_code (2 : Nat) (Option.some (Jvm.ClassFile.FieldType.object "java/lang/Object")))] ({ frames := 0, cells := 0, slots := 0, locals := 0 } : Room) #[(.ref a1), (.ref a2)] h0 (Q_reqNN Z zc qd a1 a2 h0 n0) := by
  refine CN.of (L0 := #[.val (.ref a1), .val (.ref a2)]) (plainFor_of_name pn_1) (fun m => by first | (simp [entryFrame, mkF, argsToLocals, Value.category]; done) | rfl) ?_
  intro p e s m below meth c s₁ hx hby hml hret hlk hZ hown hnm X0 e0
  have N0 := Fr.nil n0
  have KP0 := Keep.refl h0 []
  have hSt_ := hSt
  obtain ⟨S_cs, n_cs, S_qd⟩ := hSt_
  show Go p e below _ (s₁.setTop (mkF m 0 #[.val (.ref a1), .val (.ref a2)] []))
  refine Go.step (fun _ k => XS.aloadN X0.here hx rfl (hb hby d_jdk_31_method_11_code_0) rfl rfl k) ?_
  show Go p e below _ (s₁.setTop (mkF m 1 #[.val (.ref a1), .val (.ref a2)] [(.ref a1)]))
  refine Go.step (fun _ k => XS.ifnonnullYes X0.here hx rfl (pc0 := 1) (pc' := 13) rfl (hb hby d_jdk_31_method_11_code_1) rfl (by decide) (by decide) k) ?_
  show Go p e below _ (s₁.setTop (mkF m 13 #[.val (.ref a1), .val (.ref a2)] []))
  refine Go.step (fun _ k => XS.aloadN X0.here hx rfl (hb hby d_jdk_31_method_11_code_13) rfl rfl k) ?_
  show Go p e below _ (s₁.setTop (mkF m 14 #[.val (.ref a1), .val (.ref a2)] [(.ref a1)]))
  exact Go.retV X0 hx hlk hret rfl (Or.inr (Or.inr (Or.inr (Or.inr ⟨rfl, rfl, rfl⟩)))) (hb hby d_jdk_31_method_11_code_14) (by decide) (by decide) (by rw [e0]; exact ⟨rfl, N0, rfl⟩)
def Q_rec (Z : State) (zc : Int32) (qd : Addr) (a1 : Addr) (h0 : Heap) (n0 : Nat) (v : Option Value) (h : Heap) (L : List Loc) : Prop := v = none ∧ Fr n0 L ∧ h = h0
set_option maxRecDepth 65536 in
set_option maxHeartbeats 40000000 in
theorem rm_rec (l : Launch) (Z : State) (a0 : Array Value) (hw : ∀ d ∈ tables_1, d.before a0 Z = true) (zc : Int32) (qd : Addr) (a1 : Addr) (h0 : Heap) (n0 : Nat) (Z0 : n0 ≤ h0.size) (hSt : St Z zc qd) (hO : Old Z n0 h0) :
    CN l Z ({ cls := "java/lang/Record", name := "<init>", desc := "()V" } : Jvm.MethodName) [(Jvm.Cond.code ({ cls := "java/lang/Record", name := "<init>", desc := "()V" } : Jvm.MethodName) jdk_30_method_1_code (1 : Nat) (Option.none : Option Jvm.ClassFile.FieldType))] ({ frames := 1, cells := 0, slots := 0, locals := 12 } : Room) #[(.ref a1)] h0 (Q_rec Z zc qd a1 h0 n0) := by
  refine CN.of (L0 := #[.val (.ref a1)]) (plainFor_of_name pn_2) (fun m => by first | (simp [entryFrame, mkF, argsToLocals, Value.category]; done) | rfl) ?_
  intro p e s m below meth c s₁ hx hby hml hret hlk hZ hown hnm X0 e0
  have N0 := Fr.nil n0
  have KP0 := Keep.refl h0 []
  have hSt_ := hSt
  obtain ⟨S_cs, n_cs, S_qd⟩ := hSt_
  show Go p e below _ (s₁.setTop (mkF m 0 #[.val (.ref a1)] []))
  refine Go.step (fun _ k => XS.aloadN X0.here hx rfl (hb hby d_jdk_30_method_1_code_0) rfl rfl k) ?_
  show Go p e below _ (s₁.setTop (mkF m 1 #[.val (.ref a1)] [(.ref a1)]))
  obtain ⟨T_8, X_8, e_8, st_8⟩ := initO X0 hx hZ hown (wd_51 hw) (wd_16 hw) (wd_17 hw) e0 (g := (mkF m 1 #[.val (.ref a1)] [(.ref a1)])) rfl (by rw [hml]; rfl) rfl (hb hby d_jdk_30_method_1_code_1) (by decide) (W := 0) (by show 2 * 0 + _ ≤ _; exact Nat.le_of_eq rfl) (by decide)
  refine Go.step st_8 ?_
  show Go p e below _ (T_8.setTop (mkF m 4 #[.val (.ref a1)] []))
  exact Go.ret0 X_8 hx hlk hret (hb hby d_jdk_30_method_1_code_4) (by decide) (by decide) (by rw [e_8]; exact ⟨rfl, N0, rfl⟩)
def Q_initQ (Z : State) (zc : Int32) (qd : Addr) (a1 : Addr) (j1 : Int64) (k1 : Addr) (c1 : Addr) (vi : Value) (h0 : Heap) (n0 : Nat) (v : Option Value) (h : Heap) (L : List Loc) : Prop := v = none ∧ Fr n0 L ∧ Keep h0 h [a1] ∧ Fld Z h a1 "com/example/enact/enact/queue/QueueEntry" "id" "J" (.long j1) ∧ Fld Z h a1 "com/example/enact/enact/queue/QueueEntry" "key" "Ljava/lang/String;" (.ref k1) ∧ Fld Z h a1 "com/example/enact/enact/queue/QueueEntry" "command" "Ljava/lang/String;" (.ref c1) ∧ Fld Z h a1 "com/example/enact/enact/queue/QueueEntry" "input" "Ljava/lang/String;" vi ∧ Fld Z h a1 "com/example/enact/enact/queue/QueueEntry" "status" "Lcom/example/enact/enact/queue/QueueEntry$Status;" (.ref qd) ∧ Fld Z h a1 "com/example/enact/enact/queue/QueueEntry" "attempts" "I" (.int (0 : Int32)) ∧ Fld Z h a1 "com/example/enact/enact/queue/QueueEntry" "firstAttempt" "Ljava/time/Instant;" .null ∧ Fld Z h a1 "com/example/enact/enact/queue/QueueEntry" "ended" "Ljava/time/Instant;" .null ∧ Fld Z h a1 "com/example/enact/enact/queue/QueueEntry" "result" "Ljava/lang/String;" .null ∧ Fld Z h a1 "com/example/enact/enact/queue/QueueEntry" "message" "Ljava/lang/String;" .null ∧ Fld Z h a1 "com/example/enact/enact/queue/QueueEntry" "type" "Ljava/lang/String;" .null
set_option maxRecDepth 65536 in
set_option maxHeartbeats 40000000 in
theorem rm_initQ (l : Launch) (Z : State) (a0 : Array Value) (hw : ∀ d ∈ tables_1, d.before a0 Z = true) (zc : Int32) (qd : Addr) (a1 : Addr) (j1 : Int64) (k1 : Addr) (c1 : Addr) (vi : Value) (h0 : Heap) (n0 : Nat) (Z0 : n0 ≤ h0.size) (h_vi : vi.isRef = true) (E_a1 : Exa Z h0 a1 "com/example/enact/enact/queue/QueueEntry") (g_a1 : n0 ≤ a1) (F_id : Fld Z h0 a1 "com/example/enact/enact/queue/QueueEntry" "id" "J" (.long (0 : Int64))) (F_key : Fld Z h0 a1 "com/example/enact/enact/queue/QueueEntry" "key" "Ljava/lang/String;" .null) (F_command : Fld Z h0 a1 "com/example/enact/enact/queue/QueueEntry" "command" "Ljava/lang/String;" .null) (F_input : Fld Z h0 a1 "com/example/enact/enact/queue/QueueEntry" "input" "Ljava/lang/String;" .null) (F_status : Fld Z h0 a1 "com/example/enact/enact/queue/QueueEntry" "status" "Lcom/example/enact/enact/queue/QueueEntry$Status;" .null) (F_attempts : Fld Z h0 a1 "com/example/enact/enact/queue/QueueEntry" "attempts" "I" (.int (0 : Int32))) (F_firstAttempt : Fld Z h0 a1 "com/example/enact/enact/queue/QueueEntry" "firstAttempt" "Ljava/time/Instant;" .null) (F_ended : Fld Z h0 a1 "com/example/enact/enact/queue/QueueEntry" "ended" "Ljava/time/Instant;" .null) (F_result : Fld Z h0 a1 "com/example/enact/enact/queue/QueueEntry" "result" "Ljava/lang/String;" .null) (F_message : Fld Z h0 a1 "com/example/enact/enact/queue/QueueEntry" "message" "Ljava/lang/String;" .null) (F_type : Fld Z h0 a1 "com/example/enact/enact/queue/QueueEntry" "type" "Ljava/lang/String;" .null) (hSt : St Z zc qd) (hO : Old Z n0 h0) :
    CW l Z EL ({ cls := "com/example/enact/enact/queue/QueueEntry", name := "<init>", desc := "(JLjava/lang/String;Ljava/lang/String;Ljava/lang/String;Lcom/example/enact/enact/queue/QueueEntry$Status;ILjava/time/Instant;Ljava/time/Instant;Ljava/lang/String;Ljava/lang/String;Ljava/lang/String;)V" } : Jvm.MethodName) [(Jvm.Cond.code ({ cls := "com/example/enact/enact/queue/QueueEntry", name := "<init>", desc := "(JLjava/lang/String;Ljava/lang/String;Ljava/lang/String;Lcom/example/enact/enact/queue/QueueEntry$Status;ILjava/time/Instant;Ljava/time/Instant;Ljava/lang/String;Ljava/lang/String;Ljava/lang/String;)V" } : Jvm.MethodName) prog_32_method_1_code (13 : Nat) (Option.none : Option Jvm.ClassFile.FieldType))] ({ frames := 2, cells := 6, slots := 76, locals := 24 } : Room) #[(.ref a1), (.long j1), (.ref k1), (.ref c1), vi, (.ref qd), (.int (0 : Int32)), .null, .null, .null, .null, .null] h0 (Q_initQ Z zc qd a1 j1 k1 c1 vi h0 n0) := by
  refine CW.of (L0 := #[.val (.ref a1), .val (.long j1), .second, .val (.ref k1), .val (.ref c1), .val vi, .val (.ref qd), .val (.int (0 : Int32)), .val .null, .val .null, .val .null, .val .null, .val .null]) (plainFor_of_name pn_3) (fun m => by rcases ref_cases h_vi with rfl | ⟨_, rfl⟩ <;> first | (simp [entryFrame, mkF, argsToLocals, Value.category]; done) | rfl) ?_
  intro p e s m below meth c s₁ hx hby hml hret hlk hZ hown hnm X0 e0 hS0 hk0 CV0 hh0
  have hEL := hEL_ (a0 := a0) hw
  have hwS := hwS_ hw
  have N0 := Fr.nil n0
  have KP0 := Keep.refl h0 [a1]
  have hSt_ := hSt
  obtain ⟨S_cs, n_cs, S_qd⟩ := hSt_
  show Go p e below _ (s₁.setTop (mkF m 0 #[.val (.ref a1), .val (.long j1), .second, .val (.ref k1), .val (.ref c1), .val vi, .val (.ref qd), .val (.int (0 : Int32)), .val .null, .val .null, .val .null, .val .null, .val .null] []))
  refine Go.step (fun _ k => XS.aloadN X0.here hx rfl (hb hby d_prog_32_method_1_code_0) rfl rfl k) ?_
  show Go p e below _ (s₁.setTop (mkF m 1 #[.val (.ref a1), .val (.long j1), .second, .val (.ref k1), .val (.ref c1), .val vi, .val (.ref qd), .val (.int (0 : Int32)), .val .null, .val .null, .val .null, .val .null, .val .null] [(.ref a1)]))
  obtain ⟨v_9, T_9, L_9, X_9, hQ_9, st_9⟩ := goC X0 hx hZ (y := ({ cls := "java/lang/Record", name := "<init>", desc := "()V" } : Jvm.MethodName)) hown rfl (wd_46 hw) (wd_47 hw) (wd_50 hw) (by decide) (backOf (W := 0) (rm_rec l Z a0 hw zc qd (a1) h0 n0 (Nat.le_trans Z0 KP0.1) hSt hO) hZ (wd_50 hw) (wd_49 hw) (by decide) (by decide)) e0 (g := (mkF m 1 #[.val (.ref a1), .val (.long j1), .second, .val (.ref k1), .val (.ref c1), .val vi, .val (.ref qd), .val (.int (0 : Int32)), .val .null, .val .null, .val .null, .val .null, .val .null] [(.ref a1)])) rfl (by rw [hml]; rfl) (a := a1) (argsL := []) (rest := []) rfl (lenOf pd_1 rfl) rfl (by show 2 * 0 + _ ≤ _; exact Nat.le_of_eq rfl) (hb hby d_prog_32_method_1_code_1) (by decide) (by decide)
  obtain ⟨rfl, Nq_9, e_9⟩ := hQ_9
  have N_9 := Fr.app N0 Nq_9
  refine Go.step st_9 ?_
  show Go p e below _ (T_9.setTop (mkF m 4 #[.val (.ref a1), .val (.long j1), .second, .val (.ref k1), .val (.ref c1), .val vi, .val (.ref qd), .val (.int (0 : Int32)), .val .null, .val .null, .val .null, .val .null, .val .null] []))
  refine Go.step (fun _ k => XS.aloadN X_9.here hx rfl (hb hby d_prog_32_method_1_code_4) rfl rfl k) ?_
  show Go p e below _ (T_9.setTop (mkF m 5 #[.val (.ref a1), .val (.long j1), .second, .val (.ref k1), .val (.ref c1), .val vi, .val (.ref qd), .val (.int (0 : Int32)), .val .null, .val .null, .val .null, .val .null, .val .null] [(.ref k1)]))
  obtain ⟨a_10, T_10, h_10, k1_10, X_10, e_10, E_10, hS_10, hk_10, hZ_10, hown_10, C_10, Lt_10, st_10⟩ := ldcOH X_9 hx hZ hown (wd_52 hw) hwS e_9 hS0 hk0 hEL CV0 (g := (mkF m 5 #[.val (.ref a1), .val (.long j1), .second, .val (.ref k1), .val (.ref c1), .val vi, .val (.ref qd), .val (.int (0 : Int32)), .val .null, .val .null, .val .null, .val .null, .val .null] [(.ref k1)])) rfl (hb hby d_prog_32_method_1_code_5) (n := 12) (by decide) (by decide) (by decide) (by decide)
  refine Go.step st_10 ?_
  have CR_10 := CHr.trans (CHr.refl CV0) C_10
  have le_10 : h0.size ≤ h_10.size := E_10.1
  have KP_10 := KP0.ext E_10
  have O_10 := hO.ext E_10
  show Go p e below _ (T_10.setTop (mkF m 7 #[.val (.ref a1), .val (.long j1), .second, .val (.ref k1), .val (.ref c1), .val vi, .val (.ref qd), .val (.int (0 : Int32)), .val .null, .val .null, .val .null, .val .null, .val .null] [(.ref a_10), (.ref k1)]))
  obtain ⟨v_11, T_11, L_11, X_11, hQ_11, st_11⟩ := goS X_10 hx hZ_10 (y := ({ cls := "java/util/Objects", name := "requireNonNull", desc := "(Ljava/lang/Object;Ljava/lang/String;)Ljava/lang/Object;" } : Jvm.MethodName)) hown_10 (wd_55 hw) (wd_56 hw) (wd_57 hw) (wd_58 hw) (by decide) (backOf (W := 0) (rm_reqNN l Z a0 hw zc qd (k1) (a_10) h_10 n0 (Nat.le_trans Z0 KP_10.1) hSt O_10) hZ_10 (wd_58 hw) (wd_57 hw) (by decide) (by decide)) e_10 (g := (mkF m 7 #[.val (.ref a1), .val (.long j1), .second, .val (.ref k1), .val (.ref c1), .val vi, .val (.ref qd), .val (.int (0 : Int32)), .val .null, .val .null, .val .null, .val .null, .val .null] [(.ref a_10), (.ref k1)])) rfl (by rw [hml]; rfl) (argsL := [(.ref k1), (.ref a_10)]) (rest := []) rfl (lenOf pd_2 rfl) rfl (by show 2 * 0 + _ ≤ _; exact Nat.le_of_eq rfl) (hb hby d_prog_32_method_1_code_7) (by decide) (by decide)
  obtain ⟨rfl, Nq_11, e_11⟩ := hQ_11
  have N_11 := Fr.app N_9 Nq_11
  refine Go.step st_11 ?_
  show Go p e below _ (T_11.setTop (mkF m 10 #[.val (.ref a1), .val (.long j1), .second, .val (.ref k1), .val (.ref c1), .val vi, .val (.ref qd), .val (.int (0 : Int32)), .val .null, .val .null, .val .null, .val .null, .val .null] [(.ref k1)]))
  refine Go.step (fun _ k => XS.pop X_11.here hx rfl (hb hby d_prog_32_method_1_code_10) rfl rfl k) ?_
  show Go p e below _ (T_11.setTop (mkF m 11 #[.val (.ref a1), .val (.long j1), .second, .val (.ref k1), .val (.ref c1), .val vi, .val (.ref qd), .val (.int (0 : Int32)), .val .null, .val .null, .val .null, .val .null, .val .null] []))
  refine Go.step (fun _ k => XS.aload X_11.here hx rfl (hb hby d_prog_32_method_1_code_11) rfl rfl k) ?_
  show Go p e below _ (T_11.setTop (mkF m 13 #[.val (.ref a1), .val (.long j1), .second, .val (.ref k1), .val (.ref c1), .val vi, .val (.ref qd), .val (.int (0 : Int32)), .val .null, .val .null, .val .null, .val .null, .val .null] [(.ref c1)]))
  obtain ⟨a_12, T_12, h_12, k1_12, X_12, e_12, E_12, hS_12, hk_12, hZ_12, hown_12, C_12, Lt_12, st_12⟩ := ldcOH X_11 hx hZ_10 hown_10 (wd_59 hw) hwS e_11 hS_10 hk_10 hEL C_10.1 (g := (mkF m 13 #[.val (.ref a1), .val (.long j1), .second, .val (.ref k1), .val (.ref c1), .val vi, .val (.ref qd), .val (.int (0 : Int32)), .val .null, .val .null, .val .null, .val .null, .val .null] [(.ref c1)])) rfl (hb hby d_prog_32_method_1_code_13) (n := 28) (by decide) (by decide) (by decide) (by decide)
  refine Go.step st_12 ?_
  have CR_12 := CHr.trans CR_10 C_12
  have le_12 : h_10.size ≤ h_12.size := E_12.1
  have KP_12 := KP_10.ext E_12
  have O_12 := O_10.ext E_12
  show Go p e below _ (T_12.setTop (mkF m 15 #[.val (.ref a1), .val (.long j1), .second, .val (.ref k1), .val (.ref c1), .val vi, .val (.ref qd), .val (.int (0 : Int32)), .val .null, .val .null, .val .null, .val .null, .val .null] [(.ref a_12), (.ref c1)]))
  obtain ⟨v_13, T_13, L_13, X_13, hQ_13, st_13⟩ := goS X_12 hx hZ_12 (y := ({ cls := "java/util/Objects", name := "requireNonNull", desc := "(Ljava/lang/Object;Ljava/lang/String;)Ljava/lang/Object;" } : Jvm.MethodName)) hown_12 (wd_55 hw) (wd_56 hw) (wd_57 hw) (wd_58 hw) (by decide) (backOf (W := 0) (rm_reqNN l Z a0 hw zc qd (c1) (a_12) h_12 n0 (Nat.le_trans Z0 KP_12.1) hSt O_12) hZ_12 (wd_58 hw) (wd_57 hw) (by decide) (by decide)) e_12 (g := (mkF m 15 #[.val (.ref a1), .val (.long j1), .second, .val (.ref k1), .val (.ref c1), .val vi, .val (.ref qd), .val (.int (0 : Int32)), .val .null, .val .null, .val .null, .val .null, .val .null] [(.ref a_12), (.ref c1)])) rfl (by rw [hml]; rfl) (argsL := [(.ref c1), (.ref a_12)]) (rest := []) rfl (lenOf pd_2 rfl) rfl (by show 2 * 0 + _ ≤ _; exact Nat.le_of_eq rfl) (hb hby d_prog_32_method_1_code_15) (by decide) (by decide)
  obtain ⟨rfl, Nq_13, e_13⟩ := hQ_13
  have N_13 := Fr.app N_11 Nq_13
  refine Go.step st_13 ?_
  show Go p e below _ (T_13.setTop (mkF m 18 #[.val (.ref a1), .val (.long j1), .second, .val (.ref k1), .val (.ref c1), .val vi, .val (.ref qd), .val (.int (0 : Int32)), .val .null, .val .null, .val .null, .val .null, .val .null] [(.ref c1)]))
  refine Go.step (fun _ k => XS.pop X_13.here hx rfl (hb hby d_prog_32_method_1_code_18) rfl rfl k) ?_
  show Go p e below _ (T_13.setTop (mkF m 19 #[.val (.ref a1), .val (.long j1), .second, .val (.ref k1), .val (.ref c1), .val vi, .val (.ref qd), .val (.int (0 : Int32)), .val .null, .val .null, .val .null, .val .null, .val .null] []))
  refine Go.step (fun _ k => XS.aload X_13.here hx rfl (hb hby d_prog_32_method_1_code_19) rfl rfl k) ?_
  show Go p e below _ (T_13.setTop (mkF m 21 #[.val (.ref a1), .val (.long j1), .second, .val (.ref k1), .val (.ref c1), .val vi, .val (.ref qd), .val (.int (0 : Int32)), .val .null, .val .null, .val .null, .val .null, .val .null] [(.ref qd)]))
  obtain ⟨a_14, T_14, h_14, k1_14, X_14, e_14, E_14, hS_14, hk_14, hZ_14, hown_14, C_14, Lt_14, st_14⟩ := ldcOH X_13 hx hZ_12 hown_12 (wd_60 hw) hwS e_13 hS_12 hk_12 hEL C_12.1 (g := (mkF m 21 #[.val (.ref a1), .val (.long j1), .second, .val (.ref k1), .val (.ref c1), .val vi, .val (.ref qd), .val (.int (0 : Int32)), .val .null, .val .null, .val .null, .val .null, .val .null] [(.ref qd)])) rfl (hb hby d_prog_32_method_1_code_21) (n := 24) (by decide) (by decide) (by decide) (by decide)
  refine Go.step st_14 ?_
  have CR_14 := CHr.trans CR_12 C_14
  have le_14 : h_12.size ≤ h_14.size := E_14.1
  have KP_14 := KP_12.ext E_14
  have O_14 := O_12.ext E_14
  show Go p e below _ (T_14.setTop (mkF m 23 #[.val (.ref a1), .val (.long j1), .second, .val (.ref k1), .val (.ref c1), .val vi, .val (.ref qd), .val (.int (0 : Int32)), .val .null, .val .null, .val .null, .val .null, .val .null] [(.ref a_14), (.ref qd)]))
  obtain ⟨v_15, T_15, L_15, X_15, hQ_15, st_15⟩ := goS X_14 hx hZ_14 (y := ({ cls := "java/util/Objects", name := "requireNonNull", desc := "(Ljava/lang/Object;Ljava/lang/String;)Ljava/lang/Object;" } : Jvm.MethodName)) hown_14 (wd_55 hw) (wd_56 hw) (wd_57 hw) (wd_58 hw) (by decide) (backOf (W := 0) (rm_reqNN l Z a0 hw zc qd (qd) (a_14) h_14 n0 (Nat.le_trans Z0 KP_14.1) hSt O_14) hZ_14 (wd_58 hw) (wd_57 hw) (by decide) (by decide)) e_14 (g := (mkF m 23 #[.val (.ref a1), .val (.long j1), .second, .val (.ref k1), .val (.ref c1), .val vi, .val (.ref qd), .val (.int (0 : Int32)), .val .null, .val .null, .val .null, .val .null, .val .null] [(.ref a_14), (.ref qd)])) rfl (by rw [hml]; rfl) (argsL := [(.ref qd), (.ref a_14)]) (rest := []) rfl (lenOf pd_2 rfl) rfl (by show 2 * 0 + _ ≤ _; exact Nat.le_of_eq rfl) (hb hby d_prog_32_method_1_code_23) (by decide) (by decide)
  obtain ⟨rfl, Nq_15, e_15⟩ := hQ_15
  have N_15 := Fr.app N_13 Nq_15
  refine Go.step st_15 ?_
  show Go p e below _ (T_15.setTop (mkF m 26 #[.val (.ref a1), .val (.long j1), .second, .val (.ref k1), .val (.ref c1), .val vi, .val (.ref qd), .val (.int (0 : Int32)), .val .null, .val .null, .val .null, .val .null, .val .null] [(.ref qd)]))
  refine Go.step (fun _ k => XS.pop X_15.here hx rfl (hb hby d_prog_32_method_1_code_26) rfl rfl k) ?_
  show Go p e below _ (T_15.setTop (mkF m 27 #[.val (.ref a1), .val (.long j1), .second, .val (.ref k1), .val (.ref c1), .val vi, .val (.ref qd), .val (.int (0 : Int32)), .val .null, .val .null, .val .null, .val .null, .val .null] []))
  refine Go.step (fun _ k => XS.aloadN X_15.here hx rfl (hb hby d_prog_32_method_1_code_27) rfl rfl k) ?_
  show Go p e below _ (T_15.setTop (mkF m 28 #[.val (.ref a1), .val (.long j1), .second, .val (.ref k1), .val (.ref c1), .val vi, .val (.ref qd), .val (.int (0 : Int32)), .val .null, .val .null, .val .null, .val .null, .val .null] [(.ref a1)]))
  refine Go.step (fun _ k => XS.lloadN X_15.here hx rfl (hb hby d_prog_32_method_1_code_28) rfl  k) ?_
  show Go p e below _ (T_15.setTop (mkF m 29 #[.val (.ref a1), .val (.long j1), .second, .val (.ref k1), .val (.ref c1), .val vi, .val (.ref qd), .val (.int (0 : Int32)), .val .null, .val .null, .val .null, .val .null, .val .null] [(.long j1), (.ref a1)]))
  have f16 : Exa Z h_14 a1 "com/example/enact/enact/queue/QueueEntry" := (((E_a1.ext E_10).ext E_12).ext E_14)
  have f17 : Fld Z h_14 a1 "com/example/enact/enact/queue/QueueEntry" "id" "J" (.long (0 : Int64)) := (((F_id.ext E_10).ext E_12).ext E_14)
  obtain ⟨T_18, h_18, X_18, e_18, W_18, st_18⟩ := putF X_15 hx hZ_14 hown_14 (host := "") (Or.inl (wd_61 hw)) Via.refl e_15 f17 f16 (Or.inr ⟨(wd_62 hw), rfl, hnm⟩) (wd_39 hw) (ty := .long) pf_2 rfl rfl (g := (mkF m 29 #[.val (.ref a1), .val (.long j1), .second, .val (.ref k1), .val (.ref c1), .val vi, .val (.ref qd), .val (.int (0 : Int32)), .val .null, .val .null, .val .null, .val .null, .val .null] [(.long j1), (.ref a1)])) rfl rfl (hb hby d_prog_32_method_1_code_29)
  refine Go.step st_18 ?_
  have N_18 := Fr.snoc X_18 N_15 g_a1
  have C_18 := CHr.wr W_18 (Safe.exa hZ_14.alike f16 (by decide) (by decide)) C_14.1
  have CR_18 := CHr.trans CR_14 C_18
  have le_18 : h_14.size ≤ h_18.size := Nat.le_of_eq W_18.size.symm
  have KP_18 := KP_14.wr W_18 (Or.inl (List.mem_of_getElem? (i := 0) rfl))
  have O_18 := O_14.wr W_18 g_a1
  have F_18 : Fld Z h_18 a1 "com/example/enact/enact/queue/QueueEntry" "id" "J" (.long j1) := f17.same W_18
  show Go p e below _ (T_18.setTop (mkF m 32 #[.val (.ref a1), .val (.long j1), .second, .val (.ref k1), .val (.ref c1), .val vi, .val (.ref qd), .val (.int (0 : Int32)), .val .null, .val .null, .val .null, .val .null, .val .null] []))
  refine Go.step (fun _ k => XS.aloadN X_18.here hx rfl (hb hby d_prog_32_method_1_code_32) rfl rfl k) ?_
  show Go p e below _ (T_18.setTop (mkF m 33 #[.val (.ref a1), .val (.long j1), .second, .val (.ref k1), .val (.ref c1), .val vi, .val (.ref qd), .val (.int (0 : Int32)), .val .null, .val .null, .val .null, .val .null, .val .null] [(.ref a1)]))
  refine Go.step (fun _ k => XS.aloadN X_18.here hx rfl (hb hby d_prog_32_method_1_code_33) rfl rfl k) ?_
  show Go p e below _ (T_18.setTop (mkF m 34 #[.val (.ref a1), .val (.long j1), .second, .val (.ref k1), .val (.ref c1), .val vi, .val (.ref qd), .val (.int (0 : Int32)), .val .null, .val .null, .val .null, .val .null, .val .null] [(.ref k1), (.ref a1)]))
  have f19 : Exa Z h_18 a1 "com/example/enact/enact/queue/QueueEntry" := (f16.wr W_18)
  have f20 : Fld Z h_18 a1 "com/example/enact/enact/queue/QueueEntry" "key" "Ljava/lang/String;" .null := ((((F_key.ext E_10).ext E_12).ext E_14).other W_18 (Or.inr (sn_0 hw)))
  obtain ⟨T_21, h_21, X_21, e_21, W_21, st_21⟩ := putF X_18 hx hZ_14 hown_14 (host := "") (Or.inl (wd_63 hw)) Via.refl e_18 f20 f19 (Or.inr ⟨(wd_64 hw), rfl, hnm⟩) (wd_39 hw) (ty := (.object "java/lang/String")) pf_3 rfl rfl (g := (mkF m 34 #[.val (.ref a1), .val (.long j1), .second, .val (.ref k1), .val (.ref c1), .val vi, .val (.ref qd), .val (.int (0 : Int32)), .val .null, .val .null, .val .null, .val .null, .val .null] [(.ref k1), (.ref a1)])) rfl rfl (hb hby d_prog_32_method_1_code_34)
  refine Go.step st_21 ?_
  have N_21 := Fr.snoc X_21 N_18 g_a1
  have C_21 := CHr.wr W_21 (Safe.exa hZ_14.alike f19 (by decide) (by decide)) C_18.1
  have CR_21 := CHr.trans CR_18 C_21
  have le_21 : h_18.size ≤ h_21.size := Nat.le_of_eq W_21.size.symm
  have KP_21 := KP_18.wr W_21 (Or.inl (List.mem_of_getElem? (i := 0) rfl))
  have O_21 := O_18.wr W_21 g_a1
  have F_21 : Fld Z h_21 a1 "com/example/enact/enact/queue/QueueEntry" "key" "Ljava/lang/String;" (.ref k1) := f20.same W_21
  show Go p e below _ (T_21.setTop (mkF m 37 #[.val (.ref a1), .val (.long j1), .second, .val (.ref k1), .val (.ref c1), .val vi, .val (.ref qd), .val (.int (0 : Int32)), .val .null, .val .null, .val .null, .val .null, .val .null] []))
  refine Go.step (fun _ k => XS.aloadN X_21.here hx rfl (hb hby d_prog_32_method_1_code_37) rfl rfl k) ?_
  show Go p e below _ (T_21.setTop (mkF m 38 #[.val (.ref a1), .val (.long j1), .second, .val (.ref k1), .val (.ref c1), .val vi, .val (.ref qd), .val (.int (0 : Int32)), .val .null, .val .null, .val .null, .val .null, .val .null] [(.ref a1)]))
  refine Go.step (fun _ k => XS.aload X_21.here hx rfl (hb hby d_prog_32_method_1_code_38) rfl rfl k) ?_
  show Go p e below _ (T_21.setTop (mkF m 40 #[.val (.ref a1), .val (.long j1), .second, .val (.ref k1), .val (.ref c1), .val vi, .val (.ref qd), .val (.int (0 : Int32)), .val .null, .val .null, .val .null, .val .null, .val .null] [(.ref c1), (.ref a1)]))
  have f22 : Exa Z h_21 a1 "com/example/enact/enact/queue/QueueEntry" := (f19.wr W_21)
  have f23 : Fld Z h_21 a1 "com/example/enact/enact/queue/QueueEntry" "command" "Ljava/lang/String;" .null := (((((F_command.ext E_10).ext E_12).ext E_14).other W_18 (Or.inr (sn_1 hw))).other W_21 (Or.inr (sn_2 hw)))
  obtain ⟨T_24, h_24, X_24, e_24, W_24, st_24⟩ := putF X_21 hx hZ_14 hown_14 (host := "") (Or.inl (wd_65 hw)) Via.refl e_21 f23 f22 (Or.inr ⟨(wd_66 hw), rfl, hnm⟩) (wd_39 hw) (ty := (.object "java/lang/String")) pf_3 rfl rfl (g := (mkF m 40 #[.val (.ref a1), .val (.long j1), .second, .val (.ref k1), .val (.ref c1), .val vi, .val (.ref qd), .val (.int (0 : Int32)), .val .null, .val .null, .val .null, .val .null, .val .null] [(.ref c1), (.ref a1)])) rfl rfl (hb hby d_prog_32_method_1_code_40)
  refine Go.step st_24 ?_
  have N_24 := Fr.snoc X_24 N_21 g_a1
  have C_24 := CHr.wr W_24 (Safe.exa hZ_14.alike f22 (by decide) (by decide)) C_21.1
  have CR_24 := CHr.trans CR_21 C_24
  have le_24 : h_21.size ≤ h_24.size := Nat.le_of_eq W_24.size.symm
  have KP_24 := KP_21.wr W_24 (Or.inl (List.mem_of_getElem? (i := 0) rfl))
  have O_24 := O_21.wr W_24 g_a1
  have F_24 : Fld Z h_24 a1 "com/example/enact/enact/queue/QueueEntry" "command" "Ljava/lang/String;" (.ref c1) := f23.same W_24
  show Go p e below _ (T_24.setTop (mkF m 43 #[.val (.ref a1), .val (.long j1), .second, .val (.ref k1), .val (.ref c1), .val vi, .val (.ref qd), .val (.int (0 : Int32)), .val .null, .val .null, .val .null, .val .null, .val .null] []))
  refine Go.step (fun _ k => XS.aloadN X_24.here hx rfl (hb hby d_prog_32_method_1_code_43) rfl rfl k) ?_
  show Go p e below _ (T_24.setTop (mkF m 44 #[.val (.ref a1), .val (.long j1), .second, .val (.ref k1), .val (.ref c1), .val vi, .val (.ref qd), .val (.int (0 : Int32)), .val .null, .val .null, .val .null, .val .null, .val .null] [(.ref a1)]))
  refine Go.step (fun _ k => XS.aload X_24.here hx rfl (hb hby d_prog_32_method_1_code_44) rfl h_vi k) ?_
  show Go p e below _ (T_24.setTop (mkF m 46 #[.val (.ref a1), .val (.long j1), .second, .val (.ref k1), .val (.ref c1), .val vi, .val (.ref qd), .val (.int (0 : Int32)), .val .null, .val .null, .val .null, .val .null, .val .null] [vi, (.ref a1)]))
  have f25 : Exa Z h_24 a1 "com/example/enact/enact/queue/QueueEntry" := (f22.wr W_24)
  have f26 : Fld Z h_24 a1 "com/example/enact/enact/queue/QueueEntry" "input" "Ljava/lang/String;" .null := ((((((F_input.ext E_10).ext E_12).ext E_14).other W_18 (Or.inr (sn_3 hw))).other W_21 (Or.inr (sn_4 hw))).other W_24 (Or.inr (sn_5 hw)))
  obtain ⟨T_27, h_27, X_27, e_27, W_27, st_27⟩ := putF X_24 hx hZ_14 hown_14 (host := "") (Or.inl (wd_67 hw)) Via.refl e_24 f26 f25 (Or.inr ⟨(wd_68 hw), rfl, hnm⟩) (wd_39 hw) (ty := (.object "java/lang/String")) pf_3 (own_narrow_ref h_vi) (own_fits_ref h_vi) (g := (mkF m 46 #[.val (.ref a1), .val (.long j1), .second, .val (.ref k1), .val (.ref c1), .val vi, .val (.ref qd), .val (.int (0 : Int32)), .val .null, .val .null, .val .null, .val .null, .val .null] [vi, (.ref a1)])) rfl rfl (hb hby d_prog_32_method_1_code_46)
  refine Go.step st_27 ?_
  have N_27 := Fr.snoc X_27 N_24 g_a1
  have C_27 := CHr.wr W_27 (Safe.exa hZ_14.alike f25 (by decide) (by decide)) C_24.1
  have CR_27 := CHr.trans CR_24 C_27
  have le_27 : h_24.size ≤ h_27.size := Nat.le_of_eq W_27.size.symm
  have KP_27 := KP_24.wr W_27 (Or.inl (List.mem_of_getElem? (i := 0) rfl))
  have O_27 := O_24.wr W_27 g_a1
  have F_27 : Fld Z h_27 a1 "com/example/enact/enact/queue/QueueEntry" "input" "Ljava/lang/String;" vi := f26.same W_27
  show Go p e below _ (T_27.setTop (mkF m 49 #[.val (.ref a1), .val (.long j1), .second, .val (.ref k1), .val (.ref c1), .val vi, .val (.ref qd), .val (.int (0 : Int32)), .val .null, .val .null, .val .null, .val .null, .val .null] []))
  refine Go.step (fun _ k => XS.aloadN X_27.here hx rfl (hb hby d_prog_32_method_1_code_49) rfl rfl k) ?_
  show Go p e below _ (T_27.setTop (mkF m 50 #[.val (.ref a1), .val (.long j1), .second, .val (.ref k1), .val (.ref c1), .val vi, .val (.ref qd), .val (.int (0 : Int32)), .val .null, .val .null, .val .null, .val .null, .val .null] [(.ref a1)]))
  refine Go.step (fun _ k => XS.aload X_27.here hx rfl (hb hby d_prog_32_method_1_code_50) rfl rfl k) ?_
  show Go p e below _ (T_27.setTop (mkF m 52 #[.val (.ref a1), .val (.long j1), .second, .val (.ref k1), .val (.ref c1), .val vi, .val (.ref qd), .val (.int (0 : Int32)), .val .null, .val .null, .val .null, .val .null, .val .null] [(.ref qd), (.ref a1)]))
  have f28 : Exa Z h_27 a1 "com/example/enact/enact/queue/QueueEntry" := (f25.wr W_27)
  have f29 : Fld Z h_27 a1 "com/example/enact/enact/queue/QueueEntry" "status" "Lcom/example/enact/enact/queue/QueueEntry$Status;" .null := (((((((F_status.ext E_10).ext E_12).ext E_14).other W_18 (Or.inr (sn_6 hw))).other W_21 (Or.inr (sn_7 hw))).other W_24 (Or.inr (sn_8 hw))).other W_27 (Or.inr (sn_9 hw)))
  obtain ⟨T_30, h_30, X_30, e_30, W_30, st_30⟩ := putF X_27 hx hZ_14 hown_14 (host := "") (Or.inl (wd_69 hw)) Via.refl e_27 f29 f28 (Or.inr ⟨(wd_70 hw), rfl, hnm⟩) (wd_39 hw) (ty := (.object "com/example/enact/enact/queue/QueueEntry$Status")) pf_4 rfl rfl (g := (mkF m 52 #[.val (.ref a1), .val (.long j1), .second, .val (.ref k1), .val (.ref c1), .val vi, .val (.ref qd), .val (.int (0 : Int32)), .val .null, .val .null, .val .null, .val .null, .val .null] [(.ref qd), (.ref a1)])) rfl rfl (hb hby d_prog_32_method_1_code_52)
  refine Go.step st_30 ?_
  have N_30 := Fr.snoc X_30 N_27 g_a1
  have C_30 := CHr.wr W_30 (Safe.exa hZ_14.alike f28 (by decide) (by decide)) C_27.1
  have CR_30 := CHr.trans CR_27 C_30
  have le_30 : h_27.size ≤ h_30.size := Nat.le_of_eq W_30.size.symm
  have KP_30 := KP_27.wr W_30 (Or.inl (List.mem_of_getElem? (i := 0) rfl))
  have O_30 := O_27.wr W_30 g_a1
  have F_30 : Fld Z h_30 a1 "com/example/enact/enact/queue/QueueEntry" "status" "Lcom/example/enact/enact/queue/QueueEntry$Status;" (.ref qd) := f29.same W_30
  show Go p e below _ (T_30.setTop (mkF m 55 #[.val (.ref a1), .val (.long j1), .second, .val (.ref k1), .val (.ref c1), .val vi, .val (.ref qd), .val (.int (0 : Int32)), .val .null, .val .null, .val .null, .val .null, .val .null] []))
  refine Go.step (fun _ k => XS.aloadN X_30.here hx rfl (hb hby d_prog_32_method_1_code_55) rfl rfl k) ?_
  show Go p e below _ (T_30.setTop (mkF m 56 #[.val (.ref a1), .val (.long j1), .second, .val (.ref k1), .val (.ref c1), .val vi, .val (.ref qd), .val (.int (0 : Int32)), .val .null, .val .null, .val .null, .val .null, .val .null] [(.ref a1)]))
  refine Go.step (fun _ k => XS.iload X_30.here hx rfl (hb hby d_prog_32_method_1_code_56) rfl  k) ?_
  show Go p e below _ (T_30.setTop (mkF m 58 #[.val (.ref a1), .val (.long j1), .second, .val (.ref k1), .val (.ref c1), .val vi, .val (.ref qd), .val (.int (0 : Int32)), .val .null, .val .null, .val .null, .val .null, .val .null] [(.int (0 : Int32)), (.ref a1)]))
  have f31 : Exa Z h_30 a1 "com/example/enact/enact/queue/QueueEntry" := (f28.wr W_30)
  have f32 : Fld Z h_30 a1 "com/example/enact/enact/queue/QueueEntry" "attempts" "I" (.int (0 : Int32)) := ((((((((F_attempts.ext E_10).ext E_12).ext E_14).other W_18 (Or.inr (sn_10 hw))).other W_21 (Or.inr (sn_11 hw))).other W_24 (Or.inr (sn_12 hw))).other W_27 (Or.inr (sn_13 hw))).other W_30 (Or.inr (sn_14 hw)))
  obtain ⟨T_33, h_33, X_33, e_33, W_33, st_33⟩ := putF X_30 hx hZ_14 hown_14 (host := "") (Or.inl (wd_71 hw)) Via.refl e_30 f32 f31 (Or.inr ⟨(wd_72 hw), rfl, hnm⟩) (wd_39 hw) (ty := .int) pf_5 rfl rfl (g := (mkF m 58 #[.val (.ref a1), .val (.long j1), .second, .val (.ref k1), .val (.ref c1), .val vi, .val (.ref qd), .val (.int (0 : Int32)), .val .null, .val .null, .val .null, .val .null, .val .null] [(.int (0 : Int32)), (.ref a1)])) rfl rfl (hb hby d_prog_32_method_1_code_58)
  refine Go.step st_33 ?_
  have N_33 := Fr.snoc X_33 N_30 g_a1
  have C_33 := CHr.wr W_33 (Safe.exa hZ_14.alike f31 (by decide) (by decide)) C_30.1
  have CR_33 := CHr.trans CR_30 C_33
  have le_33 : h_30.size ≤ h_33.size := Nat.le_of_eq W_33.size.symm
  have KP_33 := KP_30.wr W_33 (Or.inl (List.mem_of_getElem? (i := 0) rfl))
  have O_33 := O_30.wr W_33 g_a1
  have F_33 : Fld Z h_33 a1 "com/example/enact/enact/queue/QueueEntry" "attempts" "I" (.int (0 : Int32)) := f32.same W_33
  show Go p e below _ (T_33.setTop (mkF m 61 #[.val (.ref a1), .val (.long j1), .second, .val (.ref k1), .val (.ref c1), .val vi, .val (.ref qd), .val (.int (0 : Int32)), .val .null, .val .null, .val .null, .val .null, .val .null] []))
  refine Go.step (fun _ k => XS.aloadN X_33.here hx rfl (hb hby d_prog_32_method_1_code_61) rfl rfl k) ?_
  show Go p e below _ (T_33.setTop (mkF m 62 #[.val (.ref a1), .val (.long j1), .second, .val (.ref k1), .val (.ref c1), .val vi, .val (.ref qd), .val (.int (0 : Int32)), .val .null, .val .null, .val .null, .val .null, .val .null] [(.ref a1)]))
  refine Go.step (fun _ k => XS.aload X_33.here hx rfl (hb hby d_prog_32_method_1_code_62) rfl rfl k) ?_
  show Go p e below _ (T_33.setTop (mkF m 64 #[.val (.ref a1), .val (.long j1), .second, .val (.ref k1), .val (.ref c1), .val vi, .val (.ref qd), .val (.int (0 : Int32)), .val .null, .val .null, .val .null, .val .null, .val .null] [.null, (.ref a1)]))
  have f34 : Exa Z h_33 a1 "com/example/enact/enact/queue/QueueEntry" := (f31.wr W_33)
  have f35 : Fld Z h_33 a1 "com/example/enact/enact/queue/QueueEntry" "firstAttempt" "Ljava/time/Instant;" .null := (((((((((F_firstAttempt.ext E_10).ext E_12).ext E_14).other W_18 (Or.inr (sn_15 hw))).other W_21 (Or.inr (sn_16 hw))).other W_24 (Or.inr (sn_17 hw))).other W_27 (Or.inr (sn_18 hw))).other W_30 (Or.inr (sn_19 hw))).other W_33 (Or.inr (sn_20 hw)))
  obtain ⟨T_36, h_36, X_36, e_36, W_36, st_36⟩ := putF X_33 hx hZ_14 hown_14 (host := "") (Or.inl (wd_73 hw)) Via.refl e_33 f35 f34 (Or.inr ⟨(wd_74 hw), rfl, hnm⟩) (wd_39 hw) (ty := (.object "java/time/Instant")) pf_6 rfl rfl (g := (mkF m 64 #[.val (.ref a1), .val (.long j1), .second, .val (.ref k1), .val (.ref c1), .val vi, .val (.ref qd), .val (.int (0 : Int32)), .val .null, .val .null, .val .null, .val .null, .val .null] [.null, (.ref a1)])) rfl rfl (hb hby d_prog_32_method_1_code_64)
  refine Go.step st_36 ?_
  have N_36 := Fr.snoc X_36 N_33 g_a1
  have C_36 := CHr.wr W_36 (Safe.exa hZ_14.alike f34 (by decide) (by decide)) C_33.1
  have CR_36 := CHr.trans CR_33 C_36
  have le_36 : h_33.size ≤ h_36.size := Nat.le_of_eq W_36.size.symm
  have KP_36 := KP_33.wr W_36 (Or.inl (List.mem_of_getElem? (i := 0) rfl))
  have O_36 := O_33.wr W_36 g_a1
  have F_36 : Fld Z h_36 a1 "com/example/enact/enact/queue/QueueEntry" "firstAttempt" "Ljava/time/Instant;" .null := f35.same W_36
  show Go p e below _ (T_36.setTop (mkF m 67 #[.val (.ref a1), .val (.long j1), .second, .val (.ref k1), .val (.ref c1), .val vi, .val (.ref qd), .val (.int (0 : Int32)), .val .null, .val .null, .val .null, .val .null, .val .null] []))
  refine Go.step (fun _ k => XS.aloadN X_36.here hx rfl (hb hby d_prog_32_method_1_code_67) rfl rfl k) ?_
  show Go p e below _ (T_36.setTop (mkF m 68 #[.val (.ref a1), .val (.long j1), .second, .val (.ref k1), .val (.ref c1), .val vi, .val (.ref qd), .val (.int (0 : Int32)), .val .null, .val .null, .val .null, .val .null, .val .null] [(.ref a1)]))
  refine Go.step (fun _ k => XS.aload X_36.here hx rfl (hb hby d_prog_32_method_1_code_68) rfl rfl k) ?_
  show Go p e below _ (T_36.setTop (mkF m 70 #[.val (.ref a1), .val (.long j1), .second, .val (.ref k1), .val (.ref c1), .val vi, .val (.ref qd), .val (.int (0 : Int32)), .val .null, .val .null, .val .null, .val .null, .val .null] [.null, (.ref a1)]))
  have f37 : Exa Z h_36 a1 "com/example/enact/enact/queue/QueueEntry" := (f34.wr W_36)
  have f38 : Fld Z h_36 a1 "com/example/enact/enact/queue/QueueEntry" "ended" "Ljava/time/Instant;" .null := ((((((((((F_ended.ext E_10).ext E_12).ext E_14).other W_18 (Or.inr (sn_21 hw))).other W_21 (Or.inr (sn_22 hw))).other W_24 (Or.inr (sn_23 hw))).other W_27 (Or.inr (sn_24 hw))).other W_30 (Or.inr (sn_25 hw))).other W_33 (Or.inr (sn_26 hw))).other W_36 (Or.inr (sn_27 hw)))
  obtain ⟨T_39, h_39, X_39, e_39, W_39, st_39⟩ := putF X_36 hx hZ_14 hown_14 (host := "") (Or.inl (wd_75 hw)) Via.refl e_36 f38 f37 (Or.inr ⟨(wd_76 hw), rfl, hnm⟩) (wd_39 hw) (ty := (.object "java/time/Instant")) pf_6 rfl rfl (g := (mkF m 70 #[.val (.ref a1), .val (.long j1), .second, .val (.ref k1), .val (.ref c1), .val vi, .val (.ref qd), .val (.int (0 : Int32)), .val .null, .val .null, .val .null, .val .null, .val .null] [.null, (.ref a1)])) rfl rfl (hb hby d_prog_32_method_1_code_70)
  refine Go.step st_39 ?_
  have N_39 := Fr.snoc X_39 N_36 g_a1
  have C_39 := CHr.wr W_39 (Safe.exa hZ_14.alike f37 (by decide) (by decide)) C_36.1
  have CR_39 := CHr.trans CR_36 C_39
  have le_39 : h_36.size ≤ h_39.size := Nat.le_of_eq W_39.size.symm
  have KP_39 := KP_36.wr W_39 (Or.inl (List.mem_of_getElem? (i := 0) rfl))
  have O_39 := O_36.wr W_39 g_a1
  have F_39 : Fld Z h_39 a1 "com/example/enact/enact/queue/QueueEntry" "ended" "Ljava/time/Instant;" .null := f38.same W_39
  show Go p e below _ (T_39.setTop (mkF m 73 #[.val (.ref a1), .val (.long j1), .second, .val (.ref k1), .val (.ref c1), .val vi, .val (.ref qd), .val (.int (0 : Int32)), .val .null, .val .null, .val .null, .val .null, .val .null] []))
  refine Go.step (fun _ k => XS.aloadN X_39.here hx rfl (hb hby d_prog_32_method_1_code_73) rfl rfl k) ?_
  show Go p e below _ (T_39.setTop (mkF m 74 #[.val (.ref a1), .val (.long j1), .second, .val (.ref k1), .val (.ref c1), .val vi, .val (.ref qd), .val (.int (0 : Int32)), .val .null, .val .null, .val .null, .val .null, .val .null] [(.ref a1)]))
  refine Go.step (fun _ k => XS.aload X_39.here hx rfl (hb hby d_prog_32_method_1_code_74) rfl rfl k) ?_
  show Go p e below _ (T_39.setTop (mkF m 76 #[.val (.ref a1), .val (.long j1), .second, .val (.ref k1), .val (.ref c1), .val vi, .val (.ref qd), .val (.int (0 : Int32)), .val .null, .val .null, .val .null, .val .null, .val .null] [.null, (.ref a1)]))
  have f40 : Exa Z h_39 a1 "com/example/enact/enact/queue/QueueEntry" := (f37.wr W_39)
  have f41 : Fld Z h_39 a1 "com/example/enact/enact/queue/QueueEntry" "result" "Ljava/lang/String;" .null := (((((((((((F_result.ext E_10).ext E_12).ext E_14).other W_18 (Or.inr (sn_28 hw))).other W_21 (Or.inr (sn_29 hw))).other W_24 (Or.inr (sn_30 hw))).other W_27 (Or.inr (sn_31 hw))).other W_30 (Or.inr (sn_32 hw))).other W_33 (Or.inr (sn_33 hw))).other W_36 (Or.inr (sn_34 hw))).other W_39 (Or.inr (sn_35 hw)))
  obtain ⟨T_42, h_42, X_42, e_42, W_42, st_42⟩ := putF X_39 hx hZ_14 hown_14 (host := "") (Or.inl (wd_77 hw)) Via.refl e_39 f41 f40 (Or.inr ⟨(wd_78 hw), rfl, hnm⟩) (wd_39 hw) (ty := (.object "java/lang/String")) pf_3 rfl rfl (g := (mkF m 76 #[.val (.ref a1), .val (.long j1), .second, .val (.ref k1), .val (.ref c1), .val vi, .val (.ref qd), .val (.int (0 : Int32)), .val .null, .val .null, .val .null, .val .null, .val .null] [.null, (.ref a1)])) rfl rfl (hb hby d_prog_32_method_1_code_76)
  refine Go.step st_42 ?_
  have N_42 := Fr.snoc X_42 N_39 g_a1
  have C_42 := CHr.wr W_42 (Safe.exa hZ_14.alike f40 (by decide) (by decide)) C_39.1
  have CR_42 := CHr.trans CR_39 C_42
  have le_42 : h_39.size ≤ h_42.size := Nat.le_of_eq W_42.size.symm
  have KP_42 := KP_39.wr W_42 (Or.inl (List.mem_of_getElem? (i := 0) rfl))
  have O_42 := O_39.wr W_42 g_a1
  have F_42 : Fld Z h_42 a1 "com/example/enact/enact/queue/QueueEntry" "result" "Ljava/lang/String;" .null := f41.same W_42
  show Go p e below _ (T_42.setTop (mkF m 79 #[.val (.ref a1), .val (.long j1), .second, .val (.ref k1), .val (.ref c1), .val vi, .val (.ref qd), .val (.int (0 : Int32)), .val .null, .val .null, .val .null, .val .null, .val .null] []))
  refine Go.step (fun _ k => XS.aloadN X_42.here hx rfl (hb hby d_prog_32_method_1_code_79) rfl rfl k) ?_
  show Go p e below _ (T_42.setTop (mkF m 80 #[.val (.ref a1), .val (.long j1), .second, .val (.ref k1), .val (.ref c1), .val vi, .val (.ref qd), .val (.int (0 : Int32)), .val .null, .val .null, .val .null, .val .null, .val .null] [(.ref a1)]))
  refine Go.step (fun _ k => XS.aload X_42.here hx rfl (hb hby d_prog_32_method_1_code_80) rfl rfl k) ?_
  show Go p e below _ (T_42.setTop (mkF m 82 #[.val (.ref a1), .val (.long j1), .second, .val (.ref k1), .val (.ref c1), .val vi, .val (.ref qd), .val (.int (0 : Int32)), .val .null, .val .null, .val .null, .val .null, .val .null] [.null, (.ref a1)]))
  have f43 : Exa Z h_42 a1 "com/example/enact/enact/queue/QueueEntry" := (f40.wr W_42)
  have f44 : Fld Z h_42 a1 "com/example/enact/enact/queue/QueueEntry" "message" "Ljava/lang/String;" .null := ((((((((((((F_message.ext E_10).ext E_12).ext E_14).other W_18 (Or.inr (sn_36 hw))).other W_21 (Or.inr (sn_37 hw))).other W_24 (Or.inr (sn_38 hw))).other W_27 (Or.inr (sn_39 hw))).other W_30 (Or.inr (sn_40 hw))).other W_33 (Or.inr (sn_41 hw))).other W_36 (Or.inr (sn_42 hw))).other W_39 (Or.inr (sn_43 hw))).other W_42 (Or.inr (sn_44 hw)))
  obtain ⟨T_45, h_45, X_45, e_45, W_45, st_45⟩ := putF X_42 hx hZ_14 hown_14 (host := "") (Or.inl (wd_79 hw)) Via.refl e_42 f44 f43 (Or.inr ⟨(wd_80 hw), rfl, hnm⟩) (wd_39 hw) (ty := (.object "java/lang/String")) pf_3 rfl rfl (g := (mkF m 82 #[.val (.ref a1), .val (.long j1), .second, .val (.ref k1), .val (.ref c1), .val vi, .val (.ref qd), .val (.int (0 : Int32)), .val .null, .val .null, .val .null, .val .null, .val .null] [.null, (.ref a1)])) rfl rfl (hb hby d_prog_32_method_1_code_82)
  refine Go.step st_45 ?_
  have N_45 := Fr.snoc X_45 N_42 g_a1
  have C_45 := CHr.wr W_45 (Safe.exa hZ_14.alike f43 (by decide) (by decide)) C_42.1
  have CR_45 := CHr.trans CR_42 C_45
  have le_45 : h_42.size ≤ h_45.size := Nat.le_of_eq W_45.size.symm
  have KP_45 := KP_42.wr W_45 (Or.inl (List.mem_of_getElem? (i := 0) rfl))
  have O_45 := O_42.wr W_45 g_a1
  have F_45 : Fld Z h_45 a1 "com/example/enact/enact/queue/QueueEntry" "message" "Ljava/lang/String;" .null := f44.same W_45
  show Go p e below _ (T_45.setTop (mkF m 85 #[.val (.ref a1), .val (.long j1), .second, .val (.ref k1), .val (.ref c1), .val vi, .val (.ref qd), .val (.int (0 : Int32)), .val .null, .val .null, .val .null, .val .null, .val .null] []))
  refine Go.step (fun _ k => XS.aloadN X_45.here hx rfl (hb hby d_prog_32_method_1_code_85) rfl rfl k) ?_
  show Go p e below _ (T_45.setTop (mkF m 86 #[.val (.ref a1), .val (.long j1), .second, .val (.ref k1), .val (.ref c1), .val vi, .val (.ref qd), .val (.int (0 : Int32)), .val .null, .val .null, .val .null, .val .null, .val .null] [(.ref a1)]))
  refine Go.step (fun _ k => XS.aload X_45.here hx rfl (hb hby d_prog_32_method_1_code_86) rfl rfl k) ?_
  show Go p e below _ (T_45.setTop (mkF m 88 #[.val (.ref a1), .val (.long j1), .second, .val (.ref k1), .val (.ref c1), .val vi, .val (.ref qd), .val (.int (0 : Int32)), .val .null, .val .null, .val .null, .val .null, .val .null] [.null, (.ref a1)]))
  have f46 : Exa Z h_45 a1 "com/example/enact/enact/queue/QueueEntry" := (f43.wr W_45)
  have f47 : Fld Z h_45 a1 "com/example/enact/enact/queue/QueueEntry" "type" "Ljava/lang/String;" .null := (((((((((((((F_type.ext E_10).ext E_12).ext E_14).other W_18 (Or.inr (sn_45 hw))).other W_21 (Or.inr (sn_46 hw))).other W_24 (Or.inr (sn_47 hw))).other W_27 (Or.inr (sn_48 hw))).other W_30 (Or.inr (sn_49 hw))).other W_33 (Or.inr (sn_50 hw))).other W_36 (Or.inr (sn_51 hw))).other W_39 (Or.inr (sn_52 hw))).other W_42 (Or.inr (sn_53 hw))).other W_45 (Or.inr (sn_54 hw)))
  obtain ⟨T_48, h_48, X_48, e_48, W_48, st_48⟩ := putF X_45 hx hZ_14 hown_14 (host := "") (Or.inl (wd_81 hw)) Via.refl e_45 f47 f46 (Or.inr ⟨(wd_82 hw), rfl, hnm⟩) (wd_39 hw) (ty := (.object "java/lang/String")) pf_3 rfl rfl (g := (mkF m 88 #[.val (.ref a1), .val (.long j1), .second, .val (.ref k1), .val (.ref c1), .val vi, .val (.ref qd), .val (.int (0 : Int32)), .val .null, .val .null, .val .null, .val .null, .val .null] [.null, (.ref a1)])) rfl rfl (hb hby d_prog_32_method_1_code_88)
  refine Go.step st_48 ?_
  have N_48 := Fr.snoc X_48 N_45 g_a1
  have C_48 := CHr.wr W_48 (Safe.exa hZ_14.alike f46 (by decide) (by decide)) C_45.1
  have CR_48 := CHr.trans CR_45 C_48
  have le_48 : h_45.size ≤ h_48.size := Nat.le_of_eq W_48.size.symm
  have KP_48 := KP_45.wr W_48 (Or.inl (List.mem_of_getElem? (i := 0) rfl))
  have O_48 := O_45.wr W_48 g_a1
  have F_48 : Fld Z h_48 a1 "com/example/enact/enact/queue/QueueEntry" "type" "Ljava/lang/String;" .null := f47.same W_48
  show Go p e below _ (T_48.setTop (mkF m 91 #[.val (.ref a1), .val (.long j1), .second, .val (.ref k1), .val (.ref c1), .val vi, .val (.ref qd), .val (.int (0 : Int32)), .val .null, .val .null, .val .null, .val .null, .val .null] []))
  have f49 : Fld Z h_48 a1 "com/example/enact/enact/queue/QueueEntry" "id" "J" (.long j1) := ((((((((((F_18.other W_21 (Or.inr (sn_55 hw))).other W_24 (Or.inr (sn_56 hw))).other W_27 (Or.inr (sn_57 hw))).other W_30 (Or.inr (sn_58 hw))).other W_33 (Or.inr (sn_59 hw))).other W_36 (Or.inr (sn_60 hw))).other W_39 (Or.inr (sn_61 hw))).other W_42 (Or.inr (sn_62 hw))).other W_45 (Or.inr (sn_63 hw))).other W_48 (Or.inr (sn_64 hw)))
  have f50 : Fld Z h_48 a1 "com/example/enact/enact/queue/QueueEntry" "key" "Ljava/lang/String;" (.ref k1) := (((((((((F_21.other W_24 (Or.inr (sn_65 hw))).other W_27 (Or.inr (sn_66 hw))).other W_30 (Or.inr (sn_67 hw))).other W_33 (Or.inr (sn_68 hw))).other W_36 (Or.inr (sn_69 hw))).other W_39 (Or.inr (sn_70 hw))).other W_42 (Or.inr (sn_71 hw))).other W_45 (Or.inr (sn_72 hw))).other W_48 (Or.inr (sn_73 hw)))
  have f51 : Fld Z h_48 a1 "com/example/enact/enact/queue/QueueEntry" "command" "Ljava/lang/String;" (.ref c1) := ((((((((F_24.other W_27 (Or.inr (sn_74 hw))).other W_30 (Or.inr (sn_75 hw))).other W_33 (Or.inr (sn_76 hw))).other W_36 (Or.inr (sn_77 hw))).other W_39 (Or.inr (sn_78 hw))).other W_42 (Or.inr (sn_79 hw))).other W_45 (Or.inr (sn_80 hw))).other W_48 (Or.inr (sn_81 hw)))
  have f52 : Fld Z h_48 a1 "com/example/enact/enact/queue/QueueEntry" "input" "Ljava/lang/String;" vi := (((((((F_27.other W_30 (Or.inr (sn_82 hw))).other W_33 (Or.inr (sn_83 hw))).other W_36 (Or.inr (sn_84 hw))).other W_39 (Or.inr (sn_85 hw))).other W_42 (Or.inr (sn_86 hw))).other W_45 (Or.inr (sn_87 hw))).other W_48 (Or.inr (sn_88 hw)))
  have f53 : Fld Z h_48 a1 "com/example/enact/enact/queue/QueueEntry" "status" "Lcom/example/enact/enact/queue/QueueEntry$Status;" (.ref qd) := ((((((F_30.other W_33 (Or.inr (sn_89 hw))).other W_36 (Or.inr (sn_90 hw))).other W_39 (Or.inr (sn_91 hw))).other W_42 (Or.inr (sn_92 hw))).other W_45 (Or.inr (sn_93 hw))).other W_48 (Or.inr (sn_94 hw)))
  have f54 : Fld Z h_48 a1 "com/example/enact/enact/queue/QueueEntry" "attempts" "I" (.int (0 : Int32)) := (((((F_33.other W_36 (Or.inr (sn_95 hw))).other W_39 (Or.inr (sn_96 hw))).other W_42 (Or.inr (sn_97 hw))).other W_45 (Or.inr (sn_98 hw))).other W_48 (Or.inr (sn_99 hw)))
  have f55 : Fld Z h_48 a1 "com/example/enact/enact/queue/QueueEntry" "firstAttempt" "Ljava/time/Instant;" .null := ((((F_36.other W_39 (Or.inr (sn_100 hw))).other W_42 (Or.inr (sn_101 hw))).other W_45 (Or.inr (sn_102 hw))).other W_48 (Or.inr (sn_103 hw)))
  have f56 : Fld Z h_48 a1 "com/example/enact/enact/queue/QueueEntry" "ended" "Ljava/time/Instant;" .null := (((F_39.other W_42 (Or.inr (sn_104 hw))).other W_45 (Or.inr (sn_105 hw))).other W_48 (Or.inr (sn_106 hw)))
  have f57 : Fld Z h_48 a1 "com/example/enact/enact/queue/QueueEntry" "result" "Ljava/lang/String;" .null := ((F_42.other W_45 (Or.inr (sn_107 hw))).other W_48 (Or.inr (sn_108 hw)))
  have f58 : Fld Z h_48 a1 "com/example/enact/enact/queue/QueueEntry" "message" "Ljava/lang/String;" .null := (F_45.other W_48 (Or.inr (sn_109 hw)))
  exact Go.ret0W X_48 e_48 hS_14 (Nat.le_trans hk_14 (Nat.le_trans le_18 (Nat.le_trans le_21 (Nat.le_trans le_24 (Nat.le_trans le_27 (Nat.le_trans le_30 (Nat.le_trans le_33 (Nat.le_trans le_36 (Nat.le_trans le_39 (Nat.le_trans le_42 (Nat.le_trans le_45 le_48))))))))))) hZ_14 hEL hh0 CR_48 hx hlk hret (hb hby d_prog_32_method_1_code_91) (by decide) (by decide) (by rw [e_48]; exact ⟨rfl, N_48, KP_48, f49, f50, f51, f52, f53, f54, f55, f56, f57, f58, F_48⟩)
def Q_queued (Z : State) (zc : Int32) (qd : Addr) (j1 : Int64) (k1 : Addr) (c1 : Addr) (vi : Value) (h0 : Heap) (n0 : Nat) (v : Option Value) (h : Heap) (L : List Loc) : Prop := ∃ (r : Addr), v = some (.ref r) ∧ Fr n0 L ∧ Keep h0 h [] ∧ h0.size ≤ r ∧ Exa Z h r "com/example/enact/enact/queue/QueueEntry" ∧ Fld Z h r "com/example/enact/enact/queue/QueueEntry" "id" "J" (.long j1) ∧ Fld Z h r "com/example/enact/enact/queue/QueueEntry" "key" "Ljava/lang/String;" (.ref k1) ∧ Fld Z h r "com/example/enact/enact/queue/QueueEntry" "command" "Ljava/lang/String;" (.ref c1) ∧ Fld Z h r "com/example/enact/enact/queue/QueueEntry" "input" "Ljava/lang/String;" vi ∧ Fld Z h r "com/example/enact/enact/queue/QueueEntry" "status" "Lcom/example/enact/enact/queue/QueueEntry$Status;" (.ref qd) ∧ Fld Z h r "com/example/enact/enact/queue/QueueEntry" "attempts" "I" (.int (0 : Int32)) ∧ Fld Z h r "com/example/enact/enact/queue/QueueEntry" "firstAttempt" "Ljava/time/Instant;" .null ∧ Fld Z h r "com/example/enact/enact/queue/QueueEntry" "ended" "Ljava/time/Instant;" .null ∧ Fld Z h r "com/example/enact/enact/queue/QueueEntry" "result" "Ljava/lang/String;" .null ∧ Fld Z h r "com/example/enact/enact/queue/QueueEntry" "message" "Ljava/lang/String;" .null ∧ Fld Z h r "com/example/enact/enact/queue/QueueEntry" "type" "Ljava/lang/String;" .null
set_option maxRecDepth 65536 in
set_option maxHeartbeats 40000000 in
theorem rm_queued (l : Launch) (Z : State) (a0 : Array Value) (hw : ∀ d ∈ tables_1, d.before a0 Z = true) (zc : Int32) (qd : Addr) (j1 : Int64) (k1 : Addr) (c1 : Addr) (vi : Value) (h0 : Heap) (n0 : Nat) (Z0 : n0 ≤ h0.size) (h_vi : vi.isRef = true) (hSt : St Z zc qd) (hO : Old Z n0 h0) :
    CW l Z EL ({ cls := "com/example/enact/enact/queue/QueueEntry", name := "queued", desc := "(JLjava/lang/String;Ljava/lang/String;Ljava/lang/String;)Lcom/example/enact/enact/queue/QueueEntry;" } : Jvm.MethodName) [(Jvm.Cond.code ({ cls := "com/example/enact/enact/queue/QueueEntry", name := "queued", desc := "(JLjava/lang/String;Ljava/lang/String;Ljava/lang/String;)Lcom/example/enact/enact/queue/QueueEntry;" } : Jvm.MethodName) prog_32_method_2_code (5 : Nat) (Option.some (Jvm.ClassFile.FieldType.object "com/example/enact/enact/queue/QueueEntry")))] ({ frames := 3, cells := 7, slots := 87, locals := 49 } : Room) #[(.long j1), (.ref k1), (.ref c1), vi] h0 (Q_queued Z zc qd j1 k1 c1 vi h0 n0) := by
  refine CW.of (L0 := #[.val (.long j1), .second, .val (.ref k1), .val (.ref c1), .val vi]) (plainFor_of_name pn_3) (fun m => by rcases ref_cases h_vi with rfl | ⟨_, rfl⟩ <;> first | (simp [entryFrame, mkF, argsToLocals, Value.category]; done) | rfl) ?_
  intro p e s m below meth c s₁ hx hby hml hret hlk hZ hown hnm X0 e0 hS0 hk0 CV0 hh0
  have hEL := hEL_ (a0 := a0) hw
  have hwS := hwS_ hw
  have N0 := Fr.nil n0
  have KP0 := Keep.refl h0 []
  have hSt_ := hSt
  obtain ⟨S_cs, n_cs, S_qd⟩ := hSt_
  show Go p e below _ (s₁.setTop (mkF m 0 #[.val (.long j1), .second, .val (.ref k1), .val (.ref c1), .val vi] []))
  obtain ⟨T_59, h_59, X_59, e_59, E_59, A_59, D_59, -, st_59⟩ := newO X0 hx hZ hown (wd_38 hw) (wd_39 hw) (wd_36 hw) e0 (g := (mkF m 0 #[.val (.long j1), .second, .val (.ref k1), .val (.ref c1), .val vi] [])) rfl (hb hby d_prog_32_method_2_code_0) (by decide) (by decide)
  obtain ⟨b59, q_59⟩ : ∃ z, z = h0.size := ⟨_, rfl⟩
  rw [← q_59] at A_59 D_59 st_59
  refine Go.step st_59 ?_
  have C_59 := CHr.ext E_59 CV0
  have CR_59 := CHr.trans (CHr.refl CV0) C_59
  have le_59 : h0.size ≤ h_59.size := E_59.1
  have KP_59 := KP0.ext E_59
  have O_59 := hO.ext E_59
  have ge_59 : h0.size ≤ b59 := Nat.le_of_eq q_59.symm
  have sz_b59 : h0.size ≤ b59 := Nat.le_trans (Nat.le_refl _) ge_59
  have g_b59 : n0 ≤ b59 := Nat.le_trans Z0 sz_b59
  have F_59_62 : Fld Z h_59 b59 "com/example/enact/enact/queue/QueueEntry" "id" "J" (.long (0 : Int64)) := D_59 (Or.inr (wd_62 hw)) (ty := .long) pf_2
  have F_59_64 : Fld Z h_59 b59 "com/example/enact/enact/queue/QueueEntry" "key" "Ljava/lang/String;" .null := D_59 (Or.inr (wd_64 hw)) (ty := (.object "java/lang/String")) pf_3
  have F_59_66 : Fld Z h_59 b59 "com/example/enact/enact/queue/QueueEntry" "command" "Ljava/lang/String;" .null := D_59 (Or.inr (wd_66 hw)) (ty := (.object "java/lang/String")) pf_3
  have F_59_68 : Fld Z h_59 b59 "com/example/enact/enact/queue/QueueEntry" "input" "Ljava/lang/String;" .null := D_59 (Or.inr (wd_68 hw)) (ty := (.object "java/lang/String")) pf_3
  have F_59_70 : Fld Z h_59 b59 "com/example/enact/enact/queue/QueueEntry" "status" "Lcom/example/enact/enact/queue/QueueEntry$Status;" .null := D_59 (Or.inr (wd_70 hw)) (ty := (.object "com/example/enact/enact/queue/QueueEntry$Status")) pf_4
  have F_59_72 : Fld Z h_59 b59 "com/example/enact/enact/queue/QueueEntry" "attempts" "I" (.int (0 : Int32)) := D_59 (Or.inr (wd_72 hw)) (ty := .int) pf_5
  have F_59_74 : Fld Z h_59 b59 "com/example/enact/enact/queue/QueueEntry" "firstAttempt" "Ljava/time/Instant;" .null := D_59 (Or.inr (wd_74 hw)) (ty := (.object "java/time/Instant")) pf_6
  have F_59_76 : Fld Z h_59 b59 "com/example/enact/enact/queue/QueueEntry" "ended" "Ljava/time/Instant;" .null := D_59 (Or.inr (wd_76 hw)) (ty := (.object "java/time/Instant")) pf_6
  have F_59_78 : Fld Z h_59 b59 "com/example/enact/enact/queue/QueueEntry" "result" "Ljava/lang/String;" .null := D_59 (Or.inr (wd_78 hw)) (ty := (.object "java/lang/String")) pf_3
  have F_59_80 : Fld Z h_59 b59 "com/example/enact/enact/queue/QueueEntry" "message" "Ljava/lang/String;" .null := D_59 (Or.inr (wd_80 hw)) (ty := (.object "java/lang/String")) pf_3
  have F_59_82 : Fld Z h_59 b59 "com/example/enact/enact/queue/QueueEntry" "type" "Ljava/lang/String;" .null := D_59 (Or.inr (wd_82 hw)) (ty := (.object "java/lang/String")) pf_3
  have Sf_b59 := Safe.ext E_59 CV0 (Safe.new ge_59)
  show Go p e below _ (T_59.setTop (mkF m 3 #[.val (.long j1), .second, .val (.ref k1), .val (.ref c1), .val vi] [(.ref b59)]))
  refine Go.step (fun _ k => XS.dup X_59.here hx rfl (hb hby d_prog_32_method_2_code_3) rfl rfl k) ?_
  show Go p e below _ (T_59.setTop (mkF m 4 #[.val (.long j1), .second, .val (.ref k1), .val (.ref c1), .val vi] [(.ref b59), (.ref b59)]))
  refine Go.step (fun _ k => XS.lloadN X_59.here hx rfl (hb hby d_prog_32_method_2_code_4) rfl  k) ?_
  show Go p e below _ (T_59.setTop (mkF m 5 #[.val (.long j1), .second, .val (.ref k1), .val (.ref c1), .val vi] [(.long j1), (.ref b59), (.ref b59)]))
  refine Go.step (fun _ k => XS.aloadN X_59.here hx rfl (hb hby d_prog_32_method_2_code_5) rfl rfl k) ?_
  show Go p e below _ (T_59.setTop (mkF m 6 #[.val (.long j1), .second, .val (.ref k1), .val (.ref c1), .val vi] [(.ref k1), (.long j1), (.ref b59), (.ref b59)]))
  refine Go.step (fun _ k => XS.aloadN X_59.here hx rfl (hb hby d_prog_32_method_2_code_6) rfl rfl k) ?_
  show Go p e below _ (T_59.setTop (mkF m 7 #[.val (.long j1), .second, .val (.ref k1), .val (.ref c1), .val vi] [(.ref c1), (.ref k1), (.long j1), (.ref b59), (.ref b59)]))
  refine Go.step (fun _ k => XS.aload X_59.here hx rfl (hb hby d_prog_32_method_2_code_7) rfl h_vi k) ?_
  show Go p e below _ (T_59.setTop (mkF m 9 #[.val (.long j1), .second, .val (.ref k1), .val (.ref c1), .val vi] [vi, (.ref c1), (.ref k1), (.long j1), (.ref b59), (.ref b59)]))
  obtain ⟨T_60, X_60, e_60, st_60⟩ := getS2 X_59 hx hZ hown (host := "") (Or.inl (wd_40 hw)) Via.refl e_59 (S_qd.ext O_59.2) (g := (mkF m 9 #[.val (.long j1), .second, .val (.ref k1), .val (.ref c1), .val vi] [vi, (.ref c1), (.ref k1), (.long j1), (.ref b59), (.ref b59)])) rfl (hb hby d_prog_32_method_2_code_9)
  refine Go.step st_60 ?_
  show Go p e below _ (T_60.setTop (mkF m 12 #[.val (.long j1), .second, .val (.ref k1), .val (.ref c1), .val vi] [(.ref qd), vi, (.ref c1), (.ref k1), (.long j1), (.ref b59), (.ref b59)]))
  refine Go.step (fun _ k => XS.iconst X_60.here hx rfl (hb hby d_prog_32_method_2_code_12) k) ?_
  show Go p e below _ (T_60.setTop (mkF m 13 #[.val (.long j1), .second, .val (.ref k1), .val (.ref c1), .val vi] [(.int (0 : Int32)), (.ref qd), vi, (.ref c1), (.ref k1), (.long j1), (.ref b59), (.ref b59)]))
  refine Go.step (fun _ k => XS.aconstNull X_60.here hx rfl (hb hby d_prog_32_method_2_code_13) k) ?_
  show Go p e below _ (T_60.setTop (mkF m 14 #[.val (.long j1), .second, .val (.ref k1), .val (.ref c1), .val vi] [.null, (.int (0 : Int32)), (.ref qd), vi, (.ref c1), (.ref k1), (.long j1), (.ref b59), (.ref b59)]))
  refine Go.step (fun _ k => XS.aconstNull X_60.here hx rfl (hb hby d_prog_32_method_2_code_14) k) ?_
  show Go p e below _ (T_60.setTop (mkF m 15 #[.val (.long j1), .second, .val (.ref k1), .val (.ref c1), .val vi] [.null, .null, (.int (0 : Int32)), (.ref qd), vi, (.ref c1), (.ref k1), (.long j1), (.ref b59), (.ref b59)]))
  refine Go.step (fun _ k => XS.aconstNull X_60.here hx rfl (hb hby d_prog_32_method_2_code_15) k) ?_
  show Go p e below _ (T_60.setTop (mkF m 16 #[.val (.long j1), .second, .val (.ref k1), .val (.ref c1), .val vi] [.null, .null, .null, (.int (0 : Int32)), (.ref qd), vi, (.ref c1), (.ref k1), (.long j1), (.ref b59), (.ref b59)]))
  refine Go.step (fun _ k => XS.aconstNull X_60.here hx rfl (hb hby d_prog_32_method_2_code_16) k) ?_
  show Go p e below _ (T_60.setTop (mkF m 17 #[.val (.long j1), .second, .val (.ref k1), .val (.ref c1), .val vi] [.null, .null, .null, .null, (.int (0 : Int32)), (.ref qd), vi, (.ref c1), (.ref k1), (.long j1), (.ref b59), (.ref b59)]))
  refine Go.step (fun _ k => XS.aconstNull X_60.here hx rfl (hb hby d_prog_32_method_2_code_17) k) ?_
  show Go p e below _ (T_60.setTop (mkF m 18 #[.val (.long j1), .second, .val (.ref k1), .val (.ref c1), .val vi] [.null, .null, .null, .null, .null, (.int (0 : Int32)), (.ref qd), vi, (.ref c1), (.ref k1), (.long j1), (.ref b59), (.ref b59)]))
  obtain ⟨v_61, T_61, L_61, X_61, hQ_61, hS_61, hZ_61, hown_61, C_61, st_61⟩ := goCW X_60 hx hZ (y := ({ cls := "com/example/enact/enact/queue/QueueEntry", name := "<init>", desc := "(JLjava/lang/String;Ljava/lang/String;Ljava/lang/String;Lcom/example/enact/enact/queue/QueueEntry$Status;ILjava/time/Instant;Ljava/time/Instant;Ljava/lang/String;Ljava/lang/String;Ljava/lang/String;)V" } : Jvm.MethodName)) hown hS0 (Nat.le_trans hk0 le_59) rfl (wd_43 hw) (wd_44 hw) (wd_45 hw) (by decide) (backOfSH (W := 1) (rm_initQ l Z a0 hw zc (qd) (b59) (j1) (k1) (c1) (vi) h_59 n0 (Nat.le_trans Z0 KP_59.1) h_vi A_59 g_b59 F_59_62 F_59_64 F_59_66 F_59_68 F_59_70 F_59_72 F_59_74 F_59_76 F_59_78 F_59_80 F_59_82 hSt O_59) hZ (wd_45 hw) (wd_36 hw) (by decide) (by decide) hEL C_59.1) e_60 (g := (mkF m 18 #[.val (.long j1), .second, .val (.ref k1), .val (.ref c1), .val vi] [.null, .null, .null, .null, .null, (.int (0 : Int32)), (.ref qd), vi, (.ref c1), (.ref k1), (.long j1), (.ref b59), (.ref b59)])) rfl (by rw [hml]; rfl) (a := b59) (argsL := [(.long j1), (.ref k1), (.ref c1), vi, (.ref qd), (.int (0 : Int32)), .null, .null, .null, .null, .null]) (rest := [(.ref b59)]) rfl (lenOf pd_3 rfl) rfl (by show 2 * 0 + _ ≤ _; exact Nat.le_of_eq rfl) (hb hby d_prog_32_method_2_code_18) (by decide) (by decide)
  obtain ⟨rfl, Nq_61, K_61, u0_61, u1_61, u2_61, u3_61, u4_61, u5_61, u6_61, u7_61, u8_61, u9_61, u10_61⟩ := hQ_61
  have N_61 := Fr.app N0 Nq_61
  have CR_61 := CHr.trans CR_59 C_61
  have le_61 : h_59.size ≤ T_61.heap.size := K_61.1
  have KP_61 := KP_59.trans K_61 (allS (Or.inr sz_b59) all0)
  have O_61 := O_59.keep K_61 (allS g_b59 all0)
  refine Go.step st_61 ?_
  show Go p e below _ (T_61.setTop (mkF m 21 #[.val (.long j1), .second, .val (.ref k1), .val (.ref c1), .val vi] [(.ref b59)]))
  have f62 : Exa Z T_61.heap b59 "com/example/enact/enact/queue/QueueEntry" := (A_59.keep K_61)
  exact Go.retVW X_61 rfl hS_61 (Nat.le_refl _) hZ_61 hEL hh0 CR_61 hx hlk hret rfl (Or.inr (Or.inr (Or.inr (Or.inr ⟨rfl, rfl, rfl⟩)))) (hb hby d_prog_32_method_2_code_21) (by decide) (by decide) (by exact ⟨b59, rfl, N_61, KP_61, sz_b59, f62, u0_61, u1_61, u2_61, u3_61, u4_61, u5_61, u6_61, u7_61, u8_61, u9_61, u10_61⟩)
def Q_get_id (Z : State) (zc : Int32) (qd : Addr) (a1 : Addr) (j1 : Int64) (h0 : Heap) (n0 : Nat) (v : Option Value) (h : Heap) (L : List Loc) : Prop := v = some (.long j1) ∧ Fr n0 L ∧ h = h0
set_option maxRecDepth 65536 in
set_option maxHeartbeats 40000000 in
theorem rm_get_id (l : Launch) (Z : State) (a0 : Array Value) (hw : ∀ d ∈ tables_1, d.before a0 Z = true) (zc : Int32) (qd : Addr) (a1 : Addr) (j1 : Int64) (h0 : Heap) (n0 : Nat) (Z0 : n0 ≤ h0.size) (F_a1 : Fld Z h0 a1 "com/example/enact/enact/queue/QueueEntry" "id" "J" (.long j1)) (hSt : St Z zc qd) (hO : Old Z n0 h0) :
    CN l Z ({ cls := "com/example/enact/enact/queue/QueueEntry", name := "id", desc := "()J" } : Jvm.MethodName) [(Jvm.Cond.code ({ cls := "com/example/enact/enact/queue/QueueEntry", name := "id", desc := "()J" } : Jvm.MethodName) prog_32_method_10_code (1 : Nat) (Option.some Jvm.ClassFile.FieldType.long))] ({ frames := 0, cells := 0, slots := 0, locals := 0 } : Room) #[(.ref a1)] h0 (Q_get_id Z zc qd a1 j1 h0 n0) := by
  refine CN.of (L0 := #[.val (.ref a1)]) (plainFor_of_name pn_3) (fun m => by first | (simp [entryFrame, mkF, argsToLocals, Value.category]; done) | rfl) ?_
  intro p e s m below meth c s₁ hx hby hml hret hlk hZ hown hnm X0 e0
  have N0 := Fr.nil n0
  have KP0 := Keep.refl h0 []
  have hSt_ := hSt
  obtain ⟨S_cs, n_cs, S_qd⟩ := hSt_
  show Go p e below _ (s₁.setTop (mkF m 0 #[.val (.ref a1)] []))
  refine Go.step (fun _ k => XS.aloadN X0.here hx rfl (hb hby d_prog_32_method_10_code_0) rfl rfl k) ?_
  show Go p e below _ (s₁.setTop (mkF m 1 #[.val (.ref a1)] [(.ref a1)]))
  obtain ⟨T_63, X_63, e_63, st_63⟩ := getF X0 hx hZ hown (host := "") (Or.inl (wd_61 hw)) Via.refl e0 F_a1 (g := (mkF m 1 #[.val (.ref a1)] [(.ref a1)])) rfl rfl (hb hby d_prog_32_method_10_code_1)
  refine Go.step st_63 ?_
  show Go p e below _ (T_63.setTop (mkF m 4 #[.val (.ref a1)] [(.long j1)]))
  exact Go.retV X_63 hx hlk hret rfl (Or.inr (Or.inl ⟨rfl, rfl, _, rfl⟩)) (hb hby d_prog_32_method_10_code_4) (by decide) (by decide) (by rw [e_63]; exact ⟨rfl, N0, rfl⟩)
def Q_get_key (Z : State) (zc : Int32) (qd : Addr) (a1 : Addr) (k1 : Addr) (h0 : Heap) (n0 : Nat) (v : Option Value) (h : Heap) (L : List Loc) : Prop := v = some (.ref k1) ∧ Fr n0 L ∧ h = h0
set_option maxRecDepth 65536 in
set_option maxHeartbeats 40000000 in
theorem rm_get_key (l : Launch) (Z : State) (a0 : Array Value) (hw : ∀ d ∈ tables_1, d.before a0 Z = true) (zc : Int32) (qd : Addr) (a1 : Addr) (k1 : Addr) (h0 : Heap) (n0 : Nat) (Z0 : n0 ≤ h0.size) (F_a1 : Fld Z h0 a1 "com/example/enact/enact/queue/QueueEntry" "key" "Ljava/lang/String;" (.ref k1)) (hSt : St Z zc qd) (hO : Old Z n0 h0) :
    CN l Z ({ cls := "com/example/enact/enact/queue/QueueEntry", name := "key", desc := "()Ljava/lang/String;" } : Jvm.MethodName) [(Jvm.Cond.code ({ cls := "com/example/enact/enact/queue/QueueEntry", name := "key", desc := "()Ljava/lang/String;" } : Jvm.MethodName) prog_32_method_11_code (1 : Nat) (Option.some (Jvm.ClassFile.FieldType.object "java/lang/String")))] ({ frames := 0, cells := 0, slots := 0, locals := 0 } : Room) #[(.ref a1)] h0 (Q_get_key Z zc qd a1 k1 h0 n0) := by
  refine CN.of (L0 := #[.val (.ref a1)]) (plainFor_of_name pn_3) (fun m => by first | (simp [entryFrame, mkF, argsToLocals, Value.category]; done) | rfl) ?_
  intro p e s m below meth c s₁ hx hby hml hret hlk hZ hown hnm X0 e0
  have N0 := Fr.nil n0
  have KP0 := Keep.refl h0 []
  have hSt_ := hSt
  obtain ⟨S_cs, n_cs, S_qd⟩ := hSt_
  show Go p e below _ (s₁.setTop (mkF m 0 #[.val (.ref a1)] []))
  refine Go.step (fun _ k => XS.aloadN X0.here hx rfl (hb hby d_prog_32_method_11_code_0) rfl rfl k) ?_
  show Go p e below _ (s₁.setTop (mkF m 1 #[.val (.ref a1)] [(.ref a1)]))
  obtain ⟨T_64, X_64, e_64, st_64⟩ := getF X0 hx hZ hown (host := "") (Or.inl (wd_63 hw)) Via.refl e0 F_a1 (g := (mkF m 1 #[.val (.ref a1)] [(.ref a1)])) rfl rfl (hb hby d_prog_32_method_11_code_1)
  refine Go.step st_64 ?_
  show Go p e below _ (T_64.setTop (mkF m 4 #[.val (.ref a1)] [(.ref k1)]))
  exact Go.retV X_64 hx hlk hret rfl (Or.inr (Or.inr (Or.inr (Or.inr ⟨rfl, rfl, rfl⟩)))) (hb hby d_prog_32_method_11_code_4) (by decide) (by decide) (by rw [e_64]; exact ⟨rfl, N0, rfl⟩)
def Q_get_command (Z : State) (zc : Int32) (qd : Addr) (a1 : Addr) (c1 : Addr) (h0 : Heap) (n0 : Nat) (v : Option Value) (h : Heap) (L : List Loc) : Prop := v = some (.ref c1) ∧ Fr n0 L ∧ h = h0
set_option maxRecDepth 65536 in
set_option maxHeartbeats 40000000 in
theorem rm_get_command (l : Launch) (Z : State) (a0 : Array Value) (hw : ∀ d ∈ tables_1, d.before a0 Z = true) (zc : Int32) (qd : Addr) (a1 : Addr) (c1 : Addr) (h0 : Heap) (n0 : Nat) (Z0 : n0 ≤ h0.size) (F_a1 : Fld Z h0 a1 "com/example/enact/enact/queue/QueueEntry" "command" "Ljava/lang/String;" (.ref c1)) (hSt : St Z zc qd) (hO : Old Z n0 h0) :
    CN l Z ({ cls := "com/example/enact/enact/queue/QueueEntry", name := "command", desc := "()Ljava/lang/String;" } : Jvm.MethodName) [(Jvm.Cond.code ({ cls := "com/example/enact/enact/queue/QueueEntry", name := "command", desc := "()Ljava/lang/String;" } : Jvm.MethodName) prog_32_method_12_code (1 : Nat) (Option.some (Jvm.ClassFile.FieldType.object "java/lang/String")))] ({ frames := 0, cells := 0, slots := 0, locals := 0 } : Room) #[(.ref a1)] h0 (Q_get_command Z zc qd a1 c1 h0 n0) := by
  refine CN.of (L0 := #[.val (.ref a1)]) (plainFor_of_name pn_3) (fun m => by first | (simp [entryFrame, mkF, argsToLocals, Value.category]; done) | rfl) ?_
  intro p e s m below meth c s₁ hx hby hml hret hlk hZ hown hnm X0 e0
  have N0 := Fr.nil n0
  have KP0 := Keep.refl h0 []
  have hSt_ := hSt
  obtain ⟨S_cs, n_cs, S_qd⟩ := hSt_
  show Go p e below _ (s₁.setTop (mkF m 0 #[.val (.ref a1)] []))
  refine Go.step (fun _ k => XS.aloadN X0.here hx rfl (hb hby d_prog_32_method_12_code_0) rfl rfl k) ?_
  show Go p e below _ (s₁.setTop (mkF m 1 #[.val (.ref a1)] [(.ref a1)]))
  obtain ⟨T_65, X_65, e_65, st_65⟩ := getF X0 hx hZ hown (host := "") (Or.inl (wd_65 hw)) Via.refl e0 F_a1 (g := (mkF m 1 #[.val (.ref a1)] [(.ref a1)])) rfl rfl (hb hby d_prog_32_method_12_code_1)
  refine Go.step st_65 ?_
  show Go p e below _ (T_65.setTop (mkF m 4 #[.val (.ref a1)] [(.ref c1)]))
  exact Go.retV X_65 hx hlk hret rfl (Or.inr (Or.inr (Or.inr (Or.inr ⟨rfl, rfl, rfl⟩)))) (hb hby d_prog_32_method_12_code_4) (by decide) (by decide) (by rw [e_65]; exact ⟨rfl, N0, rfl⟩)
def Q_get_input (Z : State) (zc : Int32) (qd : Addr) (a1 : Addr) (vi : Value) (h0 : Heap) (n0 : Nat) (v : Option Value) (h : Heap) (L : List Loc) : Prop := v = some vi ∧ Fr n0 L ∧ h = h0
set_option maxRecDepth 65536 in
set_option maxHeartbeats 40000000 in
theorem rm_get_input (l : Launch) (Z : State) (a0 : Array Value) (hw : ∀ d ∈ tables_1, d.before a0 Z = true) (zc : Int32) (qd : Addr) (a1 : Addr) (vi : Value) (h0 : Heap) (n0 : Nat) (Z0 : n0 ≤ h0.size) (F_a1 : Fld Z h0 a1 "com/example/enact/enact/queue/QueueEntry" "input" "Ljava/lang/String;" vi) (h_vi : vi.isRef = true) (hSt : St Z zc qd) (hO : Old Z n0 h0) :
    CN l Z ({ cls := "com/example/enact/enact/queue/QueueEntry", name := "input", desc := "()Ljava/lang/String;" } : Jvm.MethodName) [(Jvm.Cond.code ({ cls := "com/example/enact/enact/queue/QueueEntry", name := "input", desc := "()Ljava/lang/String;" } : Jvm.MethodName) prog_32_method_13_code (1 : Nat) (Option.some (Jvm.ClassFile.FieldType.object "java/lang/String")))] ({ frames := 0, cells := 0, slots := 0, locals := 0 } : Room) #[(.ref a1)] h0 (Q_get_input Z zc qd a1 vi h0 n0) := by
  refine CN.of (L0 := #[.val (.ref a1)]) (plainFor_of_name pn_3) (fun m => by first | (simp [entryFrame, mkF, argsToLocals, Value.category]; done) | rfl) ?_
  intro p e s m below meth c s₁ hx hby hml hret hlk hZ hown hnm X0 e0
  have N0 := Fr.nil n0
  have KP0 := Keep.refl h0 []
  have hSt_ := hSt
  obtain ⟨S_cs, n_cs, S_qd⟩ := hSt_
  show Go p e below _ (s₁.setTop (mkF m 0 #[.val (.ref a1)] []))
  refine Go.step (fun _ k => XS.aloadN X0.here hx rfl (hb hby d_prog_32_method_13_code_0) rfl rfl k) ?_
  show Go p e below _ (s₁.setTop (mkF m 1 #[.val (.ref a1)] [(.ref a1)]))
  obtain ⟨T_66, X_66, e_66, st_66⟩ := getF X0 hx hZ hown (host := "") (Or.inl (wd_67 hw)) Via.refl e0 F_a1 (g := (mkF m 1 #[.val (.ref a1)] [(.ref a1)])) rfl rfl (hb hby d_prog_32_method_13_code_1)
  refine Go.step st_66 ?_
  show Go p e below _ (T_66.setTop (mkF m 4 #[.val (.ref a1)] [vi]))
  exact Go.retV X_66 hx hlk hret rfl (Or.inr (Or.inr (Or.inr (Or.inr ⟨rfl, rfl, h_vi⟩)))) (hb hby d_prog_32_method_13_code_4) (by decide) (by decide) (by rw [e_66]; exact ⟨rfl, N0, rfl⟩)
def Q_get_status (Z : State) (zc : Int32) (qd : Addr) (a1 : Addr) (h0 : Heap) (n0 : Nat) (v : Option Value) (h : Heap) (L : List Loc) : Prop := v = some (.ref qd) ∧ Fr n0 L ∧ h = h0
set_option maxRecDepth 65536 in
set_option maxHeartbeats 40000000 in
theorem rm_get_status (l : Launch) (Z : State) (a0 : Array Value) (hw : ∀ d ∈ tables_1, d.before a0 Z = true) (zc : Int32) (qd : Addr) (a1 : Addr) (h0 : Heap) (n0 : Nat) (Z0 : n0 ≤ h0.size) (F_a1 : Fld Z h0 a1 "com/example/enact/enact/queue/QueueEntry" "status" "Lcom/example/enact/enact/queue/QueueEntry$Status;" (.ref qd)) (hSt : St Z zc qd) (hO : Old Z n0 h0) :
    CN l Z ({ cls := "com/example/enact/enact/queue/QueueEntry", name := "status", desc := "()Lcom/example/enact/enact/queue/QueueEntry$Status;" } : Jvm.MethodName) [(Jvm.Cond.code ({ cls := "com/example/enact/enact/queue/QueueEntry", name := "status", desc := "()Lcom/example/enact/enact/queue/QueueEntry$Status;" } : Jvm.MethodName) prog_32_method_14_code (1 : Nat) (Option.some (Jvm.ClassFile.FieldType.object "com/example/enact/enact/queue/QueueEntry$Status")))] ({ frames := 0, cells := 0, slots := 0, locals := 0 } : Room) #[(.ref a1)] h0 (Q_get_status Z zc qd a1 h0 n0) := by
  refine CN.of (L0 := #[.val (.ref a1)]) (plainFor_of_name pn_3) (fun m => by first | (simp [entryFrame, mkF, argsToLocals, Value.category]; done) | rfl) ?_
  intro p e s m below meth c s₁ hx hby hml hret hlk hZ hown hnm X0 e0
  have N0 := Fr.nil n0
  have KP0 := Keep.refl h0 []
  have hSt_ := hSt
  obtain ⟨S_cs, n_cs, S_qd⟩ := hSt_
  show Go p e below _ (s₁.setTop (mkF m 0 #[.val (.ref a1)] []))
  refine Go.step (fun _ k => XS.aloadN X0.here hx rfl (hb hby d_prog_32_method_14_code_0) rfl rfl k) ?_
  show Go p e below _ (s₁.setTop (mkF m 1 #[.val (.ref a1)] [(.ref a1)]))
  obtain ⟨T_67, X_67, e_67, st_67⟩ := getF X0 hx hZ hown (host := "") (Or.inl (wd_69 hw)) Via.refl e0 F_a1 (g := (mkF m 1 #[.val (.ref a1)] [(.ref a1)])) rfl rfl (hb hby d_prog_32_method_14_code_1)
  refine Go.step st_67 ?_
  show Go p e below _ (T_67.setTop (mkF m 4 #[.val (.ref a1)] [(.ref qd)]))
  exact Go.retV X_67 hx hlk hret rfl (Or.inr (Or.inr (Or.inr (Or.inr ⟨rfl, rfl, rfl⟩)))) (hb hby d_prog_32_method_14_code_4) (by decide) (by decide) (by rw [e_67]; exact ⟨rfl, N0, rfl⟩)
def Q_get_attempts (Z : State) (zc : Int32) (qd : Addr) (a1 : Addr) (h0 : Heap) (n0 : Nat) (v : Option Value) (h : Heap) (L : List Loc) : Prop := v = some (.int (0 : Int32)) ∧ Fr n0 L ∧ h = h0
set_option maxRecDepth 65536 in
set_option maxHeartbeats 40000000 in
theorem rm_get_attempts (l : Launch) (Z : State) (a0 : Array Value) (hw : ∀ d ∈ tables_1, d.before a0 Z = true) (zc : Int32) (qd : Addr) (a1 : Addr) (h0 : Heap) (n0 : Nat) (Z0 : n0 ≤ h0.size) (F_a1 : Fld Z h0 a1 "com/example/enact/enact/queue/QueueEntry" "attempts" "I" (.int (0 : Int32))) (hSt : St Z zc qd) (hO : Old Z n0 h0) :
    CN l Z ({ cls := "com/example/enact/enact/queue/QueueEntry", name := "attempts", desc := "()I" } : Jvm.MethodName) [(Jvm.Cond.code ({ cls := "com/example/enact/enact/queue/QueueEntry", name := "attempts", desc := "()I" } : Jvm.MethodName) prog_32_method_15_code (1 : Nat) (Option.some Jvm.ClassFile.FieldType.int))] ({ frames := 0, cells := 0, slots := 0, locals := 0 } : Room) #[(.ref a1)] h0 (Q_get_attempts Z zc qd a1 h0 n0) := by
  refine CN.of (L0 := #[.val (.ref a1)]) (plainFor_of_name pn_3) (fun m => by first | (simp [entryFrame, mkF, argsToLocals, Value.category]; done) | rfl) ?_
  intro p e s m below meth c s₁ hx hby hml hret hlk hZ hown hnm X0 e0
  have N0 := Fr.nil n0
  have KP0 := Keep.refl h0 []
  have hSt_ := hSt
  obtain ⟨S_cs, n_cs, S_qd⟩ := hSt_
  show Go p e below _ (s₁.setTop (mkF m 0 #[.val (.ref a1)] []))
  refine Go.step (fun _ k => XS.aloadN X0.here hx rfl (hb hby d_prog_32_method_15_code_0) rfl rfl k) ?_
  show Go p e below _ (s₁.setTop (mkF m 1 #[.val (.ref a1)] [(.ref a1)]))
  obtain ⟨T_68, X_68, e_68, st_68⟩ := getF X0 hx hZ hown (host := "") (Or.inl (wd_71 hw)) Via.refl e0 F_a1 (g := (mkF m 1 #[.val (.ref a1)] [(.ref a1)])) rfl rfl (hb hby d_prog_32_method_15_code_1)
  refine Go.step st_68 ?_
  show Go p e below _ (T_68.setTop (mkF m 4 #[.val (.ref a1)] [(.int (0 : Int32))]))
  exact Go.retV X_68 hx hlk hret rfl (Or.inl ⟨rfl, Or.inl rfl, _, rfl⟩) (hb hby d_prog_32_method_15_code_4) (by decide) (by decide) (by rw [e_68]; exact ⟨rfl, N0, rfl⟩)
def Q_get_firstAttempt (Z : State) (zc : Int32) (qd : Addr) (a1 : Addr) (h0 : Heap) (n0 : Nat) (v : Option Value) (h : Heap) (L : List Loc) : Prop := v = some .null ∧ Fr n0 L ∧ h = h0
set_option maxRecDepth 65536 in
set_option maxHeartbeats 40000000 in
theorem rm_get_firstAttempt (l : Launch) (Z : State) (a0 : Array Value) (hw : ∀ d ∈ tables_1, d.before a0 Z = true) (zc : Int32) (qd : Addr) (a1 : Addr) (h0 : Heap) (n0 : Nat) (Z0 : n0 ≤ h0.size) (F_a1 : Fld Z h0 a1 "com/example/enact/enact/queue/QueueEntry" "firstAttempt" "Ljava/time/Instant;" .null) (hSt : St Z zc qd) (hO : Old Z n0 h0) :
    CN l Z ({ cls := "com/example/enact/enact/queue/QueueEntry", name := "firstAttempt", desc := "()Ljava/time/Instant;" } : Jvm.MethodName) [(Jvm.Cond.code ({ cls := "com/example/enact/enact/queue/QueueEntry", name := "firstAttempt", desc := "()Ljava/time/Instant;" } : Jvm.MethodName) prog_32_method_16_code (1 : Nat) (Option.some (Jvm.ClassFile.FieldType.object "java/time/Instant")))] ({ frames := 0, cells := 0, slots := 0, locals := 0 } : Room) #[(.ref a1)] h0 (Q_get_firstAttempt Z zc qd a1 h0 n0) := by
  refine CN.of (L0 := #[.val (.ref a1)]) (plainFor_of_name pn_3) (fun m => by first | (simp [entryFrame, mkF, argsToLocals, Value.category]; done) | rfl) ?_
  intro p e s m below meth c s₁ hx hby hml hret hlk hZ hown hnm X0 e0
  have N0 := Fr.nil n0
  have KP0 := Keep.refl h0 []
  have hSt_ := hSt
  obtain ⟨S_cs, n_cs, S_qd⟩ := hSt_
  show Go p e below _ (s₁.setTop (mkF m 0 #[.val (.ref a1)] []))
  refine Go.step (fun _ k => XS.aloadN X0.here hx rfl (hb hby d_prog_32_method_16_code_0) rfl rfl k) ?_
  show Go p e below _ (s₁.setTop (mkF m 1 #[.val (.ref a1)] [(.ref a1)]))
  obtain ⟨T_69, X_69, e_69, st_69⟩ := getF X0 hx hZ hown (host := "") (Or.inl (wd_73 hw)) Via.refl e0 F_a1 (g := (mkF m 1 #[.val (.ref a1)] [(.ref a1)])) rfl rfl (hb hby d_prog_32_method_16_code_1)
  refine Go.step st_69 ?_
  show Go p e below _ (T_69.setTop (mkF m 4 #[.val (.ref a1)] [.null]))
  exact Go.retV X_69 hx hlk hret rfl (Or.inr (Or.inr (Or.inr (Or.inr ⟨rfl, rfl, rfl⟩)))) (hb hby d_prog_32_method_16_code_4) (by decide) (by decide) (by rw [e_69]; exact ⟨rfl, N0, rfl⟩)
def Q_get_ended (Z : State) (zc : Int32) (qd : Addr) (a1 : Addr) (h0 : Heap) (n0 : Nat) (v : Option Value) (h : Heap) (L : List Loc) : Prop := v = some .null ∧ Fr n0 L ∧ h = h0
set_option maxRecDepth 65536 in
set_option maxHeartbeats 40000000 in
theorem rm_get_ended (l : Launch) (Z : State) (a0 : Array Value) (hw : ∀ d ∈ tables_1, d.before a0 Z = true) (zc : Int32) (qd : Addr) (a1 : Addr) (h0 : Heap) (n0 : Nat) (Z0 : n0 ≤ h0.size) (F_a1 : Fld Z h0 a1 "com/example/enact/enact/queue/QueueEntry" "ended" "Ljava/time/Instant;" .null) (hSt : St Z zc qd) (hO : Old Z n0 h0) :
    CN l Z ({ cls := "com/example/enact/enact/queue/QueueEntry", name := "ended", desc := "()Ljava/time/Instant;" } : Jvm.MethodName) [(Jvm.Cond.code ({ cls := "com/example/enact/enact/queue/QueueEntry", name := "ended", desc := "()Ljava/time/Instant;" } : Jvm.MethodName) prog_32_method_17_code (1 : Nat) (Option.some (Jvm.ClassFile.FieldType.object "java/time/Instant")))] ({ frames := 0, cells := 0, slots := 0, locals := 0 } : Room) #[(.ref a1)] h0 (Q_get_ended Z zc qd a1 h0 n0) := by
  refine CN.of (L0 := #[.val (.ref a1)]) (plainFor_of_name pn_3) (fun m => by first | (simp [entryFrame, mkF, argsToLocals, Value.category]; done) | rfl) ?_
  intro p e s m below meth c s₁ hx hby hml hret hlk hZ hown hnm X0 e0
  have N0 := Fr.nil n0
  have KP0 := Keep.refl h0 []
  have hSt_ := hSt
  obtain ⟨S_cs, n_cs, S_qd⟩ := hSt_
  show Go p e below _ (s₁.setTop (mkF m 0 #[.val (.ref a1)] []))
  refine Go.step (fun _ k => XS.aloadN X0.here hx rfl (hb hby d_prog_32_method_17_code_0) rfl rfl k) ?_
  show Go p e below _ (s₁.setTop (mkF m 1 #[.val (.ref a1)] [(.ref a1)]))
  obtain ⟨T_70, X_70, e_70, st_70⟩ := getF X0 hx hZ hown (host := "") (Or.inl (wd_75 hw)) Via.refl e0 F_a1 (g := (mkF m 1 #[.val (.ref a1)] [(.ref a1)])) rfl rfl (hb hby d_prog_32_method_17_code_1)
  refine Go.step st_70 ?_
  show Go p e below _ (T_70.setTop (mkF m 4 #[.val (.ref a1)] [.null]))
  exact Go.retV X_70 hx hlk hret rfl (Or.inr (Or.inr (Or.inr (Or.inr ⟨rfl, rfl, rfl⟩)))) (hb hby d_prog_32_method_17_code_4) (by decide) (by decide) (by rw [e_70]; exact ⟨rfl, N0, rfl⟩)
def Q_get_result (Z : State) (zc : Int32) (qd : Addr) (a1 : Addr) (h0 : Heap) (n0 : Nat) (v : Option Value) (h : Heap) (L : List Loc) : Prop := v = some .null ∧ Fr n0 L ∧ h = h0
set_option maxRecDepth 65536 in
set_option maxHeartbeats 40000000 in
theorem rm_get_result (l : Launch) (Z : State) (a0 : Array Value) (hw : ∀ d ∈ tables_1, d.before a0 Z = true) (zc : Int32) (qd : Addr) (a1 : Addr) (h0 : Heap) (n0 : Nat) (Z0 : n0 ≤ h0.size) (F_a1 : Fld Z h0 a1 "com/example/enact/enact/queue/QueueEntry" "result" "Ljava/lang/String;" .null) (hSt : St Z zc qd) (hO : Old Z n0 h0) :
    CN l Z ({ cls := "com/example/enact/enact/queue/QueueEntry", name := "result", desc := "()Ljava/lang/String;" } : Jvm.MethodName) [(Jvm.Cond.code ({ cls := "com/example/enact/enact/queue/QueueEntry", name := "result", desc := "()Ljava/lang/String;" } : Jvm.MethodName) prog_32_method_18_code (1 : Nat) (Option.some (Jvm.ClassFile.FieldType.object "java/lang/String")))] ({ frames := 0, cells := 0, slots := 0, locals := 0 } : Room) #[(.ref a1)] h0 (Q_get_result Z zc qd a1 h0 n0) := by
  refine CN.of (L0 := #[.val (.ref a1)]) (plainFor_of_name pn_3) (fun m => by first | (simp [entryFrame, mkF, argsToLocals, Value.category]; done) | rfl) ?_
  intro p e s m below meth c s₁ hx hby hml hret hlk hZ hown hnm X0 e0
  have N0 := Fr.nil n0
  have KP0 := Keep.refl h0 []
  have hSt_ := hSt
  obtain ⟨S_cs, n_cs, S_qd⟩ := hSt_
  show Go p e below _ (s₁.setTop (mkF m 0 #[.val (.ref a1)] []))
  refine Go.step (fun _ k => XS.aloadN X0.here hx rfl (hb hby d_prog_32_method_18_code_0) rfl rfl k) ?_
  show Go p e below _ (s₁.setTop (mkF m 1 #[.val (.ref a1)] [(.ref a1)]))
  obtain ⟨T_71, X_71, e_71, st_71⟩ := getF X0 hx hZ hown (host := "") (Or.inl (wd_77 hw)) Via.refl e0 F_a1 (g := (mkF m 1 #[.val (.ref a1)] [(.ref a1)])) rfl rfl (hb hby d_prog_32_method_18_code_1)
  refine Go.step st_71 ?_
  show Go p e below _ (T_71.setTop (mkF m 4 #[.val (.ref a1)] [.null]))
  exact Go.retV X_71 hx hlk hret rfl (Or.inr (Or.inr (Or.inr (Or.inr ⟨rfl, rfl, rfl⟩)))) (hb hby d_prog_32_method_18_code_4) (by decide) (by decide) (by rw [e_71]; exact ⟨rfl, N0, rfl⟩)
def Q_get_message (Z : State) (zc : Int32) (qd : Addr) (a1 : Addr) (h0 : Heap) (n0 : Nat) (v : Option Value) (h : Heap) (L : List Loc) : Prop := v = some .null ∧ Fr n0 L ∧ h = h0
set_option maxRecDepth 65536 in
set_option maxHeartbeats 40000000 in
theorem rm_get_message (l : Launch) (Z : State) (a0 : Array Value) (hw : ∀ d ∈ tables_1, d.before a0 Z = true) (zc : Int32) (qd : Addr) (a1 : Addr) (h0 : Heap) (n0 : Nat) (Z0 : n0 ≤ h0.size) (F_a1 : Fld Z h0 a1 "com/example/enact/enact/queue/QueueEntry" "message" "Ljava/lang/String;" .null) (hSt : St Z zc qd) (hO : Old Z n0 h0) :
    CN l Z ({ cls := "com/example/enact/enact/queue/QueueEntry", name := "message", desc := "()Ljava/lang/String;" } : Jvm.MethodName) [(Jvm.Cond.code ({ cls := "com/example/enact/enact/queue/QueueEntry", name := "message", desc := "()Ljava/lang/String;" } : Jvm.MethodName) prog_32_method_19_code (1 : Nat) (Option.some (Jvm.ClassFile.FieldType.object "java/lang/String")))] ({ frames := 0, cells := 0, slots := 0, locals := 0 } : Room) #[(.ref a1)] h0 (Q_get_message Z zc qd a1 h0 n0) := by
  refine CN.of (L0 := #[.val (.ref a1)]) (plainFor_of_name pn_3) (fun m => by first | (simp [entryFrame, mkF, argsToLocals, Value.category]; done) | rfl) ?_
  intro p e s m below meth c s₁ hx hby hml hret hlk hZ hown hnm X0 e0
  have N0 := Fr.nil n0
  have KP0 := Keep.refl h0 []
  have hSt_ := hSt
  obtain ⟨S_cs, n_cs, S_qd⟩ := hSt_
  show Go p e below _ (s₁.setTop (mkF m 0 #[.val (.ref a1)] []))
  refine Go.step (fun _ k => XS.aloadN X0.here hx rfl (hb hby d_prog_32_method_19_code_0) rfl rfl k) ?_
  show Go p e below _ (s₁.setTop (mkF m 1 #[.val (.ref a1)] [(.ref a1)]))
  obtain ⟨T_72, X_72, e_72, st_72⟩ := getF X0 hx hZ hown (host := "") (Or.inl (wd_79 hw)) Via.refl e0 F_a1 (g := (mkF m 1 #[.val (.ref a1)] [(.ref a1)])) rfl rfl (hb hby d_prog_32_method_19_code_1)
  refine Go.step st_72 ?_
  show Go p e below _ (T_72.setTop (mkF m 4 #[.val (.ref a1)] [.null]))
  exact Go.retV X_72 hx hlk hret rfl (Or.inr (Or.inr (Or.inr (Or.inr ⟨rfl, rfl, rfl⟩)))) (hb hby d_prog_32_method_19_code_4) (by decide) (by decide) (by rw [e_72]; exact ⟨rfl, N0, rfl⟩)
def Q_get_type (Z : State) (zc : Int32) (qd : Addr) (a1 : Addr) (h0 : Heap) (n0 : Nat) (v : Option Value) (h : Heap) (L : List Loc) : Prop := v = some .null ∧ Fr n0 L ∧ h = h0
set_option maxRecDepth 65536 in
set_option maxHeartbeats 40000000 in
theorem rm_get_type (l : Launch) (Z : State) (a0 : Array Value) (hw : ∀ d ∈ tables_1, d.before a0 Z = true) (zc : Int32) (qd : Addr) (a1 : Addr) (h0 : Heap) (n0 : Nat) (Z0 : n0 ≤ h0.size) (F_a1 : Fld Z h0 a1 "com/example/enact/enact/queue/QueueEntry" "type" "Ljava/lang/String;" .null) (hSt : St Z zc qd) (hO : Old Z n0 h0) :
    CN l Z ({ cls := "com/example/enact/enact/queue/QueueEntry", name := "type", desc := "()Ljava/lang/String;" } : Jvm.MethodName) [(Jvm.Cond.code ({ cls := "com/example/enact/enact/queue/QueueEntry", name := "type", desc := "()Ljava/lang/String;" } : Jvm.MethodName) prog_32_method_20_code (1 : Nat) (Option.some (Jvm.ClassFile.FieldType.object "java/lang/String")))] ({ frames := 0, cells := 0, slots := 0, locals := 0 } : Room) #[(.ref a1)] h0 (Q_get_type Z zc qd a1 h0 n0) := by
  refine CN.of (L0 := #[.val (.ref a1)]) (plainFor_of_name pn_3) (fun m => by first | (simp [entryFrame, mkF, argsToLocals, Value.category]; done) | rfl) ?_
  intro p e s m below meth c s₁ hx hby hml hret hlk hZ hown hnm X0 e0
  have N0 := Fr.nil n0
  have KP0 := Keep.refl h0 []
  have hSt_ := hSt
  obtain ⟨S_cs, n_cs, S_qd⟩ := hSt_
  show Go p e below _ (s₁.setTop (mkF m 0 #[.val (.ref a1)] []))
  refine Go.step (fun _ k => XS.aloadN X0.here hx rfl (hb hby d_prog_32_method_20_code_0) rfl rfl k) ?_
  show Go p e below _ (s₁.setTop (mkF m 1 #[.val (.ref a1)] [(.ref a1)]))
  obtain ⟨T_73, X_73, e_73, st_73⟩ := getF X0 hx hZ hown (host := "") (Or.inl (wd_81 hw)) Via.refl e0 F_a1 (g := (mkF m 1 #[.val (.ref a1)] [(.ref a1)])) rfl rfl (hb hby d_prog_32_method_20_code_1)
  refine Go.step st_73 ?_
  show Go p e below _ (T_73.setTop (mkF m 4 #[.val (.ref a1)] [.null]))
  exact Go.retV X_73 hx hlk hret rfl (Or.inr (Or.inr (Or.inr (Or.inr ⟨rfl, rfl, rfl⟩)))) (hb hby d_prog_32_method_20_code_4) (by decide) (by decide) (by rw [e_73]; exact ⟨rfl, N0, rfl⟩)
def Q_eqSelf (Z : State) (zc : Int32) (qd : Addr) (a1 : Addr) (h0 : Heap) (n0 : Nat) (v : Option Value) (h : Heap) (L : List Loc) : Prop := v = some (.int (1 : Int32)) ∧ Fr n0 L ∧ h = h0
set_option maxRecDepth 65536 in
set_option maxHeartbeats 40000000 in
theorem rm_eqSelf (l : Launch) (Z : State) (a0 : Array Value) (hw : ∀ d ∈ tables_1, d.before a0 Z = true) (zc : Int32) (qd : Addr) (a1 : Addr) (h0 : Heap) (n0 : Nat) (Z0 : n0 ≤ h0.size) (hSt : St Z zc qd) (hO : Old Z n0 h0) :
    CN l Z ({ cls := "java/lang/String", name := "equals", desc := "(Ljava/lang/Object;)Z" } : Jvm.MethodName) [(Jvm.Cond.code ({ cls := "java/lang/String", name := "equals", desc := "(Ljava/lang/Object;)Z" } : Jvm.MethodName) jdk_42_method_66_code (3 : Nat) (Option.some Jvm.ClassFile.FieldType.boolean))] ({ frames := 0, cells := 0, slots := 0, locals := 0 } : Room) #[(.ref a1), (.ref a1)] h0 (Q_eqSelf Z zc qd a1 h0 n0) := by
  refine CN.of (L0 := #[.val (.ref a1), .val (.ref a1), .unset]) (plainFor_of_name pn_4) (fun m => by first | (simp [entryFrame, mkF, argsToLocals, Value.category]; done) | rfl) ?_
  intro p e s m below meth c s₁ hx hby hml hret hlk hZ hown hnm X0 e0
  have N0 := Fr.nil n0
  have KP0 := Keep.refl h0 []
  have hSt_ := hSt
  obtain ⟨S_cs, n_cs, S_qd⟩ := hSt_
  show Go p e below _ (s₁.setTop (mkF m 0 #[.val (.ref a1), .val (.ref a1), .unset] []))
  refine Go.step (fun _ k => XS.aloadN X0.here hx rfl (hb hby d_jdk_42_method_66_code_0) rfl rfl k) ?_
  show Go p e below _ (s₁.setTop (mkF m 1 #[.val (.ref a1), .val (.ref a1), .unset] [(.ref a1)]))
  refine Go.step (fun _ k => XS.aloadN X0.here hx rfl (hb hby d_jdk_42_method_66_code_1) rfl rfl k) ?_
  show Go p e below _ (s₁.setTop (mkF m 2 #[.val (.ref a1), .val (.ref a1), .unset] [(.ref a1), (.ref a1)]))
  refine Go.step (fun _ k => Jvm.RoadKit.acmp (g := (mkF m 2 #[.val (.ref a1), .val (.ref a1), .unset] [(.ref a1), (.ref a1)])) X0 hx rfl rfl rfl (pc0 := 2) (pc' := 5) (same := true) rfl (hb hby d_jdk_42_method_66_code_2) rfl (decide_eq_true rfl) (by decide) (by decide) k) ?_
  show Go p e below _ (s₁.setTop (mkF m 5 #[.val (.ref a1), .val (.ref a1), .unset] []))
  refine Go.step (fun _ k => XS.iconst X0.here hx rfl (hb hby d_jdk_42_method_66_code_5) k) ?_
  show Go p e below _ (s₁.setTop (mkF m 6 #[.val (.ref a1), .val (.ref a1), .unset] [(.int (1 : Int32))]))
  exact Go.retV X0 hx hlk hret rfl (Or.inl ⟨rfl, Or.inr (Or.inl rfl), _, rfl⟩) (hb hby d_jdk_42_method_66_code_6) (by decide) (by decide) (by rw [e0]; exact ⟨rfl, N0, rfl⟩)
def Q_law (Z : State) (zc : Int32) (qd : Addr) (j1 : Int64) (p1 : Int32) (p2 : Int32) (p3 : Int32) (h0 : Heap) (n0 : Nat) (v : Option Value) (h : Heap) (L : List Loc) : Prop := v = some (.int (1 : Int32)) ∧ Fr n0 L
set_option maxRecDepth 65536 in
set_option maxHeartbeats 40000000 in
theorem rm_law (l : Launch) (Z : State) (a0 : Array Value) (hw : ∀ d ∈ tables_1, d.before a0 Z = true) (zc : Int32) (qd : Addr) (j1 : Int64) (p1 : Int32) (p2 : Int32) (p3 : Int32) (h0 : Heap) (n0 : Nat) (Z0 : n0 ≤ h0.size) (hSt : St Z zc qd) (hO : Old Z n0 h0) :
    CW l Z EL x (Jvm.Cond.code x code maxLocals ret :: tables_1) room_1 #[(.long j1), (.int p1), (.int p2), (.int p3)] h0 (Q_law Z zc qd j1 p1 p2 p3 h0 n0) := by
  refine CW.of (L0 := #[.val (.long j1), .second, .val (.int p1), .val (.int p2), .val (.int p3), .unset, .unset, .unset, .unset, .unset, .unset]) (plainFor_of_name pn_0) (fun m => by first | (simp [entryFrame, mkF, argsToLocals, Value.category]; done) | rfl) ?_
  intro p e s m below meth c s₁ hx hby hml hret hlk hZ hown hnm X0 e0 hS0 hk0 CV0 hh0
  have hEL := hEL_ (a0 := a0) hw
  have hwS := hwS_ hw
  have N0 := Fr.nil n0
  have KP0 := Keep.refl h0 []
  have hSt_ := hSt
  obtain ⟨S_cs, n_cs, S_qd⟩ := hSt_
  show Go p e below _ (s₁.setTop (mkF m 0 #[.val (.long j1), .second, .val (.int p1), .val (.int p2), .val (.int p3), .unset, .unset, .unset, .unset, .unset, .unset] []))
  refine Go.step (fun _ k => XS.iloadN X0.here hx rfl (hb hby at_0) rfl  k) ?_
  show Go p e below _ (s₁.setTop (mkF m 1 #[.val (.long j1), .second, .val (.int p1), .val (.int p2), .val (.int p3), .unset, .unset, .unset, .unset, .unset, .unset] [(.int p1)]))
  obtain ⟨v_74, T_74, L_74, X_74, hQ_74, st_74⟩ := goS X0 hx hZ (y := ({ cls := "com/example/enact/enact/queue/QueueEntryQueuedPinLaw", name := "str", desc := "(I)Ljava/lang/String;" } : Jvm.MethodName)) hown (wd_0 hw) (wd_1 hw) (wd_2 hw) (wd_3 hw) (by decide) (backOf (W := 0) (rm_str l Z a0 hw zc qd (p1) h0 n0 (Nat.le_trans Z0 KP0.1) hSt hO) hZ (wd_3 hw) (wd_2 hw) (by decide) (by decide)) e0 (g := (mkF m 1 #[.val (.long j1), .second, .val (.int p1), .val (.int p2), .val (.int p3), .unset, .unset, .unset, .unset, .unset, .unset] [(.int p1)])) rfl (by rw [hml]; rfl) (argsL := [(.int p1)]) (rest := []) rfl (lenOf pd_4 rfl) rfl (by show 2 * 0 + _ ≤ _; exact Nat.le_of_eq rfl) (hb hby at_1) (by decide) (by decide)
  obtain ⟨r_74, rfl, Nq_74, K_74, u0_74, u1_74⟩ := hQ_74
  have N_74 := Fr.app N0 Nq_74
  have C_74 := CHr.keep K_74 sf0 CV0
  have CR_74 := CHr.trans (CHr.refl CV0) C_74
  have le_74 : h0.size ≤ T_74.heap.size := K_74.1
  have KP_74 := KP0.trans K_74 all0
  have O_74 := hO.keep K_74 all0
  have sz_r_74 : h0.size ≤ r_74 := Nat.le_trans (Nat.le_refl _) u0_74
  have g_r_74 : n0 ≤ r_74 := Nat.le_trans Z0 sz_r_74
  refine Go.step st_74 ?_
  show Go p e below _ (T_74.setTop (mkF m 4 #[.val (.long j1), .second, .val (.int p1), .val (.int p2), .val (.int p3), .unset, .unset, .unset, .unset, .unset, .unset] [(.ref r_74)]))
  refine Go.step (fun _ k => XS.astore X_74.here hx rfl (hb hby at_4) rfl rfl (l' := #[.val (.long j1), .second, .val (.int p1), .val (.int p2), .val (.int p3), .val (.ref r_74), .unset, .unset, .unset, .unset, .unset]) rfl k) ?_
  show Go p e below _ (T_74.setTop (mkF m 6 #[.val (.long j1), .second, .val (.int p1), .val (.int p2), .val (.int p3), .val (.ref r_74), .unset, .unset, .unset, .unset, .unset] []))
  refine Go.step (fun _ k => XS.iloadN X_74.here hx rfl (hb hby at_6) rfl  k) ?_
  show Go p e below _ (T_74.setTop (mkF m 7 #[.val (.long j1), .second, .val (.int p1), .val (.int p2), .val (.int p3), .val (.ref r_74), .unset, .unset, .unset, .unset, .unset] [(.int p2)]))
  obtain ⟨v_75, T_75, L_75, X_75, hQ_75, st_75⟩ := goS X_74 hx hZ (y := ({ cls := "com/example/enact/enact/queue/QueueEntryQueuedPinLaw", name := "str", desc := "(I)Ljava/lang/String;" } : Jvm.MethodName)) hown (wd_0 hw) (wd_1 hw) (wd_2 hw) (wd_3 hw) (by decide) (backOf (W := 0) (rm_str l Z a0 hw zc qd (p2) T_74.heap n0 (Nat.le_trans Z0 KP_74.1) hSt O_74) hZ (wd_3 hw) (wd_2 hw) (by decide) (by decide)) rfl (g := (mkF m 7 #[.val (.long j1), .second, .val (.int p1), .val (.int p2), .val (.int p3), .val (.ref r_74), .unset, .unset, .unset, .unset, .unset] [(.int p2)])) rfl (by rw [hml]; rfl) (argsL := [(.int p2)]) (rest := []) rfl (lenOf pd_4 rfl) rfl (by show 2 * 0 + _ ≤ _; exact Nat.le_of_eq rfl) (hb hby at_7) (by decide) (by decide)
  obtain ⟨r_75, rfl, Nq_75, K_75, u0_75, u1_75⟩ := hQ_75
  have N_75 := Fr.app N_74 Nq_75
  have C_75 := CHr.keep K_75 sf0 C_74.1
  have CR_75 := CHr.trans CR_74 C_75
  have le_75 : T_74.heap.size ≤ T_75.heap.size := K_75.1
  have KP_75 := KP_74.trans K_75 all0
  have O_75 := O_74.keep K_75 all0
  have sz_r_75 : h0.size ≤ r_75 := Nat.le_trans le_74 u0_75
  have g_r_75 : n0 ≤ r_75 := Nat.le_trans Z0 sz_r_75
  refine Go.step st_75 ?_
  show Go p e below _ (T_75.setTop (mkF m 10 #[.val (.long j1), .second, .val (.int p1), .val (.int p2), .val (.int p3), .val (.ref r_74), .unset, .unset, .unset, .unset, .unset] [(.ref r_75)]))
  refine Go.step (fun _ k => XS.astore X_75.here hx rfl (hb hby at_10) rfl rfl (l' := #[.val (.long j1), .second, .val (.int p1), .val (.int p2), .val (.int p3), .val (.ref r_74), .val (.ref r_75), .unset, .unset, .unset, .unset]) rfl k) ?_
  show Go p e below _ (T_75.setTop (mkF m 12 #[.val (.long j1), .second, .val (.int p1), .val (.int p2), .val (.int p3), .val (.ref r_74), .val (.ref r_75), .unset, .unset, .unset, .unset] []))
  refine Go.step (fun _ k => XS.iload X_75.here hx rfl (hb hby at_12) rfl  k) ?_
  show Go p e below _ (T_75.setTop (mkF m 14 #[.val (.long j1), .second, .val (.int p1), .val (.int p2), .val (.int p3), .val (.ref r_74), .val (.ref r_75), .unset, .unset, .unset, .unset] [(.int p3)]))
  refine Go.step (fun _ k => XS.iconst X_75.here hx rfl (hb hby at_14) k) ?_
  show Go p e below _ (T_75.setTop (mkF m 15 #[.val (.long j1), .second, .val (.int p1), .val (.int p2), .val (.int p3), .val (.ref r_74), .val (.ref r_75), .unset, .unset, .unset, .unset] [(.int (1 : Int32)), (.int p3)]))
  refine Go.step (fun _ k => XS.iand X_75.here hx rfl (hb hby at_15) rfl k) ?_
  show Go p e below _ (T_75.setTop (mkF m 16 #[.val (.long j1), .second, .val (.int p1), .val (.int p2), .val (.int p3), .val (.ref r_74), .val (.ref r_75), .unset, .unset, .unset, .unset] [(.int (p3 &&& (1 : Int32)))]))
  by_cases hin : (p3 &&& (1 : Int32)) = (0 : Int32)
  · skip
    refine Go.step (fun _ k => XS.ifYes X_75.here hx rfl (pc0 := 16) (pc' := 23) rfl (hb hby at_16) rfl ((if0 _ _).trans (teq hin).1) (by decide) (by decide) k) ?_
    show Go p e below _ (T_75.setTop (mkF m 23 #[.val (.long j1), .second, .val (.int p1), .val (.int p2), .val (.int p3), .val (.ref r_74), .val (.ref r_75), .unset, .unset, .unset, .unset] []))
    refine Go.step (fun _ k => XS.iconst X_75.here hx rfl (hb hby at_23) k) ?_
    show Go p e below _ (T_75.setTop (mkF m 24 #[.val (.long j1), .second, .val (.int p1), .val (.int p2), .val (.int p3), .val (.ref r_74), .val (.ref r_75), .unset, .unset, .unset, .unset] [(.int (0 : Int32))]))
    refine Go.step (fun _ k => XS.istore X_75.here hx rfl (hb hby at_24) rfl (l' := #[.val (.long j1), .second, .val (.int p1), .val (.int p2), .val (.int p3), .val (.ref r_74), .val (.ref r_75), .val (.int (0 : Int32)), .unset, .unset, .unset]) rfl k) ?_
    show Go p e below _ (T_75.setTop (mkF m 26 #[.val (.long j1), .second, .val (.int p1), .val (.int p2), .val (.int p3), .val (.ref r_74), .val (.ref r_75), .val (.int (0 : Int32)), .unset, .unset, .unset] []))
    refine Go.step (fun _ k => XS.iload X_75.here hx rfl (hb hby at_26) rfl  k) ?_
    show Go p e below _ (T_75.setTop (mkF m 28 #[.val (.long j1), .second, .val (.int p1), .val (.int p2), .val (.int p3), .val (.ref r_74), .val (.ref r_75), .val (.int (0 : Int32)), .unset, .unset, .unset] [(.int (0 : Int32))]))
    refine Go.step (fun _ k => XS.ifYes X_75.here hx rfl (pc0 := 28) (pc' := 35) rfl (hb hby at_28) rfl ((if0 _ _).trans (teq ((by decide) : (0 : Int32) = (0 : Int32))).1) (by decide) (by decide) k) ?_
    show Go p e below _ (T_75.setTop (mkF m 35 #[.val (.long j1), .second, .val (.int p1), .val (.int p2), .val (.int p3), .val (.ref r_74), .val (.ref r_75), .val (.int (0 : Int32)), .unset, .unset, .unset] []))
    refine Go.step (fun _ k => XS.iload X_75.here hx rfl (hb hby at_35) rfl  k) ?_
    show Go p e below _ (T_75.setTop (mkF m 37 #[.val (.long j1), .second, .val (.int p1), .val (.int p2), .val (.int p3), .val (.ref r_74), .val (.ref r_75), .val (.int (0 : Int32)), .unset, .unset, .unset] [(.int p3)]))
    refine Go.step (fun _ k => XS.iconst X_75.here hx rfl (hb hby at_37) k) ?_
    show Go p e below _ (T_75.setTop (mkF m 38 #[.val (.long j1), .second, .val (.int p1), .val (.int p2), .val (.int p3), .val (.ref r_74), .val (.ref r_75), .val (.int (0 : Int32)), .unset, .unset, .unset] [(.int (1 : Int32)), (.int p3)]))
    refine Go.step (fun _ k => XS.iushr X_75.here hx rfl (hb hby at_38) rfl k) ?_
    show Go p e below _ (T_75.setTop (mkF m 39 #[.val (.long j1), .second, .val (.int p1), .val (.int p2), .val (.int p3), .val (.ref r_74), .val (.ref r_75), .val (.int (0 : Int32)), .unset, .unset, .unset] [(.int ((p3.toUInt32 >>> ((1 : Int32) &&& 31).toUInt32).toInt32))]))
    obtain ⟨v_76, T_76, L_76, X_76, hQ_76, st_76⟩ := goS X_75 hx hZ (y := ({ cls := "com/example/enact/enact/queue/QueueEntryQueuedPinLaw", name := "str", desc := "(I)Ljava/lang/String;" } : Jvm.MethodName)) hown (wd_0 hw) (wd_1 hw) (wd_2 hw) (wd_3 hw) (by decide) (backOf (W := 0) (rm_str l Z a0 hw zc qd (((p3.toUInt32 >>> ((1 : Int32) &&& 31).toUInt32).toInt32)) T_75.heap n0 (Nat.le_trans Z0 KP_75.1) hSt O_75) hZ (wd_3 hw) (wd_2 hw) (by decide) (by decide)) rfl (g := (mkF m 39 #[.val (.long j1), .second, .val (.int p1), .val (.int p2), .val (.int p3), .val (.ref r_74), .val (.ref r_75), .val (.int (0 : Int32)), .unset, .unset, .unset] [(.int ((p3.toUInt32 >>> ((1 : Int32) &&& 31).toUInt32).toInt32))])) rfl (by rw [hml]; rfl) (argsL := [(.int ((p3.toUInt32 >>> ((1 : Int32) &&& 31).toUInt32).toInt32))]) (rest := []) rfl (lenOf pd_4 rfl) rfl (by show 2 * 0 + _ ≤ _; exact Nat.le_of_eq rfl) (hb hby at_39) (by decide) (by decide)
    obtain ⟨r_76, rfl, Nq_76, K_76, u0_76, u1_76⟩ := hQ_76
    have N_76 := Fr.app N_75 Nq_76
    have C_76 := CHr.keep K_76 sf0 C_75.1
    have CR_76 := CHr.trans CR_75 C_76
    have le_76 : T_75.heap.size ≤ T_76.heap.size := K_76.1
    have KP_76 := KP_75.trans K_76 all0
    have O_76 := O_75.keep K_76 all0
    have sz_r_76 : h0.size ≤ r_76 := Nat.le_trans (Nat.le_trans le_74 le_75) u0_76
    have g_r_76 : n0 ≤ r_76 := Nat.le_trans Z0 sz_r_76
    refine Go.step st_76 ?_
    show Go p e below _ (T_76.setTop (mkF m 42 #[.val (.long j1), .second, .val (.int p1), .val (.int p2), .val (.int p3), .val (.ref r_74), .val (.ref r_75), .val (.int (0 : Int32)), .unset, .unset, .unset] [(.ref r_76)]))
    refine Go.step (fun _ k => XS.astore X_76.here hx rfl (hb hby at_42) rfl rfl (l' := #[.val (.long j1), .second, .val (.int p1), .val (.int p2), .val (.int p3), .val (.ref r_74), .val (.ref r_75), .val (.int (0 : Int32)), .val (.ref r_76), .unset, .unset]) rfl k) ?_
    show Go p e below _ (T_76.setTop (mkF m 44 #[.val (.long j1), .second, .val (.int p1), .val (.int p2), .val (.int p3), .val (.ref r_74), .val (.ref r_75), .val (.int (0 : Int32)), .val (.ref r_76), .unset, .unset] []))
    refine Go.step (fun _ k => XS.lloadN X_76.here hx rfl (hb hby at_44) rfl  k) ?_
    show Go p e below _ (T_76.setTop (mkF m 45 #[.val (.long j1), .second, .val (.int p1), .val (.int p2), .val (.int p3), .val (.ref r_74), .val (.ref r_75), .val (.int (0 : Int32)), .val (.ref r_76), .unset, .unset] [(.long j1)]))
    refine Go.step (fun _ k => XS.aload X_76.here hx rfl (hb hby at_45) rfl rfl k) ?_
    show Go p e below _ (T_76.setTop (mkF m 47 #[.val (.long j1), .second, .val (.int p1), .val (.int p2), .val (.int p3), .val (.ref r_74), .val (.ref r_75), .val (.int (0 : Int32)), .val (.ref r_76), .unset, .unset] [(.ref r_74), (.long j1)]))
    refine Go.step (fun _ k => XS.aload X_76.here hx rfl (hb hby at_47) rfl rfl k) ?_
    show Go p e below _ (T_76.setTop (mkF m 49 #[.val (.long j1), .second, .val (.int p1), .val (.int p2), .val (.int p3), .val (.ref r_74), .val (.ref r_75), .val (.int (0 : Int32)), .val (.ref r_76), .unset, .unset] [(.ref r_75), (.ref r_74), (.long j1)]))
    refine Go.step (fun _ k => XS.aload X_76.here hx rfl (hb hby at_49) rfl rfl k) ?_
    show Go p e below _ (T_76.setTop (mkF m 51 #[.val (.long j1), .second, .val (.int p1), .val (.int p2), .val (.int p3), .val (.ref r_74), .val (.ref r_75), .val (.int (0 : Int32)), .val (.ref r_76), .unset, .unset] [(.ref r_76), (.ref r_75), (.ref r_74), (.long j1)]))
    obtain ⟨v_77, T_77, L_77, X_77, hQ_77, hS_77, hZ_77, hown_77, C_77, st_77⟩ := goSW X_76 hx hZ (y := ({ cls := "com/example/enact/enact/queue/QueueEntry", name := "queued", desc := "(JLjava/lang/String;Ljava/lang/String;Ljava/lang/String;)Lcom/example/enact/enact/queue/QueueEntry;" } : Jvm.MethodName)) hown hS0 (Nat.le_trans hk0 (Nat.le_trans le_74 (Nat.le_trans le_75 le_76))) (wd_34 hw) (wd_35 hw) (wd_36 hw) (wd_37 hw) (by decide) (backOfSH (W := 0) (rm_queued l Z a0 hw zc qd (j1) (r_74) (r_75) ((.ref r_76)) T_76.heap n0 (Nat.le_trans Z0 KP_76.1) rfl hSt O_76) hZ (wd_37 hw) (wd_36 hw) (by decide) (by decide) hEL C_76.1) rfl (g := (mkF m 51 #[.val (.long j1), .second, .val (.int p1), .val (.int p2), .val (.int p3), .val (.ref r_74), .val (.ref r_75), .val (.int (0 : Int32)), .val (.ref r_76), .unset, .unset] [(.ref r_76), (.ref r_75), (.ref r_74), (.long j1)])) rfl (by rw [hml]; rfl) (argsL := [(.long j1), (.ref r_74), (.ref r_75), (.ref r_76)]) (rest := []) rfl (lenOf pd_5 rfl) rfl (by show 2 * 0 + _ ≤ _; exact Nat.le_of_eq rfl) (hb hby at_51) (by decide) (by decide)
    obtain ⟨r_77, rfl, Nq_77, K_77, u0_77, u1_77, u2_77, u3_77, u4_77, u5_77, u6_77, u7_77, u8_77, u9_77, u10_77, u11_77, u12_77⟩ := hQ_77
    have N_77 := Fr.app N_76 Nq_77
    have CR_77 := CHr.trans CR_76 C_77
    have le_77 : T_76.heap.size ≤ T_77.heap.size := K_77.1
    have KP_77 := KP_76.trans K_77 all0
    have O_77 := O_76.keep K_77 all0
    have sz_r_77 : h0.size ≤ r_77 := Nat.le_trans (Nat.le_trans le_74 (Nat.le_trans le_75 le_76)) u0_77
    have g_r_77 : n0 ≤ r_77 := Nat.le_trans Z0 sz_r_77
    refine Go.step st_77 ?_
    show Go p e below _ (T_77.setTop (mkF m 54 #[.val (.long j1), .second, .val (.int p1), .val (.int p2), .val (.int p3), .val (.ref r_74), .val (.ref r_75), .val (.int (0 : Int32)), .val (.ref r_76), .unset, .unset] [(.ref r_77)]))
    refine Go.step (fun _ k => XS.astore X_77.here hx rfl (hb hby at_54) rfl rfl (l' := #[.val (.long j1), .second, .val (.int p1), .val (.int p2), .val (.int p3), .val (.ref r_74), .val (.ref r_75), .val (.int (0 : Int32)), .val (.ref r_76), .val (.ref r_77), .unset]) rfl k) ?_
    show Go p e below _ (T_77.setTop (mkF m 56 #[.val (.long j1), .second, .val (.int p1), .val (.int p2), .val (.int p3), .val (.ref r_74), .val (.ref r_75), .val (.int (0 : Int32)), .val (.ref r_76), .val (.ref r_77), .unset] []))
    refine Go.step (fun _ k => XS.aload X_77.here hx rfl (hb hby at_56) rfl rfl k) ?_
    show Go p e below _ (T_77.setTop (mkF m 58 #[.val (.long j1), .second, .val (.int p1), .val (.int p2), .val (.int p3), .val (.ref r_74), .val (.ref r_75), .val (.int (0 : Int32)), .val (.ref r_76), .val (.ref r_77), .unset] [(.ref r_77)]))
    obtain ⟨v_78, T_78, L_78, X_78, hQ_78, st_78⟩ := goV X_77 hx hZ_77 (y := ({ cls := "com/example/enact/enact/queue/QueueEntry", name := "id", desc := "()J" } : Jvm.MethodName)) (z := ({ cls := "com/example/enact/enact/queue/QueueEntry", name := "id", desc := "()J" } : Jvm.MethodName)) hown_77 (wd_83 hw) (wd_84 hw) (notFace_of_selects (args := #[]) (mvT hZ_77 (wd_86 hw))) (wd_86 hw) (wd_85 hw) (by decide) (backOf (W := 0) (rm_get_id l Z a0 hw zc qd (r_77) (j1) T_77.heap n0 (Nat.le_trans Z0 KP_77.1) u2_77 hSt O_77) hZ_77 (wd_87 hw) (wd_36 hw) (by decide) (by decide)) rfl u1_77 (g := (mkF m 58 #[.val (.long j1), .second, .val (.int p1), .val (.int p2), .val (.int p3), .val (.ref r_74), .val (.ref r_75), .val (.int (0 : Int32)), .val (.ref r_76), .val (.ref r_77), .unset] [(.ref r_77)])) rfl (by rw [hml]; rfl) (argsL := []) (rest := []) rfl (lenOf pd_6 rfl) rfl (by show 2 * 0 + _ ≤ _; exact Nat.le_of_eq rfl) (hb hby at_58) (by decide) (by decide)
    obtain ⟨rfl, Nq_78, e_78⟩ := hQ_78
    have N_78 := Fr.app N_77 Nq_78
    refine Go.step st_78 ?_
    show Go p e below _ (T_78.setTop (mkF m 61 #[.val (.long j1), .second, .val (.int p1), .val (.int p2), .val (.int p3), .val (.ref r_74), .val (.ref r_75), .val (.int (0 : Int32)), .val (.ref r_76), .val (.ref r_77), .unset] [(.long j1)]))
    refine Go.step (fun _ k => XS.lloadN X_78.here hx rfl (hb hby at_61) rfl  k) ?_
    show Go p e below _ (T_78.setTop (mkF m 62 #[.val (.long j1), .second, .val (.int p1), .val (.int p2), .val (.int p3), .val (.ref r_74), .val (.ref r_75), .val (.int (0 : Int32)), .val (.ref r_76), .val (.ref r_77), .unset] [(.long j1), (.long j1)]))
    refine Go.step (fun _ k => XS.lcmp X_78.here hx rfl (hb hby at_62) rfl k) ?_
    show Go p e below _ (T_78.setTop (mkF m 63 #[.val (.long j1), .second, .val (.int p1), .val (.int p2), .val (.int p3), .val (.ref r_74), .val (.ref r_75), .val (.int (0 : Int32)), .val (.ref r_76), .val (.ref r_77), .unset] [(.int (lcmpW j1 j1))]))
    refine Go.step (fun _ k => XS.ifYes X_78.here hx rfl (pc0 := 63) (pc' := 68) rfl (hb hby at_63) rfl ((if0 _ _).trans (teq ((lw_eq _ _).mpr (rfl : j1 = j1))).1) (by decide) (by decide) k) ?_
    show Go p e below _ (T_78.setTop (mkF m 68 #[.val (.long j1), .second, .val (.int p1), .val (.int p2), .val (.int p3), .val (.ref r_74), .val (.ref r_75), .val (.int (0 : Int32)), .val (.ref r_76), .val (.ref r_77), .unset] []))
    refine Go.step (fun _ k => XS.aload X_78.here hx rfl (hb hby at_68) rfl rfl k) ?_
    show Go p e below _ (T_78.setTop (mkF m 70 #[.val (.long j1), .second, .val (.int p1), .val (.int p2), .val (.int p3), .val (.ref r_74), .val (.ref r_75), .val (.int (0 : Int32)), .val (.ref r_76), .val (.ref r_77), .unset] [(.ref r_74)]))
    refine Go.step (fun _ k => XS.aload X_78.here hx rfl (hb hby at_70) rfl rfl k) ?_
    show Go p e below _ (T_78.setTop (mkF m 72 #[.val (.long j1), .second, .val (.int p1), .val (.int p2), .val (.int p3), .val (.ref r_74), .val (.ref r_75), .val (.int (0 : Int32)), .val (.ref r_76), .val (.ref r_77), .unset] [(.ref r_77), (.ref r_74)]))
    obtain ⟨v_79, T_79, L_79, X_79, hQ_79, st_79⟩ := goV X_78 hx hZ_77 (y := ({ cls := "com/example/enact/enact/queue/QueueEntry", name := "key", desc := "()Ljava/lang/String;" } : Jvm.MethodName)) (z := ({ cls := "com/example/enact/enact/queue/QueueEntry", name := "key", desc := "()Ljava/lang/String;" } : Jvm.MethodName)) hown_77 (wd_88 hw) (wd_89 hw) (notFace_of_selects (args := #[]) (mvT hZ_77 (wd_91 hw))) (wd_91 hw) (wd_90 hw) (by decide) (backOf (W := 1) (rm_get_key l Z a0 hw zc qd (r_77) (r_74) T_77.heap n0 (Nat.le_trans Z0 KP_77.1) u3_77 hSt O_77) hZ_77 (wd_92 hw) (wd_36 hw) (by decide) (by decide)) e_78 u1_77 (g := (mkF m 72 #[.val (.long j1), .second, .val (.int p1), .val (.int p2), .val (.int p3), .val (.ref r_74), .val (.ref r_75), .val (.int (0 : Int32)), .val (.ref r_76), .val (.ref r_77), .unset] [(.ref r_77), (.ref r_74)])) rfl (by rw [hml]; rfl) (argsL := []) (rest := [(.ref r_74)]) rfl (lenOf pd_7 rfl) rfl (by show 2 * 0 + _ ≤ _; exact Nat.le_of_eq rfl) (hb hby at_72) (by decide) (by decide)
    obtain ⟨rfl, Nq_79, e_79⟩ := hQ_79
    have N_79 := Fr.app N_78 Nq_79
    refine Go.step st_79 ?_
    show Go p e below _ (T_79.setTop (mkF m 75 #[.val (.long j1), .second, .val (.int p1), .val (.int p2), .val (.int p3), .val (.ref r_74), .val (.ref r_75), .val (.int (0 : Int32)), .val (.ref r_76), .val (.ref r_77), .unset] [(.ref r_74), (.ref r_74)]))
    have f81 : Str Z T_74.heap.size T_77.heap r_74 [(p1 &&& (255 : Int32)), (((p1.toUInt32 >>> ((8 : Int32) &&& 31).toUInt32).toInt32) &&& (255 : Int32))] := (((u1_74.keep K_75 all0).keep K_76 all0).keep K_77 all0)
    obtain ⟨v_80, T_80, L_80, X_80, hQ_80, st_80⟩ := goV X_79 hx hZ_77 (y := ({ cls := "java/lang/String", name := "equals", desc := "(Ljava/lang/Object;)Z" } : Jvm.MethodName)) (z := ({ cls := "java/lang/String", name := "equals", desc := "(Ljava/lang/Object;)Z" } : Jvm.MethodName)) hown_77 (wd_93 hw) (wd_94 hw) (notFace_of_selects (args := #[]) (mvT hZ_77 (wd_96 hw))) (wd_96 hw) (wd_95 hw) (by decide) (backOf (W := 0) (rm_eqSelf l Z a0 hw zc qd (r_74) T_77.heap n0 (Nat.le_trans Z0 KP_77.1) hSt O_77) hZ_77 (wd_97 hw) (wd_7 hw) (by decide) (by decide)) e_79 f81.exa (g := (mkF m 75 #[.val (.long j1), .second, .val (.int p1), .val (.int p2), .val (.int p3), .val (.ref r_74), .val (.ref r_75), .val (.int (0 : Int32)), .val (.ref r_76), .val (.ref r_77), .unset] [(.ref r_74), (.ref r_74)])) rfl (by rw [hml]; rfl) (argsL := [(.ref r_74)]) (rest := []) rfl (lenOf pd_8 rfl) rfl (by show 2 * 0 + _ ≤ _; exact Nat.le_of_eq rfl) (hb hby at_75) (by decide) (by decide)
    obtain ⟨rfl, Nq_80, e_80⟩ := hQ_80
    have N_80 := Fr.app N_79 Nq_80
    refine Go.step st_80 ?_
    show Go p e below _ (T_80.setTop (mkF m 78 #[.val (.long j1), .second, .val (.int p1), .val (.int p2), .val (.int p3), .val (.ref r_74), .val (.ref r_75), .val (.int (0 : Int32)), .val (.ref r_76), .val (.ref r_77), .unset] [(.int (1 : Int32))]))
    refine Go.step (fun _ k => XS.ifYes X_80.here hx rfl (pc0 := 78) (pc' := 83) rfl (hb hby at_78) rfl ((if0 _ _).trans (feq ((by decide) : ¬ ((1 : Int32) = (0 : Int32)))).2) (by decide) (by decide) k) ?_
    show Go p e below _ (T_80.setTop (mkF m 83 #[.val (.long j1), .second, .val (.int p1), .val (.int p2), .val (.int p3), .val (.ref r_74), .val (.ref r_75), .val (.int (0 : Int32)), .val (.ref r_76), .val (.ref r_77), .unset] []))
    refine Go.step (fun _ k => XS.aload X_80.here hx rfl (hb hby at_83) rfl rfl k) ?_
    show Go p e below _ (T_80.setTop (mkF m 85 #[.val (.long j1), .second, .val (.int p1), .val (.int p2), .val (.int p3), .val (.ref r_74), .val (.ref r_75), .val (.int (0 : Int32)), .val (.ref r_76), .val (.ref r_77), .unset] [(.ref r_75)]))
    refine Go.step (fun _ k => XS.aload X_80.here hx rfl (hb hby at_85) rfl rfl k) ?_
    show Go p e below _ (T_80.setTop (mkF m 87 #[.val (.long j1), .second, .val (.int p1), .val (.int p2), .val (.int p3), .val (.ref r_74), .val (.ref r_75), .val (.int (0 : Int32)), .val (.ref r_76), .val (.ref r_77), .unset] [(.ref r_77), (.ref r_75)]))
    obtain ⟨v_82, T_82, L_82, X_82, hQ_82, st_82⟩ := goV X_80 hx hZ_77 (y := ({ cls := "com/example/enact/enact/queue/QueueEntry", name := "command", desc := "()Ljava/lang/String;" } : Jvm.MethodName)) (z := ({ cls := "com/example/enact/enact/queue/QueueEntry", name := "command", desc := "()Ljava/lang/String;" } : Jvm.MethodName)) hown_77 (wd_98 hw) (wd_99 hw) (notFace_of_selects (args := #[]) (mvT hZ_77 (wd_101 hw))) (wd_101 hw) (wd_100 hw) (by decide) (backOf (W := 1) (rm_get_command l Z a0 hw zc qd (r_77) (r_75) T_77.heap n0 (Nat.le_trans Z0 KP_77.1) u4_77 hSt O_77) hZ_77 (wd_102 hw) (wd_36 hw) (by decide) (by decide)) e_80 u1_77 (g := (mkF m 87 #[.val (.long j1), .second, .val (.int p1), .val (.int p2), .val (.int p3), .val (.ref r_74), .val (.ref r_75), .val (.int (0 : Int32)), .val (.ref r_76), .val (.ref r_77), .unset] [(.ref r_77), (.ref r_75)])) rfl (by rw [hml]; rfl) (argsL := []) (rest := [(.ref r_75)]) rfl (lenOf pd_7 rfl) rfl (by show 2 * 0 + _ ≤ _; exact Nat.le_of_eq rfl) (hb hby at_87) (by decide) (by decide)
    obtain ⟨rfl, Nq_82, e_82⟩ := hQ_82
    have N_82 := Fr.app N_80 Nq_82
    refine Go.step st_82 ?_
    show Go p e below _ (T_82.setTop (mkF m 90 #[.val (.long j1), .second, .val (.int p1), .val (.int p2), .val (.int p3), .val (.ref r_74), .val (.ref r_75), .val (.int (0 : Int32)), .val (.ref r_76), .val (.ref r_77), .unset] [(.ref r_75), (.ref r_75)]))
    have f84 : Str Z T_75.heap.size T_77.heap r_75 [(p2 &&& (255 : Int32)), (((p2.toUInt32 >>> ((8 : Int32) &&& 31).toUInt32).toInt32) &&& (255 : Int32))] := ((u1_75.keep K_76 all0).keep K_77 all0)
    obtain ⟨v_83, T_83, L_83, X_83, hQ_83, st_83⟩ := goV X_82 hx hZ_77 (y := ({ cls := "java/lang/String", name := "equals", desc := "(Ljava/lang/Object;)Z" } : Jvm.MethodName)) (z := ({ cls := "java/lang/String", name := "equals", desc := "(Ljava/lang/Object;)Z" } : Jvm.MethodName)) hown_77 (wd_93 hw) (wd_94 hw) (notFace_of_selects (args := #[]) (mvT hZ_77 (wd_96 hw))) (wd_96 hw) (wd_95 hw) (by decide) (backOf (W := 0) (rm_eqSelf l Z a0 hw zc qd (r_75) T_77.heap n0 (Nat.le_trans Z0 KP_77.1) hSt O_77) hZ_77 (wd_97 hw) (wd_7 hw) (by decide) (by decide)) e_82 f84.exa (g := (mkF m 90 #[.val (.long j1), .second, .val (.int p1), .val (.int p2), .val (.int p3), .val (.ref r_74), .val (.ref r_75), .val (.int (0 : Int32)), .val (.ref r_76), .val (.ref r_77), .unset] [(.ref r_75), (.ref r_75)])) rfl (by rw [hml]; rfl) (argsL := [(.ref r_75)]) (rest := []) rfl (lenOf pd_8 rfl) rfl (by show 2 * 0 + _ ≤ _; exact Nat.le_of_eq rfl) (hb hby at_90) (by decide) (by decide)
    obtain ⟨rfl, Nq_83, e_83⟩ := hQ_83
    have N_83 := Fr.app N_82 Nq_83
    refine Go.step st_83 ?_
    show Go p e below _ (T_83.setTop (mkF m 93 #[.val (.long j1), .second, .val (.int p1), .val (.int p2), .val (.int p3), .val (.ref r_74), .val (.ref r_75), .val (.int (0 : Int32)), .val (.ref r_76), .val (.ref r_77), .unset] [(.int (1 : Int32))]))
    refine Go.step (fun _ k => XS.ifYes X_83.here hx rfl (pc0 := 93) (pc' := 98) rfl (hb hby at_93) rfl ((if0 _ _).trans (feq ((by decide) : ¬ ((1 : Int32) = (0 : Int32)))).2) (by decide) (by decide) k) ?_
    show Go p e below _ (T_83.setTop (mkF m 98 #[.val (.long j1), .second, .val (.int p1), .val (.int p2), .val (.int p3), .val (.ref r_74), .val (.ref r_75), .val (.int (0 : Int32)), .val (.ref r_76), .val (.ref r_77), .unset] []))
    refine Go.step (fun _ k => XS.aload X_83.here hx rfl (hb hby at_98) rfl rfl k) ?_
    show Go p e below _ (T_83.setTop (mkF m 100 #[.val (.long j1), .second, .val (.int p1), .val (.int p2), .val (.int p3), .val (.ref r_74), .val (.ref r_75), .val (.int (0 : Int32)), .val (.ref r_76), .val (.ref r_77), .unset] [(.ref r_77)]))
    obtain ⟨v_85, T_85, L_85, X_85, hQ_85, st_85⟩ := goV X_83 hx hZ_77 (y := ({ cls := "com/example/enact/enact/queue/QueueEntry", name := "input", desc := "()Ljava/lang/String;" } : Jvm.MethodName)) (z := ({ cls := "com/example/enact/enact/queue/QueueEntry", name := "input", desc := "()Ljava/lang/String;" } : Jvm.MethodName)) hown_77 (wd_103 hw) (wd_104 hw) (notFace_of_selects (args := #[]) (mvT hZ_77 (wd_106 hw))) (wd_106 hw) (wd_105 hw) (by decide) (backOf (W := 0) (rm_get_input l Z a0 hw zc qd (r_77) ((.ref r_76)) T_77.heap n0 (Nat.le_trans Z0 KP_77.1) u5_77 rfl hSt O_77) hZ_77 (wd_107 hw) (wd_36 hw) (by decide) (by decide)) e_83 u1_77 (g := (mkF m 100 #[.val (.long j1), .second, .val (.int p1), .val (.int p2), .val (.int p3), .val (.ref r_74), .val (.ref r_75), .val (.int (0 : Int32)), .val (.ref r_76), .val (.ref r_77), .unset] [(.ref r_77)])) rfl (by rw [hml]; rfl) (argsL := []) (rest := []) rfl (lenOf pd_7 rfl) rfl (by show 2 * 0 + _ ≤ _; exact Nat.le_of_eq rfl) (hb hby at_100) (by decide) (by decide)
    obtain ⟨rfl, Nq_85, e_85⟩ := hQ_85
    have N_85 := Fr.app N_83 Nq_85
    refine Go.step st_85 ?_
    show Go p e below _ (T_85.setTop (mkF m 103 #[.val (.long j1), .second, .val (.int p1), .val (.int p2), .val (.int p3), .val (.ref r_74), .val (.ref r_75), .val (.int (0 : Int32)), .val (.ref r_76), .val (.ref r_77), .unset] [(.ref r_76)]))
    refine Go.step (fun _ k => XS.astore X_85.here hx rfl (hb hby at_103) rfl rfl (l' := #[.val (.long j1), .second, .val (.int p1), .val (.int p2), .val (.int p3), .val (.ref r_74), .val (.ref r_75), .val (.int (0 : Int32)), .val (.ref r_76), .val (.ref r_77), .val (.ref r_76)]) rfl k) ?_
    show Go p e below _ (T_85.setTop (mkF m 105 #[.val (.long j1), .second, .val (.int p1), .val (.int p2), .val (.int p3), .val (.ref r_74), .val (.ref r_75), .val (.int (0 : Int32)), .val (.ref r_76), .val (.ref r_77), .val (.ref r_76)] []))
    refine Go.step (fun _ k => XS.iload X_85.here hx rfl (hb hby at_105) rfl  k) ?_
    show Go p e below _ (T_85.setTop (mkF m 107 #[.val (.long j1), .second, .val (.int p1), .val (.int p2), .val (.int p3), .val (.ref r_74), .val (.ref r_75), .val (.int (0 : Int32)), .val (.ref r_76), .val (.ref r_77), .val (.ref r_76)] [(.int (0 : Int32))]))
    refine Go.step (fun _ k => XS.ifYes X_85.here hx rfl (pc0 := 107) (pc' := 117) rfl (hb hby at_107) rfl ((if0 _ _).trans (teq ((by decide) : (0 : Int32) = (0 : Int32))).1) (by decide) (by decide) k) ?_
    show Go p e below _ (T_85.setTop (mkF m 117 #[.val (.long j1), .second, .val (.int p1), .val (.int p2), .val (.int p3), .val (.ref r_74), .val (.ref r_75), .val (.int (0 : Int32)), .val (.ref r_76), .val (.ref r_77), .val (.ref r_76)] []))
    refine Go.step (fun _ k => XS.aload X_85.here hx rfl (hb hby at_117) rfl rfl k) ?_
    show Go p e below _ (T_85.setTop (mkF m 119 #[.val (.long j1), .second, .val (.int p1), .val (.int p2), .val (.int p3), .val (.ref r_74), .val (.ref r_75), .val (.int (0 : Int32)), .val (.ref r_76), .val (.ref r_77), .val (.ref r_76)] [(.ref r_76)]))
    refine Go.step (fun _ k => XS.ifnullNo X_85.here hx rfl (hb hby at_119) rfl k) ?_
    show Go p e below _ (T_85.setTop (mkF m 122 #[.val (.long j1), .second, .val (.int p1), .val (.int p2), .val (.int p3), .val (.ref r_74), .val (.ref r_75), .val (.int (0 : Int32)), .val (.ref r_76), .val (.ref r_77), .val (.ref r_76)] []))
    refine Go.step (fun _ k => XS.aload X_85.here hx rfl (hb hby at_122) rfl rfl k) ?_
    show Go p e below _ (T_85.setTop (mkF m 124 #[.val (.long j1), .second, .val (.int p1), .val (.int p2), .val (.int p3), .val (.ref r_74), .val (.ref r_75), .val (.int (0 : Int32)), .val (.ref r_76), .val (.ref r_77), .val (.ref r_76)] [(.ref r_76)]))
    refine Go.step (fun _ k => XS.aload X_85.here hx rfl (hb hby at_124) rfl rfl k) ?_
    show Go p e below _ (T_85.setTop (mkF m 126 #[.val (.long j1), .second, .val (.int p1), .val (.int p2), .val (.int p3), .val (.ref r_74), .val (.ref r_75), .val (.int (0 : Int32)), .val (.ref r_76), .val (.ref r_77), .val (.ref r_76)] [(.ref r_76), (.ref r_76)]))
    have f87 : Str Z T_76.heap.size T_77.heap r_76 [(((p3.toUInt32 >>> ((1 : Int32) &&& 31).toUInt32).toInt32) &&& (255 : Int32)), (((((p3.toUInt32 >>> ((1 : Int32) &&& 31).toUInt32).toInt32).toUInt32 >>> ((8 : Int32) &&& 31).toUInt32).toInt32) &&& (255 : Int32))] := (u1_76.keep K_77 all0)
    obtain ⟨v_86, T_86, L_86, X_86, hQ_86, st_86⟩ := goV X_85 hx hZ_77 (y := ({ cls := "java/lang/String", name := "equals", desc := "(Ljava/lang/Object;)Z" } : Jvm.MethodName)) (z := ({ cls := "java/lang/String", name := "equals", desc := "(Ljava/lang/Object;)Z" } : Jvm.MethodName)) hown_77 (wd_93 hw) (wd_94 hw) (notFace_of_selects (args := #[]) (mvT hZ_77 (wd_96 hw))) (wd_96 hw) (wd_95 hw) (by decide) (backOf (W := 0) (rm_eqSelf l Z a0 hw zc qd (r_76) T_77.heap n0 (Nat.le_trans Z0 KP_77.1) hSt O_77) hZ_77 (wd_97 hw) (wd_7 hw) (by decide) (by decide)) e_85 f87.exa (g := (mkF m 126 #[.val (.long j1), .second, .val (.int p1), .val (.int p2), .val (.int p3), .val (.ref r_74), .val (.ref r_75), .val (.int (0 : Int32)), .val (.ref r_76), .val (.ref r_77), .val (.ref r_76)] [(.ref r_76), (.ref r_76)])) rfl (by rw [hml]; rfl) (argsL := [(.ref r_76)]) (rest := []) rfl (lenOf pd_8 rfl) rfl (by show 2 * 0 + _ ≤ _; exact Nat.le_of_eq rfl) (hb hby at_126) (by decide) (by decide)
    obtain ⟨rfl, Nq_86, e_86⟩ := hQ_86
    have N_86 := Fr.app N_85 Nq_86
    refine Go.step st_86 ?_
    show Go p e below _ (T_86.setTop (mkF m 129 #[.val (.long j1), .second, .val (.int p1), .val (.int p2), .val (.int p3), .val (.ref r_74), .val (.ref r_75), .val (.int (0 : Int32)), .val (.ref r_76), .val (.ref r_77), .val (.ref r_76)] [(.int (1 : Int32))]))
    refine Go.step (fun _ k => XS.ifYes X_86.here hx rfl (pc0 := 129) (pc' := 134) rfl (hb hby at_129) rfl ((if0 _ _).trans (feq ((by decide) : ¬ ((1 : Int32) = (0 : Int32)))).2) (by decide) (by decide) k) ?_
    show Go p e below _ (T_86.setTop (mkF m 134 #[.val (.long j1), .second, .val (.int p1), .val (.int p2), .val (.int p3), .val (.ref r_74), .val (.ref r_75), .val (.int (0 : Int32)), .val (.ref r_76), .val (.ref r_77), .val (.ref r_76)] []))
    refine Go.step (fun _ k => XS.aload X_86.here hx rfl (hb hby at_134) rfl rfl k) ?_
    show Go p e below _ (T_86.setTop (mkF m 136 #[.val (.long j1), .second, .val (.int p1), .val (.int p2), .val (.int p3), .val (.ref r_74), .val (.ref r_75), .val (.int (0 : Int32)), .val (.ref r_76), .val (.ref r_77), .val (.ref r_76)] [(.ref r_77)]))
    obtain ⟨v_88, T_88, L_88, X_88, hQ_88, st_88⟩ := goV X_86 hx hZ_77 (y := ({ cls := "com/example/enact/enact/queue/QueueEntry", name := "status", desc := "()Lcom/example/enact/enact/queue/QueueEntry$Status;" } : Jvm.MethodName)) (z := ({ cls := "com/example/enact/enact/queue/QueueEntry", name := "status", desc := "()Lcom/example/enact/enact/queue/QueueEntry$Status;" } : Jvm.MethodName)) hown_77 (wd_108 hw) (wd_109 hw) (notFace_of_selects (args := #[]) (mvT hZ_77 (wd_111 hw))) (wd_111 hw) (wd_110 hw) (by decide) (backOf (W := 0) (rm_get_status l Z a0 hw zc (qd) (r_77) T_77.heap n0 (Nat.le_trans Z0 KP_77.1) u6_77 hSt O_77) hZ_77 (wd_112 hw) (wd_36 hw) (by decide) (by decide)) e_86 u1_77 (g := (mkF m 136 #[.val (.long j1), .second, .val (.int p1), .val (.int p2), .val (.int p3), .val (.ref r_74), .val (.ref r_75), .val (.int (0 : Int32)), .val (.ref r_76), .val (.ref r_77), .val (.ref r_76)] [(.ref r_77)])) rfl (by rw [hml]; rfl) (argsL := []) (rest := []) rfl (lenOf pd_9 rfl) rfl (by show 2 * 0 + _ ≤ _; exact Nat.le_of_eq rfl) (hb hby at_136) (by decide) (by decide)
    obtain ⟨rfl, Nq_88, e_88⟩ := hQ_88
    have N_88 := Fr.app N_86 Nq_88
    refine Go.step st_88 ?_
    show Go p e below _ (T_88.setTop (mkF m 139 #[.val (.long j1), .second, .val (.int p1), .val (.int p2), .val (.int p3), .val (.ref r_74), .val (.ref r_75), .val (.int (0 : Int32)), .val (.ref r_76), .val (.ref r_77), .val (.ref r_76)] [(.ref qd)]))
    obtain ⟨T_89, X_89, e_89, st_89⟩ := getS2 X_88 hx hZ_77 hown_77 (host := "") (Or.inl (wd_113 hw)) Via.refl e_88 (S_qd.ext O_77.2) (g := (mkF m 139 #[.val (.long j1), .second, .val (.int p1), .val (.int p2), .val (.int p3), .val (.ref r_74), .val (.ref r_75), .val (.int (0 : Int32)), .val (.ref r_76), .val (.ref r_77), .val (.ref r_76)] [(.ref qd)])) rfl (hb hby at_139)
    refine Go.step st_89 ?_
    show Go p e below _ (T_89.setTop (mkF m 142 #[.val (.long j1), .second, .val (.int p1), .val (.int p2), .val (.int p3), .val (.ref r_74), .val (.ref r_75), .val (.int (0 : Int32)), .val (.ref r_76), .val (.ref r_77), .val (.ref r_76)] [(.ref qd), (.ref qd)]))
    refine Go.step (fun _ k => Jvm.RoadKit.acmp (g := (mkF m 142 #[.val (.long j1), .second, .val (.int p1), .val (.int p2), .val (.int p3), .val (.ref r_74), .val (.ref r_75), .val (.int (0 : Int32)), .val (.ref r_76), .val (.ref r_77), .val (.ref r_76)] [(.ref qd), (.ref qd)])) X_89 hx rfl rfl rfl (pc0 := 142) (pc' := 147) (same := true) rfl (hb hby at_142) rfl (decide_eq_true rfl) (by decide) (by decide) k) ?_
    show Go p e below _ (T_89.setTop (mkF m 147 #[.val (.long j1), .second, .val (.int p1), .val (.int p2), .val (.int p3), .val (.ref r_74), .val (.ref r_75), .val (.int (0 : Int32)), .val (.ref r_76), .val (.ref r_77), .val (.ref r_76)] []))
    refine Go.step (fun _ k => XS.aload X_89.here hx rfl (hb hby at_147) rfl rfl k) ?_
    show Go p e below _ (T_89.setTop (mkF m 149 #[.val (.long j1), .second, .val (.int p1), .val (.int p2), .val (.int p3), .val (.ref r_74), .val (.ref r_75), .val (.int (0 : Int32)), .val (.ref r_76), .val (.ref r_77), .val (.ref r_76)] [(.ref r_77)]))
    obtain ⟨v_90, T_90, L_90, X_90, hQ_90, st_90⟩ := goV X_89 hx hZ_77 (y := ({ cls := "com/example/enact/enact/queue/QueueEntry", name := "attempts", desc := "()I" } : Jvm.MethodName)) (z := ({ cls := "com/example/enact/enact/queue/QueueEntry", name := "attempts", desc := "()I" } : Jvm.MethodName)) hown_77 (wd_114 hw) (wd_115 hw) (notFace_of_selects (args := #[]) (mvT hZ_77 (wd_117 hw))) (wd_117 hw) (wd_116 hw) (by decide) (backOf (W := 0) (rm_get_attempts l Z a0 hw zc qd (r_77) T_77.heap n0 (Nat.le_trans Z0 KP_77.1) u7_77 hSt O_77) hZ_77 (wd_118 hw) (wd_36 hw) (by decide) (by decide)) e_89 u1_77 (g := (mkF m 149 #[.val (.long j1), .second, .val (.int p1), .val (.int p2), .val (.int p3), .val (.ref r_74), .val (.ref r_75), .val (.int (0 : Int32)), .val (.ref r_76), .val (.ref r_77), .val (.ref r_76)] [(.ref r_77)])) rfl (by rw [hml]; rfl) (argsL := []) (rest := []) rfl (lenOf pd_10 rfl) rfl (by show 2 * 0 + _ ≤ _; exact Nat.le_of_eq rfl) (hb hby at_149) (by decide) (by decide)
    obtain ⟨rfl, Nq_90, e_90⟩ := hQ_90
    have N_90 := Fr.app N_88 Nq_90
    refine Go.step st_90 ?_
    show Go p e below _ (T_90.setTop (mkF m 152 #[.val (.long j1), .second, .val (.int p1), .val (.int p2), .val (.int p3), .val (.ref r_74), .val (.ref r_75), .val (.int (0 : Int32)), .val (.ref r_76), .val (.ref r_77), .val (.ref r_76)] [(.int (0 : Int32))]))
    refine Go.step (fun _ k => XS.ifYes X_90.here hx rfl (pc0 := 152) (pc' := 157) rfl (hb hby at_152) rfl ((if0 _ _).trans (teq ((by decide) : (0 : Int32) = (0 : Int32))).1) (by decide) (by decide) k) ?_
    show Go p e below _ (T_90.setTop (mkF m 157 #[.val (.long j1), .second, .val (.int p1), .val (.int p2), .val (.int p3), .val (.ref r_74), .val (.ref r_75), .val (.int (0 : Int32)), .val (.ref r_76), .val (.ref r_77), .val (.ref r_76)] []))
    refine Go.step (fun _ k => XS.aload X_90.here hx rfl (hb hby at_157) rfl rfl k) ?_
    show Go p e below _ (T_90.setTop (mkF m 159 #[.val (.long j1), .second, .val (.int p1), .val (.int p2), .val (.int p3), .val (.ref r_74), .val (.ref r_75), .val (.int (0 : Int32)), .val (.ref r_76), .val (.ref r_77), .val (.ref r_76)] [(.ref r_77)]))
    obtain ⟨v_91, T_91, L_91, X_91, hQ_91, st_91⟩ := goV X_90 hx hZ_77 (y := ({ cls := "com/example/enact/enact/queue/QueueEntry", name := "firstAttempt", desc := "()Ljava/time/Instant;" } : Jvm.MethodName)) (z := ({ cls := "com/example/enact/enact/queue/QueueEntry", name := "firstAttempt", desc := "()Ljava/time/Instant;" } : Jvm.MethodName)) hown_77 (wd_119 hw) (wd_120 hw) (notFace_of_selects (args := #[]) (mvT hZ_77 (wd_122 hw))) (wd_122 hw) (wd_121 hw) (by decide) (backOf (W := 0) (rm_get_firstAttempt l Z a0 hw zc qd (r_77) T_77.heap n0 (Nat.le_trans Z0 KP_77.1) u8_77 hSt O_77) hZ_77 (wd_123 hw) (wd_36 hw) (by decide) (by decide)) e_90 u1_77 (g := (mkF m 159 #[.val (.long j1), .second, .val (.int p1), .val (.int p2), .val (.int p3), .val (.ref r_74), .val (.ref r_75), .val (.int (0 : Int32)), .val (.ref r_76), .val (.ref r_77), .val (.ref r_76)] [(.ref r_77)])) rfl (by rw [hml]; rfl) (argsL := []) (rest := []) rfl (lenOf pd_11 rfl) rfl (by show 2 * 0 + _ ≤ _; exact Nat.le_of_eq rfl) (hb hby at_159) (by decide) (by decide)
    obtain ⟨rfl, Nq_91, e_91⟩ := hQ_91
    have N_91 := Fr.app N_90 Nq_91
    refine Go.step st_91 ?_
    show Go p e below _ (T_91.setTop (mkF m 162 #[.val (.long j1), .second, .val (.int p1), .val (.int p2), .val (.int p3), .val (.ref r_74), .val (.ref r_75), .val (.int (0 : Int32)), .val (.ref r_76), .val (.ref r_77), .val (.ref r_76)] [.null]))
    refine Go.step (fun _ k => XS.ifnonnullNo X_91.here hx rfl (hb hby at_162) rfl k) ?_
    show Go p e below _ (T_91.setTop (mkF m 165 #[.val (.long j1), .second, .val (.int p1), .val (.int p2), .val (.int p3), .val (.ref r_74), .val (.ref r_75), .val (.int (0 : Int32)), .val (.ref r_76), .val (.ref r_77), .val (.ref r_76)] []))
    refine Go.step (fun _ k => XS.aload X_91.here hx rfl (hb hby at_165) rfl rfl k) ?_
    show Go p e below _ (T_91.setTop (mkF m 167 #[.val (.long j1), .second, .val (.int p1), .val (.int p2), .val (.int p3), .val (.ref r_74), .val (.ref r_75), .val (.int (0 : Int32)), .val (.ref r_76), .val (.ref r_77), .val (.ref r_76)] [(.ref r_77)]))
    obtain ⟨v_92, T_92, L_92, X_92, hQ_92, st_92⟩ := goV X_91 hx hZ_77 (y := ({ cls := "com/example/enact/enact/queue/QueueEntry", name := "ended", desc := "()Ljava/time/Instant;" } : Jvm.MethodName)) (z := ({ cls := "com/example/enact/enact/queue/QueueEntry", name := "ended", desc := "()Ljava/time/Instant;" } : Jvm.MethodName)) hown_77 (wd_124 hw) (wd_125 hw) (notFace_of_selects (args := #[]) (mvT hZ_77 (wd_127 hw))) (wd_127 hw) (wd_126 hw) (by decide) (backOf (W := 0) (rm_get_ended l Z a0 hw zc qd (r_77) T_77.heap n0 (Nat.le_trans Z0 KP_77.1) u9_77 hSt O_77) hZ_77 (wd_128 hw) (wd_36 hw) (by decide) (by decide)) e_91 u1_77 (g := (mkF m 167 #[.val (.long j1), .second, .val (.int p1), .val (.int p2), .val (.int p3), .val (.ref r_74), .val (.ref r_75), .val (.int (0 : Int32)), .val (.ref r_76), .val (.ref r_77), .val (.ref r_76)] [(.ref r_77)])) rfl (by rw [hml]; rfl) (argsL := []) (rest := []) rfl (lenOf pd_11 rfl) rfl (by show 2 * 0 + _ ≤ _; exact Nat.le_of_eq rfl) (hb hby at_167) (by decide) (by decide)
    obtain ⟨rfl, Nq_92, e_92⟩ := hQ_92
    have N_92 := Fr.app N_91 Nq_92
    refine Go.step st_92 ?_
    show Go p e below _ (T_92.setTop (mkF m 170 #[.val (.long j1), .second, .val (.int p1), .val (.int p2), .val (.int p3), .val (.ref r_74), .val (.ref r_75), .val (.int (0 : Int32)), .val (.ref r_76), .val (.ref r_77), .val (.ref r_76)] [.null]))
    refine Go.step (fun _ k => XS.ifnullYes X_92.here hx rfl (pc0 := 170) (pc' := 175) rfl (hb hby at_170) rfl (by decide) (by decide) k) ?_
    show Go p e below _ (T_92.setTop (mkF m 175 #[.val (.long j1), .second, .val (.int p1), .val (.int p2), .val (.int p3), .val (.ref r_74), .val (.ref r_75), .val (.int (0 : Int32)), .val (.ref r_76), .val (.ref r_77), .val (.ref r_76)] []))
    refine Go.step (fun _ k => XS.aload X_92.here hx rfl (hb hby at_175) rfl rfl k) ?_
    show Go p e below _ (T_92.setTop (mkF m 177 #[.val (.long j1), .second, .val (.int p1), .val (.int p2), .val (.int p3), .val (.ref r_74), .val (.ref r_75), .val (.int (0 : Int32)), .val (.ref r_76), .val (.ref r_77), .val (.ref r_76)] [(.ref r_77)]))
    obtain ⟨v_93, T_93, L_93, X_93, hQ_93, st_93⟩ := goV X_92 hx hZ_77 (y := ({ cls := "com/example/enact/enact/queue/QueueEntry", name := "result", desc := "()Ljava/lang/String;" } : Jvm.MethodName)) (z := ({ cls := "com/example/enact/enact/queue/QueueEntry", name := "result", desc := "()Ljava/lang/String;" } : Jvm.MethodName)) hown_77 (wd_129 hw) (wd_130 hw) (notFace_of_selects (args := #[]) (mvT hZ_77 (wd_132 hw))) (wd_132 hw) (wd_131 hw) (by decide) (backOf (W := 0) (rm_get_result l Z a0 hw zc qd (r_77) T_77.heap n0 (Nat.le_trans Z0 KP_77.1) u10_77 hSt O_77) hZ_77 (wd_133 hw) (wd_36 hw) (by decide) (by decide)) e_92 u1_77 (g := (mkF m 177 #[.val (.long j1), .second, .val (.int p1), .val (.int p2), .val (.int p3), .val (.ref r_74), .val (.ref r_75), .val (.int (0 : Int32)), .val (.ref r_76), .val (.ref r_77), .val (.ref r_76)] [(.ref r_77)])) rfl (by rw [hml]; rfl) (argsL := []) (rest := []) rfl (lenOf pd_7 rfl) rfl (by show 2 * 0 + _ ≤ _; exact Nat.le_of_eq rfl) (hb hby at_177) (by decide) (by decide)
    obtain ⟨rfl, Nq_93, e_93⟩ := hQ_93
    have N_93 := Fr.app N_92 Nq_93
    refine Go.step st_93 ?_
    show Go p e below _ (T_93.setTop (mkF m 180 #[.val (.long j1), .second, .val (.int p1), .val (.int p2), .val (.int p3), .val (.ref r_74), .val (.ref r_75), .val (.int (0 : Int32)), .val (.ref r_76), .val (.ref r_77), .val (.ref r_76)] [.null]))
    refine Go.step (fun _ k => XS.ifnonnullNo X_93.here hx rfl (hb hby at_180) rfl k) ?_
    show Go p e below _ (T_93.setTop (mkF m 183 #[.val (.long j1), .second, .val (.int p1), .val (.int p2), .val (.int p3), .val (.ref r_74), .val (.ref r_75), .val (.int (0 : Int32)), .val (.ref r_76), .val (.ref r_77), .val (.ref r_76)] []))
    refine Go.step (fun _ k => XS.aload X_93.here hx rfl (hb hby at_183) rfl rfl k) ?_
    show Go p e below _ (T_93.setTop (mkF m 185 #[.val (.long j1), .second, .val (.int p1), .val (.int p2), .val (.int p3), .val (.ref r_74), .val (.ref r_75), .val (.int (0 : Int32)), .val (.ref r_76), .val (.ref r_77), .val (.ref r_76)] [(.ref r_77)]))
    obtain ⟨v_94, T_94, L_94, X_94, hQ_94, st_94⟩ := goV X_93 hx hZ_77 (y := ({ cls := "com/example/enact/enact/queue/QueueEntry", name := "message", desc := "()Ljava/lang/String;" } : Jvm.MethodName)) (z := ({ cls := "com/example/enact/enact/queue/QueueEntry", name := "message", desc := "()Ljava/lang/String;" } : Jvm.MethodName)) hown_77 (wd_134 hw) (wd_135 hw) (notFace_of_selects (args := #[]) (mvT hZ_77 (wd_137 hw))) (wd_137 hw) (wd_136 hw) (by decide) (backOf (W := 0) (rm_get_message l Z a0 hw zc qd (r_77) T_77.heap n0 (Nat.le_trans Z0 KP_77.1) u11_77 hSt O_77) hZ_77 (wd_138 hw) (wd_36 hw) (by decide) (by decide)) e_93 u1_77 (g := (mkF m 185 #[.val (.long j1), .second, .val (.int p1), .val (.int p2), .val (.int p3), .val (.ref r_74), .val (.ref r_75), .val (.int (0 : Int32)), .val (.ref r_76), .val (.ref r_77), .val (.ref r_76)] [(.ref r_77)])) rfl (by rw [hml]; rfl) (argsL := []) (rest := []) rfl (lenOf pd_7 rfl) rfl (by show 2 * 0 + _ ≤ _; exact Nat.le_of_eq rfl) (hb hby at_185) (by decide) (by decide)
    obtain ⟨rfl, Nq_94, e_94⟩ := hQ_94
    have N_94 := Fr.app N_93 Nq_94
    refine Go.step st_94 ?_
    show Go p e below _ (T_94.setTop (mkF m 188 #[.val (.long j1), .second, .val (.int p1), .val (.int p2), .val (.int p3), .val (.ref r_74), .val (.ref r_75), .val (.int (0 : Int32)), .val (.ref r_76), .val (.ref r_77), .val (.ref r_76)] [.null]))
    refine Go.step (fun _ k => XS.ifnonnullNo X_94.here hx rfl (hb hby at_188) rfl k) ?_
    show Go p e below _ (T_94.setTop (mkF m 191 #[.val (.long j1), .second, .val (.int p1), .val (.int p2), .val (.int p3), .val (.ref r_74), .val (.ref r_75), .val (.int (0 : Int32)), .val (.ref r_76), .val (.ref r_77), .val (.ref r_76)] []))
    refine Go.step (fun _ k => XS.aload X_94.here hx rfl (hb hby at_191) rfl rfl k) ?_
    show Go p e below _ (T_94.setTop (mkF m 193 #[.val (.long j1), .second, .val (.int p1), .val (.int p2), .val (.int p3), .val (.ref r_74), .val (.ref r_75), .val (.int (0 : Int32)), .val (.ref r_76), .val (.ref r_77), .val (.ref r_76)] [(.ref r_77)]))
    obtain ⟨v_95, T_95, L_95, X_95, hQ_95, st_95⟩ := goV X_94 hx hZ_77 (y := ({ cls := "com/example/enact/enact/queue/QueueEntry", name := "type", desc := "()Ljava/lang/String;" } : Jvm.MethodName)) (z := ({ cls := "com/example/enact/enact/queue/QueueEntry", name := "type", desc := "()Ljava/lang/String;" } : Jvm.MethodName)) hown_77 (wd_139 hw) (wd_140 hw) (notFace_of_selects (args := #[]) (mvT hZ_77 (wd_142 hw))) (wd_142 hw) (wd_141 hw) (by decide) (backOf (W := 0) (rm_get_type l Z a0 hw zc qd (r_77) T_77.heap n0 (Nat.le_trans Z0 KP_77.1) u12_77 hSt O_77) hZ_77 (wd_143 hw) (wd_36 hw) (by decide) (by decide)) e_94 u1_77 (g := (mkF m 193 #[.val (.long j1), .second, .val (.int p1), .val (.int p2), .val (.int p3), .val (.ref r_74), .val (.ref r_75), .val (.int (0 : Int32)), .val (.ref r_76), .val (.ref r_77), .val (.ref r_76)] [(.ref r_77)])) rfl (by rw [hml]; rfl) (argsL := []) (rest := []) rfl (lenOf pd_7 rfl) rfl (by show 2 * 0 + _ ≤ _; exact Nat.le_of_eq rfl) (hb hby at_193) (by decide) (by decide)
    obtain ⟨rfl, Nq_95, e_95⟩ := hQ_95
    have N_95 := Fr.app N_94 Nq_95
    refine Go.step st_95 ?_
    show Go p e below _ (T_95.setTop (mkF m 196 #[.val (.long j1), .second, .val (.int p1), .val (.int p2), .val (.int p3), .val (.ref r_74), .val (.ref r_75), .val (.int (0 : Int32)), .val (.ref r_76), .val (.ref r_77), .val (.ref r_76)] [.null]))
    refine Go.step (fun _ k => XS.ifnonnullNo X_95.here hx rfl (hb hby at_196) rfl k) ?_
    show Go p e below _ (T_95.setTop (mkF m 199 #[.val (.long j1), .second, .val (.int p1), .val (.int p2), .val (.int p3), .val (.ref r_74), .val (.ref r_75), .val (.int (0 : Int32)), .val (.ref r_76), .val (.ref r_77), .val (.ref r_76)] []))
    refine Go.step (fun _ k => XS.iconst X_95.here hx rfl (hb hby at_199) k) ?_
    show Go p e below _ (T_95.setTop (mkF m 200 #[.val (.long j1), .second, .val (.int p1), .val (.int p2), .val (.int p3), .val (.ref r_74), .val (.ref r_75), .val (.int (0 : Int32)), .val (.ref r_76), .val (.ref r_77), .val (.ref r_76)] [(.int (1 : Int32))]))
    refine Go.step (fun _ k => XS.goto X_95.here hx rfl (pc0 := 200) (pc' := 204) rfl (hb hby at_200) (by decide) (by decide) k) ?_
    show Go p e below _ (T_95.setTop (mkF m 204 #[.val (.long j1), .second, .val (.int p1), .val (.int p2), .val (.int p3), .val (.ref r_74), .val (.ref r_75), .val (.int (0 : Int32)), .val (.ref r_76), .val (.ref r_77), .val (.ref r_76)] [(.int (1 : Int32))]))
    exact Go.retVW X_95 e_95 hS_77 (Nat.le_refl _) hZ_77 hEL hh0 CR_77 hx hlk hret rfl (Or.inl ⟨rfl, Or.inr (Or.inl rfl), _, rfl⟩) (hb hby at_204) (by decide) (by decide) (by rw [e_95]; exact ⟨rfl, N_95⟩)
  · skip
    refine Go.step (fun _ k => XS.ifNo X_75.here hx rfl (hb hby at_16) rfl ((if0 _ _).trans (feq hin).1) k) ?_
    show Go p e below _ (T_75.setTop (mkF m 19 #[.val (.long j1), .second, .val (.int p1), .val (.int p2), .val (.int p3), .val (.ref r_74), .val (.ref r_75), .unset, .unset, .unset, .unset] []))
    refine Go.step (fun _ k => XS.iconst X_75.here hx rfl (hb hby at_19) k) ?_
    show Go p e below _ (T_75.setTop (mkF m 20 #[.val (.long j1), .second, .val (.int p1), .val (.int p2), .val (.int p3), .val (.ref r_74), .val (.ref r_75), .unset, .unset, .unset, .unset] [(.int (1 : Int32))]))
    refine Go.step (fun _ k => XS.goto X_75.here hx rfl (pc0 := 20) (pc' := 24) rfl (hb hby at_20) (by decide) (by decide) k) ?_
    show Go p e below _ (T_75.setTop (mkF m 24 #[.val (.long j1), .second, .val (.int p1), .val (.int p2), .val (.int p3), .val (.ref r_74), .val (.ref r_75), .unset, .unset, .unset, .unset] [(.int (1 : Int32))]))
    refine Go.step (fun _ k => XS.istore X_75.here hx rfl (hb hby at_24) rfl (l' := #[.val (.long j1), .second, .val (.int p1), .val (.int p2), .val (.int p3), .val (.ref r_74), .val (.ref r_75), .val (.int (1 : Int32)), .unset, .unset, .unset]) rfl k) ?_
    show Go p e below _ (T_75.setTop (mkF m 26 #[.val (.long j1), .second, .val (.int p1), .val (.int p2), .val (.int p3), .val (.ref r_74), .val (.ref r_75), .val (.int (1 : Int32)), .unset, .unset, .unset] []))
    refine Go.step (fun _ k => XS.iload X_75.here hx rfl (hb hby at_26) rfl  k) ?_
    show Go p e below _ (T_75.setTop (mkF m 28 #[.val (.long j1), .second, .val (.int p1), .val (.int p2), .val (.int p3), .val (.ref r_74), .val (.ref r_75), .val (.int (1 : Int32)), .unset, .unset, .unset] [(.int (1 : Int32))]))
    refine Go.step (fun _ k => XS.ifNo X_75.here hx rfl (hb hby at_28) rfl ((if0 _ _).trans (feq ((by decide) : ¬ ((1 : Int32) = (0 : Int32)))).1) k) ?_
    show Go p e below _ (T_75.setTop (mkF m 31 #[.val (.long j1), .second, .val (.int p1), .val (.int p2), .val (.int p3), .val (.ref r_74), .val (.ref r_75), .val (.int (1 : Int32)), .unset, .unset, .unset] []))
    refine Go.step (fun _ k => XS.aconstNull X_75.here hx rfl (hb hby at_31) k) ?_
    show Go p e below _ (T_75.setTop (mkF m 32 #[.val (.long j1), .second, .val (.int p1), .val (.int p2), .val (.int p3), .val (.ref r_74), .val (.ref r_75), .val (.int (1 : Int32)), .unset, .unset, .unset] [.null]))
    refine Go.step (fun _ k => XS.goto X_75.here hx rfl (pc0 := 32) (pc' := 42) rfl (hb hby at_32) (by decide) (by decide) k) ?_
    show Go p e below _ (T_75.setTop (mkF m 42 #[.val (.long j1), .second, .val (.int p1), .val (.int p2), .val (.int p3), .val (.ref r_74), .val (.ref r_75), .val (.int (1 : Int32)), .unset, .unset, .unset] [.null]))
    refine Go.step (fun _ k => XS.astore X_75.here hx rfl (hb hby at_42) rfl rfl (l' := #[.val (.long j1), .second, .val (.int p1), .val (.int p2), .val (.int p3), .val (.ref r_74), .val (.ref r_75), .val (.int (1 : Int32)), .val .null, .unset, .unset]) rfl k) ?_
    show Go p e below _ (T_75.setTop (mkF m 44 #[.val (.long j1), .second, .val (.int p1), .val (.int p2), .val (.int p3), .val (.ref r_74), .val (.ref r_75), .val (.int (1 : Int32)), .val .null, .unset, .unset] []))
    refine Go.step (fun _ k => XS.lloadN X_75.here hx rfl (hb hby at_44) rfl  k) ?_
    show Go p e below _ (T_75.setTop (mkF m 45 #[.val (.long j1), .second, .val (.int p1), .val (.int p2), .val (.int p3), .val (.ref r_74), .val (.ref r_75), .val (.int (1 : Int32)), .val .null, .unset, .unset] [(.long j1)]))
    refine Go.step (fun _ k => XS.aload X_75.here hx rfl (hb hby at_45) rfl rfl k) ?_
    show Go p e below _ (T_75.setTop (mkF m 47 #[.val (.long j1), .second, .val (.int p1), .val (.int p2), .val (.int p3), .val (.ref r_74), .val (.ref r_75), .val (.int (1 : Int32)), .val .null, .unset, .unset] [(.ref r_74), (.long j1)]))
    refine Go.step (fun _ k => XS.aload X_75.here hx rfl (hb hby at_47) rfl rfl k) ?_
    show Go p e below _ (T_75.setTop (mkF m 49 #[.val (.long j1), .second, .val (.int p1), .val (.int p2), .val (.int p3), .val (.ref r_74), .val (.ref r_75), .val (.int (1 : Int32)), .val .null, .unset, .unset] [(.ref r_75), (.ref r_74), (.long j1)]))
    refine Go.step (fun _ k => XS.aload X_75.here hx rfl (hb hby at_49) rfl rfl k) ?_
    show Go p e below _ (T_75.setTop (mkF m 51 #[.val (.long j1), .second, .val (.int p1), .val (.int p2), .val (.int p3), .val (.ref r_74), .val (.ref r_75), .val (.int (1 : Int32)), .val .null, .unset, .unset] [.null, (.ref r_75), (.ref r_74), (.long j1)]))
    obtain ⟨v_96, T_96, L_96, X_96, hQ_96, hS_96, hZ_96, hown_96, C_96, st_96⟩ := goSW X_75 hx hZ (y := ({ cls := "com/example/enact/enact/queue/QueueEntry", name := "queued", desc := "(JLjava/lang/String;Ljava/lang/String;Ljava/lang/String;)Lcom/example/enact/enact/queue/QueueEntry;" } : Jvm.MethodName)) hown hS0 (Nat.le_trans hk0 (Nat.le_trans le_74 le_75)) (wd_34 hw) (wd_35 hw) (wd_36 hw) (wd_37 hw) (by decide) (backOfSH (W := 0) (rm_queued l Z a0 hw zc qd (j1) (r_74) (r_75) (.null) T_75.heap n0 (Nat.le_trans Z0 KP_75.1) rfl hSt O_75) hZ (wd_37 hw) (wd_36 hw) (by decide) (by decide) hEL C_75.1) rfl (g := (mkF m 51 #[.val (.long j1), .second, .val (.int p1), .val (.int p2), .val (.int p3), .val (.ref r_74), .val (.ref r_75), .val (.int (1 : Int32)), .val .null, .unset, .unset] [.null, (.ref r_75), (.ref r_74), (.long j1)])) rfl (by rw [hml]; rfl) (argsL := [(.long j1), (.ref r_74), (.ref r_75), .null]) (rest := []) rfl (lenOf pd_5 rfl) rfl (by show 2 * 0 + _ ≤ _; exact Nat.le_of_eq rfl) (hb hby at_51) (by decide) (by decide)
    obtain ⟨r_96, rfl, Nq_96, K_96, u0_96, u1_96, u2_96, u3_96, u4_96, u5_96, u6_96, u7_96, u8_96, u9_96, u10_96, u11_96, u12_96⟩ := hQ_96
    have N_96 := Fr.app N_75 Nq_96
    have CR_96 := CHr.trans CR_75 C_96
    have le_96 : T_75.heap.size ≤ T_96.heap.size := K_96.1
    have KP_96 := KP_75.trans K_96 all0
    have O_96 := O_75.keep K_96 all0
    have sz_r_96 : h0.size ≤ r_96 := Nat.le_trans (Nat.le_trans le_74 le_75) u0_96
    have g_r_96 : n0 ≤ r_96 := Nat.le_trans Z0 sz_r_96
    refine Go.step st_96 ?_
    show Go p e below _ (T_96.setTop (mkF m 54 #[.val (.long j1), .second, .val (.int p1), .val (.int p2), .val (.int p3), .val (.ref r_74), .val (.ref r_75), .val (.int (1 : Int32)), .val .null, .unset, .unset] [(.ref r_96)]))
    refine Go.step (fun _ k => XS.astore X_96.here hx rfl (hb hby at_54) rfl rfl (l' := #[.val (.long j1), .second, .val (.int p1), .val (.int p2), .val (.int p3), .val (.ref r_74), .val (.ref r_75), .val (.int (1 : Int32)), .val .null, .val (.ref r_96), .unset]) rfl k) ?_
    show Go p e below _ (T_96.setTop (mkF m 56 #[.val (.long j1), .second, .val (.int p1), .val (.int p2), .val (.int p3), .val (.ref r_74), .val (.ref r_75), .val (.int (1 : Int32)), .val .null, .val (.ref r_96), .unset] []))
    refine Go.step (fun _ k => XS.aload X_96.here hx rfl (hb hby at_56) rfl rfl k) ?_
    show Go p e below _ (T_96.setTop (mkF m 58 #[.val (.long j1), .second, .val (.int p1), .val (.int p2), .val (.int p3), .val (.ref r_74), .val (.ref r_75), .val (.int (1 : Int32)), .val .null, .val (.ref r_96), .unset] [(.ref r_96)]))
    obtain ⟨v_97, T_97, L_97, X_97, hQ_97, st_97⟩ := goV X_96 hx hZ_96 (y := ({ cls := "com/example/enact/enact/queue/QueueEntry", name := "id", desc := "()J" } : Jvm.MethodName)) (z := ({ cls := "com/example/enact/enact/queue/QueueEntry", name := "id", desc := "()J" } : Jvm.MethodName)) hown_96 (wd_83 hw) (wd_84 hw) (notFace_of_selects (args := #[]) (mvT hZ_96 (wd_86 hw))) (wd_86 hw) (wd_85 hw) (by decide) (backOf (W := 0) (rm_get_id l Z a0 hw zc qd (r_96) (j1) T_96.heap n0 (Nat.le_trans Z0 KP_96.1) u2_96 hSt O_96) hZ_96 (wd_87 hw) (wd_36 hw) (by decide) (by decide)) rfl u1_96 (g := (mkF m 58 #[.val (.long j1), .second, .val (.int p1), .val (.int p2), .val (.int p3), .val (.ref r_74), .val (.ref r_75), .val (.int (1 : Int32)), .val .null, .val (.ref r_96), .unset] [(.ref r_96)])) rfl (by rw [hml]; rfl) (argsL := []) (rest := []) rfl (lenOf pd_6 rfl) rfl (by show 2 * 0 + _ ≤ _; exact Nat.le_of_eq rfl) (hb hby at_58) (by decide) (by decide)
    obtain ⟨rfl, Nq_97, e_97⟩ := hQ_97
    have N_97 := Fr.app N_96 Nq_97
    refine Go.step st_97 ?_
    show Go p e below _ (T_97.setTop (mkF m 61 #[.val (.long j1), .second, .val (.int p1), .val (.int p2), .val (.int p3), .val (.ref r_74), .val (.ref r_75), .val (.int (1 : Int32)), .val .null, .val (.ref r_96), .unset] [(.long j1)]))
    refine Go.step (fun _ k => XS.lloadN X_97.here hx rfl (hb hby at_61) rfl  k) ?_
    show Go p e below _ (T_97.setTop (mkF m 62 #[.val (.long j1), .second, .val (.int p1), .val (.int p2), .val (.int p3), .val (.ref r_74), .val (.ref r_75), .val (.int (1 : Int32)), .val .null, .val (.ref r_96), .unset] [(.long j1), (.long j1)]))
    refine Go.step (fun _ k => XS.lcmp X_97.here hx rfl (hb hby at_62) rfl k) ?_
    show Go p e below _ (T_97.setTop (mkF m 63 #[.val (.long j1), .second, .val (.int p1), .val (.int p2), .val (.int p3), .val (.ref r_74), .val (.ref r_75), .val (.int (1 : Int32)), .val .null, .val (.ref r_96), .unset] [(.int (lcmpW j1 j1))]))
    refine Go.step (fun _ k => XS.ifYes X_97.here hx rfl (pc0 := 63) (pc' := 68) rfl (hb hby at_63) rfl ((if0 _ _).trans (teq ((lw_eq _ _).mpr (rfl : j1 = j1))).1) (by decide) (by decide) k) ?_
    show Go p e below _ (T_97.setTop (mkF m 68 #[.val (.long j1), .second, .val (.int p1), .val (.int p2), .val (.int p3), .val (.ref r_74), .val (.ref r_75), .val (.int (1 : Int32)), .val .null, .val (.ref r_96), .unset] []))
    refine Go.step (fun _ k => XS.aload X_97.here hx rfl (hb hby at_68) rfl rfl k) ?_
    show Go p e below _ (T_97.setTop (mkF m 70 #[.val (.long j1), .second, .val (.int p1), .val (.int p2), .val (.int p3), .val (.ref r_74), .val (.ref r_75), .val (.int (1 : Int32)), .val .null, .val (.ref r_96), .unset] [(.ref r_74)]))
    refine Go.step (fun _ k => XS.aload X_97.here hx rfl (hb hby at_70) rfl rfl k) ?_
    show Go p e below _ (T_97.setTop (mkF m 72 #[.val (.long j1), .second, .val (.int p1), .val (.int p2), .val (.int p3), .val (.ref r_74), .val (.ref r_75), .val (.int (1 : Int32)), .val .null, .val (.ref r_96), .unset] [(.ref r_96), (.ref r_74)]))
    obtain ⟨v_98, T_98, L_98, X_98, hQ_98, st_98⟩ := goV X_97 hx hZ_96 (y := ({ cls := "com/example/enact/enact/queue/QueueEntry", name := "key", desc := "()Ljava/lang/String;" } : Jvm.MethodName)) (z := ({ cls := "com/example/enact/enact/queue/QueueEntry", name := "key", desc := "()Ljava/lang/String;" } : Jvm.MethodName)) hown_96 (wd_88 hw) (wd_89 hw) (notFace_of_selects (args := #[]) (mvT hZ_96 (wd_91 hw))) (wd_91 hw) (wd_90 hw) (by decide) (backOf (W := 1) (rm_get_key l Z a0 hw zc qd (r_96) (r_74) T_96.heap n0 (Nat.le_trans Z0 KP_96.1) u3_96 hSt O_96) hZ_96 (wd_92 hw) (wd_36 hw) (by decide) (by decide)) e_97 u1_96 (g := (mkF m 72 #[.val (.long j1), .second, .val (.int p1), .val (.int p2), .val (.int p3), .val (.ref r_74), .val (.ref r_75), .val (.int (1 : Int32)), .val .null, .val (.ref r_96), .unset] [(.ref r_96), (.ref r_74)])) rfl (by rw [hml]; rfl) (argsL := []) (rest := [(.ref r_74)]) rfl (lenOf pd_7 rfl) rfl (by show 2 * 0 + _ ≤ _; exact Nat.le_of_eq rfl) (hb hby at_72) (by decide) (by decide)
    obtain ⟨rfl, Nq_98, e_98⟩ := hQ_98
    have N_98 := Fr.app N_97 Nq_98
    refine Go.step st_98 ?_
    show Go p e below _ (T_98.setTop (mkF m 75 #[.val (.long j1), .second, .val (.int p1), .val (.int p2), .val (.int p3), .val (.ref r_74), .val (.ref r_75), .val (.int (1 : Int32)), .val .null, .val (.ref r_96), .unset] [(.ref r_74), (.ref r_74)]))
    have f100 : Str Z T_74.heap.size T_96.heap r_74 [(p1 &&& (255 : Int32)), (((p1.toUInt32 >>> ((8 : Int32) &&& 31).toUInt32).toInt32) &&& (255 : Int32))] := ((u1_74.keep K_75 all0).keep K_96 all0)
    obtain ⟨v_99, T_99, L_99, X_99, hQ_99, st_99⟩ := goV X_98 hx hZ_96 (y := ({ cls := "java/lang/String", name := "equals", desc := "(Ljava/lang/Object;)Z" } : Jvm.MethodName)) (z := ({ cls := "java/lang/String", name := "equals", desc := "(Ljava/lang/Object;)Z" } : Jvm.MethodName)) hown_96 (wd_93 hw) (wd_94 hw) (notFace_of_selects (args := #[]) (mvT hZ_96 (wd_96 hw))) (wd_96 hw) (wd_95 hw) (by decide) (backOf (W := 0) (rm_eqSelf l Z a0 hw zc qd (r_74) T_96.heap n0 (Nat.le_trans Z0 KP_96.1) hSt O_96) hZ_96 (wd_97 hw) (wd_7 hw) (by decide) (by decide)) e_98 f100.exa (g := (mkF m 75 #[.val (.long j1), .second, .val (.int p1), .val (.int p2), .val (.int p3), .val (.ref r_74), .val (.ref r_75), .val (.int (1 : Int32)), .val .null, .val (.ref r_96), .unset] [(.ref r_74), (.ref r_74)])) rfl (by rw [hml]; rfl) (argsL := [(.ref r_74)]) (rest := []) rfl (lenOf pd_8 rfl) rfl (by show 2 * 0 + _ ≤ _; exact Nat.le_of_eq rfl) (hb hby at_75) (by decide) (by decide)
    obtain ⟨rfl, Nq_99, e_99⟩ := hQ_99
    have N_99 := Fr.app N_98 Nq_99
    refine Go.step st_99 ?_
    show Go p e below _ (T_99.setTop (mkF m 78 #[.val (.long j1), .second, .val (.int p1), .val (.int p2), .val (.int p3), .val (.ref r_74), .val (.ref r_75), .val (.int (1 : Int32)), .val .null, .val (.ref r_96), .unset] [(.int (1 : Int32))]))
    refine Go.step (fun _ k => XS.ifYes X_99.here hx rfl (pc0 := 78) (pc' := 83) rfl (hb hby at_78) rfl ((if0 _ _).trans (feq ((by decide) : ¬ ((1 : Int32) = (0 : Int32)))).2) (by decide) (by decide) k) ?_
    show Go p e below _ (T_99.setTop (mkF m 83 #[.val (.long j1), .second, .val (.int p1), .val (.int p2), .val (.int p3), .val (.ref r_74), .val (.ref r_75), .val (.int (1 : Int32)), .val .null, .val (.ref r_96), .unset] []))
    refine Go.step (fun _ k => XS.aload X_99.here hx rfl (hb hby at_83) rfl rfl k) ?_
    show Go p e below _ (T_99.setTop (mkF m 85 #[.val (.long j1), .second, .val (.int p1), .val (.int p2), .val (.int p3), .val (.ref r_74), .val (.ref r_75), .val (.int (1 : Int32)), .val .null, .val (.ref r_96), .unset] [(.ref r_75)]))
    refine Go.step (fun _ k => XS.aload X_99.here hx rfl (hb hby at_85) rfl rfl k) ?_
    show Go p e below _ (T_99.setTop (mkF m 87 #[.val (.long j1), .second, .val (.int p1), .val (.int p2), .val (.int p3), .val (.ref r_74), .val (.ref r_75), .val (.int (1 : Int32)), .val .null, .val (.ref r_96), .unset] [(.ref r_96), (.ref r_75)]))
    obtain ⟨v_101, T_101, L_101, X_101, hQ_101, st_101⟩ := goV X_99 hx hZ_96 (y := ({ cls := "com/example/enact/enact/queue/QueueEntry", name := "command", desc := "()Ljava/lang/String;" } : Jvm.MethodName)) (z := ({ cls := "com/example/enact/enact/queue/QueueEntry", name := "command", desc := "()Ljava/lang/String;" } : Jvm.MethodName)) hown_96 (wd_98 hw) (wd_99 hw) (notFace_of_selects (args := #[]) (mvT hZ_96 (wd_101 hw))) (wd_101 hw) (wd_100 hw) (by decide) (backOf (W := 1) (rm_get_command l Z a0 hw zc qd (r_96) (r_75) T_96.heap n0 (Nat.le_trans Z0 KP_96.1) u4_96 hSt O_96) hZ_96 (wd_102 hw) (wd_36 hw) (by decide) (by decide)) e_99 u1_96 (g := (mkF m 87 #[.val (.long j1), .second, .val (.int p1), .val (.int p2), .val (.int p3), .val (.ref r_74), .val (.ref r_75), .val (.int (1 : Int32)), .val .null, .val (.ref r_96), .unset] [(.ref r_96), (.ref r_75)])) rfl (by rw [hml]; rfl) (argsL := []) (rest := [(.ref r_75)]) rfl (lenOf pd_7 rfl) rfl (by show 2 * 0 + _ ≤ _; exact Nat.le_of_eq rfl) (hb hby at_87) (by decide) (by decide)
    obtain ⟨rfl, Nq_101, e_101⟩ := hQ_101
    have N_101 := Fr.app N_99 Nq_101
    refine Go.step st_101 ?_
    show Go p e below _ (T_101.setTop (mkF m 90 #[.val (.long j1), .second, .val (.int p1), .val (.int p2), .val (.int p3), .val (.ref r_74), .val (.ref r_75), .val (.int (1 : Int32)), .val .null, .val (.ref r_96), .unset] [(.ref r_75), (.ref r_75)]))
    have f103 : Str Z T_75.heap.size T_96.heap r_75 [(p2 &&& (255 : Int32)), (((p2.toUInt32 >>> ((8 : Int32) &&& 31).toUInt32).toInt32) &&& (255 : Int32))] := (u1_75.keep K_96 all0)
    obtain ⟨v_102, T_102, L_102, X_102, hQ_102, st_102⟩ := goV X_101 hx hZ_96 (y := ({ cls := "java/lang/String", name := "equals", desc := "(Ljava/lang/Object;)Z" } : Jvm.MethodName)) (z := ({ cls := "java/lang/String", name := "equals", desc := "(Ljava/lang/Object;)Z" } : Jvm.MethodName)) hown_96 (wd_93 hw) (wd_94 hw) (notFace_of_selects (args := #[]) (mvT hZ_96 (wd_96 hw))) (wd_96 hw) (wd_95 hw) (by decide) (backOf (W := 0) (rm_eqSelf l Z a0 hw zc qd (r_75) T_96.heap n0 (Nat.le_trans Z0 KP_96.1) hSt O_96) hZ_96 (wd_97 hw) (wd_7 hw) (by decide) (by decide)) e_101 f103.exa (g := (mkF m 90 #[.val (.long j1), .second, .val (.int p1), .val (.int p2), .val (.int p3), .val (.ref r_74), .val (.ref r_75), .val (.int (1 : Int32)), .val .null, .val (.ref r_96), .unset] [(.ref r_75), (.ref r_75)])) rfl (by rw [hml]; rfl) (argsL := [(.ref r_75)]) (rest := []) rfl (lenOf pd_8 rfl) rfl (by show 2 * 0 + _ ≤ _; exact Nat.le_of_eq rfl) (hb hby at_90) (by decide) (by decide)
    obtain ⟨rfl, Nq_102, e_102⟩ := hQ_102
    have N_102 := Fr.app N_101 Nq_102
    refine Go.step st_102 ?_
    show Go p e below _ (T_102.setTop (mkF m 93 #[.val (.long j1), .second, .val (.int p1), .val (.int p2), .val (.int p3), .val (.ref r_74), .val (.ref r_75), .val (.int (1 : Int32)), .val .null, .val (.ref r_96), .unset] [(.int (1 : Int32))]))
    refine Go.step (fun _ k => XS.ifYes X_102.here hx rfl (pc0 := 93) (pc' := 98) rfl (hb hby at_93) rfl ((if0 _ _).trans (feq ((by decide) : ¬ ((1 : Int32) = (0 : Int32)))).2) (by decide) (by decide) k) ?_
    show Go p e below _ (T_102.setTop (mkF m 98 #[.val (.long j1), .second, .val (.int p1), .val (.int p2), .val (.int p3), .val (.ref r_74), .val (.ref r_75), .val (.int (1 : Int32)), .val .null, .val (.ref r_96), .unset] []))
    refine Go.step (fun _ k => XS.aload X_102.here hx rfl (hb hby at_98) rfl rfl k) ?_
    show Go p e below _ (T_102.setTop (mkF m 100 #[.val (.long j1), .second, .val (.int p1), .val (.int p2), .val (.int p3), .val (.ref r_74), .val (.ref r_75), .val (.int (1 : Int32)), .val .null, .val (.ref r_96), .unset] [(.ref r_96)]))
    obtain ⟨v_104, T_104, L_104, X_104, hQ_104, st_104⟩ := goV X_102 hx hZ_96 (y := ({ cls := "com/example/enact/enact/queue/QueueEntry", name := "input", desc := "()Ljava/lang/String;" } : Jvm.MethodName)) (z := ({ cls := "com/example/enact/enact/queue/QueueEntry", name := "input", desc := "()Ljava/lang/String;" } : Jvm.MethodName)) hown_96 (wd_103 hw) (wd_104 hw) (notFace_of_selects (args := #[]) (mvT hZ_96 (wd_106 hw))) (wd_106 hw) (wd_105 hw) (by decide) (backOf (W := 0) (rm_get_input l Z a0 hw zc qd (r_96) (.null) T_96.heap n0 (Nat.le_trans Z0 KP_96.1) u5_96 rfl hSt O_96) hZ_96 (wd_107 hw) (wd_36 hw) (by decide) (by decide)) e_102 u1_96 (g := (mkF m 100 #[.val (.long j1), .second, .val (.int p1), .val (.int p2), .val (.int p3), .val (.ref r_74), .val (.ref r_75), .val (.int (1 : Int32)), .val .null, .val (.ref r_96), .unset] [(.ref r_96)])) rfl (by rw [hml]; rfl) (argsL := []) (rest := []) rfl (lenOf pd_7 rfl) rfl (by show 2 * 0 + _ ≤ _; exact Nat.le_of_eq rfl) (hb hby at_100) (by decide) (by decide)
    obtain ⟨rfl, Nq_104, e_104⟩ := hQ_104
    have N_104 := Fr.app N_102 Nq_104
    refine Go.step st_104 ?_
    show Go p e below _ (T_104.setTop (mkF m 103 #[.val (.long j1), .second, .val (.int p1), .val (.int p2), .val (.int p3), .val (.ref r_74), .val (.ref r_75), .val (.int (1 : Int32)), .val .null, .val (.ref r_96), .unset] [.null]))
    refine Go.step (fun _ k => XS.astore X_104.here hx rfl (hb hby at_103) rfl rfl (l' := #[.val (.long j1), .second, .val (.int p1), .val (.int p2), .val (.int p3), .val (.ref r_74), .val (.ref r_75), .val (.int (1 : Int32)), .val .null, .val (.ref r_96), .val .null]) rfl k) ?_
    show Go p e below _ (T_104.setTop (mkF m 105 #[.val (.long j1), .second, .val (.int p1), .val (.int p2), .val (.int p3), .val (.ref r_74), .val (.ref r_75), .val (.int (1 : Int32)), .val .null, .val (.ref r_96), .val .null] []))
    refine Go.step (fun _ k => XS.iload X_104.here hx rfl (hb hby at_105) rfl  k) ?_
    show Go p e below _ (T_104.setTop (mkF m 107 #[.val (.long j1), .second, .val (.int p1), .val (.int p2), .val (.int p3), .val (.ref r_74), .val (.ref r_75), .val (.int (1 : Int32)), .val .null, .val (.ref r_96), .val .null] [(.int (1 : Int32))]))
    refine Go.step (fun _ k => XS.ifNo X_104.here hx rfl (hb hby at_107) rfl ((if0 _ _).trans (feq ((by decide) : ¬ ((1 : Int32) = (0 : Int32)))).1) k) ?_
    show Go p e below _ (T_104.setTop (mkF m 110 #[.val (.long j1), .second, .val (.int p1), .val (.int p2), .val (.int p3), .val (.ref r_74), .val (.ref r_75), .val (.int (1 : Int32)), .val .null, .val (.ref r_96), .val .null] []))
    refine Go.step (fun _ k => XS.aload X_104.here hx rfl (hb hby at_110) rfl rfl k) ?_
    show Go p e below _ (T_104.setTop (mkF m 112 #[.val (.long j1), .second, .val (.int p1), .val (.int p2), .val (.int p3), .val (.ref r_74), .val (.ref r_75), .val (.int (1 : Int32)), .val .null, .val (.ref r_96), .val .null] [.null]))
    refine Go.step (fun _ k => XS.ifnullYes X_104.here hx rfl (pc0 := 112) (pc' := 134) rfl (hb hby at_112) rfl (by decide) (by decide) k) ?_
    show Go p e below _ (T_104.setTop (mkF m 134 #[.val (.long j1), .second, .val (.int p1), .val (.int p2), .val (.int p3), .val (.ref r_74), .val (.ref r_75), .val (.int (1 : Int32)), .val .null, .val (.ref r_96), .val .null] []))
    refine Go.step (fun _ k => XS.aload X_104.here hx rfl (hb hby at_134) rfl rfl k) ?_
    show Go p e below _ (T_104.setTop (mkF m 136 #[.val (.long j1), .second, .val (.int p1), .val (.int p2), .val (.int p3), .val (.ref r_74), .val (.ref r_75), .val (.int (1 : Int32)), .val .null, .val (.ref r_96), .val .null] [(.ref r_96)]))
    obtain ⟨v_105, T_105, L_105, X_105, hQ_105, st_105⟩ := goV X_104 hx hZ_96 (y := ({ cls := "com/example/enact/enact/queue/QueueEntry", name := "status", desc := "()Lcom/example/enact/enact/queue/QueueEntry$Status;" } : Jvm.MethodName)) (z := ({ cls := "com/example/enact/enact/queue/QueueEntry", name := "status", desc := "()Lcom/example/enact/enact/queue/QueueEntry$Status;" } : Jvm.MethodName)) hown_96 (wd_108 hw) (wd_109 hw) (notFace_of_selects (args := #[]) (mvT hZ_96 (wd_111 hw))) (wd_111 hw) (wd_110 hw) (by decide) (backOf (W := 0) (rm_get_status l Z a0 hw zc (qd) (r_96) T_96.heap n0 (Nat.le_trans Z0 KP_96.1) u6_96 hSt O_96) hZ_96 (wd_112 hw) (wd_36 hw) (by decide) (by decide)) e_104 u1_96 (g := (mkF m 136 #[.val (.long j1), .second, .val (.int p1), .val (.int p2), .val (.int p3), .val (.ref r_74), .val (.ref r_75), .val (.int (1 : Int32)), .val .null, .val (.ref r_96), .val .null] [(.ref r_96)])) rfl (by rw [hml]; rfl) (argsL := []) (rest := []) rfl (lenOf pd_9 rfl) rfl (by show 2 * 0 + _ ≤ _; exact Nat.le_of_eq rfl) (hb hby at_136) (by decide) (by decide)
    obtain ⟨rfl, Nq_105, e_105⟩ := hQ_105
    have N_105 := Fr.app N_104 Nq_105
    refine Go.step st_105 ?_
    show Go p e below _ (T_105.setTop (mkF m 139 #[.val (.long j1), .second, .val (.int p1), .val (.int p2), .val (.int p3), .val (.ref r_74), .val (.ref r_75), .val (.int (1 : Int32)), .val .null, .val (.ref r_96), .val .null] [(.ref qd)]))
    obtain ⟨T_106, X_106, e_106, st_106⟩ := getS2 X_105 hx hZ_96 hown_96 (host := "") (Or.inl (wd_113 hw)) Via.refl e_105 (S_qd.ext O_96.2) (g := (mkF m 139 #[.val (.long j1), .second, .val (.int p1), .val (.int p2), .val (.int p3), .val (.ref r_74), .val (.ref r_75), .val (.int (1 : Int32)), .val .null, .val (.ref r_96), .val .null] [(.ref qd)])) rfl (hb hby at_139)
    refine Go.step st_106 ?_
    show Go p e below _ (T_106.setTop (mkF m 142 #[.val (.long j1), .second, .val (.int p1), .val (.int p2), .val (.int p3), .val (.ref r_74), .val (.ref r_75), .val (.int (1 : Int32)), .val .null, .val (.ref r_96), .val .null] [(.ref qd), (.ref qd)]))
    refine Go.step (fun _ k => Jvm.RoadKit.acmp (g := (mkF m 142 #[.val (.long j1), .second, .val (.int p1), .val (.int p2), .val (.int p3), .val (.ref r_74), .val (.ref r_75), .val (.int (1 : Int32)), .val .null, .val (.ref r_96), .val .null] [(.ref qd), (.ref qd)])) X_106 hx rfl rfl rfl (pc0 := 142) (pc' := 147) (same := true) rfl (hb hby at_142) rfl (decide_eq_true rfl) (by decide) (by decide) k) ?_
    show Go p e below _ (T_106.setTop (mkF m 147 #[.val (.long j1), .second, .val (.int p1), .val (.int p2), .val (.int p3), .val (.ref r_74), .val (.ref r_75), .val (.int (1 : Int32)), .val .null, .val (.ref r_96), .val .null] []))
    refine Go.step (fun _ k => XS.aload X_106.here hx rfl (hb hby at_147) rfl rfl k) ?_
    show Go p e below _ (T_106.setTop (mkF m 149 #[.val (.long j1), .second, .val (.int p1), .val (.int p2), .val (.int p3), .val (.ref r_74), .val (.ref r_75), .val (.int (1 : Int32)), .val .null, .val (.ref r_96), .val .null] [(.ref r_96)]))
    obtain ⟨v_107, T_107, L_107, X_107, hQ_107, st_107⟩ := goV X_106 hx hZ_96 (y := ({ cls := "com/example/enact/enact/queue/QueueEntry", name := "attempts", desc := "()I" } : Jvm.MethodName)) (z := ({ cls := "com/example/enact/enact/queue/QueueEntry", name := "attempts", desc := "()I" } : Jvm.MethodName)) hown_96 (wd_114 hw) (wd_115 hw) (notFace_of_selects (args := #[]) (mvT hZ_96 (wd_117 hw))) (wd_117 hw) (wd_116 hw) (by decide) (backOf (W := 0) (rm_get_attempts l Z a0 hw zc qd (r_96) T_96.heap n0 (Nat.le_trans Z0 KP_96.1) u7_96 hSt O_96) hZ_96 (wd_118 hw) (wd_36 hw) (by decide) (by decide)) e_106 u1_96 (g := (mkF m 149 #[.val (.long j1), .second, .val (.int p1), .val (.int p2), .val (.int p3), .val (.ref r_74), .val (.ref r_75), .val (.int (1 : Int32)), .val .null, .val (.ref r_96), .val .null] [(.ref r_96)])) rfl (by rw [hml]; rfl) (argsL := []) (rest := []) rfl (lenOf pd_10 rfl) rfl (by show 2 * 0 + _ ≤ _; exact Nat.le_of_eq rfl) (hb hby at_149) (by decide) (by decide)
    obtain ⟨rfl, Nq_107, e_107⟩ := hQ_107
    have N_107 := Fr.app N_105 Nq_107
    refine Go.step st_107 ?_
    show Go p e below _ (T_107.setTop (mkF m 152 #[.val (.long j1), .second, .val (.int p1), .val (.int p2), .val (.int p3), .val (.ref r_74), .val (.ref r_75), .val (.int (1 : Int32)), .val .null, .val (.ref r_96), .val .null] [(.int (0 : Int32))]))
    refine Go.step (fun _ k => XS.ifYes X_107.here hx rfl (pc0 := 152) (pc' := 157) rfl (hb hby at_152) rfl ((if0 _ _).trans (teq ((by decide) : (0 : Int32) = (0 : Int32))).1) (by decide) (by decide) k) ?_
    show Go p e below _ (T_107.setTop (mkF m 157 #[.val (.long j1), .second, .val (.int p1), .val (.int p2), .val (.int p3), .val (.ref r_74), .val (.ref r_75), .val (.int (1 : Int32)), .val .null, .val (.ref r_96), .val .null] []))
    refine Go.step (fun _ k => XS.aload X_107.here hx rfl (hb hby at_157) rfl rfl k) ?_
    show Go p e below _ (T_107.setTop (mkF m 159 #[.val (.long j1), .second, .val (.int p1), .val (.int p2), .val (.int p3), .val (.ref r_74), .val (.ref r_75), .val (.int (1 : Int32)), .val .null, .val (.ref r_96), .val .null] [(.ref r_96)]))
    obtain ⟨v_108, T_108, L_108, X_108, hQ_108, st_108⟩ := goV X_107 hx hZ_96 (y := ({ cls := "com/example/enact/enact/queue/QueueEntry", name := "firstAttempt", desc := "()Ljava/time/Instant;" } : Jvm.MethodName)) (z := ({ cls := "com/example/enact/enact/queue/QueueEntry", name := "firstAttempt", desc := "()Ljava/time/Instant;" } : Jvm.MethodName)) hown_96 (wd_119 hw) (wd_120 hw) (notFace_of_selects (args := #[]) (mvT hZ_96 (wd_122 hw))) (wd_122 hw) (wd_121 hw) (by decide) (backOf (W := 0) (rm_get_firstAttempt l Z a0 hw zc qd (r_96) T_96.heap n0 (Nat.le_trans Z0 KP_96.1) u8_96 hSt O_96) hZ_96 (wd_123 hw) (wd_36 hw) (by decide) (by decide)) e_107 u1_96 (g := (mkF m 159 #[.val (.long j1), .second, .val (.int p1), .val (.int p2), .val (.int p3), .val (.ref r_74), .val (.ref r_75), .val (.int (1 : Int32)), .val .null, .val (.ref r_96), .val .null] [(.ref r_96)])) rfl (by rw [hml]; rfl) (argsL := []) (rest := []) rfl (lenOf pd_11 rfl) rfl (by show 2 * 0 + _ ≤ _; exact Nat.le_of_eq rfl) (hb hby at_159) (by decide) (by decide)
    obtain ⟨rfl, Nq_108, e_108⟩ := hQ_108
    have N_108 := Fr.app N_107 Nq_108
    refine Go.step st_108 ?_
    show Go p e below _ (T_108.setTop (mkF m 162 #[.val (.long j1), .second, .val (.int p1), .val (.int p2), .val (.int p3), .val (.ref r_74), .val (.ref r_75), .val (.int (1 : Int32)), .val .null, .val (.ref r_96), .val .null] [.null]))
    refine Go.step (fun _ k => XS.ifnonnullNo X_108.here hx rfl (hb hby at_162) rfl k) ?_
    show Go p e below _ (T_108.setTop (mkF m 165 #[.val (.long j1), .second, .val (.int p1), .val (.int p2), .val (.int p3), .val (.ref r_74), .val (.ref r_75), .val (.int (1 : Int32)), .val .null, .val (.ref r_96), .val .null] []))
    refine Go.step (fun _ k => XS.aload X_108.here hx rfl (hb hby at_165) rfl rfl k) ?_
    show Go p e below _ (T_108.setTop (mkF m 167 #[.val (.long j1), .second, .val (.int p1), .val (.int p2), .val (.int p3), .val (.ref r_74), .val (.ref r_75), .val (.int (1 : Int32)), .val .null, .val (.ref r_96), .val .null] [(.ref r_96)]))
    obtain ⟨v_109, T_109, L_109, X_109, hQ_109, st_109⟩ := goV X_108 hx hZ_96 (y := ({ cls := "com/example/enact/enact/queue/QueueEntry", name := "ended", desc := "()Ljava/time/Instant;" } : Jvm.MethodName)) (z := ({ cls := "com/example/enact/enact/queue/QueueEntry", name := "ended", desc := "()Ljava/time/Instant;" } : Jvm.MethodName)) hown_96 (wd_124 hw) (wd_125 hw) (notFace_of_selects (args := #[]) (mvT hZ_96 (wd_127 hw))) (wd_127 hw) (wd_126 hw) (by decide) (backOf (W := 0) (rm_get_ended l Z a0 hw zc qd (r_96) T_96.heap n0 (Nat.le_trans Z0 KP_96.1) u9_96 hSt O_96) hZ_96 (wd_128 hw) (wd_36 hw) (by decide) (by decide)) e_108 u1_96 (g := (mkF m 167 #[.val (.long j1), .second, .val (.int p1), .val (.int p2), .val (.int p3), .val (.ref r_74), .val (.ref r_75), .val (.int (1 : Int32)), .val .null, .val (.ref r_96), .val .null] [(.ref r_96)])) rfl (by rw [hml]; rfl) (argsL := []) (rest := []) rfl (lenOf pd_11 rfl) rfl (by show 2 * 0 + _ ≤ _; exact Nat.le_of_eq rfl) (hb hby at_167) (by decide) (by decide)
    obtain ⟨rfl, Nq_109, e_109⟩ := hQ_109
    have N_109 := Fr.app N_108 Nq_109
    refine Go.step st_109 ?_
    show Go p e below _ (T_109.setTop (mkF m 170 #[.val (.long j1), .second, .val (.int p1), .val (.int p2), .val (.int p3), .val (.ref r_74), .val (.ref r_75), .val (.int (1 : Int32)), .val .null, .val (.ref r_96), .val .null] [.null]))
    refine Go.step (fun _ k => XS.ifnullYes X_109.here hx rfl (pc0 := 170) (pc' := 175) rfl (hb hby at_170) rfl (by decide) (by decide) k) ?_
    show Go p e below _ (T_109.setTop (mkF m 175 #[.val (.long j1), .second, .val (.int p1), .val (.int p2), .val (.int p3), .val (.ref r_74), .val (.ref r_75), .val (.int (1 : Int32)), .val .null, .val (.ref r_96), .val .null] []))
    refine Go.step (fun _ k => XS.aload X_109.here hx rfl (hb hby at_175) rfl rfl k) ?_
    show Go p e below _ (T_109.setTop (mkF m 177 #[.val (.long j1), .second, .val (.int p1), .val (.int p2), .val (.int p3), .val (.ref r_74), .val (.ref r_75), .val (.int (1 : Int32)), .val .null, .val (.ref r_96), .val .null] [(.ref r_96)]))
    obtain ⟨v_110, T_110, L_110, X_110, hQ_110, st_110⟩ := goV X_109 hx hZ_96 (y := ({ cls := "com/example/enact/enact/queue/QueueEntry", name := "result", desc := "()Ljava/lang/String;" } : Jvm.MethodName)) (z := ({ cls := "com/example/enact/enact/queue/QueueEntry", name := "result", desc := "()Ljava/lang/String;" } : Jvm.MethodName)) hown_96 (wd_129 hw) (wd_130 hw) (notFace_of_selects (args := #[]) (mvT hZ_96 (wd_132 hw))) (wd_132 hw) (wd_131 hw) (by decide) (backOf (W := 0) (rm_get_result l Z a0 hw zc qd (r_96) T_96.heap n0 (Nat.le_trans Z0 KP_96.1) u10_96 hSt O_96) hZ_96 (wd_133 hw) (wd_36 hw) (by decide) (by decide)) e_109 u1_96 (g := (mkF m 177 #[.val (.long j1), .second, .val (.int p1), .val (.int p2), .val (.int p3), .val (.ref r_74), .val (.ref r_75), .val (.int (1 : Int32)), .val .null, .val (.ref r_96), .val .null] [(.ref r_96)])) rfl (by rw [hml]; rfl) (argsL := []) (rest := []) rfl (lenOf pd_7 rfl) rfl (by show 2 * 0 + _ ≤ _; exact Nat.le_of_eq rfl) (hb hby at_177) (by decide) (by decide)
    obtain ⟨rfl, Nq_110, e_110⟩ := hQ_110
    have N_110 := Fr.app N_109 Nq_110
    refine Go.step st_110 ?_
    show Go p e below _ (T_110.setTop (mkF m 180 #[.val (.long j1), .second, .val (.int p1), .val (.int p2), .val (.int p3), .val (.ref r_74), .val (.ref r_75), .val (.int (1 : Int32)), .val .null, .val (.ref r_96), .val .null] [.null]))
    refine Go.step (fun _ k => XS.ifnonnullNo X_110.here hx rfl (hb hby at_180) rfl k) ?_
    show Go p e below _ (T_110.setTop (mkF m 183 #[.val (.long j1), .second, .val (.int p1), .val (.int p2), .val (.int p3), .val (.ref r_74), .val (.ref r_75), .val (.int (1 : Int32)), .val .null, .val (.ref r_96), .val .null] []))
    refine Go.step (fun _ k => XS.aload X_110.here hx rfl (hb hby at_183) rfl rfl k) ?_
    show Go p e below _ (T_110.setTop (mkF m 185 #[.val (.long j1), .second, .val (.int p1), .val (.int p2), .val (.int p3), .val (.ref r_74), .val (.ref r_75), .val (.int (1 : Int32)), .val .null, .val (.ref r_96), .val .null] [(.ref r_96)]))
    obtain ⟨v_111, T_111, L_111, X_111, hQ_111, st_111⟩ := goV X_110 hx hZ_96 (y := ({ cls := "com/example/enact/enact/queue/QueueEntry", name := "message", desc := "()Ljava/lang/String;" } : Jvm.MethodName)) (z := ({ cls := "com/example/enact/enact/queue/QueueEntry", name := "message", desc := "()Ljava/lang/String;" } : Jvm.MethodName)) hown_96 (wd_134 hw) (wd_135 hw) (notFace_of_selects (args := #[]) (mvT hZ_96 (wd_137 hw))) (wd_137 hw) (wd_136 hw) (by decide) (backOf (W := 0) (rm_get_message l Z a0 hw zc qd (r_96) T_96.heap n0 (Nat.le_trans Z0 KP_96.1) u11_96 hSt O_96) hZ_96 (wd_138 hw) (wd_36 hw) (by decide) (by decide)) e_110 u1_96 (g := (mkF m 185 #[.val (.long j1), .second, .val (.int p1), .val (.int p2), .val (.int p3), .val (.ref r_74), .val (.ref r_75), .val (.int (1 : Int32)), .val .null, .val (.ref r_96), .val .null] [(.ref r_96)])) rfl (by rw [hml]; rfl) (argsL := []) (rest := []) rfl (lenOf pd_7 rfl) rfl (by show 2 * 0 + _ ≤ _; exact Nat.le_of_eq rfl) (hb hby at_185) (by decide) (by decide)
    obtain ⟨rfl, Nq_111, e_111⟩ := hQ_111
    have N_111 := Fr.app N_110 Nq_111
    refine Go.step st_111 ?_
    show Go p e below _ (T_111.setTop (mkF m 188 #[.val (.long j1), .second, .val (.int p1), .val (.int p2), .val (.int p3), .val (.ref r_74), .val (.ref r_75), .val (.int (1 : Int32)), .val .null, .val (.ref r_96), .val .null] [.null]))
    refine Go.step (fun _ k => XS.ifnonnullNo X_111.here hx rfl (hb hby at_188) rfl k) ?_
    show Go p e below _ (T_111.setTop (mkF m 191 #[.val (.long j1), .second, .val (.int p1), .val (.int p2), .val (.int p3), .val (.ref r_74), .val (.ref r_75), .val (.int (1 : Int32)), .val .null, .val (.ref r_96), .val .null] []))
    refine Go.step (fun _ k => XS.aload X_111.here hx rfl (hb hby at_191) rfl rfl k) ?_
    show Go p e below _ (T_111.setTop (mkF m 193 #[.val (.long j1), .second, .val (.int p1), .val (.int p2), .val (.int p3), .val (.ref r_74), .val (.ref r_75), .val (.int (1 : Int32)), .val .null, .val (.ref r_96), .val .null] [(.ref r_96)]))
    obtain ⟨v_112, T_112, L_112, X_112, hQ_112, st_112⟩ := goV X_111 hx hZ_96 (y := ({ cls := "com/example/enact/enact/queue/QueueEntry", name := "type", desc := "()Ljava/lang/String;" } : Jvm.MethodName)) (z := ({ cls := "com/example/enact/enact/queue/QueueEntry", name := "type", desc := "()Ljava/lang/String;" } : Jvm.MethodName)) hown_96 (wd_139 hw) (wd_140 hw) (notFace_of_selects (args := #[]) (mvT hZ_96 (wd_142 hw))) (wd_142 hw) (wd_141 hw) (by decide) (backOf (W := 0) (rm_get_type l Z a0 hw zc qd (r_96) T_96.heap n0 (Nat.le_trans Z0 KP_96.1) u12_96 hSt O_96) hZ_96 (wd_143 hw) (wd_36 hw) (by decide) (by decide)) e_111 u1_96 (g := (mkF m 193 #[.val (.long j1), .second, .val (.int p1), .val (.int p2), .val (.int p3), .val (.ref r_74), .val (.ref r_75), .val (.int (1 : Int32)), .val .null, .val (.ref r_96), .val .null] [(.ref r_96)])) rfl (by rw [hml]; rfl) (argsL := []) (rest := []) rfl (lenOf pd_7 rfl) rfl (by show 2 * 0 + _ ≤ _; exact Nat.le_of_eq rfl) (hb hby at_193) (by decide) (by decide)
    obtain ⟨rfl, Nq_112, e_112⟩ := hQ_112
    have N_112 := Fr.app N_111 Nq_112
    refine Go.step st_112 ?_
    show Go p e below _ (T_112.setTop (mkF m 196 #[.val (.long j1), .second, .val (.int p1), .val (.int p2), .val (.int p3), .val (.ref r_74), .val (.ref r_75), .val (.int (1 : Int32)), .val .null, .val (.ref r_96), .val .null] [.null]))
    refine Go.step (fun _ k => XS.ifnonnullNo X_112.here hx rfl (hb hby at_196) rfl k) ?_
    show Go p e below _ (T_112.setTop (mkF m 199 #[.val (.long j1), .second, .val (.int p1), .val (.int p2), .val (.int p3), .val (.ref r_74), .val (.ref r_75), .val (.int (1 : Int32)), .val .null, .val (.ref r_96), .val .null] []))
    refine Go.step (fun _ k => XS.iconst X_112.here hx rfl (hb hby at_199) k) ?_
    show Go p e below _ (T_112.setTop (mkF m 200 #[.val (.long j1), .second, .val (.int p1), .val (.int p2), .val (.int p3), .val (.ref r_74), .val (.ref r_75), .val (.int (1 : Int32)), .val .null, .val (.ref r_96), .val .null] [(.int (1 : Int32))]))
    refine Go.step (fun _ k => XS.goto X_112.here hx rfl (pc0 := 200) (pc' := 204) rfl (hb hby at_200) (by decide) (by decide) k) ?_
    show Go p e below _ (T_112.setTop (mkF m 204 #[.val (.long j1), .second, .val (.int p1), .val (.int p2), .val (.int p3), .val (.ref r_74), .val (.ref r_75), .val (.int (1 : Int32)), .val .null, .val (.ref r_96), .val .null] [(.int (1 : Int32))]))
    exact Go.retVW X_112 e_112 hS_96 (Nat.le_refl _) hZ_96 hEL hh0 CR_96 hx hlk hret rfl (Or.inl ⟨rfl, Or.inr (Or.inl rfl), _, rfl⟩) (hb hby at_204) (by decide) (by decide) (by rw [e_112]; exact ⟨rfl, N_112⟩)
set_option maxRecDepth 65536 in
set_option maxHeartbeats 40000000 in
theorem comes_1 {Post : Tables → Env → Array Value → State → Outcome → State → Prop} (hpost : ∀ tb e args s v u, (limb_1_1.after args s (.returned v) u = true ∧ limb_1_2.after args s (.returned v) u = true ∧ True) → ReturnedEndW s (.returned v) u (Jvm.fieldLocs frame_1_writes args s ++ Jvm.arrayLocs frame_1_arrays args s ++ Jvm.staticLocs frame_1_statics s) 40 3264 → Post tb e args s (.returned v) u) :
    ArmFor flags0 classFile x code maxLocals ret World_1 tables_1 room_1 Calls_1 rest_1 Pre_1 Post := by
  intro l hfl _ _ p e ha hc hk s m args below hf hA hF happ hP
  obtain ⟨hcalls, hrest, hpre⟩ := hP
  obtain ⟨-, -, -, hnamed, -, -, -, hat⟩ := (Spec.applies_iff hf).mp happ
  obtain ⟨hg, hn⟩ := and_e (Cond.before_iff.mp (show (Jvm.Cond.and given_1 narrow_1).before args s = true from hpre))
  obtain ⟨g_c, g_0⟩ := and_e hg
  obtain ⟨ga_0, g_1⟩ := and_e g_0
  obtain ⟨ga_1, g_2⟩ := and_e g_1
  obtain ⟨ga_2, g_3⟩ := and_e g_2
  have ga_3 := g_3
  obtain ⟨w0, w1, w2, w3, rfl⟩ : ∃ w0 w1 w2 w3 : Value, args = #[w0, w1, w2, w3] := by
    have hs : args.size = 4 := by simpa [Cond.value, given_1] using g_c
    obtain ⟨L⟩ := args
    match L, hs with
    | [w0, w1, w2, w3], _ => exact ⟨w0, w1, w2, w3, rfl⟩
  have hw := fun d (hd : d ∈ tables_1) => atoms_spec (ws := Jvm.Cond.code x code maxLocals ret :: tables_1) hat d (List.mem_cons_of_mem _ hd)
  obtain ⟨hsets, hown0⟩ := atoms_of _ (rest_1_c_eq ▸ (show rest_1_c.before _ s = true from hrest))
  obtain ⟨i0, ei0⟩ := isL_v ga_0
  obtain rfl : w0 = (.long i0) := Option.some.inj ei0
  obtain ⟨i1, ei1⟩ := is_v ga_1
  obtain rfl : w1 = (.int i1) := Option.some.inj ei1
  obtain ⟨i2, ei2⟩ := is_v ga_2
  obtain rfl : w2 = (.int i2) := Option.some.inj ei2
  obtain ⟨i3, ei3⟩ := is_v ga_3
  obtain rfl : w3 = (.int i3) := Option.some.inj ei3
  have hs := fun (k : Nat) (d : Jvm.Cond) (h : jdkStatics_1[k]? = some d) => Cond.before_iff.mp (hsets d (List.mem_of_getElem? h))
  obtain ⟨zc, ezc⟩ := is_v (hs 1 _ rfl)
  have S_cs : Sta s s.heap "java/lang/String" "COMPACT_STRINGS" "Z" (.int zc) := Sta.start ezc (Or.inl (hsets _ (List.mem_of_getElem? (i := 0) rfl)))
  have n_cs : ¬ (zc = (0 : Int32)) := gotF (Cond.eq_ints ezc (Term.int_eval (0))) (not_v (hs 2 _ rfl))
  obtain ⟨qd, S_qd, E_qd, v_qd⟩ := sta_obj (Or.inr ⟨(wd_41 hw), (wd_42 hw)⟩) hn
  have hSt : St s zc qd := ⟨S_cs, n_cs, S_qd⟩
  have hCV : CHv s EL s.vm s.heap := fun p hp => nomatch hp
  obtain ⟨n, o, h1, h2, h3, _, L, rfl, ⟨rfl, N⟩, -, hq⟩ := rm_law l s _ hw zc qd i0 i1 i2 i3 s.heap s.heap.size (Nat.le_refl _) hSt (Old.start s) p e ha hc hk s m _ below hf ((Spec.applies_iff_loose hf).mp happ).1 ⟨rfl, State.Warmed39.refl s, rfl, hCV⟩ trivial
  refine ⟨n, _, h1, h2, h3, hpost _ _ _ _ _ _ ⟨Cond.after_iff.mpr rfl, Cond.after_iff.mpr (eq_i res_at (Term.int_eval (1)) rfl), trivial⟩ ⟨hq.1, hq.2.1, hq.2.2.1, (hq.2.2.2.sift fun y hy => Or.inr (N y hy)).mono (by decide) (by decide)⟩⟩
theorem main_1_1 : Claimed_1_1 := comes_1 fun _ _ _ _ _ _ h hF => ⟨h.1, hF⟩
theorem main_1_2 : Claimed_1_2 := comes_1 fun _ _ _ _ _ _ h hF => ⟨h.2.1, hF⟩
end Jvm.Pilot.@@N@@
namespace Jvm.Pilot.@@N@@
open Jvm Jvm.ClassFile Sem Op Lib Jvm.Free Jvm.Stand Jvm.Pilot.@@N@@.Jvm.D
/-! MADE BY PROGRAM (witnessworld.py) out of the Statement's table words and the real class files: 24 classes; the members and pool entries that the words name. The judged class is class 1, her method 2. -/
namespace start1
open Jvm.ClassFile
def u (s : String) : CpInfo := .utf8 (stringToUtf16 s)
/-- a pool by its gaps: so many unusable entries, then the entry; so many at the end -/
def gap : Nat → List CpInfo → List CpInfo
  | 0, r => r
  | n + 1, r => .unusable :: gap n r
def poolList (es : List (Nat × CpInfo)) (last : Nat) : List CpInfo := es.foldr (fun e r => gap e.1 (e.2 :: r)) (gap last [])
def pool (es : List (Nat × CpInfo)) (last : Nat) : Array CpInfo := ⟨poolList es last⟩
def fileOf (pool : Array CpInfo) (this : Nat) (attrs : Array Attribute := #[]) (ms : Array MethodInfo := #[]) (fl : Nat := 33) (sup : Nat := 0) (ifs : Array Nat := #[]) (fds : Array FieldInfo := #[]) : ClassFile where
  minorVersion := 0
  majorVersion := 65
  constantPool := pool
  accessFlags := fl
  thisClass := this
  superClass := sup
  interfaces := ifs
  fields := fds
  methods := ms
  attributes := attrs
def plain (name : String) (sup : Option ClassId) : Class where
  name := name
  kind := .ordinary
  loader := none
  accessFlags := 33
  super := sup
  interfaces := #[]
  cf := none
  fields := #[]
  methods := #[]
  instanceTypes := #[]
  staticTypes := #[]
  resolved := #[]
  callSites := []
  init := .initialized
  statics := none
  mirror := none

def pool0 : Array CpInfo := pool [(5, u "<init>"), (0, u "()V"), (1, .class_ 10), (1, u "java/lang/Object")] 113

def k0c0 : Code := { maxStack := 0, maxLocals := 1, code := object_method_1_code, exceptionTable := #[], attributes := #[] }
def k0m0 : Method := { name := "<init>", desc := "()V", sig := { parameters := [], returnType := none }, accessFlags := 1, code := some k0c0 }
/-- java/lang/Object -/
def k0 : Class := { plain "java/lang/Object" none with
  accessFlags := 33
  interfaces := #[]
  cf := some (fileOf pool0 8 #[] #[{ accessFlags := 1, nameIndex := 5, descriptorIndex := 6, attributes := #[] }] 33 0 #[] #[])
  fields := #[]
  methods := #[k0m0]
  instanceTypes := #[]
  staticTypes := #[]
  resolved := Array.replicate 124 none
  statics := none }

def pool1 : Array CpInfo := pool [(2, .class_ 4), (1, u "java/lang/Object"), (0, u "<init>"), (0, u "()V"), (0, .class_ 8), (0, u "java/lang/String"), (0, .methodref 7 10), (0, .nameAndType 5 11), (0, u "([C)V"), (0, .methodref 13 14), (0, .class_ 15), (0, .nameAndType 16 17), (0, u "com/example/enact/enact/queue/QueueEntryQueuedPinLaw"), (0, u "str"), (0, u "(I)Ljava/lang/String;"), (0, .methodref 19 20), (0, .class_ 21), (0, .nameAndType 22 23), (0, u "com/example/enact/enact/queue/QueueEntry"), (0, u "queued"), (0, u "(JLjava/lang/String;Ljava/lang/String;Ljava/lang/String;)Lcom/example/enact/enact/queue/QueueEntry;"), (0, .methodref 19 25), (0, .nameAndType 26 27), (0, u "id"), (0, u "()J"), (0, .methodref 19 29), (0, .nameAndType 30 31), (0, u "key"), (0, u "()Ljava/lang/String;"), (0, .methodref 7 33), (0, .nameAndType 34 35), (0, u "equals"), (0, u "(Ljava/lang/Object;)Z"), (0, .methodref 19 37), (0, .nameAndType 38 31), (0, u "command"), (0, .methodref 19 40), (0, .nameAndType 41 31), (0, u "input"), (0, .methodref 19 43), (0, .nameAndType 44 45), (0, u "status"), (0, u "()Lcom/example/enact/enact/queue/QueueEntry$Status;"), (0, .fieldref 47 48), (0, .class_ 49), (0, .nameAndType 50 51), (0, u "com/example/enact/enact/queue/QueueEntry$Status"), (0, u "QUEUED"), (0, u "Lcom/example/enact/enact/queue/QueueEntry$Status;"), (0, .methodref 19 53), (0, .nameAndType 54 55), (0, u "attempts"), (0, u "()I"), (0, .methodref 19 57), (0, .nameAndType 58 59), (0, u "firstAttempt"), (0, u "()Ljava/time/Instant;"), (0, .methodref 19 61), (0, .nameAndType 62 59), (0, u "ended"), (0, .methodref 19 64), (0, .nameAndType 65 31), (0, u "result"), (0, .methodref 19 67), (0, .nameAndType 68 31), (0, u "message"), (0, .methodref 19 70), (0, .nameAndType 71 31), (0, u "type"), (2, u "law"), (0, u "(JIII)Z")] 5

def k1m0 : Method := { name := "<init>", desc := "()V", sig := { parameters := [], returnType := none }, accessFlags := 1, code := none }
def k1c1 : Code := { maxStack := 4, maxLocals := 2, code := method_2_code, exceptionTable := #[], attributes := #[] }
def k1m1 : Method := { name := "str", desc := "(I)Ljava/lang/String;", sig := { parameters := [.int], returnType := some (.object "java/lang/String") }, accessFlags := 10, code := some k1c1 }
def k1c2 : Code := { maxStack := 5, maxLocals := 11, code := code, exceptionTable := #[], attributes := #[] }
def k1m2 : Method := { name := "law", desc := "(JIII)Z", sig := { parameters := [.long, .int, .int, .int], returnType := some .boolean }, accessFlags := 9, code := some k1c2 }
/-- com/example/enact/enact/queue/QueueEntryQueuedPinLaw -/
def k1 : Class := { plain "com/example/enact/enact/queue/QueueEntryQueuedPinLaw" (some 0) with
  accessFlags := 49
  interfaces := #[]
  cf := some (fileOf pool1 13 #[] #[{ accessFlags := 1, nameIndex := 5, descriptorIndex := 6, attributes := #[] }, { accessFlags := 10, nameIndex := 16, descriptorIndex := 17, attributes := #[] }, { accessFlags := 9, nameIndex := 74, descriptorIndex := 75, attributes := #[] }] 49 2 #[] #[])
  fields := #[]
  methods := #[k1m0, k1m1, k1m2]
  instanceTypes := #[]
  staticTypes := #[]
  resolved := Array.replicate 81 none
  statics := none }

def pool2 : Array CpInfo := pool [(1, .class_ 2), (0, u "java/io/Serializable"), (0, .class_ 4), (0, u "java/lang/Object")] 2

/-- java/io/Serializable -/
def k2 : Class := { plain "java/io/Serializable" (some 0) with
  accessFlags := 1537
  interfaces := #[]
  cf := some (fileOf pool2 1 #[] #[] 1537 3 #[] #[])
  fields := #[]
  methods := #[]
  instanceTypes := #[]
  staticTypes := #[]
  resolved := Array.replicate 7 none
  statics := none }

def pool3 : Array CpInfo := pool [(1, .class_ 2), (0, u "java/lang/Comparable"), (0, .class_ 4), (0, u "java/lang/Object")] 7

/-- java/lang/Comparable -/
def k3 : Class := { plain "java/lang/Comparable" (some 0) with
  accessFlags := 1537
  interfaces := #[]
  cf := some (fileOf pool3 1 #[] #[] 1537 3 #[] #[])
  fields := #[]
  methods := #[]
  instanceTypes := #[]
  staticTypes := #[]
  resolved := Array.replicate 12 none
  statics := none }

def pool4 : Array CpInfo := pool [(2, .class_ 4), (1, u "java/lang/CharSequence"), (42, .class_ 48), (0, u "java/lang/CharSequence$1CodePointIterator"), (10, .class_ 60), (0, u "java/lang/CharSequence$1CharIterator"), (5, .class_ 67), (0, u "java/lang/Object")] 63

/-- java/lang/CharSequence -/
def k4 : Class := { plain "java/lang/CharSequence" (some 0) with
  accessFlags := 1537
  interfaces := #[]
  cf := some (fileOf pool4 2 #[.nestMembers #[47, 59]] #[] 1537 66 #[] #[])
  fields := #[]
  methods := #[]
  instanceTypes := #[]
  staticTypes := #[]
  resolved := Array.replicate 131 none
  statics := none }

def pool5 : Array CpInfo := pool [(1, .class_ 2), (0, u "java/lang/constant/Constable"), (0, .class_ 4), (0, u "java/lang/Object")] 6

/-- java/lang/constant/Constable -/
def k5 : Class := { plain "java/lang/constant/Constable" (some 0) with
  accessFlags := 1537
  interfaces := #[]
  cf := some (fileOf pool5 1 #[] #[] 1537 3 #[] #[])
  fields := #[]
  methods := #[]
  instanceTypes := #[]
  staticTypes := #[]
  resolved := Array.replicate 11 none
  statics := none }

def pool6 : Array CpInfo := pool [(1, .class_ 2), (0, u "java/lang/constant/ConstantDesc"), (0, .class_ 4), (0, u "java/lang/Object")] 32

/-- java/lang/constant/ConstantDesc -/
def k6 : Class := { plain "java/lang/constant/ConstantDesc" (some 0) with
  accessFlags := 1537
  interfaces := #[]
  cf := some (fileOf pool6 1 #[] #[] 1537 3 #[] #[])
  fields := #[]
  methods := #[]
  instanceTypes := #[]
  staticTypes := #[]
  resolved := Array.replicate 37 none
  statics := none }

def pool7 : Array CpInfo := pool [(1, .methodref 2 3), (0, .class_ 4), (0, .nameAndType 5 6), (0, u "java/lang/Object"), (0, u "<init>"), (0, u "()V"), (2, .fieldref 10 11), (0, .class_ 12), (0, .nameAndType 13 14), (0, u "java/lang/String"), (0, u "value"), (0, u "[B"), (0, .fieldref 10 16), (0, .nameAndType 17 18), (0, u "coder"), (0, u "B"), (2, u "hash"), (0, u "I"), (2, u "hashIsZero"), (0, u "Z"), (0, .methodref 10 28), (0, .nameAndType 5 29), (0, u "([CIILjava/lang/Void;)V"), (8, .fieldref 10 39), (0, .nameAndType 40 26), (0, u "COMPACT_STRINGS"), (1, .class_ 44), (1, u "java/lang/StringUTF16"), (0, u "compress"), (1, .methodref 42 48), (0, .nameAndType 49 50), (0, u "coderFromArrayLen"), (0, u "([BI)B"), (126, .methodref 42 178), (0, .nameAndType 45 179), (0, u "([CII)[B"), (363, u "equals"), (29, u "(Ljava/lang/Object;)Z"), (1, .class_ 576), (0, u "java/lang/CharSequence"), (22, u "CASE_INSENSITIVE_ORDER"), (0, u "Ljava/util/Comparator;"), (409, u "([C)V"), (90, u "serialPersistentFields"), (0, u "[Ljava/io/ObjectStreamField;"), (0, .class_ 1104), (0, u "java/lang/String$CaseInsensitiveComparator"), (1, .class_ 1107), (0, u "java/io/Serializable"), (0, .class_ 1109), (0, u "java/lang/Comparable"), (0, .class_ 1111), (0, u "java/lang/constant/Constable"), (0, .class_ 1113), (0, u "java/lang/constant/ConstantDesc"), (2, u "serialVersionUID"), (0, u "J"), (3, u "REPL"), (0, u "C"), (2, u "LATIN1"), (1, u "UTF16")] 323

def k7m0 : Method := { name := "<init>", desc := "()V", sig := { parameters := [], returnType := none }, accessFlags := 1, code := none }
def k7c1 : Code := { maxStack := 5, maxLocals := 2, code := jdk_42_method_3_code, exceptionTable := #[], attributes := #[] }
def k7m1 : Method := { name := "<init>", desc := "([C)V", sig := { parameters := [(.array .char)], returnType := none }, accessFlags := 1, code := some k7c1 }
def k7c2 : Code := { maxStack := 2, maxLocals := 3, code := jdk_42_method_66_code, exceptionTable := #[], attributes := #[] }
def k7m2 : Method := { name := "equals", desc := "(Ljava/lang/Object;)Z", sig := { parameters := [(.object "java/lang/Object")], returnType := some .boolean }, accessFlags := 1, code := some k7c2 }
def k7c3 : Code := { maxStack := 4, maxLocals := 6, code := jdk_42_method_149_code, exceptionTable := #[], attributes := #[] }
def k7m3 : Method := { name := "<init>", desc := "([CIILjava/lang/Void;)V", sig := { parameters := [(.array .char), .int, .int, (.object "java/lang/Void")], returnType := none }, accessFlags := 2, code := some k7c3 }
/-- java/lang/String -/
def k7 : Class := { plain "java/lang/String" (some 0) with
  accessFlags := 49
  interfaces := #[2, 3, 4, 5, 6]
  cf := some (fileOf pool7 10 #[.nestMembers #[1103]] #[{ accessFlags := 1, nameIndex := 5, descriptorIndex := 6, attributes := #[] }, { accessFlags := 1, nameIndex := 5, descriptorIndex := 1010, attributes := #[] }, { accessFlags := 1, nameIndex := 543, descriptorIndex := 573, attributes := #[] }, { accessFlags := 2, nameIndex := 5, descriptorIndex := 29, attributes := #[] }] 49 2 #[1106, 1108, 575, 1110, 1112] #[{ accessFlags := 18, nameIndex := 13, descriptorIndex := 14, attributes := #[] }, { accessFlags := 18, nameIndex := 17, descriptorIndex := 18, attributes := #[] }, { accessFlags := 2, nameIndex := 21, descriptorIndex := 22, attributes := #[] }, { accessFlags := 2, nameIndex := 25, descriptorIndex := 26, attributes := #[] }, { accessFlags := 26, nameIndex := 1116, descriptorIndex := 1117, attributes := #[] }, { accessFlags := 24, nameIndex := 40, descriptorIndex := 26, attributes := #[] }, { accessFlags := 26, nameIndex := 1101, descriptorIndex := 1102, attributes := #[] }, { accessFlags := 26, nameIndex := 1121, descriptorIndex := 1122, attributes := #[] }, { accessFlags := 25, nameIndex := 599, descriptorIndex := 600, attributes := #[] }, { accessFlags := 24, nameIndex := 1125, descriptorIndex := 18, attributes := #[] }, { accessFlags := 24, nameIndex := 1127, descriptorIndex := 18, attributes := #[] }])
  fields := #[{ name := "value", type := (.array .byte), accessFlags := 18, slot := 0, constantValue := 0 }, { name := "coder", type := .byte, accessFlags := 18, slot := 1, constantValue := 0 }, { name := "hash", type := .int, accessFlags := 2, slot := 2, constantValue := 0 }, { name := "hashIsZero", type := .boolean, accessFlags := 2, slot := 3, constantValue := 0 }, { name := "serialVersionUID", type := .long, accessFlags := 26, slot := 0, constantValue := 0 }, { name := "COMPACT_STRINGS", type := .boolean, accessFlags := 24, slot := 1, constantValue := 0 }, { name := "serialPersistentFields", type := (.array (.object "java/io/ObjectStreamField")), accessFlags := 26, slot := 2, constantValue := 0 }, { name := "REPL", type := .char, accessFlags := 26, slot := 3, constantValue := 0 }, { name := "CASE_INSENSITIVE_ORDER", type := (.object "java/util/Comparator"), accessFlags := 25, slot := 4, constantValue := 0 }, { name := "LATIN1", type := .byte, accessFlags := 24, slot := 5, constantValue := 0 }, { name := "UTF16", type := .byte, accessFlags := 24, slot := 6, constantValue := 0 }]
  methods := #[k7m0, k7m1, k7m2, k7m3]
  instanceTypes := #[(.array .byte), .byte, .int, .boolean]
  staticTypes := #[.long, .boolean, (.array (.object "java/io/ObjectStreamField")), .char, (.object "java/util/Comparator"), .byte, .byte]
  resolved := Array.replicate 1451 none
  statics := some 0 }

def pool8 : Array CpInfo := pool [(6, .class_ 8), (1, u "java/lang/Object"), (0, u "<init>"), (0, u "()V"), (1, .class_ 14), (1, u "java/lang/StringUTF16"), (31, u "$assertionsDisabled"), (0, u "Z"), (13, u "HI_BYTE_SHIFT"), (0, u "I"), (2, u "LO_BYTE_SHIFT"), (49, .methodref 12 116), (0, .nameAndType 117 118), (0, u "compress"), (0, u "([CI[BII)I"), (3, u "([CII)[B"), (138, u "coderFromArrayLen"), (0, u "([BI)B"), (106, .class_ 371), (1, u "java/lang/StringUTF16$LinesSpliterator"), (58, u "MAX_LENGTH"), (196, .class_ 628), (0, u "java/lang/StringUTF16$CodePointsSpliterator"), (0, .class_ 630), (0, u "java/lang/StringUTF16$CharsSpliterator")] 4

def k8m0 : Method := { name := "<init>", desc := "()V", sig := { parameters := [], returnType := none }, accessFlags := 0, code := none }
def k8c1 : Code := { maxStack := 2, maxLocals := 2, code := jdk_52_method_15_code, exceptionTable := #[], attributes := #[] }
def k8m1 : Method := { name := "coderFromArrayLen", desc := "([BI)B", sig := { parameters := [(.array .byte), .int], returnType := some .byte }, accessFlags := 8, code := some k8c1 }
def k8c2 : Code := { maxStack := 5, maxLocals := 6, code := jdk_52_method_16_code, exceptionTable := #[], attributes := #[] }
def k8m2 : Method := { name := "compress", desc := "([CII)[B", sig := { parameters := [(.array .char), .int, .int], returnType := some (.array .byte) }, accessFlags := 9, code := some k8c2 }
def k8c3 : Code := { maxStack := 3, maxLocals := 7, code := jdk_52_method_21_code, exceptionTable := #[], attributes := #[] }
def k8m3 : Method := { name := "compress", desc := "([CI[BII)I", sig := { parameters := [(.array .char), .int, (.array .byte), .int, .int], returnType := some .int }, accessFlags := 9, code := some k8c3 }
/-- java/lang/StringUTF16 -/
def k8 : Class := { plain "java/lang/StringUTF16" (some 0) with
  accessFlags := 48
  interfaces := #[]
  cf := some (fileOf pool8 12 #[.nestMembers #[627, 629, 369]] #[{ accessFlags := 0, nameIndex := 9, descriptorIndex := 10, attributes := #[] }, { accessFlags := 8, nameIndex := 261, descriptorIndex := 262, attributes := #[] }, { accessFlags := 9, nameIndex := 117, descriptorIndex := 122, attributes := #[] }, { accessFlags := 9, nameIndex := 117, descriptorIndex := 118, attributes := #[] }] 48 6 #[] #[{ accessFlags := 26, nameIndex := 61, descriptorIndex := 62, attributes := #[] }, { accessFlags := 26, nameIndex := 65, descriptorIndex := 62, attributes := #[] }, { accessFlags := 24, nameIndex := 430, descriptorIndex := 62, attributes := #[] }, { accessFlags := 4120, nameIndex := 46, descriptorIndex := 47, attributes := #[] }])
  fields := #[{ name := "HI_BYTE_SHIFT", type := .int, accessFlags := 26, slot := 0, constantValue := 0 }, { name := "LO_BYTE_SHIFT", type := .int, accessFlags := 26, slot := 1, constantValue := 0 }, { name := "MAX_LENGTH", type := .int, accessFlags := 24, slot := 2, constantValue := 0 }, { name := "$assertionsDisabled", type := .boolean, accessFlags := 4120, slot := 3, constantValue := 0 }]
  methods := #[k8m0, k8m1, k8m2, k8m3]
  instanceTypes := #[]
  staticTypes := #[.int, .int, .int, .boolean]
  resolved := Array.replicate 635 none
  statics := none }

def pool9 : Array CpInfo := pool [(1, .methodref 2 3), (0, .class_ 4), (0, .nameAndType 5 6), (0, u "java/lang/Object"), (0, u "<init>"), (0, u "()V"), (0, .class_ 8), (0, u "java/lang/Record")] 13

def k9c0 : Code := { maxStack := 1, maxLocals := 1, code := jdk_30_method_1_code, exceptionTable := #[], attributes := #[] }
def k9m0 : Method := { name := "<init>", desc := "()V", sig := { parameters := [], returnType := none }, accessFlags := 4, code := some k9c0 }
/-- java/lang/Record -/
def k9 : Class := { plain "java/lang/Record" (some 0) with
  accessFlags := 1057
  interfaces := #[]
  cf := some (fileOf pool9 7 #[] #[{ accessFlags := 4, nameIndex := 5, descriptorIndex := 6, attributes := #[] }] 1057 2 #[] #[])
  fields := #[]
  methods := #[k9m0]
  instanceTypes := #[]
  staticTypes := #[]
  resolved := Array.replicate 22 none
  statics := none }

def pool10 : Array CpInfo := pool [(1, .methodref 2 3), (0, .class_ 4), (0, .nameAndType 5 6), (0, u "java/lang/Record"), (0, u "<init>"), (0, u "()V"), (0, .string 8), (0, u "key"), (0, .methodref 10 11), (0, .class_ 12), (0, .nameAndType 13 14), (0, u "java/util/Objects"), (0, u "requireNonNull"), (0, u "(Ljava/lang/Object;Ljava/lang/String;)Ljava/lang/Object;"), (0, .string 16), (0, u "command"), (0, .string 18), (0, u "status"), (0, .fieldref 20 21), (0, .class_ 22), (0, .nameAndType 23 24), (0, u "com/example/enact/enact/queue/QueueEntry"), (0, u "id"), (0, u "J"), (0, .fieldref 20 26), (0, .nameAndType 8 27), (0, u "Ljava/lang/String;"), (0, .fieldref 20 29), (0, .nameAndType 16 27), (0, .fieldref 20 31), (0, .nameAndType 32 27), (0, u "input"), (0, .fieldref 20 34), (0, .nameAndType 18 35), (0, u "Lcom/example/enact/enact/queue/QueueEntry$Status;"), (0, .fieldref 20 37), (0, .nameAndType 38 39), (0, u "attempts"), (0, u "I"), (0, .fieldref 20 41), (0, .nameAndType 42 43), (0, u "firstAttempt"), (0, u "Ljava/time/Instant;"), (0, .fieldref 20 45), (0, .nameAndType 46 43), (0, u "ended"), (0, .fieldref 20 48), (0, .nameAndType 49 27), (0, u "result"), (0, .fieldref 20 51), (0, .nameAndType 52 27), (0, u "message"), (0, .fieldref 20 54), (0, .nameAndType 55 27), (0, u "type"), (0, .fieldref 57 58), (0, .class_ 59), (0, .nameAndType 60 35), (0, u "com/example/enact/enact/queue/QueueEntry$Status"), (0, u "QUEUED"), (0, .methodref 20 62), (0, .nameAndType 5 63), (0, u "(JLjava/lang/String;Ljava/lang/String;Ljava/lang/String;Lcom/example/enact/enact/queue/QueueEntry$Status;ILjava/time/Instant;Ljava/time/Instant;Ljava/lang/String;Ljava/lang/String;Ljava/lang/String;)V"), (34, u "queued"), (0, u "(JLjava/lang/String;Ljava/lang/String;Ljava/lang/String;)Lcom/example/enact/enact/queue/QueueEntry;"), (11, u "()Ljava/lang/String;"), (0, u "()I"), (1, u "()J"), (0, u "()Lcom/example/enact/enact/queue/QueueEntry$Status;"), (0, u "()Ljava/time/Instant;")] 32

def k10c0 : Code := { maxStack := 3, maxLocals := 13, code := prog_32_method_1_code, exceptionTable := #[], attributes := #[] }
def k10m0 : Method := { name := "<init>", desc := "(JLjava/lang/String;Ljava/lang/String;Ljava/lang/String;Lcom/example/enact/enact/queue/QueueEntry$Status;ILjava/time/Instant;Ljava/time/Instant;Ljava/lang/String;Ljava/lang/String;Ljava/lang/String;)V", sig := { parameters := [.long, (.object "java/lang/String"), (.object "java/lang/String"), (.object "java/lang/String"), (.object "com/example/enact/enact/queue/QueueEntry$Status"), .int, (.object "java/time/Instant"), (.object "java/time/Instant"), (.object "java/lang/String"), (.object "java/lang/String"), (.object "java/lang/String")], returnType := none }, accessFlags := 1, code := some k10c0 }
def k10c1 : Code := { maxStack := 14, maxLocals := 5, code := prog_32_method_2_code, exceptionTable := #[], attributes := #[] }
def k10m1 : Method := { name := "queued", desc := "(JLjava/lang/String;Ljava/lang/String;Ljava/lang/String;)Lcom/example/enact/enact/queue/QueueEntry;", sig := { parameters := [.long, (.object "java/lang/String"), (.object "java/lang/String"), (.object "java/lang/String")], returnType := some (.object "com/example/enact/enact/queue/QueueEntry") }, accessFlags := 8, code := some k10c1 }
def k10c2 : Code := { maxStack := 2, maxLocals := 1, code := prog_32_method_10_code, exceptionTable := #[], attributes := #[] }
def k10m2 : Method := { name := "id", desc := "()J", sig := { parameters := [], returnType := some .long }, accessFlags := 1, code := some k10c2 }
def k10c3 : Code := { maxStack := 1, maxLocals := 1, code := prog_32_method_11_code, exceptionTable := #[], attributes := #[] }
def k10m3 : Method := { name := "key", desc := "()Ljava/lang/String;", sig := { parameters := [], returnType := some (.object "java/lang/String") }, accessFlags := 1, code := some k10c3 }
def k10c4 : Code := { maxStack := 1, maxLocals := 1, code := prog_32_method_12_code, exceptionTable := #[], attributes := #[] }
def k10m4 : Method := { name := "command", desc := "()Ljava/lang/String;", sig := { parameters := [], returnType := some (.object "java/lang/String") }, accessFlags := 1, code := some k10c4 }
def k10c5 : Code := { maxStack := 1, maxLocals := 1, code := prog_32_method_13_code, exceptionTable := #[], attributes := #[] }
def k10m5 : Method := { name := "input", desc := "()Ljava/lang/String;", sig := { parameters := [], returnType := some (.object "java/lang/String") }, accessFlags := 1, code := some k10c5 }
def k10c6 : Code := { maxStack := 1, maxLocals := 1, code := prog_32_method_14_code, exceptionTable := #[], attributes := #[] }
def k10m6 : Method := { name := "status", desc := "()Lcom/example/enact/enact/queue/QueueEntry$Status;", sig := { parameters := [], returnType := some (.object "com/example/enact/enact/queue/QueueEntry$Status") }, accessFlags := 1, code := some k10c6 }
def k10c7 : Code := { maxStack := 1, maxLocals := 1, code := prog_32_method_15_code, exceptionTable := #[], attributes := #[] }
def k10m7 : Method := { name := "attempts", desc := "()I", sig := { parameters := [], returnType := some .int }, accessFlags := 1, code := some k10c7 }
def k10c8 : Code := { maxStack := 1, maxLocals := 1, code := prog_32_method_16_code, exceptionTable := #[], attributes := #[] }
def k10m8 : Method := { name := "firstAttempt", desc := "()Ljava/time/Instant;", sig := { parameters := [], returnType := some (.object "java/time/Instant") }, accessFlags := 1, code := some k10c8 }
def k10c9 : Code := { maxStack := 1, maxLocals := 1, code := prog_32_method_17_code, exceptionTable := #[], attributes := #[] }
def k10m9 : Method := { name := "ended", desc := "()Ljava/time/Instant;", sig := { parameters := [], returnType := some (.object "java/time/Instant") }, accessFlags := 1, code := some k10c9 }
def k10c10 : Code := { maxStack := 1, maxLocals := 1, code := prog_32_method_18_code, exceptionTable := #[], attributes := #[] }
def k10m10 : Method := { name := "result", desc := "()Ljava/lang/String;", sig := { parameters := [], returnType := some (.object "java/lang/String") }, accessFlags := 1, code := some k10c10 }
def k10c11 : Code := { maxStack := 1, maxLocals := 1, code := prog_32_method_19_code, exceptionTable := #[], attributes := #[] }
def k10m11 : Method := { name := "message", desc := "()Ljava/lang/String;", sig := { parameters := [], returnType := some (.object "java/lang/String") }, accessFlags := 1, code := some k10c11 }
def k10c12 : Code := { maxStack := 1, maxLocals := 1, code := prog_32_method_20_code, exceptionTable := #[], attributes := #[] }
def k10m12 : Method := { name := "type", desc := "()Ljava/lang/String;", sig := { parameters := [], returnType := some (.object "java/lang/String") }, accessFlags := 1, code := some k10c12 }
/-- com/example/enact/enact/queue/QueueEntry -/
def k10 : Class := { plain "com/example/enact/enact/queue/QueueEntry" (some 9) with
  accessFlags := 49
  interfaces := #[]
  cf := some (fileOf pool10 20 #[.nestMembers #[57]] #[{ accessFlags := 1, nameIndex := 5, descriptorIndex := 63, attributes := #[] }, { accessFlags := 8, nameIndex := 98, descriptorIndex := 99, attributes := #[] }, { accessFlags := 1, nameIndex := 23, descriptorIndex := 114, attributes := #[] }, { accessFlags := 1, nameIndex := 8, descriptorIndex := 111, attributes := #[] }, { accessFlags := 1, nameIndex := 16, descriptorIndex := 111, attributes := #[] }, { accessFlags := 1, nameIndex := 32, descriptorIndex := 111, attributes := #[] }, { accessFlags := 1, nameIndex := 18, descriptorIndex := 115, attributes := #[] }, { accessFlags := 1, nameIndex := 38, descriptorIndex := 112, attributes := #[] }, { accessFlags := 1, nameIndex := 42, descriptorIndex := 116, attributes := #[] }, { accessFlags := 1, nameIndex := 46, descriptorIndex := 116, attributes := #[] }, { accessFlags := 1, nameIndex := 49, descriptorIndex := 111, attributes := #[] }, { accessFlags := 1, nameIndex := 52, descriptorIndex := 111, attributes := #[] }, { accessFlags := 1, nameIndex := 55, descriptorIndex := 111, attributes := #[] }] 49 2 #[] #[{ accessFlags := 18, nameIndex := 23, descriptorIndex := 24, attributes := #[] }, { accessFlags := 18, nameIndex := 8, descriptorIndex := 27, attributes := #[] }, { accessFlags := 18, nameIndex := 16, descriptorIndex := 27, attributes := #[] }, { accessFlags := 18, nameIndex := 32, descriptorIndex := 27, attributes := #[] }, { accessFlags := 18, nameIndex := 18, descriptorIndex := 35, attributes := #[] }, { accessFlags := 18, nameIndex := 38, descriptorIndex := 39, attributes := #[] }, { accessFlags := 18, nameIndex := 42, descriptorIndex := 43, attributes := #[] }, { accessFlags := 18, nameIndex := 46, descriptorIndex := 43, attributes := #[] }, { accessFlags := 18, nameIndex := 49, descriptorIndex := 27, attributes := #[] }, { accessFlags := 18, nameIndex := 52, descriptorIndex := 27, attributes := #[] }, { accessFlags := 18, nameIndex := 55, descriptorIndex := 27, attributes := #[] }])
  fields := #[{ name := "id", type := .long, accessFlags := 18, slot := 0, constantValue := 0 }, { name := "key", type := (.object "java/lang/String"), accessFlags := 18, slot := 1, constantValue := 0 }, { name := "command", type := (.object "java/lang/String"), accessFlags := 18, slot := 2, constantValue := 0 }, { name := "input", type := (.object "java/lang/String"), accessFlags := 18, slot := 3, constantValue := 0 }, { name := "status", type := (.object "com/example/enact/enact/queue/QueueEntry$Status"), accessFlags := 18, slot := 4, constantValue := 0 }, { name := "attempts", type := .int, accessFlags := 18, slot := 5, constantValue := 0 }, { name := "firstAttempt", type := (.object "java/time/Instant"), accessFlags := 18, slot := 6, constantValue := 0 }, { name := "ended", type := (.object "java/time/Instant"), accessFlags := 18, slot := 7, constantValue := 0 }, { name := "result", type := (.object "java/lang/String"), accessFlags := 18, slot := 8, constantValue := 0 }, { name := "message", type := (.object "java/lang/String"), accessFlags := 18, slot := 9, constantValue := 0 }, { name := "type", type := (.object "java/lang/String"), accessFlags := 18, slot := 10, constantValue := 0 }]
  methods := #[k10m0, k10m1, k10m2, k10m3, k10m4, k10m5, k10m6, k10m7, k10m8, k10m9, k10m10, k10m11, k10m12]
  instanceTypes := #[.long, (.object "java/lang/String"), (.object "java/lang/String"), (.object "java/lang/String"), (.object "com/example/enact/enact/queue/QueueEntry$Status"), .int, (.object "java/time/Instant"), (.object "java/time/Instant"), (.object "java/lang/String"), (.object "java/lang/String"), (.object "java/lang/String")]
  staticTypes := #[]
  resolved := Array.replicate 149 none
  statics := none }

def pool11 : Array CpInfo := pool [(2, .class_ 4), (1, u "java/lang/Enum"), (0, u "name"), (0, u "Ljava/lang/String;"), (2, u "ordinal"), (0, u "I"), (1, .class_ 14), (1, u "java/lang/Object"), (4, u "hash"), (86, .class_ 108), (1, u "java/lang/Enum$EnumDesc"), (2, .class_ 112), (0, u "java/lang/constant/Constable"), (0, .class_ 114), (0, u "java/lang/Comparable"), (0, .class_ 116), (0, u "java/io/Serializable")] 87

/-- java/lang/Enum -/
def k11 : Class := { plain "java/lang/Enum" (some 0) with
  accessFlags := 1057
  interfaces := #[5, 3, 2]
  cf := some (fileOf pool11 2 #[.nestMembers #[106]] #[] 1057 12 #[111, 113, 115] #[{ accessFlags := 18, nameIndex := 5, descriptorIndex := 6, attributes := #[] }, { accessFlags := 18, nameIndex := 9, descriptorIndex := 10, attributes := #[] }, { accessFlags := 2, nameIndex := 19, descriptorIndex := 10, attributes := #[] }])
  fields := #[{ name := "name", type := (.object "java/lang/String"), accessFlags := 18, slot := 0, constantValue := 0 }, { name := "ordinal", type := .int, accessFlags := 18, slot := 1, constantValue := 0 }, { name := "hash", type := .int, accessFlags := 2, slot := 2, constantValue := 0 }]
  methods := #[]
  instanceTypes := #[(.object "java/lang/String"), .int, .int]
  staticTypes := #[]
  resolved := Array.replicate 204 none
  statics := none }

def pool12 : Array CpInfo := pool [(1, .class_ 2), (0, u "com/example/enact/enact/queue/QueueEntry$Status"), (2, u "QUEUED"), (0, u "Lcom/example/enact/enact/queue/QueueEntry$Status;"), (2, u "RUNNING"), (2, u "SUCCEEDED"), (2, u "FAILED"), (2, u "$VALUES"), (0, u "[Lcom/example/enact/enact/queue/QueueEntry$Status;"), (6, .class_ 28), (1, u "java/lang/Enum"), (44, .class_ 74), (0, u "com/example/enact/enact/queue/QueueEntry")] 2

/-- com/example/enact/enact/queue/QueueEntry$Status -/
def k12 : Class := { plain "com/example/enact/enact/queue/QueueEntry$Status" (some 11) with
  accessFlags := 16433
  interfaces := #[]
  cf := some (fileOf pool12 1 #[.nestHost 73] #[] 16433 26 #[] #[{ accessFlags := 16409, nameIndex := 5, descriptorIndex := 6, attributes := #[] }, { accessFlags := 16409, nameIndex := 9, descriptorIndex := 6, attributes := #[] }, { accessFlags := 16409, nameIndex := 12, descriptorIndex := 6, attributes := #[] }, { accessFlags := 16409, nameIndex := 15, descriptorIndex := 6, attributes := #[] }, { accessFlags := 4122, nameIndex := 18, descriptorIndex := 19, attributes := #[] }])
  fields := #[{ name := "QUEUED", type := (.object "com/example/enact/enact/queue/QueueEntry$Status"), accessFlags := 16409, slot := 0, constantValue := 0 }, { name := "RUNNING", type := (.object "com/example/enact/enact/queue/QueueEntry$Status"), accessFlags := 16409, slot := 1, constantValue := 0 }, { name := "SUCCEEDED", type := (.object "com/example/enact/enact/queue/QueueEntry$Status"), accessFlags := 16409, slot := 2, constantValue := 0 }, { name := "FAILED", type := (.object "com/example/enact/enact/queue/QueueEntry$Status"), accessFlags := 16409, slot := 3, constantValue := 0 }, { name := "$VALUES", type := (.array (.object "com/example/enact/enact/queue/QueueEntry$Status")), accessFlags := 4122, slot := 4, constantValue := 0 }]
  methods := #[]
  instanceTypes := #[(.object "java/lang/String"), .int, .int]
  staticTypes := #[(.object "com/example/enact/enact/queue/QueueEntry$Status"), (.object "com/example/enact/enact/queue/QueueEntry$Status"), (.object "com/example/enact/enact/queue/QueueEntry$Status"), (.object "com/example/enact/enact/queue/QueueEntry$Status"), (.array (.object "com/example/enact/enact/queue/QueueEntry$Status"))]
  resolved := Array.replicate 77 none
  statics := some 1 }

def pool13 : Array CpInfo := pool [(2, .class_ 4), (1, u "java/lang/Object"), (0, u "<init>"), (0, u "()V"), (35, .class_ 44), (1, u "java/util/Objects"), (0, u "requireNonNull"), (48, u "(Ljava/lang/Object;Ljava/lang/String;)Ljava/lang/Object;")] 89

def k13m0 : Method := { name := "<init>", desc := "()V", sig := { parameters := [], returnType := none }, accessFlags := 2, code := none }
def k13c1 : Code := { maxStack := 3, maxLocals := 2, code := jdk_31_method_11_code, exceptionTable := #[], attributes := #[] }
def k13m1 : Method := { name := "requireNonNull", desc := "(Ljava/lang/Object;Ljava/lang/String;)Ljava/lang/Object;", sig := { parameters := [(.object "java/lang/Object"), (.object "java/lang/String")], returnType := some (.object "java/lang/Object") }, accessFlags := 9, code := some k13c1 }
/-- java/util/Objects -/
def k13 : Class := { plain "java/util/Objects" (some 0) with
  accessFlags := 49
  interfaces := #[]
  cf := some (fileOf pool13 42 #[] #[{ accessFlags := 2, nameIndex := 5, descriptorIndex := 6, attributes := #[] }, { accessFlags := 9, nameIndex := 45, descriptorIndex := 94, attributes := #[] }] 49 2 #[] #[])
  fields := #[]
  methods := #[k13m0, k13m1]
  instanceTypes := #[]
  staticTypes := #[]
  resolved := Array.replicate 184 none
  statics := none }

def pool14 : Array CpInfo := pool [(4, .class_ 6), (1, u "java/lang/Object"), (0, u "<init>"), (0, u "()V"), (5, .class_ 16), (1, u "java/lang/StringLatin1"), (104, u "$assertionsDisabled"), (0, u "Z"), (98, .class_ 223), (1, u "java/lang/StringLatin1$LinesSpliterator"), (166, .class_ 391), (0, u "java/lang/StringLatin1$CharsSpliterator")] 3

def k14m0 : Method := { name := "<init>", desc := "()V", sig := { parameters := [], returnType := none }, accessFlags := 0, code := none }
/-- java/lang/StringLatin1 -/
def k14 : Class := { plain "java/lang/StringLatin1" (some 0) with
  accessFlags := 48
  interfaces := #[]
  cf := some (fileOf pool14 14 #[.nestMembers #[390, 221]] #[{ accessFlags := 0, nameIndex := 7, descriptorIndex := 8, attributes := #[] }] 48 4 #[] #[{ accessFlags := 4120, nameIndex := 121, descriptorIndex := 122, attributes := #[] }])
  fields := #[{ name := "$assertionsDisabled", type := .boolean, accessFlags := 4120, slot := 0, constantValue := 0 }]
  methods := #[k14m0]
  instanceTypes := #[]
  staticTypes := #[.boolean]
  resolved := Array.replicate 395 none
  statics := none }

def pool15 : Array CpInfo := pool [(2, .class_ 4), (1, u "java/lang/Object"), (0, u "<init>"), (0, u "()V"), (17, .class_ 26), (1, u "jdk/internal/util/Preconditions"), (28, .class_ 56), (0, u "jdk/internal/util/Preconditions$4"), (57, .class_ 115), (0, u "jdk/internal/util/Preconditions$1"), (7, u "SIOOBE_FORMATTER"), (0, u "Ljava/util/function/BiFunction;"), (0, .class_ 126), (0, u "jdk/internal/util/Preconditions$2"), (3, u "AIOOBE_FORMATTER"), (0, .class_ 132), (0, u "jdk/internal/util/Preconditions$3"), (3, u "IOOBE_FORMATTER")] 57

def k15m0 : Method := { name := "<init>", desc := "()V", sig := { parameters := [], returnType := none }, accessFlags := 1, code := none }
/-- jdk/internal/util/Preconditions -/
def k15 : Class := { plain "jdk/internal/util/Preconditions" (some 0) with
  accessFlags := 33
  interfaces := #[]
  cf := some (fileOf pool15 24 #[.nestMembers #[55, 131, 125, 114]] #[{ accessFlags := 1, nameIndex := 5, descriptorIndex := 6, attributes := #[] }] 33 2 #[] #[{ accessFlags := 25, nameIndex := 123, descriptorIndex := 124, attributes := #[] }, { accessFlags := 25, nameIndex := 130, descriptorIndex := 124, attributes := #[] }, { accessFlags := 25, nameIndex := 136, descriptorIndex := 124, attributes := #[] }])
  fields := #[{ name := "SIOOBE_FORMATTER", type := (.object "java/util/function/BiFunction"), accessFlags := 25, slot := 0, constantValue := 0 }, { name := "AIOOBE_FORMATTER", type := (.object "java/util/function/BiFunction"), accessFlags := 25, slot := 1, constantValue := 0 }, { name := "IOOBE_FORMATTER", type := (.object "java/util/function/BiFunction"), accessFlags := 25, slot := 2, constantValue := 0 }]
  methods := #[k15m0]
  instanceTypes := #[]
  staticTypes := #[(.object "java/util/function/BiFunction"), (.object "java/util/function/BiFunction"), (.object "java/util/function/BiFunction")]
  resolved := Array.replicate 194 none
  statics := some 2 }

def pool16 : Array CpInfo := pool [(9, u "<init>"), (6, .class_ 18), (1, u "java/lang/Object"), (0, u "()V"), (1, .class_ 23), (1, u "jdk/internal/util/ArraysSupport"), (0, u "LOG2_ARRAY_LONG_INDEX_SCALE"), (0, u "I"), (2, u "U"), (0, u "Ljdk/internal/misc/Unsafe;"), (8, u "BIG_ENDIAN"), (0, u "Z"), (8, u "LOG2_BYTE_BIT_SIZE"), (4, u "LOG2_ARRAY_INT_INDEX_SCALE"), (54, u "JLA"), (0, u "Ljdk/internal/access/JavaLangAccess;"), (11, u "LOG2_ARRAY_BOOLEAN_INDEX_SCALE"), (9, u "LOG2_ARRAY_BYTE_INDEX_SCALE"), (5, u "LOG2_ARRAY_CHAR_INDEX_SCALE"), (5, u "LOG2_ARRAY_SHORT_INDEX_SCALE"), (18, u "LOG2_ARRAY_FLOAT_INDEX_SCALE"), (24, u "LOG2_ARRAY_DOUBLE_INDEX_SCALE"), (89, u "T_BOOLEAN"), (2, u "T_CHAR"), (1, u "T_FLOAT"), (1, u "T_DOUBLE"), (1, u "T_BYTE"), (1, u "T_SHORT"), (1, u "T_INT"), (1, u "T_LONG"), (1, u "SOFT_MAX_ARRAY_LENGTH")] 83

def k16m0 : Method := { name := "<init>", desc := "()V", sig := { parameters := [], returnType := none }, accessFlags := 2, code := none }
/-- jdk/internal/util/ArraysSupport -/
def k16 : Class := { plain "jdk/internal/util/ArraysSupport" (some 0) with
  accessFlags := 33
  interfaces := #[]
  cf := some (fileOf pool16 21 #[] #[{ accessFlags := 2, nameIndex := 9, descriptorIndex := 19, attributes := #[] }] 33 16 #[] #[{ accessFlags := 24, nameIndex := 28, descriptorIndex := 29, attributes := #[] }, { accessFlags := 26, nameIndex := 38, descriptorIndex := 39, attributes := #[] }, { accessFlags := 25, nameIndex := 121, descriptorIndex := 25, attributes := #[] }, { accessFlags := 25, nameIndex := 131, descriptorIndex := 25, attributes := #[] }, { accessFlags := 25, nameIndex := 137, descriptorIndex := 25, attributes := #[] }, { accessFlags := 25, nameIndex := 143, descriptorIndex := 25, attributes := #[] }, { accessFlags := 25, nameIndex := 53, descriptorIndex := 25, attributes := #[] }, { accessFlags := 25, nameIndex := 24, descriptorIndex := 25, attributes := #[] }, { accessFlags := 25, nameIndex := 162, descriptorIndex := 25, attributes := #[] }, { accessFlags := 25, nameIndex := 187, descriptorIndex := 25, attributes := #[] }, { accessFlags := 26, nameIndex := 48, descriptorIndex := 25, attributes := #[] }, { accessFlags := 25, nameIndex := 277, descriptorIndex := 25, attributes := #[] }, { accessFlags := 25, nameIndex := 280, descriptorIndex := 25, attributes := #[] }, { accessFlags := 25, nameIndex := 282, descriptorIndex := 25, attributes := #[] }, { accessFlags := 25, nameIndex := 284, descriptorIndex := 25, attributes := #[] }, { accessFlags := 25, nameIndex := 286, descriptorIndex := 25, attributes := #[] }, { accessFlags := 25, nameIndex := 288, descriptorIndex := 25, attributes := #[] }, { accessFlags := 25, nameIndex := 290, descriptorIndex := 25, attributes := #[] }, { accessFlags := 25, nameIndex := 292, descriptorIndex := 25, attributes := #[] }, { accessFlags := 26, nameIndex := 108, descriptorIndex := 109, attributes := #[] }, { accessFlags := 25, nameIndex := 294, descriptorIndex := 25, attributes := #[] }])
  fields := #[{ name := "U", type := (.object "jdk/internal/misc/Unsafe"), accessFlags := 24, slot := 0, constantValue := 0 }, { name := "BIG_ENDIAN", type := .boolean, accessFlags := 26, slot := 1, constantValue := 0 }, { name := "LOG2_ARRAY_BOOLEAN_INDEX_SCALE", type := .int, accessFlags := 25, slot := 2, constantValue := 0 }, { name := "LOG2_ARRAY_BYTE_INDEX_SCALE", type := .int, accessFlags := 25, slot := 3, constantValue := 0 }, { name := "LOG2_ARRAY_CHAR_INDEX_SCALE", type := .int, accessFlags := 25, slot := 4, constantValue := 0 }, { name := "LOG2_ARRAY_SHORT_INDEX_SCALE", type := .int, accessFlags := 25, slot := 5, constantValue := 0 }, { name := "LOG2_ARRAY_INT_INDEX_SCALE", type := .int, accessFlags := 25, slot := 6, constantValue := 0 }, { name := "LOG2_ARRAY_LONG_INDEX_SCALE", type := .int, accessFlags := 25, slot := 7, constantValue := 0 }, { name := "LOG2_ARRAY_FLOAT_INDEX_SCALE", type := .int, accessFlags := 25, slot := 8, constantValue := 0 }, { name := "LOG2_ARRAY_DOUBLE_INDEX_SCALE", type := .int, accessFlags := 25, slot := 9, constantValue := 0 }, { name := "LOG2_BYTE_BIT_SIZE", type := .int, accessFlags := 26, slot := 10, constantValue := 0 }, { name := "T_BOOLEAN", type := .int, accessFlags := 25, slot := 11, constantValue := 0 }, { name := "T_CHAR", type := .int, accessFlags := 25, slot := 12, constantValue := 0 }, { name := "T_FLOAT", type := .int, accessFlags := 25, slot := 13, constantValue := 0 }, { name := "T_DOUBLE", type := .int, accessFlags := 25, slot := 14, constantValue := 0 }, { name := "T_BYTE", type := .int, accessFlags := 25, slot := 15, constantValue := 0 }, { name := "T_SHORT", type := .int, accessFlags := 25, slot := 16, constantValue := 0 }, { name := "T_INT", type := .int, accessFlags := 25, slot := 17, constantValue := 0 }, { name := "T_LONG", type := .int, accessFlags := 25, slot := 18, constantValue := 0 }, { name := "JLA", type := (.object "jdk/internal/access/JavaLangAccess"), accessFlags := 26, slot := 19, constantValue := 0 }, { name := "SOFT_MAX_ARRAY_LENGTH", type := .int, accessFlags := 25, slot := 20, constantValue := 0 }]
  methods := #[k16m0]
  instanceTypes := #[]
  staticTypes := #[(.object "jdk/internal/misc/Unsafe"), .boolean, .int, .int, .int, .int, .int, .int, .int, .int, .int, .int, .int, .int, .int, .int, .int, .int, .int, (.object "jdk/internal/access/JavaLangAccess"), .int]
  resolved := Array.replicate 378 none
  statics := none }

def pool17 : Array CpInfo := pool [(1, u "java/lang/Cloneable"), (0, .class_ 1), (0, u "java/lang/Object"), (0, .class_ 3)] 3

/-- java/lang/Cloneable -/
def k17 : Class := { plain "java/lang/Cloneable" (some 0) with
  accessFlags := 1537
  interfaces := #[]
  cf := some (fileOf pool17 2 #[] #[] 1537 4 #[] #[])
  fields := #[]
  methods := #[]
  instanceTypes := #[]
  staticTypes := #[]
  resolved := Array.replicate 8 none
  statics := none }

/-- the primitive byte -/
def k18 : Class := { plain "byte" none with kind := .primitive 'B', accessFlags := 0x411 }
/-- [B -/
def k19 : Class := { plain "[B" (some 0) with kind := .array 18 .byte, interfaces := #[17, 2], accessFlags := 1041 }

/-- the primitive char -/
def k20 : Class := { plain "char" none with kind := .primitive 'C', accessFlags := 0x411 }
/-- [C -/
def k21 : Class := { plain "[C" (some 0) with kind := .array 20 .char, interfaces := #[17, 2], accessFlags := 1041 }

/-- the primitive int -/
def k22 : Class := { plain "int" none with kind := .primitive 'I', accessFlags := 0x411 }
/-- [I -/
def k23 : Class := { plain "[I" (some 0) with kind := .array 22 .int, interfaces := #[17, 2], accessFlags := 1041 }

def heap : Heap := #[{ cls := 7, slots := #[.long 0, .int 1, .null, .int 0, .null, .int 0, .int 0], vm := .statics 7 },
  { cls := 12, slots := #[.ref 3, .null, .null, .null, .null], vm := .statics 12 },
  { cls := 15, slots := #[.null, .null, .null], vm := .statics 15 },
  { cls := 12, slots := #[.null, .int 0, .int 0], vm := .none }]
def classes : Array Class := #[k0, k1, k2, k3, k4, k5, k6, k7, k8, k9, k10, k11, k12, k13, k14, k15, k16, k17, k18, k19, k20, k21, k22, k23]
def interned : List (Array UInt16 × Addr) := []
def slotsUsed : Nat := 18
def theMethod : MethodId := ⟨1, 2⟩
def args0 : Array Value := #[.long 5, .int 65, .int 66, .int 2]
def aboutOver (below : List Frame) : State where
  vm := { classes := classes, interned := interned.toArray }
  heap := heap
  slotsUsed := slotsUsed
  threads := #[{ frames := .invoking theMethod args0 :: below }]
def below0 : List Frame := [.native { method := ⟨0, 0⟩, args := #[] }]
def about1 : State := aboutOver below0
def p0 : Program := .bare "" "" ""
def e0 : Env := launch0.env 0 0 0
theorem w_frames : about1.frames = Frame.invoking theMethod args0 :: below0 := rfl
set_option maxRecDepth 65536 in
theorem w_args : argsFit about1.vm theMethod args0 = true := by decide +kernel
set_option maxRecDepth 65536 in
theorem w_heap : heapFits about1 = true := by decide +kernel
set_option maxRecDepth 65536 in
theorem w_runnable : about1.curStatus? = some .runnable := by decide +kernel
set_option maxRecDepth 65536 in
theorem w_alone : about1.alone = true := by decide +kernel
set_option maxRecDepth 65536 in
theorem w_named : about1.methodNamed? x = some theMethod := by decide +kernel
set_option maxRecDepth 65536 in
theorem w_hears : about1.hears theMethod below0 = true := by decide +kernel
set_option maxRecDepth 65536 in
theorem w_ripe : about1.ripe theMethod args0 below0 = true := by decide +kernel
theorem w_running : about1.status = .running := rfl
set_option maxRecDepth 65536 in
theorem w_room : about1.hasRoom e0.platform room_1 = true :=
  launch0.hasRoom_least _ room_1 (by decide +kernel) (by decide +kernel) (by decide +kernel) (by decide +kernel) (by decide +kernel) (by decide +kernel)
theorem allAtoms_all (ts : List Jvm.Cond) (a : Array Jvm.Value) (st : Jvm.State) : (allAtoms ts).before a st = ts.all (fun c => c.before a st) := by
  induction ts with
  | nil => rfl
  | cons c t ih =>
    show (Jvm.Cond.and c (allAtoms t)).before a st = _
    rw [Jvm.Cond.before_and, ih, List.all_cons]
def words1 : List Jvm.Cond := Jvm.Cond.code x code maxLocals ret :: tables_1
/-- a 'code' word, met by the world's own term for the bytes: nothing is compared byte by byte -/
theorem code_word {y : MethodName} {bytes : ByteArray} {mx : Nat} {rt : Option FieldType} {a : Array Value} {s : State} {m : MethodId} {meth : Method} {c : Code} (h1 : s.methodNamed? y = some m) (h2 : s.vm.method? m = some meth) (h3 : meth.code = some c) (h4 : c.code = bytes)
    (h5 : (c.maxLocals == mx && c.exceptionTable.isEmpty && decide (c.maxStack ≤ mostOperands) && decide (meth.sig.returnType = rt) && !meth.locks && decide (parseMethodDescriptor y.desc = some meth.sig)) = true) : (Jvm.Cond.code y bytes mx rt).before a s = true := by
  simp only [Bool.and_eq_true, beq_iff_eq, Bool.not_eq_true', decide_eq_true_eq] at h5
  obtain ⟨⟨⟨⟨⟨g1, g2⟩, g3⟩, g4⟩, g5⟩, g6⟩ := h5
  simp [Cond.before, Cond.holds, Cond.value, h1, h2, h3, h4, g1, g2, g3, g4, g5, g6]
def isCode : Jvm.Cond → Bool
  | .code _ _ _ _ => true
  | _ => false
theorem all_split {L : List Jvm.Cond} {P : Jvm.Cond → Bool} (h1 : L.all (fun c => isCode c || P c) = true) (h2 : ∀ c ∈ L.filter isCode, P c = true) : L.all P = true := by
  refine List.all_eq_true.mpr fun c hc => ?_
  have h := List.all_eq_true.mp h1 c hc
  rcases Bool.eq_false_or_eq_true (isCode c) with hi | hi
  · exact h2 c (List.mem_filter.mpr ⟨hc, hi⟩)
  · simpa [hi] using h
set_option maxRecDepth 65536 in
theorem w_c0 : (Jvm.Cond.code x code maxLocals ret).before args0 about1 = true := code_word (m := ⟨1, 2⟩) (meth := k1m2) (c := k1c2) (by decide +kernel) rfl rfl rfl (by decide +kernel)
set_option maxRecDepth 65536 in
theorem w_c1 : (Jvm.Cond.code ({ cls := "com/example/enact/enact/queue/QueueEntryQueuedPinLaw", name := "str", desc := "(I)Ljava/lang/String;" } : Jvm.MethodName) method_2_code (2 : Nat) (Option.some (Jvm.ClassFile.FieldType.object "java/lang/String"))).before args0 about1 = true := code_word (m := ⟨1, 1⟩) (meth := k1m1) (c := k1c1) (by decide +kernel) rfl rfl rfl (by decide +kernel)
set_option maxRecDepth 65536 in
theorem w_c2 : (Jvm.Cond.code ({ cls := "java/lang/String", name := "<init>", desc := "([C)V" } : Jvm.MethodName) jdk_42_method_3_code (2 : Nat) (Option.none : Option Jvm.ClassFile.FieldType)).before args0 about1 = true := code_word (m := ⟨7, 1⟩) (meth := k7m1) (c := k7c1) (by decide +kernel) rfl rfl rfl (by decide +kernel)
set_option maxRecDepth 65536 in
theorem w_c3 : (Jvm.Cond.code ({ cls := "java/lang/String", name := "<init>", desc := "([CIILjava/lang/Void;)V" } : Jvm.MethodName) jdk_42_method_149_code (6 : Nat) (Option.none : Option Jvm.ClassFile.FieldType)).before args0 about1 = true := code_word (m := ⟨7, 3⟩) (meth := k7m3) (c := k7c3) (by decide +kernel) rfl rfl rfl (by decide +kernel)
set_option maxRecDepth 65536 in
theorem w_c4 : (Jvm.Cond.code ({ cls := "java/lang/Object", name := "<init>", desc := "()V" } : Jvm.MethodName) object_method_1_code (1 : Nat) (Option.none : Option Jvm.ClassFile.FieldType)).before args0 about1 = true := code_word (m := ⟨0, 0⟩) (meth := k0m0) (c := k0c0) (by decide +kernel) rfl rfl rfl (by decide +kernel)
set_option maxRecDepth 65536 in
theorem w_c5 : (Jvm.Cond.code ({ cls := "java/lang/StringUTF16", name := "compress", desc := "([CII)[B" } : Jvm.MethodName) jdk_52_method_16_code (6 : Nat) (Option.some (Jvm.ClassFile.FieldType.array Jvm.ClassFile.FieldType.byte))).before args0 about1 = true := code_word (m := ⟨8, 2⟩) (meth := k8m2) (c := k8c2) (by decide +kernel) rfl rfl rfl (by decide +kernel)
set_option maxRecDepth 65536 in
theorem w_c6 : (Jvm.Cond.code ({ cls := "java/lang/StringUTF16", name := "compress", desc := "([CI[BII)I" } : Jvm.MethodName) jdk_52_method_21_code (7 : Nat) (Option.some Jvm.ClassFile.FieldType.int)).before args0 about1 = true := code_word (m := ⟨8, 3⟩) (meth := k8m3) (c := k8c3) (by decide +kernel) rfl rfl rfl (by decide +kernel)
set_option maxRecDepth 65536 in
theorem w_c7 : (Jvm.Cond.code ({ cls := "java/lang/StringUTF16", name := "coderFromArrayLen", desc := "([BI)B" } : Jvm.MethodName) jdk_52_method_15_code (2 : Nat) (Option.some Jvm.ClassFile.FieldType.byte)).before args0 about1 = true := code_word (m := ⟨8, 1⟩) (meth := k8m1) (c := k8c1) (by decide +kernel) rfl rfl rfl (by decide +kernel)
set_option maxRecDepth 65536 in
theorem w_c8 : (Jvm.Cond.code ({ cls := "com/example/enact/enact/queue/QueueEntry", name := "queued", desc := "(JLjava/lang/String;Ljava/lang/String;Ljava/lang/String;)Lcom/example/enact/enact/queue/QueueEntry;" } : Jvm.MethodName) prog_32_method_2_code (5 : Nat) (Option.some (Jvm.ClassFile.FieldType.object "com/example/enact/enact/queue/QueueEntry"))).before args0 about1 = true := code_word (m := ⟨10, 1⟩) (meth := k10m1) (c := k10c1) (by decide +kernel) rfl rfl rfl (by decide +kernel)
set_option maxRecDepth 65536 in
theorem w_c9 : (Jvm.Cond.code ({ cls := "com/example/enact/enact/queue/QueueEntry", name := "<init>", desc := "(JLjava/lang/String;Ljava/lang/String;Ljava/lang/String;Lcom/example/enact/enact/queue/QueueEntry$Status;ILjava/time/Instant;Ljava/time/Instant;Ljava/lang/String;Ljava/lang/String;Ljava/lang/String;)V" } : Jvm.MethodName) prog_32_method_1_code (13 : Nat) (Option.none : Option Jvm.ClassFile.FieldType)).before args0 about1 = true := code_word (m := ⟨10, 0⟩) (meth := k10m0) (c := k10c0) (by decide +kernel) rfl rfl rfl (by decide +kernel)
set_option maxRecDepth 65536 in
theorem w_c10 : (Jvm.Cond.code ({ cls := "java/lang/Record", name := "<init>", desc := "()V" } : Jvm.MethodName) jdk_30_method_1_code (1 : Nat) (Option.none : Option Jvm.ClassFile.FieldType)).before args0 about1 = true := code_word (m := ⟨9, 0⟩) (meth := k9m0) (c := k9c0) (by decide +kernel) rfl rfl rfl (by decide +kernel)
set_option maxRecDepth 65536 in
theorem w_c11 : (Jvm.Cond.code ({ cls := "java/util/Objects", name := "requireNonNull", desc := "(Ljava/lang/Object;Ljava/lang/String;)Ljava/lang/Object;" } : Jvm.MethodName) jdk_31_method_11_code (2 : Nat) (Option.some (Jvm.ClassFile.FieldType.object "java/lang/Object"))).before args0 about1 = true := code_word (m := ⟨13, 1⟩) (meth := k13m1) (c := k13c1) (by decide +kernel) rfl rfl rfl (by decide +kernel)
set_option maxRecDepth 65536 in
theorem w_c12 : (Jvm.Cond.code ({ cls := "com/example/enact/enact/queue/QueueEntry", name := "id", desc := "()J" } : Jvm.MethodName) prog_32_method_10_code (1 : Nat) (Option.some Jvm.ClassFile.FieldType.long)).before args0 about1 = true := code_word (m := ⟨10, 2⟩) (meth := k10m2) (c := k10c2) (by decide +kernel) rfl rfl rfl (by decide +kernel)
set_option maxRecDepth 65536 in
theorem w_c13 : (Jvm.Cond.code ({ cls := "com/example/enact/enact/queue/QueueEntry", name := "key", desc := "()Ljava/lang/String;" } : Jvm.MethodName) prog_32_method_11_code (1 : Nat) (Option.some (Jvm.ClassFile.FieldType.object "java/lang/String"))).before args0 about1 = true := code_word (m := ⟨10, 3⟩) (meth := k10m3) (c := k10c3) (by decide +kernel) rfl rfl rfl (by decide +kernel)
set_option maxRecDepth 65536 in
theorem w_c14 : (Jvm.Cond.code ({ cls := "java/lang/String", name := "equals", desc := "(Ljava/lang/Object;)Z" } : Jvm.MethodName) jdk_42_method_66_code (3 : Nat) (Option.some Jvm.ClassFile.FieldType.boolean)).before args0 about1 = true := code_word (m := ⟨7, 2⟩) (meth := k7m2) (c := k7c2) (by decide +kernel) rfl rfl rfl (by decide +kernel)
set_option maxRecDepth 65536 in
theorem w_c15 : (Jvm.Cond.code ({ cls := "com/example/enact/enact/queue/QueueEntry", name := "command", desc := "()Ljava/lang/String;" } : Jvm.MethodName) prog_32_method_12_code (1 : Nat) (Option.some (Jvm.ClassFile.FieldType.object "java/lang/String"))).before args0 about1 = true := code_word (m := ⟨10, 4⟩) (meth := k10m4) (c := k10c4) (by decide +kernel) rfl rfl rfl (by decide +kernel)
set_option maxRecDepth 65536 in
theorem w_c16 : (Jvm.Cond.code ({ cls := "com/example/enact/enact/queue/QueueEntry", name := "input", desc := "()Ljava/lang/String;" } : Jvm.MethodName) prog_32_method_13_code (1 : Nat) (Option.some (Jvm.ClassFile.FieldType.object "java/lang/String"))).before args0 about1 = true := code_word (m := ⟨10, 5⟩) (meth := k10m5) (c := k10c5) (by decide +kernel) rfl rfl rfl (by decide +kernel)
set_option maxRecDepth 65536 in
theorem w_c17 : (Jvm.Cond.code ({ cls := "com/example/enact/enact/queue/QueueEntry", name := "status", desc := "()Lcom/example/enact/enact/queue/QueueEntry$Status;" } : Jvm.MethodName) prog_32_method_14_code (1 : Nat) (Option.some (Jvm.ClassFile.FieldType.object "com/example/enact/enact/queue/QueueEntry$Status"))).before args0 about1 = true := code_word (m := ⟨10, 6⟩) (meth := k10m6) (c := k10c6) (by decide +kernel) rfl rfl rfl (by decide +kernel)
set_option maxRecDepth 65536 in
theorem w_c18 : (Jvm.Cond.code ({ cls := "com/example/enact/enact/queue/QueueEntry", name := "attempts", desc := "()I" } : Jvm.MethodName) prog_32_method_15_code (1 : Nat) (Option.some Jvm.ClassFile.FieldType.int)).before args0 about1 = true := code_word (m := ⟨10, 7⟩) (meth := k10m7) (c := k10c7) (by decide +kernel) rfl rfl rfl (by decide +kernel)
set_option maxRecDepth 65536 in
theorem w_c19 : (Jvm.Cond.code ({ cls := "com/example/enact/enact/queue/QueueEntry", name := "firstAttempt", desc := "()Ljava/time/Instant;" } : Jvm.MethodName) prog_32_method_16_code (1 : Nat) (Option.some (Jvm.ClassFile.FieldType.object "java/time/Instant"))).before args0 about1 = true := code_word (m := ⟨10, 8⟩) (meth := k10m8) (c := k10c8) (by decide +kernel) rfl rfl rfl (by decide +kernel)
set_option maxRecDepth 65536 in
theorem w_c20 : (Jvm.Cond.code ({ cls := "com/example/enact/enact/queue/QueueEntry", name := "ended", desc := "()Ljava/time/Instant;" } : Jvm.MethodName) prog_32_method_17_code (1 : Nat) (Option.some (Jvm.ClassFile.FieldType.object "java/time/Instant"))).before args0 about1 = true := code_word (m := ⟨10, 9⟩) (meth := k10m9) (c := k10c9) (by decide +kernel) rfl rfl rfl (by decide +kernel)
set_option maxRecDepth 65536 in
theorem w_c21 : (Jvm.Cond.code ({ cls := "com/example/enact/enact/queue/QueueEntry", name := "result", desc := "()Ljava/lang/String;" } : Jvm.MethodName) prog_32_method_18_code (1 : Nat) (Option.some (Jvm.ClassFile.FieldType.object "java/lang/String"))).before args0 about1 = true := code_word (m := ⟨10, 10⟩) (meth := k10m10) (c := k10c10) (by decide +kernel) rfl rfl rfl (by decide +kernel)
set_option maxRecDepth 65536 in
theorem w_c22 : (Jvm.Cond.code ({ cls := "com/example/enact/enact/queue/QueueEntry", name := "message", desc := "()Ljava/lang/String;" } : Jvm.MethodName) prog_32_method_19_code (1 : Nat) (Option.some (Jvm.ClassFile.FieldType.object "java/lang/String"))).before args0 about1 = true := code_word (m := ⟨10, 11⟩) (meth := k10m11) (c := k10c11) (by decide +kernel) rfl rfl rfl (by decide +kernel)
set_option maxRecDepth 65536 in
theorem w_c23 : (Jvm.Cond.code ({ cls := "com/example/enact/enact/queue/QueueEntry", name := "type", desc := "()Ljava/lang/String;" } : Jvm.MethodName) prog_32_method_20_code (1 : Nat) (Option.some (Jvm.ClassFile.FieldType.object "java/lang/String"))).before args0 about1 = true := code_word (m := ⟨10, 12⟩) (meth := k10m12) (c := k10c12) (by decide +kernel) rfl rfl rfl (by decide +kernel)
def codes1 : List Jvm.Cond := [Jvm.Cond.code x code maxLocals ret, Jvm.Cond.code ({ cls := "com/example/enact/enact/queue/QueueEntryQueuedPinLaw", name := "str", desc := "(I)Ljava/lang/String;" } : Jvm.MethodName) method_2_code (2 : Nat) (Option.some (Jvm.ClassFile.FieldType.object "java/lang/String")), Jvm.Cond.code ({ cls := "java/lang/String", name := "<init>", desc := "([C)V" } : Jvm.MethodName) jdk_42_method_3_code (2 : Nat) (Option.none : Option Jvm.ClassFile.FieldType), Jvm.Cond.code ({ cls := "java/lang/String", name := "<init>", desc := "([CIILjava/lang/Void;)V" } : Jvm.MethodName) jdk_42_method_149_code (6 : Nat) (Option.none : Option Jvm.ClassFile.FieldType), Jvm.Cond.code ({ cls := "java/lang/Object", name := "<init>", desc := "()V" } : Jvm.MethodName) object_method_1_code (1 : Nat) (Option.none : Option Jvm.ClassFile.FieldType), Jvm.Cond.code ({ cls := "java/lang/StringUTF16", name := "compress", desc := "([CII)[B" } : Jvm.MethodName) jdk_52_method_16_code (6 : Nat) (Option.some (Jvm.ClassFile.FieldType.array Jvm.ClassFile.FieldType.byte)), Jvm.Cond.code ({ cls := "java/lang/StringUTF16", name := "compress", desc := "([CI[BII)I" } : Jvm.MethodName) jdk_52_method_21_code (7 : Nat) (Option.some Jvm.ClassFile.FieldType.int), Jvm.Cond.code ({ cls := "java/lang/StringUTF16", name := "coderFromArrayLen", desc := "([BI)B" } : Jvm.MethodName) jdk_52_method_15_code (2 : Nat) (Option.some Jvm.ClassFile.FieldType.byte), Jvm.Cond.code ({ cls := "com/example/enact/enact/queue/QueueEntry", name := "queued", desc := "(JLjava/lang/String;Ljava/lang/String;Ljava/lang/String;)Lcom/example/enact/enact/queue/QueueEntry;" } : Jvm.MethodName) prog_32_method_2_code (5 : Nat) (Option.some (Jvm.ClassFile.FieldType.object "com/example/enact/enact/queue/QueueEntry")), Jvm.Cond.code ({ cls := "com/example/enact/enact/queue/QueueEntry", name := "<init>", desc := "(JLjava/lang/String;Ljava/lang/String;Ljava/lang/String;Lcom/example/enact/enact/queue/QueueEntry$Status;ILjava/time/Instant;Ljava/time/Instant;Ljava/lang/String;Ljava/lang/String;Ljava/lang/String;)V" } : Jvm.MethodName) prog_32_method_1_code (13 : Nat) (Option.none : Option Jvm.ClassFile.FieldType), Jvm.Cond.code ({ cls := "java/lang/Record", name := "<init>", desc := "()V" } : Jvm.MethodName) jdk_30_method_1_code (1 : Nat) (Option.none : Option Jvm.ClassFile.FieldType), Jvm.Cond.code ({ cls := "java/util/Objects", name := "requireNonNull", desc := "(Ljava/lang/Object;Ljava/lang/String;)Ljava/lang/Object;" } : Jvm.MethodName) jdk_31_method_11_code (2 : Nat) (Option.some (Jvm.ClassFile.FieldType.object "java/lang/Object")), Jvm.Cond.code ({ cls := "com/example/enact/enact/queue/QueueEntry", name := "id", desc := "()J" } : Jvm.MethodName) prog_32_method_10_code (1 : Nat) (Option.some Jvm.ClassFile.FieldType.long), Jvm.Cond.code ({ cls := "com/example/enact/enact/queue/QueueEntry", name := "key", desc := "()Ljava/lang/String;" } : Jvm.MethodName) prog_32_method_11_code (1 : Nat) (Option.some (Jvm.ClassFile.FieldType.object "java/lang/String")), Jvm.Cond.code ({ cls := "java/lang/String", name := "equals", desc := "(Ljava/lang/Object;)Z" } : Jvm.MethodName) jdk_42_method_66_code (3 : Nat) (Option.some Jvm.ClassFile.FieldType.boolean), Jvm.Cond.code ({ cls := "com/example/enact/enact/queue/QueueEntry", name := "command", desc := "()Ljava/lang/String;" } : Jvm.MethodName) prog_32_method_12_code (1 : Nat) (Option.some (Jvm.ClassFile.FieldType.object "java/lang/String")), Jvm.Cond.code ({ cls := "com/example/enact/enact/queue/QueueEntry", name := "input", desc := "()Ljava/lang/String;" } : Jvm.MethodName) prog_32_method_13_code (1 : Nat) (Option.some (Jvm.ClassFile.FieldType.object "java/lang/String")), Jvm.Cond.code ({ cls := "com/example/enact/enact/queue/QueueEntry", name := "status", desc := "()Lcom/example/enact/enact/queue/QueueEntry$Status;" } : Jvm.MethodName) prog_32_method_14_code (1 : Nat) (Option.some (Jvm.ClassFile.FieldType.object "com/example/enact/enact/queue/QueueEntry$Status")), Jvm.Cond.code ({ cls := "com/example/enact/enact/queue/QueueEntry", name := "attempts", desc := "()I" } : Jvm.MethodName) prog_32_method_15_code (1 : Nat) (Option.some Jvm.ClassFile.FieldType.int), Jvm.Cond.code ({ cls := "com/example/enact/enact/queue/QueueEntry", name := "firstAttempt", desc := "()Ljava/time/Instant;" } : Jvm.MethodName) prog_32_method_16_code (1 : Nat) (Option.some (Jvm.ClassFile.FieldType.object "java/time/Instant")), Jvm.Cond.code ({ cls := "com/example/enact/enact/queue/QueueEntry", name := "ended", desc := "()Ljava/time/Instant;" } : Jvm.MethodName) prog_32_method_17_code (1 : Nat) (Option.some (Jvm.ClassFile.FieldType.object "java/time/Instant")), Jvm.Cond.code ({ cls := "com/example/enact/enact/queue/QueueEntry", name := "result", desc := "()Ljava/lang/String;" } : Jvm.MethodName) prog_32_method_18_code (1 : Nat) (Option.some (Jvm.ClassFile.FieldType.object "java/lang/String")), Jvm.Cond.code ({ cls := "com/example/enact/enact/queue/QueueEntry", name := "message", desc := "()Ljava/lang/String;" } : Jvm.MethodName) prog_32_method_19_code (1 : Nat) (Option.some (Jvm.ClassFile.FieldType.object "java/lang/String")), Jvm.Cond.code ({ cls := "com/example/enact/enact/queue/QueueEntry", name := "type", desc := "()Ljava/lang/String;" } : Jvm.MethodName) prog_32_method_20_code (1 : Nat) (Option.some (Jvm.ClassFile.FieldType.object "java/lang/String"))]
set_option maxRecDepth 65536 in
theorem codes_eq : words1.filter isCode = codes1 := rfl
theorem w_codes : ∀ c ∈ words1.filter isCode, c.before args0 about1 = true := by
  rw [codes_eq]
  intro c hc
  simp only [codes1, List.mem_cons, List.not_mem_nil, or_false] at hc
  rcases hc with rfl | rfl | rfl | rfl | rfl | rfl | rfl | rfl | rfl | rfl | rfl | rfl | rfl | rfl | rfl | rfl | rfl | rfl | rfl | rfl | rfl | rfl | rfl | rfl
  · exact w_c0
  · exact w_c1
  · exact w_c2
  · exact w_c3
  · exact w_c4
  · exact w_c5
  · exact w_c6
  · exact w_c7
  · exact w_c8
  · exact w_c9
  · exact w_c10
  · exact w_c11
  · exact w_c12
  · exact w_c13
  · exact w_c14
  · exact w_c15
  · exact w_c16
  · exact w_c17
  · exact w_c18
  · exact w_c19
  · exact w_c20
  · exact w_c21
  · exact w_c22
  · exact w_c23
set_option maxRecDepth 65536 in
theorem w_t1 : (words1.take 24).all (fun c => isCode c || c.before args0 about1) = true := by decide +kernel
set_option maxRecDepth 65536 in
theorem w_t2 : ((words1.drop 24).take 24).all (fun c => isCode c || c.before args0 about1) = true := by decide +kernel
set_option maxRecDepth 65536 in
theorem w_t3 : (((words1.drop 24).drop 24).take 24).all (fun c => isCode c || c.before args0 about1) = true := by decide +kernel
set_option maxRecDepth 65536 in
theorem w_t4 : ((((words1.drop 24).drop 24).drop 24).take 24).all (fun c => isCode c || c.before args0 about1) = true := by decide +kernel
set_option maxRecDepth 65536 in
theorem w_t5 : (((((words1.drop 24).drop 24).drop 24).drop 24).take 24).all (fun c => isCode c || c.before args0 about1) = true := by decide +kernel
set_option maxRecDepth 65536 in
theorem w_t6 : ((((((words1.drop 24).drop 24).drop 24).drop 24).drop 24).take 24).all (fun c => isCode c || c.before args0 about1) = true := by decide +kernel
set_option maxRecDepth 65536 in
theorem w_t7 : ((((((words1.drop 24).drop 24).drop 24).drop 24).drop 24).drop 24).all (fun c => isCode c || c.before args0 about1) = true := by decide +kernel
theorem w_tables : (allAtoms (Jvm.Cond.code x code maxLocals ret :: tables_1)).before args0 about1 = true := by
  rw [allAtoms_all]
  show words1.all (fun c => c.before args0 about1) = true
  refine all_split ?_ w_codes
  rw [← List.take_append_drop 24 words1, List.all_append, w_t1, ← List.take_append_drop 24 (words1.drop 24), List.all_append, w_t2, ← List.take_append_drop 24 ((words1.drop 24).drop 24), List.all_append, w_t3, ← List.take_append_drop 24 (((words1.drop 24).drop 24).drop 24), List.all_append, w_t4, ← List.take_append_drop 24 ((((words1.drop 24).drop 24).drop 24).drop 24), List.all_append, w_t5, ← List.take_append_drop 24 (((((words1.drop 24).drop 24).drop 24).drop 24).drop 24), List.all_append, w_t6, w_t7]
  rfl
set_option maxRecDepth 65536 in
theorem w_rest : rest_1_c.before args0 about1 = true := by decide +kernel
set_option maxRecDepth 65536 in
theorem w_case : (Jvm.Cond.and given_1 narrow_1).before args0 about1 = true := by decide +kernel
theorem w_applies : (headSpec (Jvm.Cond.code x code maxLocals ret :: tables_1) room_1).applies x e0.platform about1 = true :=
  (Spec.applies_iff w_frames).mpr ⟨w_running, w_runnable, w_alone, w_named, w_hears, w_ripe, w_room, w_tables⟩
theorem atStart : AtStart classFile x code maxLocals ret World_1 tables_1 room_1 Calls_1 rest_1 Pre_1 launch0 p0 e0 about1 theMethod args0 below0 :=
  ⟨lists_1, trivial, launch0.admits_env _ _ _, launch0.least_env, fairChoices_fair.cas, fairChoices_fair.clock, w_frames, w_args, w_heap, w_applies, trivial, w_rest, w_case⟩
end start1
theorem witness_1 : WitnessClaimed_1 := ⟨start1.p0, start1.e0, start1.about1, start1.theMethod, start1.args0, start1.below0, start1.atStart⟩
end Jvm.Pilot.@@N@@
